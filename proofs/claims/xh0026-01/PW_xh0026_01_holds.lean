import PyProof.Rows.All
import Wide.All
import OpenK.AllK
import Wide.FinOn
import PyProof.GenQ
import PyProof.ZipIter
import PyProof.TupleIter
import PyProof.Draws
import PyProof.TupleOfGen
import PyProof.GenCompT
import PyProof.Rows.RuleN_isinstance
import PyProof.IsInstance
import KE.KTupTruth
import PyProof.DictTable
import KE.KEqDict
import KE.KDictList
import PyProof.ListRange
import PyProof.SumWalk
import KE.KSortTup
import PyProof.Rows.SortWalk
import PyProof.Rows.SortStr
import OpenK.KRaise
import PyProof.ExcStrCall
import PyProof.ExcStrAll.ValueError
import Lean
import PySem.Challenge.RW_xh0026_01
open PySem PySem.Calls PyProof.Rows PySem.W
set_option Elab.async false
set_option tactic.hygienic false
set_option linter.all false
set_option maxRecDepth 100000
set_option genSizeOf false
set_option pp.deepTerms false
set_option pp.maxSteps 600
set_option maxHeartbeats 8000000
namespace Mine
local macro_rules | `(tactic| omega)=>`(tactic| lia)
section
inductive D where
 | none
 | bool (b:Bool)
 | int (i:Int)
 | str (s:Str)
 | tup (ds:List D)
 | lst (ds:List D)
 | dct (es:List (Str × D))
 | dci (es:List (Int × D))
 | val (v:Value)
 | fn (fd:FuncData) (cs:List Addr) (ds:List D)
abbrev FS:=Addr -> Option Obj
noncomputable def FS.le (F F':FS):Prop:=∀ a o,F a = some o -> F' a = some o
structure Cx where
 prog:Program
 w:World
 K:Frag
 tabs:List (Addr × Addr)
 mg:Str -> Option Value
 mb:Str -> Option Value
 h0:Heap
 qn:Addr -> Str
abbrev Cx.M (X:Cx):Model:=model X.prog X.w
abbrev Cx.T (X:Cx):List Addr:=X.tabs.map (·.2)
inductive CodeIn (F:FS) (q:Str) (v:Value):Prop
 | mk (c:Addr) (oc:Obj) (vs:Array Value) (t:Tok) (e:v = .ref c) (h:F c = some oc) (d:oc.data = .fields vs) (n:vs[1]? = some (.str q t))
theorem CodeIn.to {F F':FS} {q:Str} {v:Value} (h:CodeIn F q v) (le:∀ a o,F a = some o -> F' a = some o):CodeIn F' q v:=by
 obtain ⟨c,oc,vs,t,e,h,d,n⟩:=h; exact ⟨c,oc,vs,t,e,le _ _ h,d,n⟩
mutual
inductive Rd (X:Cx) (F:FS):Value -> D -> Prop
 | none:Rd X F .none .none
 | bool (b:Bool):Rd X F (.bool b) (.bool b)
 | int (i:Int) (t:Tok):Rd X F (.int i t) (.int i)
 | str (x:Str) (t:Tok):Rd X F (.str x t) (.str x)
 | tup {a:Addr} {o:Obj} {vs:List Value} {n:Nat} {ds:List D}:F a = some o -> o.cls = .type "tuple" -> o.data = .seq vs.toArray n -> RdL X F vs ds -> Rd X F (.ref a) (.tup ds)
 | lst {a:Addr} {vs:List Value} {n:Nat} {ds:List D}:F a = some { cls:=.type "list",data:=.seq vs.toArray n } -> RdL X F vs ds -> Rd X F (.ref a) (.lst ds)
 | dct {a:Addr} {o:Obj} {kvs:List (Str × Value)} {es:List (Str × D)}:F a = some o -> o.IsDictOf (strKind X.prog X.w) kvs -> a ≠ sysModules -> kvs.map (·.1) = es.map (·.1) -> RdL X F (kvs.map (·.2)) (es.map (·.2)) -> Rd X F (.ref a) (.dct es)
 | dci {a:Addr} {o:Obj} {kvs:List (Int × Value)} {es:List (Int × D)}:F a = some o -> o.IsDictOf (intKind X.prog X.w) kvs -> a ≠ sysModules -> kvs.map (·.1) = es.map (·.1) -> RdL X F (kvs.map (·.2)) (es.map (·.2)) -> Rd X F (.ref a) (.dci es)
 | val (v:Value):Rd X F v (.val v)
 | fn {a:Addr} {o:Obj} {fd:FuncData} {cs:List (Addr × Value)} {ds:List D}:F a = some o -> o.data = .func fd -> CodeIn F fd.qualname fd.code -> (∀ p ∈ cs,p.1 ∉ X.T /\ X.h0.get? p.1 = none /\ ∃ oc,F p.1 = some oc /\ oc.data = .cell (some p.2)) -> RdL X F (cs.map (·.2)) ds -> Rd X F (.ref a) (.fn fd (cs.map (·.1)) ds)
inductive RdL (X:Cx) (F:FS):List Value -> List D -> Prop
 | nil:RdL X F [] []
 | cons {v:Value} {vs:List Value} {d:D} {ds:List D}:Rd X F v d -> RdL X F vs ds -> RdL X F (v :: vs) (d :: ds)
end
variable {X:Cx} {F F':FS}
theorem oclash {α:Type} {x:Option α} {y:α} {P:Prop} (h1:x = none) (h2:x = some y):P:=nomatch h1.symm.trans h2
theorem Rd.mono (h:F.le F') {v:Value} {d:D} (r:Rd X F v d):Rd X F' v d:=
 Rd.rec (motive_1:=fun v d zz=>Rd X F' v d) (motive_2:=fun vs ds zz=>RdL X F' vs ds) .none .bool .int .str (fun a b c zz r=>.tup (h _ _ a) b c r) (fun a zz r=>.lst (h _ _ a) r) (fun a b c e zz r=>.dct (h _ _ a) b c e r) (fun a b c e zz r=>.dci (h _ _ a) b c e r) .val
  (fun a b k c zz r=>.fn (h _ _ a) b (k.to h) (fun p hp=>⟨(c p hp).1,(c p hp).2.1,(c p hp).2.2.elim fun oc e=>⟨oc,h _ _ e.1,e.2⟩⟩) r) .nil (fun zz zz a b=>.cons a b) r
theorem RdL.ind {M:List Value -> List D -> Prop} (h0:M [] []) (h1:∀ {v vs d ds},Rd X F v d -> RdL X F vs ds -> M vs ds -> M (v :: vs) (d :: ds)) {vs:List Value} {ds:List D} (r:RdL X F vs ds):M vs ds:=
 RdL.rec (motive_1:=fun zz zz zz=>True) (motive_2:=fun vs ds zz=>M vs ds) trivial (fun zz=>trivial) (fun zz zz=>trivial) (fun zz zz=>trivial) (fun zz zz zz zz zz=>trivial) (fun zz zz zz=>trivial) (fun zz zz zz zz zz zz=>trivial) (fun zz zz zz zz zz zz=>trivial) (fun zz=>trivial) (fun zz zz zz zz zz zz=>trivial) h0 (fun a r zz ih=>h1 a r ih) r
theorem RdL.mono (h:F.le F') {vs:List Value} {ds:List D} (r:RdL X F vs ds):RdL X F' vs ds:=r.ind .nil fun a zz ih=>.cons (a.mono h) ih
theorem RdL.length {vs:List Value} {ds:List D} (r:RdL X F vs ds):vs.length = ds.length:=r.ind (M:=fun vs ds=>vs.length = ds.length) rfl fun zz zz ih=>congrArg Nat.succ ih
theorem RdL.append {vs ws:List Value} {ds es:List D} (r:RdL X F vs ds) (r':RdL X F ws es):RdL X F (vs ++ ws) (ds ++ es):=r.ind (M:=fun vs ds=>RdL X F (vs ++ ws) (ds ++ es)) r' fun a zz ih=>.cons a ih
theorem RdL.one {v:Value} {d:D} (h:Rd X F v d):RdL X F [v] [d]:=.cons h .nil
theorem RdL.nil_inv {vs:List Value} (r:RdL X F vs []):vs = []:=List.eq_nil_of_length_eq_zero r.length
@[elab_as_elim] theorem RdL.cons_elim {vs:List Value} {d:D} {ds:List D} (r:RdL X F vs (d :: ds)) {M:List Value -> Prop} (k:∀ v ws,Rd X F v d -> RdL X F ws ds -> M (v :: ws)):M vs:=by cases r with | cons a b=>exact k _ _ a b
@[elab_as_elim] theorem RdL.nil_elim {vs:List Value} (r:RdL X F vs []) {M:List Value -> Prop} (k:M []):M vs:=r.nil_inv ▸ k
@[elab_as_elim] theorem RdL.one_elim {vs:List Value} {d:D} (r:RdL X F vs [d]) {M:List Value -> Prop} (k:∀ v,Rd X F v d -> M [v]):M vs:=r.cons_elim fun v ws a b=>b.nil_elim (M:=fun ws=>M (v :: ws)) (k v a)
@[elab_as_elim] theorem RdL.two_elim {vs:List Value} {d e:D} (r:RdL X F vs [d,e]) {M:List Value -> Prop} (k:∀ v w,Rd X F v d -> Rd X F w e -> M [v,w]):M vs:=r.cons_elim fun v ws a b=>b.one_elim (M:=fun ws=>M (v :: ws)) fun w c=>k v w a c
theorem RdL.uncons {v:Value} {vs:List Value} {d:D} {ds:List D} (r:RdL X F (v :: vs) (d :: ds)):Rd X F v d /\ RdL X F vs ds:=by cases r with | cons a b=>exact ⟨a,b⟩
theorem RdL.get {vs:List Value} {ds:List D} (r:RdL X F vs ds):∀ {i:Nat} {d:D},ds[i]? = some d -> ∃ v,vs[i]? = some v /\ Rd X F v d:=
 r.ind (M:=fun vs ds=>∀ {i:Nat} {d:D},ds[i]? = some d -> ∃ v,vs[i]? = some v /\ Rd X F v d) (fun e=>nomatch e) fun {v _ d _} a zz ih {i e} h=>Nat.rec (motive:=fun i=>(d :: _)[i]? = some e -> ∃ u,(v :: _)[i]? = some u /\ Rd X F u e) (fun h=>⟨v,rfl,Option.some.inj h ▸ a⟩) (fun zz zz h=>ih h) i h
theorem RdL.at {vs:List Value} {ds:List D} (r:RdL X F vs ds):∀ {i:Nat} {v:Value},vs[i]? = some v -> ∃ d,ds[i]? = some d /\ Rd X F v d:=
 r.ind (M:=fun vs ds=>∀ {i:Nat} {v:Value},vs[i]? = some v -> ∃ d,ds[i]? = some d /\ Rd X F v d) (fun e=>nomatch e) fun {_ _ d _} a zz ih {i u} h=>Nat.rec (motive:=fun i=>(_ :: _)[i]? = some u -> ∃ e,(d :: _)[i]? = some e /\ Rd X F u e) (fun h=>⟨d,rfl,Option.some.inj h ▸ a⟩) (fun zz zz h=>ih h) i h
theorem RdL.take {vs:List Value} {ds:List D} (r:RdL X F vs ds):∀ n,RdL X F (vs.take n) (ds.take n):=
 r.ind (M:=fun vs ds=>∀ n,RdL X F (vs.take n) (ds.take n)) (fun n=>by rw [List.take_nil,List.take_nil]; exact .nil) fun a zz ih n=>Nat.rec (motive:=fun n=>RdL X F (List.take n (_ :: _)) (List.take n (_ :: _))) .nil (fun n zz=>.cons a (ih n)) n
theorem RdL.drop {vs:List Value} {ds:List D} (r:RdL X F vs ds):∀ n,RdL X F (vs.drop n) (ds.drop n):=
 r.ind (M:=fun vs ds=>∀ n,RdL X F (vs.drop n) (ds.drop n)) (fun n=>by rw [List.drop_nil,List.drop_nil]; exact .nil) fun a r ih n=>Nat.rec (motive:=fun n=>RdL X F (List.drop n (_ :: _)) (List.drop n (_ :: _))) (.cons a r) (fun n zz=>ih n) n
theorem RdL.reverse {vs:List Value} {ds:List D} (r:RdL X F vs ds):RdL X F vs.reverse ds.reverse:=
 r.ind (M:=fun vs ds=>RdL X F vs.reverse ds.reverse) .nil fun a zz ih=>by rw [List.reverse_cons,List.reverse_cons]; exact ih.append (.one a)
inductive TupF (X:Cx) (F:FS) (a:Addr) (ds:List D):Prop
 | mk (o:Obj) (vs:List Value) (n:Nat) (e:F a = some o) (c:o.cls = .type "tuple") (d:o.data = .seq (List.toArray vs) n) (r:RdL X F vs ds)
inductive LstF (X:Cx) (F:FS) (a:Addr) (ds:List D):Prop
 | mk (vs:List Value) (n:Nat) (e:F a = some { cls:=.type "list",data:=.seq (List.toArray vs) n }) (r:RdL X F vs ds)
inductive DctAt (X:Cx) {K:Type} [DecidableEq K] (kd:KeyKind X.prog X.w K) (F G:FS) (a:Addr) (es:List (K × D)):Prop
 | mk (h0:a ≠ sysModules) (o:Obj) (kvs:List (K × Value)) (e:G a = some o) (d:o.IsDictOf kd kvs) (k:kvs.map (·.1) = es.map (·.1)) (r:RdL X F (kvs.map (·.2)) (es.map (·.2)))
inductive FnF (X:Cx) (F:FS) (a:Addr) (fd:FuncData) (cl:List Addr) (ds:List D):Prop
 | mk (o:Obj) (cs:List (Addr × Value)) (q:cl = List.map Prod.fst cs) (e:F a = some o) (d:o.data = .func fd) (k:CodeIn F fd.qualname fd.code)
  (cc:∀ p ∈ cs,p.1 ∉ X.T /\ X.h0.get? p.1 = none /\ ∃ oc,F p.1 = some oc /\ oc.data = .cell (some p.2)) (r:RdL X F (List.map Prod.snd cs) ds)
noncomputable def RdV (X:Cx) (F:FS) (v:Value):D -> Prop
 | .none=>v = .none
 | .bool b=>v = .bool b
 | .int i=>∃ t,v = .int i t
 | .str x=>∃ t,v = .str x t
 | .tup ds=>∃ a,v = .ref a /\ TupF X F a ds
 | .lst ds=>∃ a,v = .ref a /\ LstF X F a ds
 | .dct es=>∃ a,v = .ref a /\ DctAt X (strKind X.prog X.w) F F a es
 | .dci es=>∃ a,v = .ref a /\ DctAt X (intKind X.prog X.w) F F a es
 | .val w=>v = w
 | .fn fd cl ds=>∃ a,v = .ref a /\ FnF X F a fd cl ds
theorem Rd.inv {v:Value} {d:D} (r:Rd X F v d):RdV X F v d:=
 Rd.rec (motive_1:=fun v d zz=>RdV X F v d) (motive_2:=fun zz zz zz=>True) rfl (fun zz=>rfl) (fun zz t=>⟨t,rfl⟩) (fun zz t=>⟨t,rfl⟩) (fun a b c d zz=>⟨_,rfl,_,_,_,a,b,c,d⟩) (fun a b zz=>⟨_,rfl,_,_,a,b⟩) (fun a b c d e zz=>⟨_,rfl,c,_,_,a,b,d,e⟩) (fun a b c d e zz=>⟨_,rfl,c,_,_,a,b,d,e⟩) (fun zz=>rfl) (fun a b c d e zz=>⟨_,rfl,_,_,rfl,a,b,c,d,e⟩) trivial (fun zz zz zz zz=>trivial) r
structure CxOk (X:Cx):Prop where
 k:X.K.In X.h0
 g:X.h0.Ns mainGlobals X.mg
 b:X.h0.Ns builtinsNs X.mb
 nolimit:X.h0.NoLimit
 hb:∀ x:Str,x ≠ "__name__" -> X.mb x = bootBuiltins x
 bm:∃ bm ob,X.mg "__builtins__" = some (.ref bm) /\ bm ≠ builtinsNs /\ X.h0.get? bm = some ob /\ ob.cls = .type "module" /\ ob.dict = some builtinsNs /\ ob.data = .plain
 kT:∀ P ∈ X.T,X.K.lookup P = none
 tab:∀ q ∈ X.tabs,CodeHd X.h0 q.1 q.2 /\ X.h0.get? q.2 = some (tabObj #[])
structure Gl (X:Cx) (F:FS) (h:Heap):Prop where
 ok:CxOk X
 base:∀ b o,b ∉ X.T -> X.h0.get? b = some o -> h.get? b = some o
 tabs_ok:∀ P ∈ X.T,∃ ps,h.get? P = some (tabObj ps) /\ TriplesOk ps.toList
 codes:∀ P ∈ X.T,∀ ps,h.get? P = some (tabObj ps) -> ∀ pos v,codeAmong pos ps.toList = some v -> CodeIn F (X.qn P) v
theorem CxOk.tabT {X:Cx} (k:CxOk X):∀ P ∈ X.T,X.h0.get? P = some (tabObj #[]):=fun P hP=>by
 obtain ⟨q,hq,rfl⟩:=List.mem_map.mp hP
 exact (k.tab q hq).2
theorem CxOk.notT {X:Cx} (k:CxOk X) {a:Addr} {o:Obj} (e:X.h0.get? a = some o) (h:¬∃ ps,o.data = .fields ps /\ o.cls = .none):a ∉ X.T:=fun hP=>by
 have:=k.tabT a hP
 rw [e] at this; cases this
 exact h ⟨_,rfl,rfl⟩
theorem CxOk.nsT {X:Cx} (k:CxOk X) {a:Addr} {m:Str -> Option Value} (n:X.h0.Ns a m):a ∉ X.T:=by
 obtain ⟨o,es,ep,e,hd,_⟩:=n
 exact k.notT e (fun ⟨ps,h,_⟩=>by rw [hd] at h; cases h)
theorem Gl.ns {X:Cx} {F:FS} {h:Heap} (g:Gl X F h) {a:Addr} {m:Str -> Option Value} (n:X.h0.Ns a m):h.Ns a m:=n.at' fun o e=>g.base _ o (g.ok.nsT n) e
theorem Gl.k {X:Cx} {F:FS} {h:Heap} (g:Gl X F h):X.K.In h:=fun a o e=>g.base a o (fun hP=>by rw [g.ok.kT a hP] at e; cases e) (g.ok.k a o e)
theorem Gl.g {X:Cx} {F:FS} {h:Heap} (g:Gl X F h):h.Ns mainGlobals X.mg:=g.ns g.ok.g
theorem Gl.b {X:Cx} {F:FS} {h:Heap} (g:Gl X F h):h.Ns builtinsNs X.mb:=g.ns g.ok.b
theorem Gl.nolimit {X:Cx} {F:FS} {h:Heap} (g:Gl X F h):h.NoLimit:=let ⟨mc,n,e⟩:=g.ok.nolimit; ⟨mc,g.ns n,e⟩
theorem Gl.bm {X:Cx} {F:FS} {h:Heap} (g:Gl X F h):∃ bm ob,X.mg "__builtins__" = some (.ref bm) /\ bm ≠ builtinsNs /\ h.get? bm = some ob /\ ob.cls = .type "module" /\ ob.dict = some builtinsNs /\ ob.data = .plain:=
 let ⟨bm,ob,h1,h2,h3,h4,h5⟩:=g.ok.bm
 ⟨bm,ob,h1,h2,g.base _ _ (g.ok.notT h3 (fun ⟨ps,e,_⟩=>by rw [h5.2] at e; cases e)) h3,h4,h5⟩
theorem Gl.tabs_there {X:Cx} {F:FS} {h:Heap} (g:Gl X F h):∀ P ∈ X.T,∃ o,h.get? P = some o:=fun P hP=>let ⟨ps,e,_⟩:=g.tabs_ok P hP; ⟨_,e⟩
theorem Gl.but {X:Cx} {F:FS} {h h':Heap} {M:Addr -> Prop} (g:Gl X F h) (hM:∀ a,M a -> X.h0.get? a = none /\ a ∉ X.T) (hk:∀ b o,¬M b -> h.get? b = some o -> h'.get? b = some o):Gl X F h' where
 ok:=g.ok
 base:=fun b o hb e=>hk b o (fun m=>by rw [(hM b m).1] at e; cases e) (g.base b o hb e)
 tabs_ok:=fun P hP=>let ⟨ps,e,t⟩:=g.tabs_ok P hP; ⟨ps,hk _ _ (fun m=>(hM P m).2 hP) e,t⟩
 codes:=fun P hP ps e=>by
  obtain ⟨pps0,ee0,_⟩:=g.tabs_ok P hP
  have ee1:=hk _ _ (fun m=>(hM P m).2 hP) ee0
  rw [e] at ee1
  exact g.codes P hP ps (by rw [ee0,<- ee1])
theorem Gl.keeps {X:Cx} {F:FS} {h h':Heap} (g:Gl X F h) (hk:∀ b o,h.get? b = some o -> h'.get? b = some o):Gl X F h':=g.but (M:=fun zz=>False) (fun zz m=>m.elim) fun b o zz e=>hk b o e
theorem Gl.mono {X:Cx} {F F':FS} {h:Heap} (g:Gl X F h) (hle:F.le F'):Gl X F' h:=
 ⟨g.ok,g.base,g.tabs_ok,fun P hP ps e pos v hv=>(g.codes P hP ps e pos v hv).to hle⟩
theorem Gl.low {X:Cx} {F:FS} {h:Heap} (g:Gl X F h):sysModules < h.objs.size:=Nat.lt_trans (by decide) (Heap.Ns.lt g.g)
inductive OC where
 | lst (ds:List D)
 | dct (es:List (Str × D))
 | dci (es:List (Int × D))
inductive LstO (X:Cx) (F:FS) (h:Heap) (a:Addr) (ds:List D):Prop
 | mk (vs:Array Value) (e:h.PlainList a vs) (r:RdL X F vs.toList ds)
noncomputable def OwnAt (X:Cx) (F:FS) (h:Heap) (a:Addr):OC -> Prop
 | .lst ds=>LstO X F h a ds
 | .dct es=>DctAt X (strKind X.prog X.w) F h.get? a es
 | .dci es=>DctAt X (intKind X.prog X.w) F h.get? a es
theorem DctAt.to {K:Type} [DecidableEq K] {kd:KeyKind X.prog X.w K} {F F' G G':FS} {a:Addr} {es:List (K × D)} (x:DctAt X kd F G a es) (hF:F.le F') (hk:∀ o,G a = some o -> G' a = some o):DctAt X kd F' G' a es:=
 let ⟨h0,o,kvs,e,d,k,r⟩:=x; ⟨h0,o,kvs,hk _ e,d,k,r.mono hF⟩
theorem DctAt.ex {K:Type} [DecidableEq K] {kd:KeyKind X.prog X.w K} {F G:FS} {a:Addr} {es:List (K × D)} (x:DctAt X kd F G a es):∃ o,G a = some o:=let ⟨_,o,_,e,_,_,_⟩:=x; ⟨o,e⟩
theorem OwnAt.keep {h h':Heap} {a:Addr} {c:OC} (x:OwnAt X F h a c) (hF:F.le F') (hk:∀ o,h.get? a = some o -> h'.get? a = some o):OwnAt X F' h' a c:=
 OC.casesOn (motive:=fun c=>OwnAt X F h a c -> OwnAt X F' h' a c) c (fun ds x=>let ⟨vs,e,r⟩:=x; ⟨vs,e.at fun o e=>hk o e,r.mono hF⟩) (fun es x=>DctAt.to x hF hk) (fun es x=>DctAt.to x hF hk) x
theorem OwnAt.some {h:Heap} {a:Addr} {c:OC} (x:OwnAt X F h a c):∃ o,h.get? a = some o:=
 OC.casesOn (motive:=fun c=>OwnAt X F h a c -> ∃ o,h.get? a = .some o) c (fun ds x=>let ⟨vs,⟨n,e⟩,r⟩:=x; ⟨_,e⟩) (fun es x=>DctAt.ex x) (fun es x=>DctAt.ex x) x
abbrev Loc:=List (Str × D)
abbrev Own:=List (Addr × OC)
noncomputable def upd (Γ:Loc) (x:Str) (d:D):Loc:=match Γ with
 | []=>[(x,d)]
 | (y,e) :: r=>if y == x then (y,d) :: r else (y,e) :: upd r x d
theorem upd_lookup (x:Str) (d:D) (z:Str):∀ Γ:Loc,(upd Γ x d).lookup z = if z = x then some d else Γ.lookup z
 | []=>by
  simp only [upd,List.lookup_cons,List.lookup_nil]
  by_cases h:z = x
  ·simp [h]
  ·have:(z == x) = false:=by simpa using h
   simp [h,this]
 | (y,e) :: r=>by
  unfold upd
  by_cases hy:y = x
  ·subst hy
   simp only [beq_self_eq_true,if_true,List.lookup_cons]
   by_cases hz:z = y
   ·simp [hz]
   ·have:(z == y) = false:=by simpa using hz
    simp [this,hz]
  ·have hy':(y == x) = false:=by simpa using hy
   simp only [hy',Bool.false_eq_true,if_false,List.lookup_cons,upd_lookup x d z r]
   by_cases hz:z = y
   ·subst hz; simp [hy]
   ·have:(z == y) = false:=by simpa using hz
    simp only [this]
theorem lookup_cases {β:Type} {x z:Str} {b c:β} {l:List (Str × β)} (h:((x,b) :: l).lookup z = some c):(z = x /\ c = b) \/ (z ≠ x /\ l.lookup z = some c):=by
 rw [List.lookup_cons] at h
 by_cases e:z = x
 ·rw [beq_iff_eq.mpr e] at h; exact .inl ⟨e,(Option.some.inj h).symm⟩
 ·rw [beq_eq_false_iff_ne.mpr e] at h; exact .inr ⟨e,h⟩
noncomputable def oset (Ω:Own) (a:Addr) (c:OC):Own:=match Ω with
 | []=>[]
 | (b,e) :: r=>if b = a then (b,c) :: r else (b,e) :: oset r a c
theorem oset_fst (a:Addr) (c:OC):∀ Ω:Own,(oset Ω a c).map (·.1) = Ω.map (·.1)
 | []=>rfl
 | (b,e) :: r=>by unfold oset; split <;> simp [oset_fst a c r]
set_option tactic.hygienic true in
theorem mem_oset {a:Addr} {c:OC}:∀ {Ω:Own},(Ω.map (·.1)).Nodup -> ∀ {p:Addr × OC},p ∈ oset Ω a c -> p = (a,c) \/ (p ∈ Ω /\ p.1 ≠ a)
 | [],_,p,h=>by cases h
 | (b,e) :: r,hn,p,h=>by
  unfold oset at h
  rw [List.map_cons,List.nodup_cons] at hn
  split at h
  ·rename_i hb
   rcases List.mem_cons.mp h with rfl | h
   ·left; rw [hb]
   ·right
    refine ⟨List.mem_cons_of_mem _ h,fun q=>hn.1 ?_⟩
    rw [hb,<- q]; exact List.mem_map_of_mem (f:=(·.1)) h
  ·rename_i hb
   rcases List.mem_cons.mp h with rfl | h
   ·right; exact ⟨List.mem_cons_self ..,hb⟩
   ·rcases mem_oset hn.2 h with h | ⟨h1,h2⟩
    ·exact .inl h
    ·exact .inr ⟨List.mem_cons_of_mem _ h1,h2⟩
structure EnvOk (env:Env):Prop where
 kind:env.scope.kind = .function
 gl:env.globals = mainGlobals
 bi:env.builtins = builtinsNs
structure Inv (X:Cx) (env:Env) (F:FS) (Γ:Loc) (Ω:Own) (s:Shared):Prop where
 eo:EnvOk env
 glob:Gl X F s.heap
 fb:∀ b o,b ∉ X.T -> X.h0.get? b = some o -> F b = some o
 fz:∀ a o,F a = some o -> s.heap.get? a = some o
 ns:∃ m,s.heap.Ns env.locals m /\ ∀ x d,Γ.lookup x = some d -> env.kindOf x = some .local -> ∃ v,m x = some v /\ Rd X F v d
 cl:∀ x d,Γ.lookup x = some d -> env.kindOf x ≠ some .local -> ∃ c v,env.cells.lookup x = some c /\ s.heap.IsCell c (some v) /\ Rd X F v d
 cells:∀ n c,(n,c) ∈ env.cells -> (∃ v,s.heap.IsCell c v) /\ F c = none /\ c ≠ env.locals /\ c ∉ Ω.map (·.1) /\ c ∉ X.T
 apart:env.cells.Pairwise fun x y=>x.2 ≠ y.2
 loc:F env.locals = none /\ env.locals ∉ Ω.map (·.1) /\ env.locals ∉ X.T
 own:∀ p ∈ Ω,OwnAt X F s.heap p.1 p.2 /\ F p.1 = none /\ p.1 ∉ X.T
 nd:(Ω.map (·.1)).Nodup
 tF:∀ P ∈ X.T,F P = none
noncomputable def GensLe (a b:Array GenState):Prop:=(∀ (i:Nat) x,a[i]? = some x -> b[i]? = some x) /\ (AllBare a -> AllBare b)
theorem GensLe.refl (a:Array GenState):GensLe a a:=⟨fun zz zz e=>e,fun h=>h⟩
theorem GensLe.trans {a b c:Array GenState} (x:GensLe a b) (y:GensLe b c):GensLe a c:=⟨fun i z e=>y.1 i z (x.1 i z e),fun h=>y.2 (x.2 h)⟩
structure Ext (X:Cx) (F F':FS) (s s':Shared):Prop where
 le:F.le F'
 fz:∀ a o,F' a = some o -> s'.heap.get? a = some o
 new:∀ a,F' a = F a \/ s.heap.get? a = none
 keep:∀ b o,b ∉ X.T -> s.heap.get? b = some o -> s'.heap.get? b = some o
 glob:Gl X F' s'.heap
 os:s'.os = s.os
 gens:GensLe s.gens s'.gens
theorem Ext.trans {F F1 F2:FS} {s ss1 ss2:Shared} (x:Ext X F F1 s ss1) (y:Ext X F1 F2 ss1 ss2) (hT:∀ P ∈ X.T,∃ o,s.heap.get? P = some o):Ext X F F2 s ss2 where
 le:=fun a o e=>y.le a o (x.le a o e)
 fz:=y.fz
 new:=fun a=>by
  rcases y.new a with e | e
  ·rw [e]; exact x.new a
  ·right
   cases h:s.heap.get? a with
   | none=>rfl
   | some o=>
    by_cases ha:a ∈ X.T
    ·exfalso
     obtain ⟨o',ho'⟩:=x.glob.tabs_there a ha
     rw [ho'] at e; cases e
    ·rw [x.keep a o ha h] at e; cases e
 keep:=fun b o hb e=>y.keep b o hb (x.keep b o hb e)
 glob:=y.glob
 os:=y.os.trans x.os
 gens:=x.gens.trans y.gens
theorem Inv.ext {env:Env} {Γ:Loc} {Ω:Own} {F F':FS} {s s':Shared} (I:Inv X env F Γ Ω s) (x:Ext X F F' s s'):Inv X env F' Γ Ω s' where
 eo:=I.eo
 glob:=x.glob
 fb:=fun b o hb e=>x.le b o (I.fb b o hb e)
 fz:=x.fz
 ns:=by
  obtain ⟨m,hn,hm⟩:=I.ns
  refine ⟨m,hn.at' fun o e=>x.keep _ o I.loc.2.2 e,fun y d h1 h2=>?_⟩
  obtain ⟨v,hv,r⟩:=hm y d h1 h2
  exact ⟨v,hv,r.mono x.le⟩
 cl:=fun y d h1 h2=>by
  obtain ⟨c,v,hc,⟨o,ho,hd⟩,r⟩:=I.cl y d h1 h2
  exact ⟨c,v,hc,⟨o,x.keep _ _ (I.cells y c (mem_of_lookup hc)).2.2.2.2 ho,hd⟩,r.mono x.le⟩
 cells:=fun n c hm=>by
  obtain ⟨⟨v,o,ho,hd⟩,h1,h2,h3,h4⟩:=I.cells n c hm
  refine ⟨⟨v,o,x.keep _ _ h4 ho,hd⟩,?_,h2,h3,h4⟩
  rcases x.new c with e | e
  ·rw [e]; exact h1
  ·rw [ho] at e; cases e
 apart:=I.apart
 loc:=by
  obtain ⟨m,hn,hm⟩:=I.ns
  refine ⟨?_,I.loc.2⟩
  rcases x.new env.locals with e | e
  ·rw [e]; exact I.loc.1
  ·obtain ⟨_,_,_,ho,_⟩:=hn; rw [ho] at e; cases e
 own:=fun p hp=>by
  obtain ⟨h1,h2,h3⟩:=I.own p hp
  refine ⟨h1.keep x.le fun o e=>x.keep _ o h3 e,?_,h3⟩
  rcases x.new p.1 with e | e
  ·rw [e]; exact h2
  ·obtain ⟨o,ho⟩:=h1.some; rw [ho] at e; cases e
 nd:=I.nd
 tF:=fun P hP=>by
  rcases x.new P with e | e
  ·rw [e]; exact I.tF P hP
  ·obtain ⟨o,ho⟩:=I.glob.tabs_there P hP; rw [ho] at e; cases e
theorem Ext.same {F:FS} {s s':Shared} (hg:Gl X F s.heap) (hf:∀ a o,F a = some o -> s.heap.get? a = some o) (hk:∀ b o,s.heap.get? b = some o -> s'.heap.get? b = some o) (ho:s'.os = s.os) (hn:GensLe s.gens s'.gens):Ext X F F s s' where
 le:=fun zz zz e=>e
 fz:=fun a o e=>hk a o (hf a o e)
 new:=fun zz=>.inl rfl
 keep:=fun b o zz e=>hk b o e
 glob:=hg.keeps hk
 os:=ho
 gens:=hn
theorem Inv.stay {env:Env} {Γ:Loc} {Ω:Own} {F:FS} {s s':Shared} (I:Inv X env F Γ Ω s) (hk:∀ b o,s.heap.get? b = some o -> s'.heap.get? b = some o) (ho:s'.os = s.os:=by rfl) (hn:s'.gens = s.gens:=by rfl):Ext X F F s s':=
 .same I.glob I.fz hk ho (hn ▸ .refl _)
noncomputable def FS.put (F:FS) (a:Addr) (o:Obj):FS:=fun b=>if b = a then some o else F b
theorem FS.put_self (F:FS) (a:Addr) (o:Obj):F.put a o a = some o:=by simp [FS.put]
theorem Inv.frozen {env:Env} {Γ:Loc} {Ω:Own} {F:FS} {s s':Shared} {a:Addr} {o:Obj} (I:Inv X env F Γ Ω s) (ha:s.heap.get? a = none) (hao:s'.heap.get? a = some o) (hk:∀ b o,s.heap.get? b = some o -> s'.heap.get? b = some o) (ho:s'.os = s.os:=by rfl) (hn:s'.gens = s.gens:=by rfl):Ext X F (F.put a o) s s' where
 le:=fun b o' e=>by
  by_cases hb:b = a
  ·subst hb; rw [I.fz b o' e] at ha; cases ha
  ·simp [FS.put,hb,e]
 fz:=fun b o' e=>by
  by_cases hb:b = a
  ·subst hb; simp [FS.put] at e; rw [<- e]; exact hao
  ·simp [FS.put,hb] at e; exact hk b o' (I.fz b o' e)
 new:=fun b=>by
  by_cases hb:b = a
  ·subst hb; exact .inr ha
  ·left; simp [FS.put,hb]
 keep:=fun b o zz e=>hk b o e
 glob:=(I.glob.keeps hk).mono fun b o' e=>by
  by_cases hb:b = a
  ·subst hb; rw [I.fz b o' e] at ha; cases ha
  ·simp [FS.put,hb,e]
 os:=ho
 gens:=hn ▸ .refl _
theorem get_size (h:Heap):h.get? h.objs.size = none:=by
 cases e:h.get? h.objs.size with
 | none=>rfl
 | some o=>exact absurd (Heap.lt_size e) (Nat.lt_irrefl _)
noncomputable def OC.d:OC -> D
 | .lst ds=>.lst ds
 | .dct es=>.dct es
 | .dci es=>.dci es
theorem own_rd {h:Heap} {a:Addr} {c:OC} {o:Obj} (x:OwnAt X F h a c) (e:h.get? a = some o) (hF:F.le F') (hf:F' a = some o):Rd X F' (.ref a) c.d:=
 OC.casesOn (motive:=fun c=>OwnAt X F h a c -> Rd X F' (.ref a) c.d) c
  (fun ds x=>let ⟨vs,⟨n,e'⟩,r⟩:=x; .lst (vs:=vs.toList) (n:=n) (hf.trans (e.symm.trans e')) (r.mono hF))
  (fun es x=>let ⟨h0,o',kvs,e',d,k,r⟩:=x; .dct (hf.trans (e.symm.trans e')) d h0 k (r.mono hF))
  (fun es x=>let ⟨h0,o',kvs,e',d,k,r⟩:=x; .dci (hf.trans (e.symm.trans e')) d h0 k (r.mono hF)) x
theorem Inv.weak {env:Env} {Γ Γ':Loc} {Ω:Own} {s:Shared} (I:Inv X env F Γ Ω s) (h:∀ x d,Γ'.lookup x = some d -> Γ.lookup x = some d):Inv X env F Γ' Ω s:=
 { I with
  ns:=let ⟨m,hn,hm⟩:=I.ns; ⟨m,hn,fun x d e k=>hm x d (h x d e) k⟩
  cl:=fun x d e k=>I.cl x d (h x d e) k }
end
section
variable {X:Cx} {A:Around} {env:Env} {Γ:Loc} {Ω:Own} {F F':FS} {s s':Shared}
abbrev NoE:Value -> Shared -> Prop:=fun zz zz=>False
inductive Res (X:Cx) (F:FS) (s:Shared) (d:D) (v:Value) (s':Shared):Prop
 | mk (F':FS) (x:Ext X F F' s s') (r:Rd X F' v d)
inductive ResT (X:Cx) (F:FS) (s:Shared) (b:Bool) (c:Bool) (s':Shared):Prop
 | mk (e:c = b) (F':FS) (x:Ext X F F' s s')
inductive ResL (X:Cx) (F:FS) (s:Shared) (ds:List D) (vs:List Value) (s':Shared):Prop
 | mk (F':FS) (x:Ext X F F' s s') (r:RdL X F' vs ds)
theorem Res.trans {F1:FS} {ss1:Shared} {d:D} {F0:FS} (hT:Gl X F0 s.heap) (x:Ext X F F1 s ss1) {v:Value} {ss2:Shared} (h:Res X F1 ss1 d v ss2):Res X F s d v ss2:=
 let ⟨F2,y,r⟩:=h; ⟨F2,x.trans y hT.tabs_there,r⟩
theorem Rd.none_inv {v:Value} (r:Rd X F v .none):v = .none:=r.inv
theorem Rd.bool_inv {v:Value} {b:Bool} (r:Rd X F v (.bool b)):v = .bool b:=r.inv
theorem Rd.int_inv {v:Value} {i:Int} (r:Rd X F v (.int i)):∃ t,v = .int i t:=r.inv
theorem Rd.str_inv {v:Value} {x:Str} (r:Rd X F v (.str x)):∃ t,v = .str x t:=r.inv
theorem Rd.val_inv {v w:Value} (r:Rd X F v (.val w)):v = w:=r.inv
@[elab_as_elim] theorem Rd.int_elim {v:Value} {i:Int} (r:Rd X F v (.int i)) {M:Value -> Prop} (k:∀ t,M (.int i t)):M v:=r.int_inv.elim fun t e=>e ▸ k t
@[elab_as_elim] theorem Rd.str_elim {v:Value} {x:Str} (r:Rd X F v (.str x)) {M:Value -> Prop} (k:∀ t,M (.str x t)):M v:=r.str_inv.elim fun t e=>e ▸ k t
@[elab_as_elim] theorem Rd.bool_elim {v:Value} {b:Bool} (r:Rd X F v (.bool b)) {M:Value -> Prop} (k:M (.bool b)):M v:=r.bool_inv ▸ k
@[elab_as_elim] theorem Rd.none_elim {v:Value} (r:Rd X F v .none) {M:Value -> Prop} (k:M .none):M v:=r.none_inv ▸ k
@[elab_as_elim] theorem Rd.val_elim {v w:Value} (r:Rd X F v (.val w)) {M:Value -> Prop} (k:M w):M v:=r.val_inv ▸ k
structure Ev (X:Cx) (A:Around) (env:Env) (Γ:Loc) (Ω:Own) (e:Expr) (d:D):Prop where
 run:∀ F s,Inv X env F Γ Ω s -> wpAny X.M A (eval e env) (Res X F s d) NoE s
instance {X:Cx} {A:Around} {env:Env} {Γ:Loc} {Ω:Own} {e:Expr} {d:D}:CoeFun (Ev X A env Γ Ω e d) (fun zz=>∀ F s,Inv X env F Γ Ω s -> wpAny X.M A (eval e env) (Res X F s d) NoE s):=⟨fun h=>h.run⟩
structure EvT (X:Cx) (A:Around) (env:Env) (Γ:Loc) (Ω:Own) (e:Expr) (b:Bool):Prop where
 run:∀ F s,Inv X env F Γ Ω s -> wpAny X.M A (isTrue e env (eval e env)) (ResT X F s b) NoE s
instance {X:Cx} {A:Around} {env:Env} {Γ:Loc} {Ω:Own} {e:Expr} {b:Bool}:CoeFun (EvT X A env Γ Ω e b) (fun zz=>∀ F s,Inv X env F Γ Ω s -> wpAny X.M A (isTrue e env (eval e env)) (ResT X F s b) NoE s):=⟨fun h=>h.run⟩
theorem res_then {t:Sem Value} {d:D} {Q:Value -> Shared -> Prop} {E:Value -> Shared -> Prop} (I:Inv X env F Γ Ω s) (h:wpAny X.M A t (Res X F s d) NoE s)
  (k:∀ v F1 ss1,Ext X F F1 s ss1 -> Inv X env F1 Γ Ω ss1 -> Rd X F1 v d -> Q v ss1):wpAny X.M A t Q E s:=
 wpAny_mono h (fun v ss1 ⟨F1,x,r⟩=>k v F1 ss1 x (I.ext x) r) fun zz zz e=>e.elim
theorem res_up {t:Sem Value} {d:D} {F1:FS} {ss1:Shared} {E:Value -> Shared -> Prop} (I:Inv X env F Γ Ω s) (x:Ext X F F1 s ss1) (h:wpAny X.M A t (Res X F1 ss1 d) NoE ss1):wpAny X.M A t (Res X F s d) E ss1:=
 wpAny_mono h (fun zz zz r=>r.trans I.glob x) fun zz zz e=>e.elim
theorem Inv.res (I:Inv X env F Γ Ω s) {v:Value} {d:D} {s':Shared} (r:Rd X F v d) (hk:∀ b o,s.heap.get? b = some o -> s'.heap.get? b = some o:=by exact fun zz zz e=>e) (ho:s'.os = s.os:=by rfl) (hn:s'.gens = s.gens:=by rfl):Res X F s d v s':=
 ⟨F,I.stay hk ho hn,r⟩
theorem ev_int {i:Int} {k:Nat} {pos:Pos}:Ev X A env Γ Ω (.Constant (.int i) k pos) (.int i):=⟨fun zz zz I=>PySem.wpAny_Constant_int (Q:=_) (I.res (.int _ _))⟩
theorem ev_none {k:Nat} {pos:Pos}:Ev X A env Γ Ω (.Constant .none k pos) .none:=⟨fun zz zz I=>wpAny_Constant_none (I.res .none)⟩
theorem ev_bool {b:Bool} {k:Nat} {pos:Pos}:Ev X A env Γ Ω (.Constant (.bool b) k pos) (.bool b):=⟨fun zz zz I=>wpAny_Constant_bool (I.res (.bool _))⟩
theorem ev_str {x:Str} {k:Nat} {pos:Pos}:Ev X A env Γ Ω (.Constant (.str x) k pos) (.str x):=⟨fun zz zz I=>PySem.wpAny_Constant_str (I.res (.str _ _))⟩
noncomputable def isVar (env:Env) (x:Str):Bool:=match env.kindOf x with | some .local=>true | some .cell=>true | some .free=>true | _=>false
abbrev IsVar (env:Env) (x:Str):Prop:=isVar env x = true
set_option tactic.hygienic true in
theorem ld_var {x:Str} {d:D} (h:Γ.lookup x = some d) (hk:IsVar env x) (hc:(x == ("__classdict__" : Str)) = false) (I:Inv X env F Γ Ω s):wpAny X.M A (loadName env x) (Res X F s d) NoE s:=by
 by_cases hl:env.kindOf x = some .local
 ·obtain ⟨m,hn,hm⟩:=I.ns
  obtain ⟨v,hv,r⟩:=hm x d h hl
  exact wpAny_loadName_local I.eo.kind hl hn hv (I.res r)
 ·obtain ⟨c,v,hc',hv,r⟩:=I.cl x d h hl
  unfold IsVar isVar at hk
  split at hk
  ·rename_i e; exact absurd e hl
  ·rename_i e; exact wpAny_loadName_cell I.eo.kind e hc' hv (I.res r)
  ·rename_i e; exact wpAny_loadName_free I.eo.kind e hc' hv (I.res r) hc
  ·cases hk
theorem ev_var {x:Str} {pos:Pos} {d:D} (h:Γ.lookup x = some d) (hk:IsVar env x)
  (hd:(x == ("__debug__" : Str)) = false) (hc:(x == ("__classdict__" : Str)) = false):Ev X A env Γ Ω (.Name x pos) d:=by
 refine ⟨?_⟩
 intro F s I
 exact PySem.wpAny_Name (ld_var h hk hc I) hd
theorem Gl.mg_some {h:Heap} (g:Gl X F h) {x:Str} {v:Value} (e:nsIn X.K mainGlobals x = some (some v)):X.mg x = some v:=mg_of g.k g.g e
theorem Gl.mg_none {h:Heap} (g:Gl X F h) {x:Str} (e:nsIn X.K mainGlobals x = some none):X.mg x = none:=mg_none_of g.k g.g e
theorem ev_glob {x:Str} {pos:Pos} {v:Value} (hk:env.kindOf x = some .globalImplicit) (e:nsIn X.K mainGlobals x = some (some v)) (hd:(x == ("__debug__" : Str)) = false):Ev X A env Γ Ω (.Name x pos) (.val v):=by
 refine ⟨?_⟩
 intro F s I
 refine Name_function_global I.eo.kind hk ?_ hd
 exact loadGlobal_global (mg:=X.mg) (by rw [I.eo.gl]; exact I.glob.g) (I.glob.mg_some e) (I.res (.val _))
theorem ev_bi {x:Str} {pos:Pos} {v:Value} (hk:env.kindOf x = some .globalImplicit) (e:nsIn X.K mainGlobals x = some none) (hv:bootBuiltins x = some v) (hn:x ≠ "__name__") (hd:(x == ("__debug__" : Str)) = false):Ev X A env Γ Ω (.Name x pos) (.val v):=by
 refine ⟨?_⟩
 intro F s I
 refine Name_function_global I.eo.kind hk ?_ hd
 exact loadGlobal_builtin (mg:=X.mg) (mb:=X.mb) (by rw [I.eo.gl]; exact I.glob.g) (I.glob.mg_none e) (by rw [I.eo.bi]; exact I.glob.b) ((I.glob.ok.hb x hn).trans hv) (I.res (.val _))
noncomputable def Op2 (X:Cx) (A:Around) (env:Env) (Γ:Loc) (Ω:Own) (t:Value -> Value -> Sem Value) (dd1 dd2 d:D):Prop:=
 ∀ F s vv1 vv2,Inv X env F Γ Ω s -> Rd X F vv1 dd1 -> Rd X F vv2 dd2 -> wpAny X.M A (t vv1 vv2) (Res X F s d) NoE s
noncomputable def Op1 (X:Cx) (A:Around) (env:Env) (Γ:Loc) (Ω:Own) (t:Value -> Sem Value) (dd1 d:D):Prop:=
 ∀ F s vv1,Inv X env F Γ Ω s -> Rd X F vv1 dd1 -> wpAny X.M A (t vv1) (Res X F s d) NoE s
noncomputable def Tru (X:Cx) (A:Around) (env:Env) (Γ:Loc) (Ω:Own) (d:D) (b:Bool):Prop:=
 ∀ F s v,Inv X env F Γ Ω s -> Rd X F v d -> wpAny X.M A (truthy v) (ResT X F s b) NoE s
theorem ev_bin {l r:Expr} {op:Operator} {pos:Pos} {dd1 dd2 d:D} (hl:Ev X A env Γ Ω l dd1) (hr:Ev X A env Γ Ω r dd2) (ho:Op2 X A env Γ Ω (binaryOp op) dd1 dd2 d):Ev X A env Γ Ω (.BinOp l op r pos) d:=by
 refine ⟨?_⟩
 intro F s I
 refine PySem.wpAny_BinOp (res_then I (hl F s I) fun vv1 F1 ss1 x1 I1 rr1=>res_then I1 (hr F1 ss1 I1) fun vv2 F2 ss2 xx2 I2 rr2=>?_)
 exact res_up I (x1.trans xx2 I.glob.tabs_there) (ho F2 ss2 vv1 vv2 I2 (rr1.mono xx2.le) rr2)
theorem ev_cmp {l r:Expr} {op:CmpOp} {pos:Pos} {dd1 dd2 d:D} (hl:Ev X A env Γ Ω l dd1) (hr:Ev X A env Γ Ω r dd2) (ho:Op2 X A env Γ Ω (compareOp op) dd1 dd2 d) (hm:behindInMarks op r = false):Ev X A env Γ Ω (.Compare l [op] [r] pos) d:=by
 refine ⟨?_⟩
 intro F s I
 refine PySem.wpAny_Compare1 (res_then I (hl F s I) fun vv1 F1 ss1 x1 I1 rr1=>res_then I1 (hr F1 ss1 I1) fun vv2 F2 ss2 xx2 I2 rr2=>?_) hm
 exact res_up I (x1.trans xx2 I.glob.tabs_there) (ho F2 ss2 vv1 vv2 I2 (rr1.mono xx2.le) rr2)
theorem ev_una {x:Expr} {op:UnaryOp} {pos:Pos} {dd1 d:D} (hx:Ev X A env Γ Ω x dd1) (ho:Op1 X A env Γ Ω (unaryOp op) dd1 d):Ev X A env Γ Ω (.UnaryOp op x pos) d:=by
 refine ⟨?_⟩
 intro F s I
 refine PySem.wpAny_UnaryOp (res_then I (hx F s I) fun vv1 F1 ss1 x1 I1 rr1=>?_)
 exact res_up I x1 (ho F1 ss1 vv1 I1 rr1)
theorem evt_then {t:Sem Bool} {b:Bool} {Q:Bool -> Shared -> Prop} {E:Value -> Shared -> Prop} (I:Inv X env F Γ Ω s) (h:wpAny X.M A t (ResT X F s b) NoE s)
  (k:∀ F1 ss1,Ext X F F1 s ss1 -> Inv X env F1 Γ Ω ss1 -> Q b ss1):wpAny X.M A t Q E s:=
 wpAny_mono h (fun c ss1 ⟨e,F1,x⟩=>e ▸ k F1 ss1 x (I.ext x)) fun zz zz e=>e.elim
theorem tru_bool {b:Bool}:Tru X A env Γ Ω (.bool b) b:=by
 intro F s v I r
 rw [r.bool_inv]
 exact wpAny_truthy_bool ⟨rfl,F,I.stay fun zz zz e=>e⟩
theorem evt_cmp {l r:Expr} {op:CmpOp} {pos:Pos} {dd1 dd2:D} {b:Bool} (hl:Ev X A env Γ Ω l dd1) (hr:Ev X A env Γ Ω r dd2) (ho:Op2 X A env Γ Ω (compareOp op) dd1 dd2 (.bool b)) (hm:behindInMarks op r = false):EvT X A env Γ Ω (.Compare l [op] [r] pos) b:=by
 refine ⟨?_⟩
 intro F s I
 refine wpAny_isTrue_Compare1 (res_then I (hl F s I) fun vv1 F1 ss1 x1 I1 rr1=>res_then I1 (hr F1 ss1 I1) fun vv2 F2 ss2 xx2 I2 rr2=>res_then I2 (ho F2 ss2 vv1 vv2 I2 (rr1.mono xx2.le) rr2) fun v3 F3 ss3 xx3 I3 rr3=>?_) hm
 refine wpAny_mono (tru_bool F3 ss3 v3 I3 rr3) (fun c ss4 h=>?_) fun zz zz e=>e
 obtain ⟨e,F4,xx4⟩:=h
 exact ⟨e,F4,((x1.trans xx2 I.glob.tabs_there).trans xx3 I.glob.tabs_there).trans xx4 I.glob.tabs_there⟩
theorem evt_val {e:Expr} {d:D} {b:Bool} (he:Ev X A env Γ Ω e d) (ht:Tru X A env Γ Ω d b)
  (hp:isTrue e env (eval e env) = (do let v <- eval e env; standAt e.pos; holding [v] (truthy v))):EvT X A env Γ Ω e b:=by
 refine ⟨?_⟩
 intro F s I
 refine wpAny_isTrue_value (res_then I (he F s I) fun vv1 F1 ss1 x1 I1 rr1=>?_) hp
 refine wpAny_mono (ht F1 ss1 vv1 I1 rr1) (fun c ss4 h=>?_) fun zz zz e=>e
 obtain ⟨e,F4,xx4⟩:=h
 exact ⟨e,F4,x1.trans xx4 I.glob.tabs_there⟩
theorem evt_not {x:Expr} {pos:Pos} {b:Bool} (h:EvT X A env Γ Ω x b):EvT X A env Γ Ω (.UnaryOp .Not x pos) (!b):=by
 refine ⟨?_⟩
 intro F s I
 exact wpAny_isTrue_Not (evt_then I (h F s I) fun F1 ss1 x1 I1=>⟨rfl,F1,x1⟩)
theorem evt_and2 {x y:Expr} {pos:Pos} {b c:Bool} (hx:EvT X A env Γ Ω x b) (hy:b = true -> EvT X A env Γ Ω y c):EvT X A env Γ Ω (.BoolOp .And [x,y] pos) (b && c):=by
 refine ⟨?_⟩
 intro F s I
 refine wpAny_isTrue_BoolOp (wpAny_allTrue_And_cons (evt_then I (hx F s I) fun F1 ss1 x1 I1=>?_))
 cases b with
 | false=>exact ⟨rfl,F1,x1⟩
 | true=>
  refine wpAny_allTrue_And_cons (evt_then I1 (hy rfl F1 ss1 I1) fun F2 ss2 xx2 I2=>?_)
  cases c with
  | false=>exact ⟨rfl,F2,x1.trans xx2 I.glob.tabs_there⟩
  | true=>exact wpAny_allTrue_And_nil ⟨rfl,F2,x1.trans xx2 I.glob.tabs_there⟩
theorem evt_or2 {x y:Expr} {pos:Pos} {b c:Bool} (hx:EvT X A env Γ Ω x b) (hy:b = false -> EvT X A env Γ Ω y c):EvT X A env Γ Ω (.BoolOp .Or [x,y] pos) (b || c):=by
 refine ⟨?_⟩
 intro F s I
 refine wpAny_isTrue_BoolOp (wpAny_allTrue_Or_cons (evt_then I (hx F s I) fun F1 ss1 x1 I1=>?_))
 cases b with
 | true=>exact ⟨rfl,F1,x1⟩
 | false=>
  refine wpAny_allTrue_Or_cons (evt_then I1 (hy rfl F1 ss1 I1) fun F2 ss2 xx2 I2=>?_)
  cases c with
  | true=>exact ⟨rfl,F2,x1.trans xx2 I.glob.tabs_there⟩
  | false=>exact wpAny_allTrue_Or_nil ⟨rfl,F2,x1.trans xx2 I.glob.tabs_there⟩
theorem ev_or2 {x y:Expr} {pos:Pos} {dd1 dd2 d:D} {b:Bool} (hx:Ev X A env Γ Ω x dd1) (ht:Tru X A env Γ Ω dd1 b) (hy:b = false -> Ev X A env Γ Ω y dd2) (hd:d = if b then dd1 else dd2):Ev X A env Γ Ω (.BoolOp .Or [x,y] pos) d:=by
 refine ⟨?_⟩
 intro F s I
 refine wpAny_Or2 (res_then I (hx F s I) fun vv1 F1 ss1 x1 I1 rr1=>evt_then I1 (ht F1 ss1 vv1 I1 rr1) fun F2 ss2 xx2 I2=>?_)
 have x12:=x1.trans xx2 I.glob.tabs_there
 subst hd
 cases b with
 | true=>exact ⟨F2,x12,rr1.mono xx2.le⟩
 | false=>exact res_up I x12 (hy rfl F2 ss2 I2)
theorem ev_ife {t x y:Expr} {pos:Pos} {b:Bool} {dd1 dd2 d:D} (ht:EvT X A env Γ Ω t b) (hx:b = true -> Ev X A env Γ Ω x dd1) (hy:b = false -> Ev X A env Γ Ω y dd2) (hd:d = if b then dd1 else dd2):Ev X A env Γ Ω (.IfExp t x y pos) d:=by
 refine ⟨?_⟩
 intro F s I
 refine PySem.wpAny_IfExp (evt_then I (ht F s I) fun F1 ss1 x1 I1=>?_)
 subst hd
 cases b with
 | true=>exact res_up I x1 (hx rfl F1 ss1 I1)
 | false=>exact res_up I x1 (hy rfl F1 ss1 I1)
structure EvL (X:Cx) (A:Around) (env:Env) (Γ:Loc) (Ω:Own) (es:List Expr) (ds:List D):Prop where
 run:∀ (pos:Pos) F s,Inv X env F Γ Ω s -> wpAny X.M A (spliced (backTo pos (starEach es env))) (ResL X F s ds) NoE s
instance {X:Cx} {A:Around} {env:Env} {Γ:Loc} {Ω:Own} {es:List Expr} {ds:List D}:CoeFun (EvL X A env Γ Ω es ds) (fun zz=>∀ (pos:Pos) F s,Inv X env F Γ Ω s -> wpAny X.M A (spliced (backTo pos (starEach es env))) (ResL X F s ds) NoE s):=⟨fun h=>h.run⟩
theorem evl_nil:EvL X A env Γ Ω [] []:=⟨fun zz F zz I=>wpAny_items_nil ⟨F,I.stay fun zz zz e=>e,.nil⟩⟩
theorem evl_cons {e:Expr} {es:List Expr} {d:D} {ds:List D} (h:Ev X A env Γ Ω e d) (hr:EvL X A env Γ Ω es ds) (he:starEach (e :: es) env = (false,eval e env) :: starEach es env):EvL X A env Γ Ω (e :: es) (d :: ds):=by
 refine ⟨?_⟩
 intro pos F s I
 refine wpAny_items_cons (res_then I (h F s I) fun vv1 F1 ss1 x1 I1 rr1=>?_) he
 exact wpAny_mono (hr pos F1 ss1 I1) (fun vs ss2 ⟨F2,xx2,rr2⟩=>⟨F2,x1.trans xx2 I.glob.tabs_there,.cons (rr1.mono xx2.le) rr2⟩) fun zz zz e=>e
theorem ev_tuple {es:List Expr} {k:Nat} {pos:Pos} {ds:List D} (h:EvL X A env Γ Ω es ds) (hz:ds.length <= 1000):Ev X A env Γ Ω (.Tuple es k pos) (.tup ds):=by
 refine ⟨?_⟩
 intro F s I
 refine PySem.wpAny_Tuple (wpAny_mono (h pos F s I) (fun vs ss1 ⟨F1,x1,rr1⟩=>⟨?_,?_⟩) fun zz zz e=>e)
 ·rw [rr1.length]; exact Nat.le_trans hz (by decide)
 ·have y:=(I.ext x1).frozen (s':={ ss1 with heap:=ss1.heap.push { cls:=.type "tuple",data:=.seq vs.toArray } }) (get_size ss1.heap) (Heap.get?_push_size _ rfl) (fun b o e=>Heap.get?_push_of_some _ e)
  exact ⟨_,x1.trans y I.glob.tabs_there,.tup (FS.put_self ..) rfl rfl (rr1.mono y.le)⟩
theorem ev_list {es:List Expr} {pos:Pos} {ds:List D} (h:EvL X A env Γ Ω es ds) (hz:ds.length <= 1000):Ev X A env Γ Ω (.List es pos) (.lst ds):=by
 refine ⟨?_⟩
 intro F s I
 refine PySem.wpAny_List (wpAny_mono (h pos F s I) (fun vs ss1 ⟨F1,x1,rr1⟩=>⟨?_,?_⟩) fun zz zz e=>e)
 ·rw [rr1.length]; exact Nat.le_trans hz (by decide)
 ·have y:=(I.ext x1).frozen (s':={ ss1 with heap:=ss1.heap.push { cls:=.type "list",data:=.seq vs.toArray } }) (get_size ss1.heap) (Heap.get?_push_size _ rfl) (fun b o e=>Heap.get?_push_of_some _ e)
  exact ⟨_,x1.trans y I.glob.tabs_there,.lst (FS.put_self ..) (rr1.mono y.le)⟩
theorem op2_int {t:Value -> Value -> Sem Value} {i j:Int} {d:D} (h:∀ {F s} a b,Inv X env F Γ Ω s -> wpAny X.M A (t (.int i a) (.int j b)) (Res X F s d) NoE s):Op2 X A env Γ Ω t (.int i) (.int j) d:=fun F s vv1 vv2 I rr1 rr2=>
 rr1.int_elim (M:=fun v=>wpAny X.M A (t v vv2) _ _ s) fun a=>rr2.int_elim (M:=fun v=>wpAny X.M A (t _ v) _ _ s) fun b=>h a b I
theorem op2_str {t:Value -> Value -> Sem Value} {i j:Str} {d:D} (h:∀ {F s} a b,Inv X env F Γ Ω s -> wpAny X.M A (t (.str i a) (.str j b)) (Res X F s d) NoE s):Op2 X A env Γ Ω t (.str i) (.str j) d:=fun F s vv1 vv2 I rr1 rr2=>
 rr1.str_elim (M:=fun v=>wpAny X.M A (t v vv2) _ _ s) fun a=>rr2.str_elim (M:=fun v=>wpAny X.M A (t _ v) _ _ s) fun b=>h a b I
theorem op_add {i j:Int}:Op2 X A env Γ Ω (binaryOp .Add) (.int i) (.int j) (.int (i + j)):=op2_int fun zz zz I=>PyProof.Rows.add_int (I.res (.int _ _))
theorem op_sub {i j:Int}:Op2 X A env Γ Ω (binaryOp .Sub) (.int i) (.int j) (.int (i - j)):=op2_int fun zz zz I=>PyProof.Rows.sub_int (I.res (.int _ _))
theorem op_mul {i j:Int} (h:IntMulOk i j):Op2 X A env Γ Ω (binaryOp .Mult) (.int i) (.int j) (.int (i * j)):=op2_int fun zz zz I=>PyProof.Rows.mul_int (I.res (.int _ _)) h
theorem op_mod {i j:Int} (h:j ≠ 0):Op2 X A env Γ Ω (binaryOp .Mod) (.int i) (.int j) (.int (i.fmod j)):=op2_int fun zz zz I=>PyProof.Rows.mod_int h (I.res (.int _ _))
theorem op_fdiv {i j:Int} (h:j ≠ 0) (hp:Builtin.divisionGoesByPylong i j = false):Op2 X A env Γ Ω (binaryOp .FloorDiv) (.int i) (.int j) (.int (i.fdiv j)):=op2_int fun zz zz I=>PyProof.Rows.floordiv_int h (I.res (.int _ _)) (.inl hp)
theorem op_lt {i j:Int}:Op2 X A env Γ Ω (compareOp .Lt) (.int i) (.int j) (.bool (decide (i < j))):=op2_int fun zz zz I=>PyProof.Rows.lt_int (I.res (.bool _))
theorem op_gt {i j:Int}:Op2 X A env Γ Ω (compareOp .Gt) (.int i) (.int j) (.bool (decide (j < i))):=op2_int fun zz zz I=>PyProof.Rows.gt_int (I.res (.bool _))
theorem op_le {i j:Int}:Op2 X A env Γ Ω (compareOp .LtE) (.int i) (.int j) (.bool (decide (i <= j))):=op2_int fun zz zz I=>PyProof.Rows.le_int (I.res (.bool _))
theorem op_eqi {i j:Int}:Op2 X A env Γ Ω (compareOp .Eq) (.int i) (.int j) (.bool (i == j)):=op2_int fun zz zz I=>PyProof.Rows.eq_int (I.res (.bool _))
theorem op_nei {i j:Int}:Op2 X A env Γ Ω (compareOp .NotEq) (.int i) (.int j) (.bool (i != j)):=op2_int fun zz zz I=>PyProof.Rows.ne_int (I.res (.bool _))
theorem op_eqs {x y:Str}:Op2 X A env Γ Ω (compareOp .Eq) (.str x) (.str y) (.bool (x == y)):=op2_str fun zz zz I=>PyProof.Rows.eq_str (I.res (.bool _))
theorem op_adds {x y:Str} (h:x.length + y.length <= sizeLine):Op2 X A env Γ Ω (binaryOp .Add) (.str x) (.str y) (.str (x ++ y)):=op2_str fun zz zz I=>PyProof.Rows.add_str (fun t' tk=>I.res (.str _ _)) h
theorem op_b {t:Value -> Value -> Sem Value} {d e:D} {b c:Bool} (h:Op2 X A env Γ Ω t d e (.bool b)) (q:b = c):Op2 X A env Γ Ω t d e (.bool c):=q ▸ h
theorem op_isNone {d:D} (hd:∀ v,d ≠ .val v):Op2 X A env Γ Ω (compareOp .Is) d .none (.bool (match d with | .none=>true | _=>false)):=by
 intro F s vv1 vv2 I rr1 rr2
 refine rr2.none_elim ?_
 refine is_none (I.res ?_)
 cases rr1 <;> first | exact .bool _ | exact absurd rfl (hd _)
theorem op_neg {i:Int}:Op1 X A env Γ Ω (unaryOp .USub) (.int i) (.int (-i)):=by
 intro F s v I r; obtain ⟨_,rfl⟩:=r.int_inv; exact PyProof.Rows.neg_int (I.res (.int _ _))
end
section
variable {X:Cx} {A:Around} {env:Env} {Γ:Loc} {Ω:Own} {F F':FS} {s s':Shared}
set_option tactic.hygienic true in
inductive FlowD where
 | next | brk | cont | ret (d:D)
set_option tactic.hygienic true in
noncomputable def FlowRd (X:Cx) (F:FS):Flow -> FlowD -> Prop
 | .next,.next=>True
 | .brk,.brk=>True
 | .cont,.cont=>True
 | .ret v,.ret d=>Rd X F v d
 | _,_=>False
set_option tactic.hygienic true in
@[elab_as_elim] theorem FlowRd.on {f:Flow} {fd:FlowD} (r:FlowRd X F f fd) {M:Flow -> FlowD -> Prop} (h1:M .next .next) (h2:M .brk .brk) (h3:M .cont .cont) (h4:∀ v d,Rd X F v d -> M (.ret v) (.ret d)):M f fd:=by
 cases f <;> cases fd <;> first | exact r.elim | assumption | exact h4 _ _ r
structure ExtS (X:Cx) (env:Env) (Ω Ω':Own) (F F':FS) (s s':Shared):Prop where
 le:F.le F'
 new:∀ a,F' a = F a \/ s.heap.get? a = none \/ a ∈ Ω.map (·.1)
 keep:∀ b o,b ∉ X.T -> b ≠ env.locals -> b ∉ env.cells.map (·.2) -> b ∉ Ω.map (·.1) -> s.heap.get? b = some o -> s'.heap.get? b = some o
 dom:∀ a,a ∈ Ω'.map (·.1) -> a ∈ Ω.map (·.1) \/ s.heap.get? a = none
 os:s'.os = s.os
 gens:GensLe s.gens s'.gens
theorem Ext.toS (x:Ext X F F' s s'):ExtS X env Ω Ω F F' s s' where
 le:=x.le
 new:=fun a=>(x.new a).imp id .inl
 keep:=fun b o h zz zz zz e=>x.keep b o h e
 dom:=fun a h=>.inl h
 os:=x.os
 gens:=x.gens
structure ExtM (X:Cx) (M:Addr -> Prop) (F F':FS) (s s':Shared):Prop where
 le:F.le F'
 new:∀ a,F' a = F a \/ s.heap.get? a = none
 keep:∀ b o,b ∉ X.T -> ¬M b -> s.heap.get? b = some o -> s'.heap.get? b = some o
 os:s'.os = s.os
 gens:GensLe s.gens s'.gens
theorem Ext.toM {M:Addr -> Prop} (x:Ext X F F' s s'):ExtM X M F F' s s':=⟨x.le,x.new,fun b o h zz e=>x.keep b o h e,x.os,x.gens⟩
theorem ExtM.mono {M N:Addr -> Prop} (x:ExtM X M F F' s s') (h:∀ a,M a -> N a):ExtM X N F F' s s':=⟨x.le,x.new,fun b o hb n e=>x.keep b o hb (fun m=>n (h b m)) e,x.os,x.gens⟩
theorem ExtM.trans {M:Addr -> Prop} {F1 F2:FS} {ss1 ss2:Shared} (x:ExtM X M F F1 s ss1) (y:ExtM X M F1 F2 ss1 ss2) {F0:FS} (g:Gl X F0 ss1.heap) (hM:∀ a,M a -> F a = none /\ F2 a = none):ExtM X M F F2 s ss2 where
 le:=fun a o e=>y.le a o (x.le a o e)
 new:=fun a=>by
  by_cases m:M a
  ·left; rw [(hM a m).1,(hM a m).2]
  ·rcases y.new a with e | e
   ·rw [e]; exact x.new a
   ·right
    cases h:s.heap.get? a with
    | none=>rfl
    | some o=>
     by_cases hT:a ∈ X.T
     ·obtain ⟨o',ho'⟩:=g.tabs_there a hT; rw [ho'] at e; cases e
     ·rw [x.keep a o hT m h] at e; cases e
 keep:=fun b o hb m e=>y.keep b o hb m (x.keep b o hb m e)
 os:=y.os.trans x.os
 gens:=x.gens.trans y.gens
noncomputable def StM (env:Env) (ns:List Str) (a:Addr):Prop:=a = env.locals \/ ∃ x,x ∈ ns /\ env.kindOf x = some .cell /\ env.cells.lookup x = some a
theorem ExtM.toS {ns:List Str} (x:ExtM X (StM env ns) F F' s s'):ExtS X env Ω Ω F F' s s' where
 le:=x.le
 new:=fun a=>(x.new a).imp id .inl
 keep:=fun b o h h1 h2 zz e=>x.keep b o h (fun m=>by
  rcases m with m | ⟨y,_,_,m⟩
  ·exact h1 m
  ·exact h2 (List.mem_map_of_mem (f:=(·.2)) (mem_of_lookup m))) e
 dom:=fun a h=>.inl h
 os:=x.os
 gens:=x.gens
theorem Inv.stM (I:Inv X env F Γ Ω s) {ns:List Str} {a:Addr} (m:StM env ns a):F a = none:=by
 rcases m with rfl | ⟨y,_,_,m⟩
 ·exact I.loc.1
 ·exact (I.cells y a (mem_of_lookup m)).2.1
theorem ns_there {h:Heap} {a:Addr} {m:Str -> Option Value} (n:h.Ns a m):∃ o,h.get? a = some o:=let ⟨o,_,_,e,_⟩:=n; ⟨o,e⟩
theorem ExtS.trans {Ω1 Ω2:Own} {Γ₁:Loc} {F1 F2:FS} {ss1 ss2:Shared} (I0:Inv X env F Γ Ω s) (I1:Inv X env F1 Γ₁ Ω1 ss1) {Γ₂:Loc} (I2:Inv X env F2 Γ₂ Ω2 ss2) (x:ExtS X env Ω Ω1 F F1 s ss1) (y:ExtS X env Ω1 Ω2 F1 F2 ss1 ss2):ExtS X env Ω Ω2 F F2 s ss2 where
 le:=fun a o e=>y.le a o (x.le a o e)
 new:=fun a=>by
  rcases y.new a with e | e | e
  ·rw [e]; exact x.new a
  ·by_cases hO:a ∈ Ω.map (·.1)
   ·exact .inr (.inr hO)
   ·cases h:s.heap.get? a with
    | none=>exact .inr (.inl rfl)
    | some o=>
     left
     by_cases hT:a ∈ X.T
     ·rw [I2.tF a hT,I0.tF a hT]
     ·by_cases hl:a = env.locals
      ·subst hl; rw [I2.loc.1,I0.loc.1]
      ·by_cases hc:a ∈ env.cells.map (·.2)
       ·obtain ⟨p,hp,rfl⟩:=List.mem_map.mp hc
        rw [(I2.cells p.1 p.2 hp).2.1,(I0.cells p.1 p.2 hp).2.1]
       ·rw [x.keep a o hT hl hc hO h] at e; cases e
  ·rcases x.dom a e with h | h
   ·exact .inr (.inr h)
   ·exact .inr (.inl h)
 keep:=fun b o hT hl hc hO e=>by
  have ee1:=x.keep b o hT hl hc hO e
  refine y.keep b o hT hl hc (fun hm=>?_) ee1
  rcases x.dom b hm with h | h
  ·exact hO h
  ·rw [h] at e; cases e
 dom:=fun a h=>by
  rcases y.dom a h with h | h
  ·exact x.dom a h
  ·by_cases hO:a ∈ Ω.map (·.1)
   ·exact .inl hO
   ·right
    cases e:s.heap.get? a with
    | none=>rfl
    | some o=>
     exfalso
     by_cases hT:a ∈ X.T
     ·obtain ⟨o',ho'⟩:=I1.glob.tabs_there a hT; rw [ho'] at h; cases h
     ·by_cases hl:a = env.locals
      ·subst hl; obtain ⟨m,hn,_⟩:=I1.ns; obtain ⟨o',ho'⟩:=ns_there hn; rw [ho'] at h; cases h
      ·by_cases hc:a ∈ env.cells.map (·.2)
       ·obtain ⟨p,hp,rfl⟩:=List.mem_map.mp hc
        obtain ⟨⟨v,o',ho',_⟩,_⟩:=I1.cells p.1 p.2 hp
        rw [ho'] at h; cases h
       ·rw [x.keep a o hT hl hc hO e] at h; cases h
 os:=y.os.trans x.os
 gens:=x.gens.trans y.gens
abbrev PostP:=FlowD -> Loc -> Own -> Prop
inductive Post (X:Cx) (env:Env) (Ω:Own) (F:FS) (s:Shared) (R:PostP) (f:Flow) (s':Shared):Prop
 | mk (F':FS) (Γ':Loc) (Ω':Own) (fd:FlowD) (h:R fd Γ' Ω') (r:FlowRd X F' f fd) (I:Inv X env F' Γ' Ω' s') (x:ExtS X env Ω Ω' F F' s s')
structure Ex (X:Cx) (A:Around) (env:Env) (Γ:Loc) (Ω:Own) (st:Stmt) (R:PostP):Prop where
 run:∀ F s,Inv X env F Γ Ω s -> wpAny X.M A (exec st env) (Post X env Ω F s R) NoE s
instance {X:Cx} {A:Around} {env:Env} {Γ:Loc} {Ω:Own} {st:Stmt} {R:PostP}:CoeFun (Ex X A env Γ Ω st R) (fun zz=>∀ F s,Inv X env F Γ Ω s -> wpAny X.M A (exec st env) (Post X env Ω F s R) NoE s):=⟨fun h=>h.run⟩
structure Exs (X:Cx) (A:Around) (env:Env) (Γ:Loc) (Ω:Own) (st:List Stmt) (R:PostP):Prop where
 run:∀ F s,Inv X env F Γ Ω s -> wpAny X.M A (execs st env) (Post X env Ω F s R) NoE s
instance {X:Cx} {A:Around} {env:Env} {Γ:Loc} {Ω:Own} {st:List Stmt} {R:PostP}:CoeFun (Exs X A env Γ Ω st R) (fun zz=>∀ F s,Inv X env F Γ Ω s -> wpAny X.M A (execs st env) (Post X env Ω F s R) NoE s):=⟨fun h=>h.run⟩
theorem Post.up {Γ₁:Loc} {Ω1:Own} {F1:FS} {ss1:Shared} {R:PostP} {f:Flow} {ss2:Shared} (I0:Inv X env F Γ Ω s) (I1:Inv X env F1 Γ₁ Ω1 ss1) (x:ExtS X env Ω Ω1 F F1 s ss1) (p:Post X env Ω1 F1 ss1 R f ss2):Post X env Ω F s R f ss2:=
 let ⟨F2,Γ₂,Ω2,fd,h,r,I2,y⟩:=p; ⟨F2,Γ₂,Ω2,fd,h,r,I2,x.trans I0 I1 I2 y⟩
theorem post_up {t:Sem Flow} {Γ₁:Loc} {Ω1:Own} {F1:FS} {ss1:Shared} {R:PostP} {E:Value -> Shared -> Prop} (I0:Inv X env F Γ Ω s) (I1:Inv X env F1 Γ₁ Ω1 ss1) (x:ExtS X env Ω Ω1 F F1 s ss1)
  (h:wpAny X.M A t (Post X env Ω1 F1 ss1 R) NoE ss1):wpAny X.M A t (Post X env Ω F s R) E ss1:=
 wpAny_mono h (fun zz zz p=>p.up I0 I1 x) fun zz zz e=>e.elim
set_option tactic.hygienic true in
theorem exs_nil {R:PostP} (h:R .next Γ Ω):Exs X A env Γ Ω [] R:=⟨fun F s I=>wpAny_execs_nil ⟨F,Γ,Ω,.next,h,trivial,I,(I.stay fun zz zz e=>e).toS⟩⟩
set_option tactic.hygienic true in
noncomputable abbrev SeqP (X:Cx) (A:Around) (env:Env) (rest:List Stmt) (R:PostP):PostP:=fun fd Γ' Ω'=>match fd with
 | .next=>Exs X A env Γ' Ω' rest R
 | fd=>R fd Γ' Ω'
set_option tactic.hygienic true in
noncomputable abbrev LoopP (N:Loc -> Own -> Prop) (R:PostP):PostP:=fun fd Γ' Ω'=>match fd with
 | .next | .cont=>N Γ' Ω'
 | .brk=>R .next Γ' Ω'
 | .ret d=>R (.ret d) Γ' Ω'
theorem exs_cons {st:Stmt} {rest:List Stmt} {R:PostP} (h:Ex X A env Γ Ω st (SeqP X A env rest R)):Exs X A env Γ Ω (st :: rest) R:=by
 refine ⟨?_⟩
 intro F s I
 rw [arm_execs_cons]
 refine wpAny_bind (wpAny_mono (h F s I) (fun f ss1 p=>?_) fun zz zz e=>e)
 obtain ⟨F1,Γ₁,Ω1,fd,hr,rf,I1,x⟩:=p
 revert hr
 exact rf.on (fun hr=>post_up I I1 x (hr F1 ss1 I1)) (fun hr=>wpAny_pure ⟨F1,Γ₁,Ω1,.brk,hr,trivial,I1,x⟩) (fun hr=>wpAny_pure ⟨F1,Γ₁,Ω1,.cont,hr,trivial,I1,x⟩) fun v d r hr=>wpAny_pure ⟨F1,Γ₁,Ω1,.ret _,hr,r,I1,x⟩
theorem Ex.imp {st:Stmt} {R R':PostP} (h:Ex X A env Γ Ω st R) (k:∀ fd Γ' Ω',R fd Γ' Ω' -> R' fd Γ' Ω'):Ex X A env Γ Ω st R':=⟨fun F s I=>
 wpAny_mono (h F s I) (fun zz zz ⟨F',Γ',Ω',fd,a,b,i,x⟩=>⟨F',Γ',Ω',fd,k _ _ _ a,b,i,x⟩) fun zz zz e=>e⟩
theorem Exs.imp {st:List Stmt} {R R':PostP} (h:Exs X A env Γ Ω st R) (k:∀ fd Γ' Ω',R fd Γ' Ω' -> R' fd Γ' Ω'):Exs X A env Γ Ω st R':=⟨fun F s I=>
 wpAny_mono (h F s I) (fun zz zz ⟨F',Γ',Ω',fd,a,b,i,x⟩=>⟨F',Γ',Ω',fd,k _ _ _ a,b,i,x⟩) fun zz zz e=>e⟩
theorem ex_return {e:Expr} {pos:Pos} {d:D} {R:PostP} (h:Ev X A env Γ Ω e d) (hr:R (.ret d) Γ Ω):Ex X A env Γ Ω (.Return (some e) pos) R:=⟨fun F s I=>
 PySem.wpAny_Return_some (Q:=_) (res_then I (h F s I) fun v F1 ss1 x I1 r=>⟨F1,Γ,Ω,.ret d,hr,r,I1,x.toS⟩)⟩
theorem ex_break {pos:Pos} {R:PostP} (hr:R .brk Γ Ω):Ex X A env Γ Ω (.Break pos) R:=⟨fun F s I=>
 wpAny_Break ⟨F,Γ,Ω,.brk,hr,trivial,I,(I.stay fun zz zz e=>e).toS⟩⟩
theorem ex_if {t:Expr} {body orelse:List Stmt} {pos:Pos} {b:Bool} {R:PostP} (ht:EvT X A env Γ Ω t b) (h1:b = true -> Exs X A env Γ Ω body R) (h2:b = false -> Exs X A env Γ Ω orelse R):Ex X A env Γ Ω (.If t body orelse pos) R:=by
 refine ⟨?_⟩
 intro F s I
 refine PySem.wpAny_If (Q:=_) (evt_then I (ht F s I) fun F1 ss1 x I1=>?_)
 cases b with
 | true=>exact post_up I I1 x.toS (h1 rfl F1 ss1 I1)
 | false=>exact post_up I I1 x.toS (h2 rfl F1 ss1 I1)
theorem Inv.new0 (I:Inv X env F Γ Ω s) {a:Addr} (h:F a = none) (hT:a ∉ X.T):X.h0.get? a = none:=by
 cases e:X.h0.get? a with
 | none=>rfl
 | some o=>rw [I.fb a o hT e] at h; cases h
theorem Inv.locals_new (I:Inv X env F Γ Ω s):X.h0.get? env.locals = none:=I.new0 I.loc.1 I.loc.2.2
theorem inv_local {x:Str} {d:D} {v:Value} {h':Heap} {tk:Nat} {m:Str -> Option Value} (I:Inv X env F Γ Ω s) (hk:env.kindOf x = some .local) (r:Rd X F v d)
  (hm:∀ x d,Γ.lookup x = some d -> env.kindOf x = some .local -> ∃ v,m x = some v /\ Rd X F v d)
  (hn:h'.Ns env.locals (fun y=>if y = x then some v else m y)) (hs:Heap.SameBut env.locals s.heap h'):Inv X env F (upd Γ x d) Ω { s with heap:=h',toks:=tk } /\ ExtM X (StM env [x]) F F s { s with heap:=h',toks:=tk }:=by
 have k:∀ b o,b ≠ env.locals -> s.heap.get? b = some o -> h'.get? b = some o:=fun b o hb e=>(hs.2 b hb).trans e
 refine ⟨⟨I.eo,?_,I.fb,fun a o e=>k a o (fun q=>by rw [q,I.loc.1] at e; cases e) (I.fz a o e),⟨_,hn,fun y e hy hl=>?_⟩,fun y e hy hl=>?_,fun n c hc=>?_,I.apart,I.loc,fun p hp=>?_,I.nd,I.tF⟩,fun zz zz e=>e,fun zz=>.inl rfl,fun b o zz m e=>k b o (fun q=>m (.inl q)) e,rfl,.refl _⟩
 ·exact I.glob.but (M:=(· = env.locals)) (fun a e=>by subst e; exact ⟨I.locals_new,I.loc.2.2⟩) k
 ·rw [upd_lookup] at hy
  by_cases hx:y = x
  ·subst hx; simp at hy; subst hy; exact ⟨v,by simp,r⟩
  ·simp [hx] at hy ⊢; exact hm y e hy hl
 ·rw [upd_lookup] at hy
  have hx:y ≠ x:=fun q=>hl (q ▸ hk)
  simp [hx] at hy
  obtain ⟨c,u,h1,h2,h3⟩:=I.cl y e hy hl
  exact ⟨c,u,h1,h2.sameBut hs (I.cells y c (mem_of_lookup h1)).2.2.1,h3⟩
 ·obtain ⟨⟨u,h1⟩,h2,h3,h4⟩:=I.cells n c hc
  exact ⟨⟨u,h1.sameBut hs h3⟩,h2,h3,h4⟩
 ·obtain ⟨h1,h2,h3⟩:=I.own p hp
  exact ⟨h1.keep (fun zz zz e=>e) fun o e=>k _ o (fun q=>I.loc.2.1 (q ▸ List.mem_map_of_mem hp)) e,h2,h3⟩
theorem inv_cell {x:Str} {d:D} {v:Value} {c:Addr} {h':Heap} {tk:Nat} (I:Inv X env F Γ Ω s) (hkc:env.kindOf x = some .cell) (hc:env.cells.lookup x = some c) (r:Rd X F v d)
  (hn:h'.IsCell c (some v)) (hs:Heap.SameBut c s.heap h'):Inv X env F (upd Γ x d) Ω { s with heap:=h',toks:=tk } /\ ExtM X (StM env [x]) F F s { s with heap:=h',toks:=tk }:=by
 have hk:env.kindOf x ≠ some .local:=by rw [hkc]; simp
 have k:∀ b o,b ≠ c -> s.heap.get? b = some o -> h'.get? b = some o:=fun b o hb e=>(hs.2 b hb).trans e
 have hm:=mem_of_lookup hc
 obtain ⟨_,hF,hcl,hcO,hcT⟩:=I.cells x c hm
 obtain ⟨m,hns,hmm⟩:=I.ns
 refine ⟨⟨I.eo,?_,I.fb,fun a o e=>k a o (fun q=>by rw [q,hF] at e; cases e) (I.fz a o e),⟨m,hns.sameBut hs (Ne.symm hcl),fun y e hy hl=>?_⟩,fun y e hy hl=>?_,fun n c' hc'=>?_,I.apart,I.loc,fun p hp=>?_,I.nd,I.tF⟩,fun zz zz e=>e,fun zz=>.inl rfl,fun b o zz m e=>k b o (fun q=>m (.inr ⟨x,by simp,hkc,q ▸ hc⟩)) e,rfl,.refl _⟩
 ·exact I.glob.but (M:=(· = c)) (fun a e=>by subst e; exact ⟨I.new0 hF hcT,hcT⟩) k
 ·rw [upd_lookup] at hy
  have hx:y ≠ x:=fun q=>hk (q ▸ hl)
  simp [hx] at hy
  exact hmm y e hy hl
 ·rw [upd_lookup] at hy
  by_cases hx:y = x
  ·subst hx; simp at hy; subst hy; exact ⟨c,v,hc,hn,r⟩
  ·simp [hx] at hy
   obtain ⟨c',u,h1,h2,h3⟩:=I.cl y e hy hl
   refine ⟨c',u,h1,h2.sameBut hs (fun q=>hx ?_),h3⟩
   exact name_of_addr I.apart (q ▸ mem_of_lookup h1) hm
 ·obtain ⟨⟨u,h1⟩,h2,h3,h4⟩:=I.cells n c' hc'
  by_cases q:c' = c
  ·subst q; exact ⟨⟨_,hn⟩,h2,h3,h4⟩
  ·exact ⟨⟨u,h1.sameBut hs q⟩,h2,h3,h4⟩
 ·obtain ⟨h1,h2,h3⟩:=I.own p hp
  exact ⟨h1.keep (fun zz zz e=>e) fun o e=>k _ o (fun q=>hcO (q ▸ List.mem_map_of_mem hp)) e,h2,h3⟩
noncomputable def storable (env:Env) (x:Str):Bool:=match env.kindOf x with | some .local=>true | some .cell=>(env.cells.lookup x).isSome | _=>false
abbrev Storable (env:Env) (x:Str):Prop:=storable env x = true
set_option tactic.hygienic true in
theorem store_rule {x:Str} {d:D} {v:Value} {Q:Unit -> Shared -> Prop} {E:Value -> Shared -> Prop} (I:Inv X env F Γ Ω s) (r:Rd X F v d)
  (hk:Storable env x)
  (h:∀ s',Inv X env F (upd Γ x d) Ω s' -> ExtM X (StM env [x]) F F s s' -> Q () s'):wpAny X.M A (storeName env x v) Q E s:=by
 have hp:(env.scope.kind == .class || (env.scope.kind == .module && env.locals != env.globals)) = false:=by rw [I.eo.kind]; rfl
 unfold Storable storable at hk
 split at hk
 ·rename_i hl
  obtain ⟨m,hn,hm⟩:=I.ns
  refine wpAny_storeName_local hl hn (fun h' hn' hs=>?_) hp
  obtain ⟨a,b⟩:=inv_local (tk:=s.toks + 1) I hl r hm hn' hs
  exact h _ a b
 ·rename_i hl
  obtain ⟨c,hc⟩:=Option.isSome_iff_exists.mp hk
  obtain ⟨⟨v0,hv0⟩,_⟩:=I.cells x c (mem_of_lookup hc)
  refine wpAny_storeName_cell I.eo.kind hl hc hv0 fun h' hv hs=>?_
  obtain ⟨a,b⟩:=inv_cell (tk:=s.toks) I hl hc r hv hs
  exact h _ a b
 ·cases hk
noncomputable def namesOf:List Expr -> List Str
 | []=>[]
 | .Name x _ :: r=>x :: namesOf r
 | _ :: r=>namesOf r
noncomputable def tgtNames:Expr -> List Str
 | .Name x _=>[x]
 | .Tuple es _ _=>namesOf es
 | _=>[]
structure AsgN (X:Cx) (A:Around) (env:Env) (Γ:Loc) (Ω:Own) (t:Expr) (d:D) (Γ':Loc):Prop where
 run:∀ F s v,Inv X env F Γ Ω s -> Rd X F v d -> wpAny X.M A (assign t env v) (fun zz s'=>Inv X env F Γ' Ω s' /\ ExtM X (StM env (tgtNames t)) F F s s') NoE s
instance {X:Cx} {A:Around} {env:Env} {Γ:Loc} {Ω:Own} {t:Expr} {d:D} {Γ':Loc}:CoeFun (AsgN X A env Γ Ω t d Γ') (fun zz=>∀ F s v,Inv X env F Γ Ω s -> Rd X F v d -> wpAny X.M A (assign t env v) (fun zz s'=>Inv X env F Γ' Ω s' /\ ExtM X (StM env (tgtNames t)) F F s s') NoE s):=⟨fun h=>h.run⟩
structure AsgT (X:Cx) (A:Around) (env:Env) (Γ:Loc) (Ω:Own) (t:Expr) (ds:List D) (Γ':Loc):Prop where
 run:∀ F s T vs,Inv X env F Γ Ω s -> s.heap.IsTuple T (List.toArray vs) -> RdL X F vs ds -> wpAny X.M A (assign t env (.ref T)) (fun zz s'=>Inv X env F Γ' Ω s' /\ ExtM X (StM env (tgtNames t)) F F s s') NoE s
instance {X:Cx} {A:Around} {env:Env} {Γ:Loc} {Ω:Own} {t:Expr} {ds:List D} {Γ':Loc}:CoeFun (AsgT X A env Γ Ω t ds Γ') (fun zz=>∀ F s T vs,Inv X env F Γ Ω s -> s.heap.IsTuple T (List.toArray vs) -> RdL X F vs ds -> wpAny X.M A (assign t env (.ref T)) (fun zz s'=>Inv X env F Γ' Ω s' /\ ExtM X (StM env (tgtNames t)) F F s s') NoE s):=⟨fun h=>h.run⟩
structure AsgL (X:Cx) (A:Around) (env:Env) (Γ:Loc) (Ω:Own) (ts:List Expr) (ds:List D) (Γ':Loc):Prop where
 run:∀ F s vs,Inv X env F Γ Ω s -> RdL X F vs ds -> wpAny X.M A (assignInOrder ((assignEach ts env).map (·.2)) vs) (fun zz s'=>Inv X env F Γ' Ω s' /\ ExtM X (StM env (namesOf ts)) F F s s') NoE s
instance {X:Cx} {A:Around} {env:Env} {Γ:Loc} {Ω:Own} {ts:List Expr} {ds:List D} {Γ':Loc}:CoeFun (AsgL X A env Γ Ω ts ds Γ') (fun zz=>∀ F s vs,Inv X env F Γ Ω s -> RdL X F vs ds -> wpAny X.M A (assignInOrder ((assignEach ts env).map (·.2)) vs) (fun zz s'=>Inv X env F Γ' Ω s' /\ ExtM X (StM env (namesOf ts)) F F s s') NoE s):=⟨fun h=>h.run⟩
theorem asg_name {x:Str} {pos:Pos} {d:D} (hk:Storable env x):AsgN X A env Γ Ω (.Name x pos) d (upd Γ x d):=by
 refine ⟨?_⟩
 intro F s v I r
 exact PySem.wpAny_assign_Name (store_rule I r hk fun s' a b=>⟨a,b⟩)
theorem asgl_nil:AsgL X A env Γ Ω [] [] Γ:=by
 refine ⟨?_⟩
 intro F s vs I r
 exact r.nil_elim (wpAny_pure ⟨I,(I.stay fun zz zz e=>e).toM⟩)
theorem StM.cons {x:Str} {ns:List Str} {a:Addr} (h:StM env ns a):StM env (x :: ns) a:=h.imp id fun ⟨y,m,r⟩=>⟨y,List.mem_cons_of_mem _ m,r⟩
theorem StM.one {x:Str} {ns:List Str} {a:Addr} (h:StM env [x] a):StM env (x :: ns) a:=h.imp id fun ⟨y,m,r⟩=>⟨y,by simp at m; simp [m],r⟩
theorem asgl_cons {x:Str} {pos:Pos} {ts:List Expr} {d:D} {ds:List D} {Γ':Loc} (hk:Storable env x) (h:AsgL X A env (upd Γ x d) Ω ts ds Γ'):AsgL X A env Γ Ω (.Name x pos :: ts) (d :: ds) Γ':=by
 refine ⟨?_⟩
 intro F s vs I r
 refine r.cons_elim fun v vs r rs=>?_
 show wpAny X.M A (do holding vs (assign (.Name x pos) env v); assignInOrder ((assignEach ts env).map (·.2)) vs) _ _ s
 refine wpAny_bind (wpAny_holding (wpAny_mono (asg_name hk F s v I r) (fun zz ss1 hh1=>?_) fun zz zz e=>e))
 refine wpAny_mono (h F ss1 vs hh1.1 rs) (fun zz ss2 hh2=>⟨hh2.1,?_⟩) fun zz zz e=>e
 exact (hh1.2.mono fun a m=>StM.one m).trans (hh2.2.mono fun a m=>StM.cons m) hh1.1.glob fun a m=>⟨I.stM m,hh2.1.stM m⟩
theorem asg_tuple {ts:List Expr} {k:Nat} {pos:Pos} {ds:List D} {Γ':Loc} (hh:A.handled = none) (h:AsgL X A env Γ Ω ts ds Γ') (hn:(assignEach ts env).length = ds.length) (hstar:(assignEach ts env).findIdx? (·.1) = none):AsgT X A env Γ Ω (.Tuple ts k pos) ds Γ':=by
 refine ⟨?_⟩
 intro F s T vs I ht r
 refine PySem.wpAny_assign_Tuple hh ht (by rw [hn,List.size_toArray,r.length]) hstar fun h' he=>?_
 have x:=I.stay (s':={ s with heap:=h' }) (fun b o e=>he b o (Nat.ne_of_lt (Heap.lt_size e)) e)
 have I1:=I.ext x
 exact wpAny_mono (h F _ vs I1 r) (fun zz ss2 hh2=>⟨hh2.1,x.toM.trans hh2.2 I1.glob fun a m=>⟨I.stM m,hh2.1.stM m⟩⟩) fun zz zz e=>e
theorem Inv.tup (I:Inv X env F Γ Ω s) {v:Value} {ds:List D} (r:Rd X F v (.tup ds)):∃ T vs,v = .ref T /\ s.heap.IsTuple T (List.toArray vs) /\ RdL X F vs ds:=by
 obtain ⟨a,e,o,vs,n,h1,h2,h3,h4⟩:=r.inv
 exact ⟨a,vs,e,⟨o,I.fz _ _ h1,h2,n,h3⟩,h4⟩
theorem asg_of_tuple {t:Expr} {ds:List D} {Γ':Loc} (h:AsgT X A env Γ Ω t ds Γ'):AsgN X A env Γ Ω t (.tup ds) Γ':=by
 refine ⟨?_⟩
 intro F s v I r
 obtain ⟨T,vs,rfl,ht,rs⟩:=I.tup r
 exact h F s T vs I ht rs
set_option tactic.hygienic true in
theorem ex_assign {x:Str} {p:Pos} {value:Expr} {pos:Pos} {d:D} {R:PostP} (he:Ev X A env Γ Ω value d) (hk:Storable env x) (hr:R .next (upd Γ x d) Ω)
  (hs:swapsWith value (some (.Name x p)) pos.line env = pure false):Ex X A env Γ Ω (.Assign [.Name x p] value pos) R:=by
 refine ⟨?_⟩
 intro F s I
 refine PySem.wpAny_Assign_Name (Q:=_) (res_then I (he F s I) fun v F1 ss1 x1 I1 r=>?_) hs
 exact store_rule I1 r hk fun s' a b=>⟨F1,_,Ω,.next,hr,trivial,a,x1.toS.trans I I1 a b.toS⟩
set_option tactic.hygienic true in
theorem ex_assign_t {ts:List Expr} {k:Nat} {p:Pos} {value:Expr} {pos:Pos} {ds:List D} {Γ':Loc} {R:PostP} (he:Ev X A env Γ Ω value (.tup ds)) (ha:AsgT X A env Γ Ω (.Tuple ts k p) ds Γ') (hr:R .next Γ' Ω)
  (hs:swapsWithSole [.Tuple ts k p] value pos.line env = pure false) (hw:swappedStores [.Tuple ts k p] value env = pure none):Ex X A env Γ Ω (.Assign [.Tuple ts k p] value pos) R:=by
 refine ⟨?_⟩
 intro F s I
 refine PyProof.Rows.Assign_Tuple (res_then I (he F s I) fun v F1 ss1 x1 I1 r=>?_) hs hw
 exact wpAny_mono (asg_of_tuple ha F1 ss1 v I1 r) (fun zz ss2 h=>⟨F1,Γ',Ω,.next,hr,trivial,h.1,x1.toS.trans I I1 h.1 h.2.toS⟩) fun zz zz e=>e.elim
structure Binds (X:Cx) (A:Around) (env:Env) (Γ:Loc) (Ω:Own) (ns:List Str) (ds:List D) (Γ':Loc):Prop where
 run:∀ F s vs,Inv X env F Γ Ω s -> RdL X F vs ds -> wpAny X.M A (assignInOrder (ns.map fun n=>bindName env n) vs) (fun zz s'=>Inv X env F Γ' Ω s' /\ ExtS X env Ω Ω F F s s') NoE s
instance {X:Cx} {A:Around} {env:Env} {Γ:Loc} {Ω:Own} {ns:List Str} {ds:List D} {Γ':Loc}:CoeFun (Binds X A env Γ Ω ns ds Γ') (fun zz=>∀ F s vs,Inv X env F Γ Ω s -> RdL X F vs ds -> wpAny X.M A (assignInOrder (ns.map fun n=>bindName env n) vs) (fun zz s'=>Inv X env F Γ' Ω s' /\ ExtS X env Ω Ω F F s s') NoE s):=⟨fun h=>h.run⟩
theorem binds_nil:Binds X A env Γ Ω [] [] Γ:=by
 refine ⟨?_⟩
 intro F s vs I r
 exact r.nil_elim (wpAny_pure ⟨I,(I.stay fun zz zz e=>e).toS⟩)
theorem binds_cons {x:Str} {ns:List Str} {d:D} {ds:List D} {Γ':Loc} (hk:Storable env x) (h:Binds X A env (upd Γ x d) Ω ns ds Γ'):Binds X A env Γ Ω (x :: ns) (d :: ds) Γ':=by
 refine ⟨?_⟩
 intro F s vs I r
 refine r.cons_elim fun v vs r rs=>?_
 show wpAny X.M A (do holding vs (bindName env x v); assignInOrder (ns.map fun n=>bindName env n) vs) _ _ s
 refine wpAny_bind (wpAny_holding (PySem.wpAny_bindName (Q:=_) (store_rule I r hk fun ss1 a b=>?_)))
 exact wpAny_mono (h F ss1 vs a rs) (fun zz ss2 hh2=>⟨hh2.1,b.toS.trans I a hh2.1 hh2.2⟩) fun zz zz e=>e
set_option tactic.hygienic true in
theorem ex_assign_w {ts:List Expr} {k:Nat} {p:Pos} {value:Expr} {pos:Pos} {names:List Str} {ds:List D} {Γ':Loc} {R:PostP} (hh:A.handled = none) (he:Ev X A env Γ Ω value (.tup ds)) (ha:Binds X A env Γ Ω names.reverse ds.reverse Γ') (hr:R .next Γ' Ω)
  (hn:names.length = ds.length) (hs:swapsWithSole [.Tuple ts k p] value pos.line env = pure false) (hw:swappedStores [.Tuple ts k p] value env = pure (some names)):Ex X A env Γ Ω (.Assign [.Tuple ts k p] value pos) R:=by
 refine ⟨?_⟩
 intro F s I
 refine PyProof.Rows.Assign_Tuple_swapped (res_then I (he F s I) fun v F1 ss1 x1 I1 r=>?_) hs hw
 obtain ⟨T,vs,rfl,ht,rs⟩:=I1.tup r
 have hz:names.length = (List.toArray vs).size:=by rw [hn,List.size_toArray,rs.length]
 rw [hz]
 refine wpAny_unpackItems_tuple hh ht fun h' he=>?_
 have x:=I1.stay (s':={ ss1 with heap:=h' }) (fun b o e=>he b o (Nat.ne_of_lt (Heap.lt_size e)) e)
 have I2:=I1.ext x
 exact wpAny_mono (ha F1 _ _ I2 rs.reverse) (fun zz ss3 h=>⟨F1,Γ',Ω,.next,hr,trivial,h.1,(x1.toS.trans I I1 I2 x.toS).trans I I2 h.1 h.2⟩) fun zz zz e=>e.elim
set_option tactic.hygienic true in
theorem ex_aug {x:Str} {p:Pos} {op:Operator} {value:Expr} {pos:Pos} {d0 dd1 d:D} {R:PostP} (hh0:Γ.lookup x = some d0) (hv:IsVar env x) (hc:(x == ("__classdict__" : Str)) = false) (he:Ev X A env Γ Ω value dd1) (ho:Op2 X A env Γ Ω (inplaceOp op) d0 dd1 d) (hk:Storable env x) (hr:R .next (upd Γ x d) Ω):Ex X A env Γ Ω (.AugAssign (.Name x p) op value pos) R:=by
 refine ⟨?_⟩
 intro F s I
 refine PySem.wpAny_AugAssign_Name (Q:=_) (res_then I (ld_var hh0 hv hc I) fun v0 F1 ss1 x1 I1 rr1=>res_then I1 (he F1 ss1 I1) fun vv2 F2 ss2 xx2 I2 rr2=>res_then I2 (ho F2 ss2 v0 vv2 I2 (rr1.mono xx2.le) rr2) fun v F3 ss3 xx3 I3 rr3=>?_)
 have x':=(x1.trans xx2 I.glob.tabs_there).trans xx3 I.glob.tabs_there
 exact store_rule I3 rr3 hk fun s' a b=>⟨F3,_,Ω,.next,hr,trivial,a,x'.toS.trans I I3 a b.toS⟩
theorem op_iadd {i j:Int}:Op2 X A env Γ Ω (inplaceOp .Add) (.int i) (.int j) (.int (i + j)):=op2_int fun zz zz I=>PyProof.Rows.iadd_int (I.res (.int _ _))
theorem op_isub {i j:Int}:Op2 X A env Γ Ω (inplaceOp .Sub) (.int i) (.int j) (.int (i - j)):=op2_int fun zz zz I=>PyProof.Rows.isub_int (I.res (.int _ _))
inductive Less (J:Nat -> Loc -> Own -> Prop) (n:Nat) (Γ':Loc) (Ω':Own):Prop
 | mk (m:Nat) (h:m < n) (j:J m Γ' Ω')
inductive WhTurn (X:Cx) (A:Around) (env:Env) (Γ:Loc) (Ω:Own) (t:Expr) (body:List Stmt) (P:PostP) (Q:Prop):Prop
 | mk (b:Bool) (ht:EvT X A env Γ Ω t b) (hb:b = true -> Exs X A env Γ Ω body P) (hf:b = false -> Q)
set_option tactic.hygienic true in
theorem ex_while {t:Expr} {body:List Stmt} {pos:Pos} {R:PostP} (J:Nat -> Loc -> Own -> Prop) {n:Nat} (hh0:J n Γ Ω)
  (turn:∀ n Γ₁ Ω1,J n Γ₁ Ω1 -> WhTurn X A env Γ₁ Ω1 t body (LoopP (Less J n) R) (R .next Γ₁ Ω1)):Ex X A env Γ Ω (.While t body [] pos) R:=by
 refine ⟨?_⟩
 intro F s I
 refine PySem.wpAny_While (Q:=_) (codeAny_whileLoop (fun n s'=>∃ F' Γ' Ω',J n Γ' Ω' /\ Inv X env F' Γ' Ω' s' /\ ExtS X env Ω Ω' F F' s s') ?_ n ⟨F,Γ,Ω,hh0,I,(I.stay fun zz zz e=>e).toS⟩)
 rintro n ss1 ⟨F1,Γ₁,Ω1,hj,I1,x1⟩
 obtain ⟨b,ht,hb,hf⟩:=turn n Γ₁ Ω1 hj
 refine evt_then I1 (ht F1 ss1 I1) fun F2 ss2 xx2 I2=>?_
 have x12:=x1.trans I I1 I2 xx2.toS
 cases b with
 | false=>
  rw [if_neg (by decide)]
  exact wpAny_execs_nil ⟨F2,Γ₁,Ω1,.next,hf rfl,trivial,I2,x12⟩
 | true=>
  rw [if_pos rfl]
  refine wpAny_mono (hb rfl F2 ss2 I2) (fun f ss3 p=>?_) fun zz zz e=>e.elim
  obtain ⟨F3,Γ3,Ω3,fd,hr,rf,I3,xx3⟩:=p
  have x13:=x12.trans I I2 I3 xx3
  revert hr
  exact rf.on (fun ⟨m,h,j⟩=>⟨m,h,F3,Γ3,Ω3,j,I3,x13⟩) (fun hr=>⟨F3,Γ3,Ω3,.next,hr,trivial,I3,x13⟩) (fun ⟨m,h,j⟩=>⟨m,h,F3,Γ3,Ω3,j,I3,x13⟩) fun v d r hr=>⟨F3,Γ3,Ω3,.ret _,hr,r,I3,x13⟩
end
section
variable {X:Cx} {A:Around} {env:Env} {Γ:Loc} {Ω:Own} {F F':FS} {s s':Shared}
theorem get_none {h:Heap} {a:Addr} (k:∀ o,h.get? a = some o -> False):h.get? a = none:=Option.eq_none_iff_forall_ne_some.mpr k
theorem fresh_le {h:Heap} {a:Addr} (ha:h.objs.size <= a):h.get? a = none:=get_none fun zz e=>absurd (Heap.lt_size e) (Nat.not_lt.mpr ha)
theorem Inv.nF (I:Inv X env F Γ Ω s) {a:Addr} (ha:s.heap.get? a = none):F a = none:=Option.eq_none_iff_forall_ne_some.mpr fun o e=>nomatch ha.symm.trans (I.fz a o e)
theorem clash {h:Heap} {a:Addr} {o:Obj} {P:Prop} (h1:h.get? a = none) (h2:h.get? a = some o):P:=nomatch h1.symm.trans h2
theorem Inv.nT (I:Inv X env F Γ Ω s) {a:Addr} (ha:s.heap.get? a = none):a ∉ X.T:=fun hT=>(I.glob.tabs_there a hT).elim fun o e=>clash ha e
theorem Inv.nO (I:Inv X env F Γ Ω s) {a:Addr} (ha:s.heap.get? a = none):a ∉ Ω.map (·.1):=fun hm=>by
 obtain ⟨p,hp,rfl⟩:=List.mem_map.mp hm
 exact (I.own p hp).1.some.elim fun o e=>clash ha e
theorem Inv.nC (I:Inv X env F Γ Ω s) {a:Addr} (ha:s.heap.get? a = none):a ∉ env.cells.map (·.2):=fun hm=>by
 obtain ⟨p,hp,rfl⟩:=List.mem_map.mp hm
 obtain ⟨⟨v,o,e,_⟩,_⟩:=I.cells p.1 p.2 hp
 exact clash ha e
theorem Inv.nL (I:Inv X env F Γ Ω s) {a:Addr} (ha:s.heap.get? a = none):a ≠ env.locals:=fun q=>I.ns.elim fun m h=>(ns_there h.1).elim fun o e=>clash (q ▸ ha) e
theorem Inv.back (I:Inv X env F' Γ Ω s') {F:FS} (x:Ext X F F' s s') {a:Addr} (ha:s'.heap.get? a = none):s.heap.get? a = none:=get_none fun o e=>nomatch ha.symm.trans (x.keep a o (I.nT ha) e)
theorem lookup_nd {α β:Type} [BEq α] [LawfulBEq α] {l:List (α × β)} {a:α} {b:β} (hn:(l.map (·.1)).Nodup) (h:(a,b) ∈ l):l.lookup a = some b:=by
 induction l with
 | nil=>cases h
 | cons p r ih=>
  obtain ⟨x,y⟩:=p
  obtain ⟨h1,h2⟩:=List.nodup_cons.mp hn
  rw [List.lookup_cons]
  rcases List.mem_cons.mp h with e | h
  ·cases e; rw [beq_self_eq_true]
  ·rw [show (a == x) = false from beq_eq_false_iff_ne.mpr fun e=>h1 (e ▸ List.mem_map_of_mem (f:=(·.1)) h)]; exact ih h2 h
theorem Inv.touch (I:Inv X env F Γ Ω s) {M:Addr -> Prop} (hM:∀ a,M a -> F a = none /\ a ∉ X.T /\ a ≠ env.locals /\ a ∉ env.cells.map (·.2) /\ a ∉ Ω.map (·.1))
  (hk:∀ b o,¬M b -> s.heap.get? b = some o -> s'.heap.get? b = some o):Inv X env F Γ Ω s' where
 eo:=I.eo
 glob:=I.glob.but (fun a m=>⟨I.new0 (hM a m).1 (hM a m).2.1,(hM a m).2.1⟩) hk
 fb:=I.fb
 fz:=fun a o e=>hk a o (fun m=>by rw [(hM a m).1] at e; cases e) (I.fz a o e)
 ns:=by
  obtain ⟨m,hn,hm⟩:=I.ns
  exact ⟨m,hn.at' fun o e=>hk _ o (fun m=>(hM _ m).2.2.1 rfl) e,hm⟩
 cl:=fun y d h1 h2=>by
  obtain ⟨c,v,hc,⟨o,ho,hd⟩,r⟩:=I.cl y d h1 h2
  exact ⟨c,v,hc,⟨o,hk _ _ (fun m=>(hM _ m).2.2.2.1 (List.mem_map_of_mem (f:=(·.2)) (mem_of_lookup hc))) ho,hd⟩,r⟩
 cells:=fun n c hm=>by
  obtain ⟨⟨v,o,ho,hd⟩,r⟩:=I.cells n c hm
  exact ⟨⟨v,o,hk _ _ (fun m=>(hM _ m).2.2.2.1 (List.mem_map_of_mem (f:=(·.2)) hm)) ho,hd⟩,r⟩
 apart:=I.apart
 loc:=I.loc
 own:=fun p hp=>by
  obtain ⟨h1,h2⟩:=I.own p hp
  exact ⟨h1.keep (fun zz zz e=>e) fun o e=>hk _ o (fun m=>(hM _ m).2.2.2.2 (List.mem_map_of_mem hp)) e,h2⟩
 nd:=I.nd
 tF:=I.tF
noncomputable def isTup (e:Expr):Bool:=e.ctorIdx == (Expr.Tuple [] 0 default).ctorIdx
inductive Item (X:Cx) (t:Expr) (F:FS) (h:Heap) (ds:List D) (i:Nat) (v:Value):Prop
 | one (d:D) (e:ds[i]? = some d) (ht:isTup t = false) (r:Rd X F v d)
 | tup (T:Addr) (vs:List Value) (es:List D) (hv:v = .ref T) (e:ds[i]? = some (.tup es)) (ht:isTup t = true) (hT:h.IsTuple T (List.toArray vs)) (r:RdL X F vs es)
abbrev There (h:Heap) (b:Addr):Prop:=∃ o,h.get? b = some o
structure Src (X:Cx) (A:Around) (t:Expr) (ds:List D) (F:FS) (it:Value) (ss0 s:Shared) (I:Addr) (fp wr:List Addr) (P Md:Nat -> Value -> Heap -> Prop) (St:Nat -> Heap -> Prop):Prop where
 it:it = .ref I
 turns:KTurns X.prog X.w A t I fp wr ds.length P Md St
 st:St 0 s.heap
 hwr:∀ b ∈ wr,F b = none /\ ss0.heap.get? b = none
 hT:∀ b ∈ fp,b ∉ X.T
 live:∀ i h,St i h -> ∀ b ∈ fp,There h b
 item:∀ i v h F',P i v h -> F.le F' -> (∀ a o,F' a = some o -> h.get? a = some o) -> Item X t F' h ds i v
 self:∀ i (s:Shared) (Q:Value -> Shared -> Prop) (E:Value -> Shared -> Prop),St i s.heap -> Q (.ref I) s -> wpAny X.M A (pyIter (.ref I)) Q E s
inductive ItR (X:Cx) (A:Around) (env:Env) (Ω:Own) (t:Expr) (ds:List D) (al:List Addr) (F:FS) (s:Shared) (it:Value) (ss2:Shared):Prop
 | mk (F2:FS) (x:Ext X F F2 s ss2) (I:Addr) (fp wr:List Addr) (P Md:Nat -> Value -> Heap -> Prop) (St:Nat -> Heap -> Prop) (S:Src X A t ds F2 it s ss2 I fp wr P Md St)
  (off:∀ b ∈ fp,b ≠ env.locals /\ b ∉ env.cells.map (·.2) /\ (b ∈ Ω.map (·.1) -> b ∈ al))
structure EvIt (X:Cx) (A:Around) (env:Env) (Γ:Loc) (Ω:Own) (t e:Expr) (ds:List D) (al:List Addr):Prop where
 run:∀ F s,Inv X env F Γ Ω s -> wpAny X.M A (eval e env) (fun x ss1=>wpAny X.M A (pyIter x) (ItR X A env Ω t ds al F s) NoE ss1) NoE s
instance {X:Cx} {A:Around} {env:Env} {Γ:Loc} {Ω:Own} {t e:Expr} {ds:List D} {al:List Addr}:CoeFun (EvIt X A env Γ Ω t e ds al) (fun zz=>∀ F s,Inv X env F Γ Ω s -> wpAny X.M A (eval e env) (fun x ss1=>wpAny X.M A (pyIter x) (ItR X A env Ω t ds al F s) NoE ss1) NoE s):=⟨fun h=>h.run⟩
noncomputable def AsgI (X:Cx) (A:Around) (env:Env) (Γ:Loc) (Ω:Own) (t:Expr) (d:D) (Γ':Loc):Prop:=
 (isTup t = true -> ∀ es,d = .tup es -> AsgT X A env Γ Ω t es Γ') /\ (isTup t = false -> AsgN X A env Γ Ω t d Γ')
theorem Src.asg {t:Expr} {ds:List D} {F2 F1:FS} {It:Value} {ss0 ss2 ss3:Shared} {I:Addr} {fp wr:List Addr} {P Md:Nat -> Value -> Heap -> Prop} {St:Nat -> Heap -> Prop} (S:Src X A t ds F2 It ss0 ss2 I fp wr P Md St) (I3:Inv X env F1 Γ Ω ss3) {i:Nat} {v:Value} (hP:P i v ss3.heap) (le:F2.le F1) {Q:Unit -> Shared -> Prop} {E:Value -> Shared -> Prop}
  (k:∀ d,ds[i]? = some d -> ∃ Γ₂,AsgI X A env Γ Ω t d Γ₂ /\ ∀ ss4,Inv X env F1 Γ₂ Ω ss4 -> ExtM X (StM env (tgtNames t)) F1 F1 ss3 ss4 -> Q () ss4):wpAny X.M A (assign t env v) Q E ss3:=by
 rcases S.item i v _ F1 hP le I3.fz with ⟨d,hd,ht,r⟩ | ⟨T,vs,es,rfl,hd,ht,hT,r⟩
 ·obtain ⟨Γ₂,ha,k⟩:=k d hd
  exact wpAny_mono (ha.2 ht F1 _ v I3 r) (fun zz ss4 h=>k ss4 h.1 h.2) fun zz zz e=>e.elim
 ·obtain ⟨Γ₂,ha,k⟩:=k _ hd
  exact wpAny_mono (ha.1 ht es rfl F1 _ T vs I3 hT r) (fun zz ss4 h=>k ss4 h.1 h.2) fun zz zz e=>e.elim
inductive ForAt (X:Cx) (env:Env) (F:FS) (Ω:Own) (s:Shared) (J:Nat -> Loc -> Own -> Prop) (n:Nat) (F2:FS) (fp wr:List Addr) (St:Nat -> Heap -> Prop) (k:Nat) (s':Shared):Prop
 | mk (F':FS) (Γ':Loc) (Ω':Own) (i:Nat) (j:J i Γ' Ω') (I:Inv X env F' Γ' Ω' s') (x:ExtS X env Ω Ω' F F' s s') (st:St i s'.heap) (hi:i <= n) (hk:k = n + 1 - i) (le:F2.le F') (hw:∀ b ∈ wr,F' b = none) (hf:∀ b ∈ fp,b ∉ Ω'.map (·.1))
inductive ForTurn (X:Cx) (A:Around) (env:Env) (Γ:Loc) (Ω:Own) (t:Expr) (d:D) (body:List Stmt) (P:PostP):Prop
 | mk (Γ₂:Loc) (ha:AsgI X A env Γ Ω t d Γ₂) (hb:Exs X A env Γ₂ Ω body P)
set_option tactic.hygienic true in
theorem ex_for {t iter:Expr} {body:List Stmt} {pos:Pos} {ds:List D} {R:PostP} (J:Nat -> Loc -> Own -> Prop) (hit:EvIt X A env Γ Ω t iter ds []) (hh0:J 0 Γ Ω)
  (turn:∀ i d Γ₁ Ω1,ds[i]? = some d -> J i Γ₁ Ω1 -> ForTurn X A env Γ₁ Ω1 t d body (LoopP (J (i + 1)) R))
  (done:∀ Γ' Ω',J ds.length Γ' Ω' -> R .next Γ' Ω') (hs:∀ x,foldedSetIterable iter env x = pure x):Ex X A env Γ Ω (.For t iter body [] pos) R:=by
 refine ⟨?_⟩
 intro F s I
 refine PySem.wpAny_For (Q:=_) (wpAny_mono (hit F s I) (fun x ss1 hh1=>wpAny_mono hh1 (fun it ss2 hh2=>?_) fun zz zz e=>e.elim) fun zz zz e=>e.elim) hs
 obtain ⟨F2,xx2,It,fp,wr,P,Md,St,S,off⟩:=hh2
 rw [S.it]
 have W:=S.turns
 have hfp:∀ b ∈ fp,b ≠ env.locals /\ b ∉ env.cells.map (·.2) /\ b ∉ Ω.map (·.1):=fun b hb=>⟨(off b hb).1,(off b hb).2.1,fun h=>nomatch (off b hb).2.2 h⟩
 refine codeAny_forLoop_any (ForAt X env F Ω s J ds.length F2 fp wr St) ?_ (ds.length + 1)
  ⟨F2,Γ,Ω,0,hh0,I.ext xx2,xx2.toS,S.st,Nat.zero_le _,rfl,fun zz zz e=>e,fun b hb=>(S.hwr b hb).1,fun b hb=>(hfp b hb).2.2⟩
 intro k ss1 hh1
 obtain ⟨F1,Γ₁,Ω1,i,hj,I1,x1,hst1,hi,hk,hhF1,hw1,hf1⟩:=hh1
 have step:∀ (h':Heap) (tk:Nat),(∀ b o,b ∉ wr -> ss1.heap.get? b = some o -> h'.get? b = some o) -> Inv X env F1 Γ₁ Ω1 { ss1 with heap:=h',toks:=tk } /\ ExtS X env Ω Ω1 F F1 s { ss1 with heap:=h',toks:=tk }:=fun h' tk hk=>
  ⟨I1.touch (M:=(· ∈ wr)) (fun a ha=>⟨hw1 a ha,S.hT a (W.sub a ha),(hfp a (W.sub a ha)).1,(hfp a (W.sub a ha)).2.1,hf1 a (W.sub a ha)⟩) hk,
   x1.le,x1.new,fun b o h1 h2 h3 h4 e=>hk b o (fun hb=>nomatch (S.hwr b hb).2.symm.trans e) (x1.keep b o h1 h2 h3 h4 e),x1.dom,x1.os,x1.gens⟩
 by_cases hlt:i < ds.length
 ·refine W.item i _ _ _ hlt hst1 fun v hh2 ttk2 hmd hk2=>W.go i v _ _ _ hmd fun hh3 hP hst3 hhk3=>?_
  obtain ⟨I3,xx3⟩:=step hh3 ttk2 fun b o hb e=>hhk3 b o hb (hk2 b o hb e)
  refine S.asg I3 hP hhF1 fun d hd=>let ⟨Γ₂,ha,hb⟩:=turn i d Γ₁ Ω1 hd hj; ⟨Γ₂,ha,fun ss4 I4 xx4=>wpAny_mono (hb F1 ss4 I4) (fun f ss5 p=>?_) fun zz zz e=>e.elim⟩
  obtain ⟨F5,Γ5,Ω5,fd,hr,rf,I5,x5⟩:=p
  have x45:=xx4.toS.trans I3 I4 I5 x5
  have x05:=xx3.trans I I3 I5 x45
  have ex3:=S.live _ _ hst3
  have fin:J (i + 1) Γ5 Ω5 -> ∃ m,m < k /\ ForAt X env F Ω s J ds.length F2 fp wr St m ss5:=fun hj'=>
   ⟨ds.length - i,by rw [hk,Nat.succ_sub hi]; exact Nat.lt_succ_self _,F5,Γ5,Ω5,i + 1,hj',I5,x05,W.frame _ _ _ hst3 fun b hb o e=>x45.keep b o (S.hT b hb) (hfp b hb).1 (hfp b hb).2.1 (hf1 b hb) e,hlt,(Nat.add_sub_add_right ..).symm,fun a o e=>x45.le a o (hhF1 a o e),
    fun b hb=>(x45.new b).elim (fun e=>e.trans (hw1 b hb)) fun h=>h.elim (fun e=>(ex3 b (W.sub b hb)).elim fun o ho=>nomatch ho.symm.trans e) fun e=>absurd e (hf1 b (W.sub b hb)),
    fun b hb hm=>(x45.dom b hm).elim (hf1 b hb) fun e=>(ex3 b hb).elim fun o ho=>nomatch ho.symm.trans e⟩
  revert hr
  exact rf.on fin (fun hr=>⟨F5,Γ5,Ω5,.next,hr,trivial,I5,x05⟩) fin fun v d r hr=>⟨F5,Γ5,Ω5,.ret _,hr,r,I5,x05⟩
 ·obtain rfl:i = ds.length:=Nat.le_antisymm hi (Nat.le_of_not_lt hlt)
  refine W.done _ _ _ hst1 fun h' tk hk=>?_
  obtain ⟨I3,xx3⟩:=step h' tk hk
  exact wpAny_execs_nil ⟨F1,Γ₁,Ω1,.next,done _ _ hj,trivial,I3,xx3⟩
end
section
variable {X:Cx} {A:Around} {env:Env} {Γ:Loc} {Ω:Own} {F F':FS} {s s':Shared}
noncomputable def testsS (ifs:List Expr) (env:Env):Sem Bool:=forIn ifs true fun c r=>if r = true then do let ok <- isTrue c env (eval c env); pure (ForInStep.yield ok) else pure (ForInStep.yield r)
noncomputable def emitL (elt:Expr) (acc:Value) (env:Env):Sem Unit:=do let _ <- call (.builtin "list.append") [acc,<- eval elt env]
noncomputable def emitD (k v:Expr) (acc:Value) (env:Env):Sem Unit:=do
 let kv <- eval k env
 let vv <- holding [kv] (eval v env)
 match acc with
 | .ref d=>do
  standAt { k.pos with endLine:=v.pos.endLine,endCol:=v.pos.endCol }
  holding [kv,vv] (dictSet d kv vv)
 | _=>unsupported "internal:dictcomp"
noncomputable def bodyS (e:Expr) (gens:List Comprehension) (emit:Sem Unit) (depth:Nat) (acc:Value) (env:Env) (ifs:List Expr) (k:Sem Fin):Sem Fin:=do
 let ok <- testsS ifs env
 if ok then
  match gens[depth + 1]? with
  | some g'=>
   let x <- eval g'.iter env
   standAt g'.iter.pos
   let x <- if g'.is_async != 0 then foldedIterable g'.iter x else foldedSetIterable g'.iter env x
   let _ <- runOwn (.compStart e (depth + 1) (<- holding [x] (if g'.is_async != 0 then asyncIter x else pyIter x)) acc env) env
   k
  | none=>do
   emit
   k
 else k
set_option tactic.hygienic true in
noncomputable def turnS (e:Expr) (gens:List Comprehension) (emit:Sem Unit) (depth:Nat) (it acc:Value) (env:Env) (t iter:Expr) (ifs:List Expr):Sem Fin:=do
 standAt iter.pos
 match <- pyNext it with
 | none=>pure (.done .next)
 | some v=>
  letOwnedTupleGo t it v
  assign t env v
  bodyS e gens emit depth acc env ifs (again (.compLoop e depth it acc env))
theorem turn_list {elt:Expr} {gens:List Comprehension} {scope:Scope} {pos:Pos} {depth:Nat} {it acc:Value} {t iter:Expr} {ifs:List Expr} (hg:gens[depth]? = some ⟨t,iter,ifs,0⟩) :
  compTurn (.ListComp elt gens scope pos) depth it acc env = turnS (.ListComp elt gens scope pos) gens (emitL elt acc env) depth it acc env t iter ifs:=by
 delta compTurn; dsimp only
 rw [hg]
 rfl
theorem turn_dict {k v:Expr} {gens:List Comprehension} {scope:Scope} {pos:Pos} {depth:Nat} {it acc:Value} {t iter:Expr} {ifs:List Expr} (hg:gens[depth]? = some ⟨t,iter,ifs,0⟩) :
  compTurn (.DictComp k v gens scope pos) depth it acc env = turnS (.DictComp k v gens scope pos) gens (emitD k v acc env) depth it acc env t iter ifs:=by
 delta compTurn; dsimp only
 rw [hg]
 rfl
structure IsComp (X:Cx) (e:Expr) (gens:List Comprehension) (emit:Value -> Env -> Sem Unit):Prop where
 cl:clausesOf e = gens
 quiet:∀ d it acc env,(Code.compLoop e d it acc env).quiet = true
 uL:∀ (A:Around) d it acc env,A.under (Code.compLoop e d it acc env) = A
 uS:∀ (A:Around) d it acc env,A.under (Code.compStart e d it acc env) = A
 loop:∀ {env:Env} {d it acc t iter ifs},gens[d]? = some ⟨t,iter,ifs,0⟩ -> X.M.den (.compLoop e d it acc env) = (turnS e gens (emit acc env) d it acc env t iter ifs).onRaise (fun x=>do noteFrame x env; theTreesLotGoes x)
 start:∀ {env:Env} {d it acc},X.M.den (.compStart e d it acc env) = (compStart e d it acc env).onRaise (fun x=>do noteFrame x env; standAt theWindowsPlace)
theorem isComp_list {elt:Expr} {gens:List Comprehension} {scope:Scope} {pos:Pos}:IsComp X (.ListComp elt gens scope pos) gens (emitL elt) where
 cl:=rfl
 quiet:=fun zz zz zz zz=>rfl
 uL:=fun zz zz zz zz zz=>rfl
 uS:=fun zz zz zz zz zz=>rfl
 loop:=fun {env d it acc t iter ifs} h=>by rw [<- turn_list h]; rfl
 start:=rfl
theorem isComp_dict {k v:Expr} {gens:List Comprehension} {scope:Scope} {pos:Pos}:IsComp X (.DictComp k v gens scope pos) gens (emitD k v) where
 cl:=rfl
 quiet:=fun zz zz zz zz=>rfl
 uL:=fun zz zz zz zz zz=>rfl
 uS:=fun zz zz zz zz zz=>rfl
 loop:=fun {env d it acc t iter ifs} h=>by rw [<- turn_dict h]; rfl
 start:=rfl
theorem comp_start {e:Expr} {gens:List Comprehension} {emit:Value -> Env -> Sem Unit} {d:Nat} {it acc:Value} {t iter:Expr} {ifs:List Expr} {R:Result -> Shared -> Prop} (C:IsComp X e gens emit) (hg:gens[d]? = some ⟨t,iter,ifs,0⟩)
  (h0:codeAny X.M A (.compLoop e d it acc env) R s) (hit:wpAny X.M A (pyIter it) (fun it' s'=>it' = it /\ s' = s) NoE s):codeAny X.M A (.compStart e d it acc env) R s:=by
 refine codeAny_of_tree ?_
 rw [C.uS,C.start]
 refine wpAny_notedAt ?_
 unfold compStart
 rw [C.cl,hg]
 have q:=C.quiet d it acc env
 show wpAny _ A (ask >>= _) _ _ s
 refine wpAny_bind (wpAny_askSetting (wpAny_ite ?_))
 split
 ·exact wpAny_bind (wpAny_pure (wpAny_pure (And.intro q h0)))
 ·refine wpAny_bind (wpAny_rule ?_)
  show wpAny _ _ (standAt iter.pos >>= _) _ _ s
  refine wpAny_bind (wpAny_standAt (wpAny_bind (wpAny_mono hit (fun it' s' h'=>?_) fun zz zz x=>x.elim)))
  obtain ⟨rfl,rfl⟩:=h'
  exact wpAny_pure (And.intro q h0)
abbrev CM (env:Env) (ns:List Str) (D:Addr) (a:Addr):Prop:=StM env ns a \/ a = D
theorem StM.mono {ns ns':List Str} {a:Addr} (h:∀ x ∈ ns,x ∈ ns') (m:StM env ns a):StM env ns' a:=m.imp id fun ⟨x,hx,r⟩=>⟨x,h x hx,r⟩
theorem Inv.cm {D:Addr} {c:OC} (I:Inv X env F Γ ((D,c) :: Ω) s) {ns:List Str} {a:Addr} (m:CM env ns D a):F a = none:=by
 rcases m with m | rfl
 ·exact I.stM m
 ·exact (I.own _ (List.mem_cons_self ..)).2.1
theorem off_cm {ns:List Str} {b D:Addr} (h:b ≠ env.locals /\ b ∉ env.cells.map (·.2) /\ b ≠ D):¬CM env ns D b:=by
 rintro ((m | ⟨y,_,_,m⟩) | m)
 ·exact h.1 m
 ·exact h.2.1 (List.mem_map_of_mem (f:=(·.2)) (mem_of_lookup m))
 ·exact h.2.2 m
theorem Inv.ownT (I:Inv X env F Γ Ω s) {a:Addr} (ha:a ∈ Ω.map (·.1)):a ∉ X.T:=by
 obtain ⟨p,hp,rfl⟩:=List.mem_map.mp ha
 exact (I.own p hp).2.2
theorem Inv.own_off {ns:List Str} {D:Addr} {c:OC} (I:Inv X env F Γ ((D,c) :: Ω) s) {a:Addr} (ha:a ∈ Ω.map (·.1)):¬CM env ns D a:=
 off_cm ⟨fun e=>I.loc.2.1 (e ▸ List.mem_cons_of_mem _ ha),fun m=>(List.mem_map.mp m).elim fun p h=>(I.cells p.1 a (h.2 ▸ h.1)).2.2.2.1 (List.mem_cons_of_mem _ ha),fun e=>(List.nodup_cons.mp I.nd).1 (e ▸ ha)⟩
abbrev Grown (Ω Ω':Own) (s:Shared):Prop:=∀ a ∈ Ω'.map (·.1),a ∈ Ω.map (·.1) \/ s.heap.get? a = none
structure Turn (X:Cx) (A:Around) (env:Env) (Γ Γ0:Loc) (Ω:Own) (c:OC) (e:Expr) (gens:List Comprehension) (emit:Value -> Env -> Sem Unit) (depth:Nat) (ifs:List Expr) (ns:List Str) (R:OC -> Own -> Prop):Prop where
 run:∀ D F s,Inv X env F Γ ((D,c) :: Ω) s -> ∀ (k:Sem Fin) (Q:Fin -> Shared -> Prop) (E:Value -> Shared -> Prop),
  (∀ F' c' Ω' s',R c' Ω' -> Inv X env F' Γ0 ((D,c') :: Ω') s' -> ExtM X (CM env ns D) F F' s s' -> Grown Ω Ω' s -> wpAny X.M A k Q E s') ->
  wpAny X.M A (bodyS e gens (emit (.ref D) env) depth (.ref D) env ifs k) Q E s
set_option tactic.hygienic true in
inductive CompR (X:Cx) (env:Env) (Γ:Loc) (F:FS) (s:Shared) (D:Addr) (ns:List Str) (Ω:Own) (J:OC -> Own -> Prop) (r:Result) (s':Shared):Prop
 | mk (e:r = .ok .next) (F':FS) (c':OC) (Ω':Own) (j:J c' Ω') (I:Inv X env F' Γ ((D,c') :: Ω') s') (x:ExtM X (CM env ns D) F F' s s') (hO:Grown Ω Ω' s)
inductive CompAt (X:Cx) (env:Env) (Γ:Loc) (F:FS) (s:Shared) (D:Addr) (ns:List Str) (Ω:Own) (J:Nat -> OC -> Own -> Prop) (n:Nat) (F2:FS) (wr:List Addr) (St:Nat -> Heap -> Prop) (k:Nat) (s':Shared):Prop
 | mk (F':FS) (c':OC) (Ω':Own) (i:Nat) (j:J i c' Ω') (I:Inv X env F' Γ ((D,c') :: Ω') s') (x:ExtM X (CM env ns D) F F' s s') (hO:Grown Ω Ω' s) (st:St i s'.heap) (hi:i <= n) (hk:k = n + 1 - i) (le:F2.le F') (hw:∀ b ∈ wr,F' b = none /\ b ∉ Ω'.map (·.1))
theorem comp_loop {e:Expr} {gens:List Comprehension} {emit:Value -> Env -> Sem Unit} {depth:Nat} {t iter:Expr} {ifs:List Expr} {ns:List Str} {ds:List D} {D:Addr} {c:OC} {F2:FS} {it:Value} {ss1:Shared} {It:Addr} {fp wr:List Addr} {P Md:Nat -> Value -> Heap -> Prop} {St:Nat -> Heap -> Prop}
  (C:IsComp X e gens emit) (hg:gens[depth]? = some ⟨t,iter,ifs,0⟩) (hns:∀ x ∈ tgtNames t,x ∈ ns) (J:Nat -> OC -> Own -> Prop) (hh0:J 0 c Ω)
  (turn:∀ i d cc1 Ω1,ds[i]? = some d -> J i cc1 Ω1 -> ∃ Γ₁,(∀ D,AsgI X A env Γ ((D,cc1) :: Ω1) t d Γ₁) /\ Turn X A env Γ₁ Γ Ω1 cc1 e gens emit depth ifs ns (J (i + 1)))
  (I1:Inv X env F2 Γ ((D,c) :: Ω) ss1) (S:Src X A t ds F2 it s ss1 It fp wr P Md St) (off:∀ b ∈ fp,b ≠ env.locals /\ b ∉ env.cells.map (·.2) /\ b ≠ D) (hwO:∀ b ∈ wr,b ∉ Ω.map (·.1)) (x1:ExtM X (CM env ns D) F F2 s ss1) (hFD:∀ a,CM env ns D a -> F a = none) :
  codeAny X.M A (.compLoop e depth it (.ref D) env) (CompR X env Γ F s D ns Ω (J ds.length)) ss1:=by
 rw [S.it]
 have W:=S.turns
 refine codeAny_loop (C.quiet _ _ _ _) (CompAt X env Γ F s D ns Ω J ds.length F2 wr St) ?_ (ds.length + 1)
  ⟨F2,c,Ω,0,hh0,I1,x1,fun a h=>.inl h,S.st,Nat.zero_le _,rfl,fun zz zz e=>e,fun b hb=>⟨(S.hwr b hb).1,hwO b hb⟩⟩
 intro k ss3 hh3
 obtain ⟨F1,cc1,Ω1,i,hj,I1',x1',hO,hst1,hi,hk,hhF1,hw1⟩:=hh3
 rw [C.uL,C.loop hg]
 refine wpAny_noted ?_
 have step:∀ (h':Heap) (tk:Nat),(∀ b o,b ∉ wr -> ss3.heap.get? b = some o -> h'.get? b = some o) -> Inv X env F1 Γ ((D,cc1) :: Ω1) { ss3 with heap:=h',toks:=tk } /\ ExtM X (CM env ns D) F F1 s { ss3 with heap:=h',toks:=tk }:=fun h' tk hk=>
  ⟨I1'.touch (M:=(· ∈ wr)) (fun a ha=>⟨(hw1 a ha).1,S.hT a (W.sub a ha),(off a (W.sub a ha)).1,(off a (W.sub a ha)).2.1,fun h=>(List.mem_cons.mp h).elim (off a (W.sub a ha)).2.2 (hw1 a ha).2⟩) hk,
   x1'.le,x1'.new,fun b o h1 h2 e=>hk b o (fun hb=>nomatch (S.hwr b hb).2.symm.trans e) (x1'.keep b o h1 h2 e),x1'.os,x1'.gens⟩
 by_cases hlt:i < ds.length
 ·refine wpAny_bind (wpAny_standAt (wpAny_bind (W.item i _ _ _ hlt hst1 fun v hh2 ttk2 hmd hk2=>?_)))
  refine wpAny_bind (W.go i v _ _ _ hmd fun hh3 hP hst3 hhk3=>?_)
  obtain ⟨I3,xx3⟩:=step hh3 ttk2 fun b o hb e=>hhk3 b o hb (hk2 b o hb e)
  refine wpAny_bind (S.asg I3 hP hhF1 fun d hd=>(turn i d cc1 Ω1 hd hj).elim fun Γ₂ ht=>⟨Γ₂,ht.1 D,fun ss4 I4 y4=>ht.2.run D F1 ss4 I4 _ _ _ fun F5 c5 Ω5 ss5 hj' I5 x5 hO5=>?_⟩)
  have xx4:=y4.mono (N:=CM env ns D) fun a m=>.inl (m.mono hns)
  have x04:=xx3.trans xx4 I3.glob fun a m=>⟨hFD a m,I3.cm m⟩
  have x35:=xx4.trans x5 I4.glob fun a m=>⟨I3.cm m,I5.cm m⟩
  have ex3:=S.live _ _ hst3
  exact wpAny_pure ⟨rfl,ds.length - i,by rw [hk,Nat.succ_sub hi]; exact Nat.lt_succ_self _,F5,c5,Ω5,i + 1,hj',I5,xx3.trans x35 I3.glob fun a m=>⟨hFD a m,I5.cm m⟩,
   fun a ha=>(hO5 a ha).elim (hO a) fun h=>.inr (get_none fun o e=>nomatch h.symm.trans (x04.keep a o (I5.ownT (List.mem_cons_of_mem _ ha)) (I5.own_off ha) e)),
   W.frame _ _ _ hst3 fun b hb o e=>x35.keep b o (S.hT b hb) (off_cm (off b hb)) e,hlt,(Nat.add_sub_add_right ..).symm,fun a o e=>x35.le a o (hhF1 a o e),
   fun b hb=>(ex3 b (W.sub b hb)).elim fun o ho=>⟨(x35.new b).elim (fun e=>e.trans (hw1 b hb).1) fun e=>(nomatch ho.symm.trans e),
    fun hm=>(hO5 b hm).elim (hw1 b hb).2 fun h=>nomatch h.symm.trans (xx4.keep b o (S.hT b (W.sub b hb)) (off_cm (off b (W.sub b hb))) ho)⟩⟩
 ·obtain rfl:i = ds.length:=Nat.le_antisymm hi (Nat.le_of_not_lt hlt)
  refine wpAny_bind (wpAny_standAt (wpAny_bind (W.done _ _ _ hst1 fun h' tk hk=>?_)))
  obtain ⟨I3,xx3⟩:=step h' tk hk
  exact wpAny_pure ⟨rfl,F1,cc1,Ω1,hj,I3,xx3,hO⟩
end
section
variable {X:Cx} {A:Around} {env:Env} {Γ Γ0:Loc} {Ω:Own} {F F':FS} {s s':Shared}
theorem Inv.setOwn (I:Inv X env F Γ Ω s) {a:Addr} {c c':OC} (h:(a,c) ∈ Ω) {h':Heap} {tk:Nat} (hs:Heap.SameBut a s.heap h') (ho:OwnAt X F h' a c'):Inv X env F Γ (oset Ω a c') { s with heap:=h',toks:=tk }:=by
 have k:∀ b o,b ≠ a -> s.heap.get? b = some o -> h'.get? b = some o:=fun b o hb e=>(hs.2 b hb).trans e
 obtain ⟨h1,h2,h3⟩:=I.own _ h
 have ha:a ∈ Ω.map (·.1):=List.mem_map_of_mem (f:=(·.1)) h
 refine ⟨I.eo,I.glob.but (M:=(· = a)) (fun b e=>by subst e; exact ⟨I.new0 h2 h3,h3⟩) k,I.fb,fun b o e=>k b o (fun q=>by rw [q] at e; rw [h2] at e; cases e) (I.fz b o e),?_,fun y d hy hl=>?_,fun n c hc=>?_,I.apart,⟨I.loc.1,by rw [oset_fst]; exact I.loc.2.1,I.loc.2.2⟩,fun p hp=>?_,by rw [oset_fst]; exact I.nd,I.tF⟩
 ·obtain ⟨m,hn,hm⟩:=I.ns
  exact ⟨m,hn.at' fun o e=>k _ o (fun q=>I.loc.2.1 (q ▸ ha)) e,hm⟩
 ·obtain ⟨c,v,hc,hv,r⟩:=I.cl y d hy hl
  exact ⟨c,v,hc,hv.sameBut hs (fun q=>(I.cells y c (mem_of_lookup hc)).2.2.2.1 (q ▸ ha)),r⟩
 ·obtain ⟨⟨v,hv⟩,e1,e2,e3,e4⟩:=I.cells n c hc
  exact ⟨⟨v,hv.sameBut hs (fun q=>e3 (q ▸ ha))⟩,e1,e2,by rw [oset_fst]; exact e3,e4⟩
 ·rcases mem_oset I.nd hp with rfl | ⟨hp,hne⟩
  ·exact ⟨ho,h2,h3⟩
  ·obtain ⟨e1,e2⟩:=I.own p hp
   exact ⟨e1.keep (fun zz zz e=>e) fun o e=>k _ o hne e,e2⟩
theorem Inv.grow (I:Inv X env F Γ Ω s) (x:Ext X F F' s s') {Ω':Own} (ho:∀ p ∈ Ω',OwnAt X F' s'.heap p.1 p.2 /\ F' p.1 = none /\ p.1 ∉ X.T) (nd:(Ω'.map (·.1)).Nodup) (hd:∀ a ∈ Ω'.map (·.1),a ∈ Ω.map (·.1) \/ s.heap.get? a = none):Inv X env F' Γ Ω' s':=by
 have J:=I.ext x
 obtain ⟨m,hn,_⟩:=I.ns
 obtain ⟨o,hlo⟩:=ns_there hn
 exact { J with
  cells:=fun n c hc=>by
   obtain ⟨e0,e1,e2,e3,e4⟩:=J.cells n c hc
   refine ⟨e0,e1,e2,fun h=>?_,e4⟩
   rcases hd c h with h | h
   ·exact e3 h
   ·obtain ⟨⟨v,o,ho',_⟩,_⟩:=I.cells n c hc; rw [h] at ho'; cases ho'
  loc:=⟨J.loc.1,fun h=>(by
   rcases hd _ h with h | h
   ·exact J.loc.2.1 h
   ·rw [h] at hlo; cases hlo),J.loc.2.2⟩
  own:=ho
  nd:=nd }
theorem FS.put_ne {a b:Addr} {o:Obj} (h:b ≠ a):F.put a o b = F b:=if_neg h
theorem put_le {a:Addr} {o:Obj} (hn:F a = none):F.le (F.put a o):=fun b p e=>(FS.put_ne fun q=>nomatch (q ▸ e).symm.trans hn).trans e
theorem put_fz {G:FS} {a:Addr} {o:Obj} (h:∀ b p,F b = some p -> G b = some p) (ho:G a = some o):∀ b p,F.put a o b = some p -> G b = some p:=fun b p e=>by
 by_cases hb:b = a
 ·exact hb ▸ ho.trans ((FS.put_self F a o).symm.trans (hb ▸ e))
 ·exact h b p ((FS.put_ne hb).symm.trans e)
theorem Ext.put {a:Addr} {o:Obj} (x:Ext X F F' s s') (h:s.heap.get? a = none) (hn:F' a = none) (ho:s'.heap.get? a = some o):Ext X F (F'.put a o) s s' where
 le:=fun b p e=>put_le hn b p (x.le b p e)
 fz:=put_fz x.fz ho
 new:=fun b=>by
  by_cases hb:b = a
  ·exact .inr (hb ▸ h)
  ·exact (FS.put_ne hb).symm ▸ x.new b
 keep:=x.keep
 glob:=x.glob.mono (put_le hn)
 os:=x.os
 gens:=x.gens
inductive Own1 (X:Cx) (env:Env) (Γ:Loc) (Ω:Own) (c:OC) (F:FS) (s:Shared) (v:Value) (s':Shared):Prop
 | mk (a:Addr) (F':FS) (e:v = .ref a) (x:Ext X F F' s s') (hn:s.heap.get? a = none) (I:Inv X env F' Γ ((a,c) :: Ω) s')
structure EvO (X:Cx) (A:Around) (env:Env) (Γ:Loc) (Ω:Own) (e:Expr) (c:OC):Prop where
 run:∀ F s,Inv X env F Γ Ω s -> wpAny X.M A (eval e env) (Own1 X env Γ Ω c F s) NoE s
instance {X:Cx} {A:Around} {env:Env} {Γ:Loc} {Ω:Own} {e:Expr} {c:OC}:CoeFun (EvO X A env Γ Ω e c) (fun zz=>∀ F s,Inv X env F Γ Ω s -> wpAny X.M A (eval e env) (Own1 X env Γ Ω c F s) NoE s):=⟨fun h=>h.run⟩
theorem Own1.res {c:OC} {v:Value} (h:Own1 X env Γ Ω c F s v s'):Res X F s c.d v s':=by
 obtain ⟨a,F',hv,x,hn,I'⟩:=h
 obtain ⟨h1,h2,h3⟩:=I'.own _ (List.mem_cons_self ..)
 obtain ⟨o,ho⟩:=h1.some
 exact ⟨F'.put a o,x.put hn h2 ho,hv ▸ own_rd h1 ho (put_le h2) (FS.put_self ..)⟩
theorem EvO.ev {e:Expr} {c:OC} (h:EvO X A env Γ Ω e c):Ev X A env Γ Ω e c.d:=⟨fun F s I=>wpAny_mono (h F s I) (fun zz zz h=>h.res) fun zz zz e=>e⟩
structure TestsD (X:Cx) (A:Around) (env:Env) (Γ:Loc) (Ω:Own) (ifs:List Expr) (b:Bool):Prop where
 run:∀ F s,Inv X env F Γ Ω s -> wpAny X.M A (testsS ifs env) (ResT X F s b) NoE s
theorem tests_nil:TestsD X A env Γ Ω [] true:=⟨fun F s I=>wpAny_pure ⟨rfl,F,I.stay fun zz zz e=>e⟩⟩
theorem tests_one {c:Expr} {b:Bool} (h:EvT X A env Γ Ω c b):TestsD X A env Γ Ω [c] b:=⟨fun F s I=>wpAny_tests_one (h F s I)⟩
theorem Inv.setHd {a:Addr} {c c':OC} (I:Inv X env F Γ ((a,c) :: Ω) s) {h':Heap} {tk:Nat} (hs:Heap.SameBut a s.heap h') (ho:OwnAt X F h' a c'):Inv X env F Γ ((a,c') :: Ω) { s with heap:=h',toks:=tk }:=
 (if_pos rfl:oset ((a,c) :: Ω) a c' = (a,c') :: Ω) ▸ I.setOwn (List.mem_cons_self ..) hs ho
theorem ExtM.ofBut {a:Addr} {M:Addr -> Prop} (I:Inv X env F Γ Ω s) (hM:M a) {h':Heap} {tk:Nat} (hs:Heap.SameBut a s.heap h'):ExtM X M F F s { s with heap:=h',toks:=tk }:=
 ⟨fun zz zz e=>e,fun zz=>.inl rfl,fun b o zz m e=>(hs.2 b (fun q=>m (q ▸ hM))).trans e,rfl,.refl _⟩
abbrev Sub (Γ0 Γ:Loc):Prop:=∀ x d,Γ0.lookup x = some d -> Γ.lookup x = some d
theorem turn_emit {e:Expr} {gens:List Comprehension} {emit:Value -> Env -> Sem Unit} {depth:Nat} {ifs:List Expr} {ns:List Str} {c c':OC} {b:Bool} {R:OC -> Own -> Prop} (hn:gens[depth + 1]? = none)
  (ht:∀ D,TestsD X A env Γ ((D,c) :: Ω) ifs b) (hw:Sub Γ0 Γ) (hr:R (if b then c' else c) Ω)
  (hd:b = true -> ∀ D F1 ss1,Inv X env F1 Γ ((D,c) :: Ω) ss1 -> ∀ (Q:Unit -> Shared -> Prop) (E:Value -> Shared -> Prop),(∀ F2 ss2 h' tk,Ext X F1 F2 ss1 ss2 -> Inv X env F2 Γ ((D,c) :: Ω) ss2 -> Heap.SameBut D ss2.heap h' -> OwnAt X F2 h' D c' -> Q () { ss2 with heap:=h',toks:=tk }) -> wpAny X.M A (emit (.ref D) env) Q E ss1) :
  Turn X A env Γ Γ0 Ω c e gens emit depth ifs ns R:=by
 refine ⟨?_⟩
 intro D F s I k Q E hk
 unfold bodyS
 rw [hn]
 refine wpAny_bind (evt_then I ((ht D).run F s I) fun F1 ss1 x1 I1=>?_)
 cases b with
 | false=>exact hk F1 _ Ω ss1 hr (I1.weak hw) x1.toM fun a h=>.inl h
 | true=>
  refine wpAny_bind (hd rfl D F1 ss1 I1 _ _ fun F2 ss2 h' tk xx2 I2 hs ho=>?_)
  have I3:=I2.setHd (tk:=tk) hs ho
  exact hk F2 _ Ω _ hr (I3.weak hw) (((x1.trans xx2 I.glob.tabs_there).toM).trans (ExtM.ofBut I2 (.inr rfl) hs) I2.glob fun a m=>⟨I.cm m,I3.cm m⟩) fun a h=>.inl h
theorem turn_list_emit {e elt:Expr} {gens:List Comprehension} {depth:Nat} {ifs:List Expr} {ns:List Str} {ds:List D} {d:D} {b:Bool} {R:OC -> Own -> Prop} (hn:gens[depth + 1]? = none)
  (ht:∀ D,TestsD X A env Γ ((D,.lst ds) :: Ω) ifs b) (hd:b = true -> ∀ D,Ev X A env Γ ((D,.lst ds) :: Ω) elt d) (hw:Sub Γ0 Γ) (hr:R (.lst (if b then ds ++ [d] else ds)) Ω) (hz:ds.length <= 1000) :
  Turn X A env Γ Γ0 Ω (.lst ds) e gens (emitL elt) depth ifs ns R:=by
 refine turn_emit (c':=.lst (ds ++ [d])) hn ht hw (by cases b <;> exact hr) fun hb D F1 ss1 I1 Q E k=>wpAny_bind (res_then I1 (hd hb D F1 ss1 I1) fun v F2 ss2 xx2 I2 rr2=>?_)
 obtain ⟨⟨vs,hl,rl⟩,_⟩:=I2.own _ (List.mem_cons_self ..)
 exact wpAny_bind (wpAny_list_append_plain hl (fun h' hl' hs=>wpAny_pure (k F2 ss2 h' _ xx2 I2 hs ⟨_,hl',by rw [Array.toList_push]; exact rl.append (.one rr2)⟩)) (by rw [<- Array.length_toList,rl.length]; exact Nat.le_trans hz (by decide)))
noncomputable def dst {K V:Type} [DecidableEq K] (es:List (K × V)) (k:K) (v:V):List (K × V):=
 if es.any (fun kv=>kv.1 = k) then es.map (fun kv=>if kv.1 = k then (kv.1,v) else kv) else es ++ [(k,v)]
theorem any_fst {K V:Type} [DecidableEq K] (k:K) (es:List (K × V)):es.any (fun kv=>kv.1 = k) = (es.map (·.1)).any (fun x=>x = k):=(List.any_map (f:=Prod.fst) (p:=fun x=>decide (x = k))).symm
theorem keys_same {K V:Type} [DecidableEq K] (k:K) (v:V) (l:List (K × V)):(l.map fun kv=>if kv.1 = k then (kv.1,v) else kv).map (·.1) = l.map (·.1):=by
 rw [List.map_map]
 exact List.map_congr_left fun p zz=>by show (if p.1 = k then (p.1,v) else p).1 = p.1; split <;> rfl
theorem dst_map {K:Type} [DecidableEq K] {k:K} {v:Value} {d:D} (rv:Rd X F v d) {kvs:List (K × Value)} {es:List (K × D)}:kvs.map (·.1) = es.map (·.1) -> RdL X F (kvs.map (·.2)) (es.map (·.2)) ->
  RdL X F ((kvs.map (fun kv=>if kv.1 = k then (kv.1,v) else kv)).map (·.2)) ((es.map (fun kv=>if kv.1 = k then (kv.1,d) else kv)).map (·.2)):=by
 induction kvs generalizing es with
 | nil=>cases es with
  | nil=>exact fun zz zz=>.nil
  | cons=>exact fun h=>nomatch h
 | cons p r ih=>cases es with
  | nil=>exact fun h=>nomatch h
  | cons q t=>
   intro h rr
   injection h with h1 h2
   refine .cons ?_ (ih h2 rr.uncons.2)
   show Rd X F (if p.1 = k then (p.1,v) else p).2 (if q.1 = k then (q.1,d) else q).2
   rw [show p.1 = q.1 from h1]
   split
   ·exact rv
   ·exact rr.uncons.1
theorem dst_rd {K:Type} [DecidableEq K] {kvs:List (K × Value)} {es:List (K × D)} {k:K} {v:Value} {d:D} (hk:kvs.map (·.1) = es.map (·.1)) (r:RdL X F (kvs.map (·.2)) (es.map (·.2))) (rv:Rd X F v d) :
  (stored kvs k v).map (·.1) = (dst es k d).map (·.1) /\ RdL X F ((stored kvs k v).map (·.2)) ((dst es k d).map (·.2)):=by
 unfold stored dst
 rw [any_fst,any_fst,hk]
 split
 ·exact ⟨(keys_same ..).trans (hk.trans (keys_same ..).symm),dst_map rv hk r⟩
 ·simp only [List.map_append,List.map_cons,List.map_nil]
  exact ⟨by rw [hk],r.append (.one rv)⟩
theorem keys_length {K:Type} {kvs:List (K × Value)} {es:List (K × D)} (hk:kvs.map (·.1) = es.map (·.1)):kvs.length = es.length:=by
 have:=congrArg List.length hk; rwa [List.length_map,List.length_map] at this
theorem DctAt.set {K:Type} [DecidableEq K] {kd:KeyKind X.prog X.w K} {a:Addr} {es:List (K × D)} {k:K} {kv v:Value} {d:D} {Q:Unit -> Shared -> Prop} {E:Value -> Shared -> Prop} (x:DctAt X kd F s.heap.get? a es) (hk:kd.is k kv = true) (r:Rd X F v d) (hz:es.length <= 1000)
  (q:∀ h',DctAt X kd F h'.get? a (dst es k d) -> Heap.SameBut a s.heap h' -> Q () { s with heap:=h',toks:=s.toks + 1 }):wpAny X.M A (dictSet a kv v) Q E s:=by
 obtain ⟨hsm,o,kvs,ho,hdo,hke,rl⟩:=x
 refine wpAny_dictSet_pairs hk (Heap.dictOf_iff.mpr ⟨o,ho,hdo⟩) (fun h' hl' hs=>?_) (by rw [keys_length hke]; exact Nat.le_trans hz (by decide))
 obtain ⟨o',ho',hdo'⟩:=Heap.dictOf_iff.mp hl'
 exact q h' ⟨hsm,o',_,ho',hdo',(dst_rd hke rl r).1,(dst_rd hke rl r).2⟩ hs
theorem is_str {v:Value} {k:Str} (r:Rd X F v (.str k)):(strKind X.prog X.w).is k v = true:=r.str_elim fun zz=>beq_self_eq_true k
theorem is_int {v:Value} {k:Int} (r:Rd X F v (.int k)):(intKind X.prog X.w).is k v = true:=r.int_elim fun zz=>beq_self_eq_true k
theorem turn_dct {K:Type} [DecidableEq K] {kd:KeyKind X.prog X.w K} (mk:List (K × D) -> OC) {kD:D} (ho:∀ {F h a es},OwnAt X F h a (mk es) = DctAt X kd F (Heap.get? h) a es) {k:K} (hkey:∀ {F v},Rd X F v kD -> kd.is k v = true)
  {e kx vx:Expr} {gens:List Comprehension} {depth:Nat} {ifs:List Expr} {ns:List Str} {es:List (K × D)} {d:D} {b:Bool} {R:OC -> Own -> Prop} (hn:gens[depth + 1]? = none)
  (ht:∀ D,TestsD X A env Γ ((D,mk es) :: Ω) ifs b) (hd:b = true -> ∀ D,Ev X A env Γ ((D,mk es) :: Ω) kx kD /\ Ev X A env Γ ((D,mk es) :: Ω) vx d) (hw:Sub Γ0 Γ) (hr:R (mk (if b then dst es k d else es)) Ω) (hz:es.length <= 1000) :
  Turn X A env Γ Γ0 Ω (mk es) e gens (emitD kx vx) depth ifs ns R:=by
 refine turn_emit (c':=mk (dst es k d)) hn ht hw (by cases b <;> exact hr) fun hb D F1 ss1 I1 Q E q=>?_
 refine wpAny_bind (res_then I1 ((hd hb D).1 F1 ss1 I1) fun kv F2 ss2 xx2 I2 rr2=>wpAny_bind (wpAny_holding (res_then I2 ((hd hb D).2 F2 ss2 I2) fun vv F3 ss3 xx3 I3 rr3=>wpAny_bind (wpAny_standAt (wpAny_holding ?_)))))
 exact (ho ▸ (I3.own _ (List.mem_cons_self ..)).1:DctAt X kd F3 ss3.heap.get? D es).set (hkey (rr2.mono xx3.le)) rr3 hz fun h' h hs=>q F3 ss3 h' _ (xx2.trans xx3 I1.glob.tabs_there) I3 hs (ho ▸ h)
theorem turn_dict_emit {e kx vx:Expr} {gens:List Comprehension} {depth:Nat} {ifs:List Expr} {ns:List Str} {es:List (Str × D)} {k:Str} {d:D} {b:Bool} {R:OC -> Own -> Prop} (hn:gens[depth + 1]? = none)
  (ht:∀ D,TestsD X A env Γ ((D,.dct es) :: Ω) ifs b) (hd:b = true -> ∀ D,Ev X A env Γ ((D,.dct es) :: Ω) kx (.str k) /\ Ev X A env Γ ((D,.dct es) :: Ω) vx d) (hw:Sub Γ0 Γ) (hr:R (.dct (if b then dst es k d else es)) Ω) (hz:es.length <= 1000) :
  Turn X A env Γ Γ0 Ω (.dct es) e gens (emitD kx vx) depth ifs ns R:=turn_dct .dct rfl is_str hn ht hd hw hr hz
theorem turn_dicti_emit {e kx vx:Expr} {gens:List Comprehension} {depth:Nat} {ifs:List Expr} {ns:List Str} {es:List (Int × D)} {k:Int} {d:D} {b:Bool} {R:OC -> Own -> Prop} (hn:gens[depth + 1]? = none)
  (ht:∀ D,TestsD X A env Γ ((D,.dci es) :: Ω) ifs b) (hd:b = true -> ∀ D,Ev X A env Γ ((D,.dci es) :: Ω) kx (.int k) /\ Ev X A env Γ ((D,.dci es) :: Ω) vx d) (hw:Sub Γ0 Γ) (hr:R (.dci (if b then dst es k d else es)) Ω) (hz:es.length <= 1000) :
  Turn X A env Γ Γ0 Ω (.dci es) e gens (emitD kx vx) depth ifs ns R:=turn_dct .dci rfl is_int hn ht hd hw hr hz
theorem turn_nested {e:Expr} {gens:List Comprehension} {emit:Value -> Env -> Sem Unit} {depth:Nat} {ifs ifs':List Expr} {t' iter':Expr} {ns:List Str} {b:Bool} {ds:List D} {c:OC} {R:OC -> Own -> Prop} (C:IsComp X e gens emit) (hn:gens[depth + 1]? = some ⟨t',iter',ifs',0⟩)
  (hf:∀ x,foldedSetIterable iter' env x = pure x) (hns:∀ x ∈ tgtNames t',x ∈ ns)
  (ht:∀ D,TestsD X A env Γ ((D,c) :: Ω) ifs b) (hw:Sub Γ0 Γ) (hno:b = false -> R c Ω) (J:Nat -> OC -> Own -> Prop) (hh0:J 0 c Ω)
  (hit:b = true -> ∀ D,EvIt X A env Γ ((D,c) :: Ω) t' iter' ds [])
  (turn:b = true -> ∀ i d cc1 Ω1,ds[i]? = some d -> J i cc1 Ω1 -> ∃ Γ₁,(∀ D,AsgI X A env Γ ((D,cc1) :: Ω1) t' d Γ₁) /\ Turn X A env Γ₁ Γ Ω1 cc1 e gens emit (depth + 1) ifs' ns (J (i + 1)))
  (done:∀ c' Ω',J ds.length c' Ω' -> R c' Ω'):Turn X A env Γ Γ0 Ω c e gens emit depth ifs ns R:=by
 refine ⟨?_⟩
 intro D F s I kk Q E hk
 unfold bodyS
 rw [hn]
 refine wpAny_bind (evt_then I ((ht D).run F s I) fun F1 ss1 x1 I1=>?_)
 cases b with
 | false=>exact hk F1 _ Ω ss1 (hno rfl) (I1.weak hw) x1.toM fun a h=>.inl h
 | true=>
  refine wpAny_bind (wpAny_mono (hit rfl D F1 ss1 I1) (fun x ss2 hh2=>wpAny_bind (wpAny_standAt (wpAny_bind (m:=foldedSetIterable iter' env x) ?_))) fun zz zz e=>e.elim)
  rw [hf]
  refine wpAny_pure (wpAny_bind (wpAny_holding (wpAny_mono hh2 (fun it ss3 hh3=>?_) fun zz zz e=>e.elim)))
  obtain ⟨F3,xx3,It,fp,wr,P,Md,St,S,off⟩:=hh3
  refine wpAny_bind (wpAny_runOwn (codeAny_mono (comp_start C hn (comp_loop (F:=F1) (s:=ss1) C hn hns J hh0 (turn rfl) (I1.ext xx3) S (fun b hb=>⟨(off b hb).1,(off b hb).2.1,fun q=>nomatch (off b hb).2.2 (q ▸ List.mem_cons_self ..)⟩) (fun b hb hm=>nomatch (off b (S.turns.sub b hb)).2.2 (List.mem_cons_of_mem _ hm)) xx3.toM fun a m=>I1.cm m) (S.it ▸ S.self 0 _ _ _ S.st ⟨rfl,rfl⟩)) fun r ss4 hh4=>?_))
  obtain ⟨rfl,F4,c',Ω',hj,I4,xx4,hO⟩:=hh4
  exact hk F4 c' Ω' ss4 (done _ _ hj) (I4.weak hw) (x1.toM.trans xx4 I1.glob fun a m=>⟨I.cm m,I4.cm m⟩) fun a h=>(hO a h).imp id fun e=>get_none fun o e'=>nomatch e.symm.trans (x1.keep a o (I4.ownT (List.mem_cons_of_mem _ h)) e')
end
section
variable {X:Cx} {A:Around} {env:Env} {Γ Γ0:Loc} {Ω:Own} {F F':FS} {s s':Shared}
theorem ne_lt {a b c:Nat} (h:a < b) (hb:b <= c) (e:a = c):False:=Nat.lt_irrefl a (Nat.lt_of_lt_of_le h (e ▸ hb))
noncomputable def frees {β:Type} (g:Str -> Option β) (p:Str × NameKind):Option (Str × β):=if p.2 == .free then (g p.1).map fun d=>(p.1,d) else none
theorem frees_some {β:Type} {g:Str -> Option β} {p:Str × NameKind} {b:Str × β} (h:frees g p = some b):p = (b.1,.free) /\ g b.1 = some b.2:=by
 by_cases hk:(p.2 == NameKind.free) = true
 ·obtain ⟨c,e,rfl⟩:=Option.map_eq_some_iff.mp ((if_pos hk).symm.trans h)
  exact ⟨Prod.ext rfl (eq_of_beq hk),e⟩
 ·exact nomatch (if_neg hk).symm.trans h
theorem mem_frees {β:Type} {g:Str -> Option β} {names:List (Str × NameKind)} {x:Str} {b:β}:(x,b) ∈ names.filterMap (frees g) <-> (x,NameKind.free) ∈ names /\ g x = some b:=
 ⟨fun h=>(List.mem_filterMap.mp h).elim fun p h=>⟨(frees_some h.2).1 ▸ h.1,(frees_some h.2).2⟩,fun h=>List.mem_filterMap.mpr ⟨_,h.1,by show (g x).map _ = _; rw [h.2]; rfl⟩⟩
noncomputable def clFrom (env:Env) (names:List (Str × NameKind)):List (Str × Addr):=(names.filterMap (frees fun x=>env.cells.lookup x)).reverse
noncomputable def freeOk (env:Env) (names:List (Str × NameKind)):Bool:=names.all fun p=>if p.2 == .free then (env.cells.lookup p.1).isSome else true
theorem closure_eq {scope:Scope} (h:freeOk env scope.names = true):closureFor scope env = pure (clFrom env scope.names):=by
 suffices H:∀ (names:List (Str × NameKind)) (acc:List (Str × Addr)),freeOk env names = true ->
   (forIn names acc (fun x (cs:List (Str × Addr))=>match x with
    | (name,kind)=>if (kind == NameKind.free) = true then do let c <- cellOf env name; pure (ForInStep.yield ((name,c) :: cs)) else pure (ForInStep.yield cs)):Sem (List (Str × Addr))) = pure ((names.filterMap (frees fun x=>env.cells.lookup x)).reverse ++ acc) from
  (congrArg (fun t:Sem (List (Str × Addr))=>t >>= fun cs=>pure cs) (H scope.names [] h)).trans (congrArg (fun l:List (Str × Addr)=>(pure l:Sem (List (Str × Addr)))) (List.append_nil _))
 intro names
 induction names with
 | nil=>intro acc _; rfl
 | cons p r ih=>
  obtain ⟨n,k⟩:=p
  intro acc h
  obtain ⟨h1,h2⟩:=(Bool.and_eq_true ..).mp h
  rw [List.forIn_cons]
  by_cases hk:(k == NameKind.free) = true
  ·dsimp only at h1 ⊢
   rw [if_pos hk] at h1 ⊢
   obtain ⟨c,hc⟩:=Option.isSome_iff_exists.mp h1
   rw [List.filterMap_cons_some (b:=(n,c)) (by unfold frees; rw [if_pos hk]; show (env.cells.lookup n).map _ = _; rw [hc]; rfl),List.reverse_cons,List.append_assoc,cellOf,hc]
   exact ih _ h2
  ·dsimp only
   rw [if_neg hk,List.filterMap_cons_none (by unfold frees; rw [if_neg hk])]
   exact ih _ h2
theorem clFrom_mem {names:List (Str × NameKind)} {x:Str} {c:Addr}:(x,c) ∈ clFrom env names <-> (x,NameKind.free) ∈ names /\ env.cells.lookup x = some c:=List.mem_reverse.trans mem_frees
theorem clFrom_apart (ha:env.cells.Pairwise fun x y=>x.2 ≠ y.2) {names:List (Str × NameKind)} (hn:(names.map (·.1)).Nodup):(clFrom env names).Pairwise fun x y=>x.2 ≠ y.2:=
 List.pairwise_reverse.mpr (List.Pairwise.filterMap _ (fun a a' (q:a.1 ≠ a'.1) b hb b' hb' (e:b'.2 = b.2)=>q (by
  obtain ⟨h1,h2⟩:=frees_some hb
  obtain ⟨h3,h4⟩:=frees_some hb'
  rw [h1,h3]
  have:=mem_of_lookup h4
  rw [e] at this
  exact name_of_addr ha (mem_of_lookup h2) this)) (List.pairwise_map.mp hn))
structure CellsNew (h:Heap) (names:List (Str × NameKind)) (acc cs:List (Str × Addr)):Prop where
 apart:cs.Pairwise fun x y=>x.2 ≠ y.2
 old:∀ p ∈ acc,p ∈ cs
 mem:∀ x c,(x,c) ∈ cs -> (x,c) ∈ acc \/ ((x,NameKind.cell) ∈ names /\ h.objs.size <= c /\ (pushCells h names).IsCell c none)
set_option tactic.hygienic true in
theorem cells_new (names:List (Str × NameKind)):∀ (h:Heap) (acc:List (Str × Addr)),acc.Pairwise (fun x y=>x.2 ≠ y.2) -> (∀ p ∈ acc,p.2 < h.objs.size) -> CellsNew h names acc (cellsFrom h.objs.size names acc):=by
 induction names with
 | nil=>exact fun h acc ha zz=>⟨ha,fun zz h=>h,fun zz zz h=>.inl h⟩
 | cons p r ih=>
  obtain ⟨n,k⟩:=p
  intro h acc ha hl
  unfold cellsFrom
  split
  ·rename_i hk
   obtain rfl:k = .cell:=eq_of_beq hk
   have hs:(h.push { cls:=.type "cell",data:=.cell none }).objs.size = h.objs.size + 1:=Heap.size_push ..
   have J:=ih (h.push { cls:=.type "cell",data:=.cell none }) ((n,h.objs.size) :: acc) (List.pairwise_cons.mpr ⟨fun y hy e=>ne_lt (hl y hy) (Nat.le_refl _) e.symm,ha⟩) (by rw [hs]; exact fun p hp=>(List.mem_cons.mp hp).elim (fun e=>e ▸ Nat.lt_succ_self _) fun hp=>Nat.lt_succ_of_lt (hl p hp))
   obtain ⟨h1,h2,h3⟩:=J
   rw [hs] at h1 h2 h3
   refine ⟨h1,fun p hp=>h2 p (List.mem_cons_of_mem _ hp),fun x c hm=>(h3 x c hm).elim (fun e=>(List.mem_cons.mp e).elim (fun e=>?_) .inl) fun e=>.inr ⟨List.mem_cons_of_mem _ e.1,Nat.le_of_succ_le e.2.1,e.2.2⟩⟩
   cases e
   exact .inr ⟨List.mem_cons_self ..,Nat.le_refl _,{ cls:=.type "cell",data:=.cell none },pushCells_keeps r _ _ _ (Heap.get?_push_size h rfl),rfl⟩
  ·rename_i hk
   obtain ⟨h1,h2,h3⟩:=ih h acc ha hl
   exact ⟨h1,h2,fun x c hm=>(h3 x c hm).imp id fun e=>⟨List.mem_cons_of_mem _ e.1,e.2.1,by rw [pushCells,if_neg hk]; exact e.2.2⟩⟩
theorem lookup_of_mem {α:Type} {l:List (Str × α)} {x:Str} {c:α} (h:(x,c) ∈ l):∃ c',l.lookup x = some c':=Option.isSome_iff_exists.mp (List.lookup_isSome_iff.mpr ⟨_,h,beq_self_eq_true x⟩)
theorem nodup_kind {α:Type} {l:List (Str × α)} {x:Str} {a b:α} (hn:(l.map (·.1)).Nodup) (ha:(x,a) ∈ l) (hb:(x,b) ∈ l):a = b:=Option.some.inj ((lookup_nd hn ha).symm.trans (lookup_nd hn hb))
noncomputable def capt (names:List (Str × NameKind)) (Γ:Loc):Loc:=names.filterMap (frees fun x=>Γ.lookup x)
theorem capt_mem {names:List (Str × NameKind)} {x:Str} {d:D} (h:(capt names Γ).lookup x = some d):(x,NameKind.free) ∈ names /\ Γ.lookup x = some d:=mem_frees.mp (mem_of_lookup h)
noncomputable abbrev cenvOf (scope:Scope) (env:Env) (C:Addr):Env:=compEnvC scope (cellsFrom (C + 1) scope.names (clFrom env scope.names)) C env
theorem new_cenv {scope:Scope} {Q:Env -> Shared -> Prop} {E:Value -> Shared -> Prop} {M:Model}
  (hQ:Q { (cenvOf scope env s.heap.objs.size) with scope:=scope } { s with heap:=pushCells (s.heap.push { cls:=.type "dict",data:=.dict #[] }) scope.names }) :
  wpAny M A (newFunctionEnv scope env.globals (clFrom env scope.names) [] env.qual none .none (some env)) Q E s:=by
 simp only [newFunctionEnv,Option.isSome_some,if_true]
 refine wpAny_bind (wpAny_alloc ?_)
 refine wpAny_bind (wpAny_layCells _ (fun name kind cells=>by cases hkc:kind == NameKind.cell <;> simp) _ _ _ _ ?_)
 rw [show ({ s with heap:=s.heap.push { cls:=.type "dict",data:=.dict #[] } }:Shared).heap.objs.size = s.heap.objs.size + 1 from Heap.size_push ..]
 exact wpAny_pure hQ
structure ScopeOk (env:Env) (scope:Scope):Prop where
 kind:scope.kind = .function
 nodup:(scope.names.map (·.1)).Nodup
 free:freeOk env scope.names = true
 nloc:∀ x,(x,NameKind.free) ∈ scope.names -> env.kindOf x ≠ some .local
noncomputable def scopeChk (env:Env) (scope:Scope):Bool:=scope.kind == .function && decide ((scope.names.map (·.1)).Nodup) && freeOk env scope.names && scope.names.all fun p=>if p.2 == .free then env.kindOf p.1 != some .local else true
theorem scopeOk {scope:Scope} (h:scopeChk env scope = true):ScopeOk env scope:=by
 obtain ⟨h,h4⟩:=(Bool.and_eq_true ..).mp h
 obtain ⟨h,h3⟩:=(Bool.and_eq_true ..).mp h
 obtain ⟨h1,h2⟩:=(Bool.and_eq_true ..).mp h
 exact ⟨eq_of_beq h1,of_decide_eq_true h2,h3,fun x hx=>bne_iff_ne.mp (List.all_eq_true.mp h4 _ hx)⟩
theorem kind_relabel_free {scope:Scope} {C:Addr} {x:Str} (S:ScopeOk env scope) (hx:(x,NameKind.free) ∈ scope.names):(cenvOf scope env C).kindOf x ≠ some .local:=by
 intro h
 have h':(scope.names.map fun (n,k)=>if (k == NameKind.free && env.scope.kind == .function && env.kindOf n == some .cell) then (n,NameKind.cell) else (n,k)).lookup x = some .local:=h
 obtain ⟨⟨n,k⟩,hp,e⟩:=List.mem_map.mp (mem_of_lookup h')
 dsimp only at e
 split at e
 ·cases e
 ·cases e
  cases nodup_kind S.nodup hx hp
structure CompSt (X:Cx) (env:Env) (F:FS) (Γ:Loc) (Ω:Own) (s:Shared) (scope:Scope) (o:Obj) (c:OC) (H:Heap):Prop where
 keep:∀ b p,s.heap.get? b = some p -> H.get? b = some p
 cells:∀ n c',(n,c') ∈ (cenvOf scope env (s.heap.objs.size + 1)).cells -> ((n,NameKind.free) ∈ scope.names /\ env.cells.lookup n = some c') \/ ((n,NameKind.cell) ∈ scope.names /\ s.heap.objs.size + 1 < c' /\ H.IsCell c' none)
 inv:Inv X (cenvOf scope env (s.heap.objs.size + 1)) F (capt scope.names Γ) ((s.heap.objs.size,c) :: Ω) { s with heap:=H }
theorem Inv.comp (I:Inv X env F Γ Ω s) {scope:Scope} (S:ScopeOk env scope) {o:Obj} {c:OC} (hf:o.isFreed = false) (hc:∀ h,h.get? s.heap.objs.size = some o -> OwnAt X F h s.heap.objs.size c) :
  CompSt X env F Γ Ω s scope o c (pushCells ((s.heap.push o).push { cls:=.type "dict",data:=.dict #[] }) scope.names):=by
 have hCs:(s.heap.push o).objs.size = s.heap.objs.size + 1:=Heap.size_push ..
 have hs2:((s.heap.push o).push { cls:=.type "dict",data:=.dict #[] }:Heap).objs.size = s.heap.objs.size + 1 + 1:=(Heap.size_push ..).trans (congrArg (· + 1) hCs)
 have N:=cells_new scope.names ((s.heap.push o).push { cls:=.type "dict",data:=.dict #[] }) (clFrom env scope.names) (clFrom_apart I.apart S.nodup) fun p hp=>(I.cells _ _ (mem_of_lookup ((clFrom_mem (x:=p.1) (c:=p.2)).mp hp).2)).1.elim fun v hv=>
  hs2 ▸ Nat.lt_of_lt_of_le hv.lt (Nat.le_trans (Nat.le_succ _) (Nat.le_succ _))
 rw [hs2] at N
 have kk1:∀ b p,(s.heap.push o).get? b = some p -> (pushCells ((s.heap.push o).push { cls:=.type "dict",data:=.dict #[] }) scope.names).get? b = some p:=fun b p e=>pushCells_keeps _ _ b p (Heap.get?_push_of_some _ e)
 have hN:=(Heap.Ns.new (s.heap.push o) (.type "dict")).keeps (pushCells_keeps scope.names _)
 rw [hCs] at hN
 have cm:∀ n c',(n,c') ∈ (cenvOf scope env (s.heap.objs.size + 1)).cells -> ((n,NameKind.free) ∈ scope.names /\ env.cells.lookup n = some c') \/ ((n,NameKind.cell) ∈ scope.names /\ s.heap.objs.size + 1 < c' /\ (pushCells ((s.heap.push o).push { cls:=.type "dict",data:=.dict #[] }) scope.names).IsCell c' none):=fun n c' hm=>(N.mem n c' hm).imp clFrom_mem.mp fun e=>⟨e.1,Nat.le_trans (Nat.le_of_eq hs2.symm) e.2.1,e.2.2⟩
 generalize pushCells ((s.heap.push o).push { cls:=.type "dict",data:=.dict #[] }) scope.names = H at N kk1 hN cm ⊢
 have k:∀ b p,s.heap.get? b = some p -> H.get? b = some p:=fun b p e=>kk1 b p (Heap.get?_push_of_some _ e)
 have fD:=fresh_le (h:=s.heap) (Nat.le_refl _)
 have fC:=fresh_le (h:=s.heap) (Nat.le_succ _)
 refine ⟨k,cm,⟨S.kind,I.eo.gl,I.eo.bi⟩,I.glob.keeps k,I.fb,fun a p e=>k a p (I.fz a p e),⟨_,hN,fun x d h1 h2=>absurd h2 (kind_relabel_free S (capt_mem h1).1)⟩,fun x d h1 h2=>?_,fun n c' hm=>?_,N.apart,⟨I.nF fC,fun q=>(List.mem_cons.mp q).elim (Nat.succ_ne_self _) (I.nO fC),I.nT fC⟩,fun p hp=>(List.mem_cons.mp hp).elim (fun e=>e ▸ ⟨hc H (kk1 _ _ (Heap.get?_push_size _ hf)),I.nF fD,I.nT fD⟩) fun hp=>⟨(I.own p hp).1.keep (fun zz zz e=>e) fun o e=>k _ o e,(I.own p hp).2⟩,List.nodup_cons.mpr ⟨I.nO fD,I.nd⟩,I.tF⟩
 ·obtain ⟨hfr,hl⟩:=capt_mem h1
  obtain ⟨c',v,e1,e2,e3⟩:=I.cl x d hl (S.nloc x hfr)
  obtain ⟨c'',hc''⟩:=lookup_of_mem (N.old _ (clFrom_mem.mpr ⟨hfr,e1⟩))
  refine ⟨c'',v,hc'',?_,e3⟩
  rcases cm x c'' (mem_of_lookup hc'') with e | e
  ·cases e1.symm.trans e.2; exact e2.keeps k
  ·cases nodup_kind S.nodup hfr e.1
 ·rcases cm n c' hm with ⟨_,e⟩ | ⟨_,e1,e2⟩
  ·obtain ⟨⟨v,hv⟩,q1,q2,q3,q4⟩:=I.cells n c' (mem_of_lookup e)
   have hlt:c' < s.heap.objs.size:=hv.lt
   exact ⟨⟨v,hv.keeps k⟩,q1,ne_lt hlt (Nat.le_succ _),fun q=>(List.mem_cons.mp q).elim (ne_lt hlt (Nat.le_refl _)) q3,q4⟩
  ·have fc:=fresh_le (h:=s.heap) (Nat.le_of_lt (Nat.lt_of_succ_lt e1))
   exact ⟨⟨_,e2⟩,I.nF fc,Nat.ne_of_gt e1,fun q=>(List.mem_cons.mp q).elim (Nat.ne_of_gt (Nat.lt_of_succ_lt e1)) (I.nO fc),I.nT fc⟩
end
section
variable {X:Cx} {A:Around} {env:Env} {Γ Γ0:Loc} {Ω:Own} {F F':FS} {s s':Shared}
structure COff (X:Cx) (env:Env) (F:FS) (Ω:Own) (C:Addr):Prop where
 l:C ≠ env.locals
 c:C ∉ env.cells.map (·.2)
 o:C ∉ Ω.map (·.1)
 f:F C = none
 t:C ∉ X.T
theorem Inv.letC (I:Inv X env F Γ Ω s) {C:Addr} (k:COff X env F Ω C) {h':Heap} (hs:Heap.SameBut C s.heap h'):Inv X env F Γ Ω { s with heap:=h' }:=
 I.touch (M:=(· = C)) (fun a e=>e ▸ ⟨k.f,k.t,k.l,k.c,k.o⟩) fun b o hb e=>(hs.2 b hb).trans e
theorem Ext.letC (x:Ext X F F' s s') (I:Inv X env F' Γ Ω s') {C:Addr} (k:COff X env F' Ω C) (hn:s.heap.get? C = none) {h':Heap} (hs:Heap.SameBut C s'.heap h'):Ext X F F' s { s' with heap:=h' } where
 le:=x.le
 fz:=(I.letC k hs).fz
 new:=x.new
 keep:=fun b o hb e=>(hs.2 b (fun q=>clash hn (q ▸ e))).trans (x.keep b o hb e)
 glob:=(I.letC k hs).glob
 os:=x.os
 gens:=x.gens
inductive CompRun (X:Cx) (A:Around) (env:Env) (Γ:Loc) (Ω:Own) (e iter:Expr) (scope:Scope) (emit:Value -> Env -> Sem Unit) (t:Expr) (ifs:List Expr) (gs:List Comprehension) (cc0:OC) (R:OC -> Own -> Prop):Prop
 | mk (ns:List Str) (ds:List D) (al:List Addr) (J:Nat -> OC -> Own -> Prop) (h1:∀ x ∈ tgtNames t,x ∈ ns) (h2:∀ x ∈ ns,(x,NameKind.free) ∉ scope.names) (h3:EvIt X A env Γ Ω t iter ds al) (h4:J 0 cc0 Ω)
  (h5:∀ C i d cc1 Ω1,ds[i]? = some d -> J i cc1 Ω1 -> ∃ Γ₁,(∀ D,AsgI X A (cenvOf scope env C) (capt scope.names Γ) ((D,cc1) :: Ω1) t d Γ₁) /\ Turn X A (cenvOf scope env C) Γ₁ (capt scope.names Γ) Ω1 cc1 e (⟨t,iter,ifs,0⟩ :: gs) emit 0 ifs ns (J (i + 1)))
  (h6:∀ c' Ω',J ds.length c' Ω' -> R c' Ω')
structure CompIn (X:Cx) (A:Around) (env:Env) (Γ:Loc) (Ω:Own) (e iter:Expr) (scope:Scope) (emit:Value -> Env -> Sem Unit) (t:Expr) (ifs:List Expr) (gs:List Comprehension) (cc0:OC) (R:OC -> Own -> Prop):Prop where
 it:IsComp X e (⟨t,iter,ifs,0⟩ :: gs) emit
 sc:ScopeOk env scope
 hf:∀ x,foldedSetIterable iter env x = pure x
 run:CompRun X A env Γ Ω e iter scope emit t ifs gs cc0 R
abbrev CompD (X:Cx) (A:Around) (env:Env) (Γ:Loc) (Ω:Own) (e iter:Expr) (scope:Scope) (emit:Value -> Env -> Sem Unit) (t:Expr) (ifs:List Expr) (gs:List Comprehension) (cc0 c:OC):Prop:=CompIn X A env Γ Ω e iter scope emit t ifs gs cc0 fun c' Ω'=>c' = c /\ Ω' = Ω
inductive CompEnd (X:Cx) (env:Env) (Γ:Loc) (Ω:Own) (F:FS) (s:Shared) (R:OC -> Own -> Prop) (D C:Addr) (s':Shared):Prop
 | mk (F':FS) (c:OC) (Ω':Own) (m:Str -> Option Value) (hj:R c Ω') (I:Inv X env F' Γ ((D,c) :: Ω') s') (x:Ext X F F' s s') (hO:Grown Ω Ω' s) (hD:s.heap.get? D = none) (hn:s'.heap.Ns C m) (hC:COff X env F' ((D,c) :: Ω') C) (hC0:s.heap.get? C = none)
structure NewAcc (X:Cx) (A:Around) (newAcc:Sem Value) (o:Obj) (cc0:OC):Prop where
 new:∀ (Q:Value -> Shared -> Prop) (E:Value -> Shared -> Prop) s,Q (.ref s.heap.objs.size) { s with heap:=s.heap.push o } -> wpAny X.M A newAcc Q E s
 nf:o.isFreed = false
 own:∀ F (h:Heap) a,sysModules < a -> h.get? a = some o -> OwnAt X F h a cc0
set_option tactic.hygienic true in
theorem comp_core {e iter:Expr} {scope:Scope} {pos:Pos} {newAcc:Sem Value} {emit:Value -> Env -> Sem Unit} {t:Expr} {ifs:List Expr} {gs:List Comprehension} {o:Obj} {cc0:OC} {use:Option (Value -> Sem Unit)} {Q:Value -> Shared -> Prop} {E:Value -> Shared -> Prop} {R:OC -> Own -> Prop}
  (I:Inv X env F Γ Ω s) (N:NewAcc X A newAcc o cc0) (Y:CompIn X A env Γ Ω e iter scope emit t ifs gs cc0 R) (hK:∀ D C s',CompEnd X env Γ Ω F s R D C s' -> compPost X.M A E use Q (.ref D) C (.ok .next) s') :
  wpAny X.M A (comprehension e scope env pos newAcc false (eval iter env) use) Q E s:=by
 obtain ⟨C,S,hf,ns,ds,al,J,hns,hnf,hit,hh0,turn,h6⟩:=Y
 refine wpAny_comprehension_free C.cl hf (closure_eq S.free) S.kind (fun x hx hl=>hl ▸ lookup_nd S.nodup hx) (wpAny_mono (hit F s I) (fun x ss1 hh1=>wpAny_mono hh1 (fun it ss2 hh2=>?_) fun zz zz e=>e.elim) fun zz zz e=>e.elim)
 obtain ⟨F2,xx2,It,fp,wr,P,Md,St,Sr,off⟩:=hh2
 have I2:=I.ext xx2
 refine N.new _ _ _ (new_cenv ?_)
 rw [show ({ ss2 with heap:=ss2.heap.push o }:Shared).heap.objs.size = ss2.heap.objs.size + 1 from Heap.size_push ..]
 have K:=I2.comp S (o:=o) (c:=cc0) N.nf fun h e=>N.own _ h _ I2.glob.low e
 show codeAny X.M A _ _ { ss2 with heap:=pushCells ((ss2.heap.push o).push { cls:=.type "dict",data:=.dict #[] }) scope.names }
 generalize pushCells ((ss2.heap.push o).push { cls:=.type "dict",data:=.dict #[] }) scope.names = H at K ⊢
 obtain ⟨hh3,cm,I3⟩:=K
 have fD:=fresh_le (h:=ss2.heap) (Nat.le_refl _)
 have fC:=fresh_le (h:=ss2.heap) (Nat.le_succ _)
 have fM:∀ a,CM (cenvOf scope env (ss2.heap.objs.size + 1)) ns ss2.heap.objs.size a -> ss2.heap.get? a = none:=by
  rintro a ((rfl | ⟨x,hx,_,hl⟩) | rfl)
  ·exact fC
  ·exact (cm x a (mem_of_lookup hl)).elim (fun e=>absurd e.1 (hnf x hx)) fun e=>fresh_le (Nat.le_of_lt (Nat.lt_of_succ_lt e.2.1))
  ·exact fD
 have xx3:ExtM X (CM (cenvOf scope env (ss2.heap.objs.size + 1)) ns ss2.heap.objs.size) F F2 s { ss2 with heap:=H }:=⟨xx2.le,xx2.new,fun b p hb zz e=>hh3 b p (xx2.keep b p hb e),xx2.os,xx2.gens⟩
 have st3:St 0 H:=Sr.turns.frame _ _ _ Sr.st fun b zz o e=>hh3 b o e
 refine codeAny_mono (comp_start C rfl (comp_loop (F:=F) (s:=s) C rfl hns J hh0 (turn _) I3 { Sr with st:=st3 } (fun b hb=>(Sr.live 0 _ Sr.st b hb).elim fun p hp=>⟨fun q=>clash fC (q ▸ hp),fun q=>?_,fun q=>clash fD (q ▸ hp)⟩) (fun b hb hm=>I.nO (Sr.hwr b hb).2 hm) xx3 (fun a m=>I.nF (I2.back xx2 (fM a m)))) (Sr.it ▸ Sr.self 0 _ _ _ st3 ⟨rfl,rfl⟩)) (fun r ss4 hh4=>?_)
 ·obtain ⟨⟨x,a⟩,hm,rfl⟩:=List.mem_map.mp q
  exact (cm x a hm).elim (fun e=>(off _ hb).2.1 (List.mem_map_of_mem (f:=(·.2)) (mem_of_lookup e.2))) fun e=>clash (fresh_le (Nat.le_of_lt (Nat.lt_of_succ_lt e.2.1))) hp
 ·obtain ⟨rfl,F4,c',Ω',hj,I4,xx4,hO⟩:=hh4
  have X4:Ext X F F4 s ss4:=⟨xx4.le,I4.fz,xx4.new,fun b p hb e=>xx4.keep b p hb (fun m=>clash (I2.back xx2 (fM b m)) e) e,I4.glob,xx4.os,xx4.gens⟩
  have D0:=I2.back xx2 fD
  have CC0:=I2.back xx2 fC
  obtain ⟨m,hn,_⟩:=I4.ns
  exact hK _ (ss2.heap.objs.size + 1) ss4 ⟨F4,c',Ω',m,h6 _ _ hj,I.grow X4 I4.own I4.nd fun a ha=>(List.mem_cons.mp ha).elim (fun e=>.inr (e ▸ D0)) (hO a),X4,hO,D0,hn,⟨I.nL CC0,I.nC CC0,I4.loc.2.1,I4.loc.1,I4.loc.2.2⟩,CC0⟩
theorem new_list:NewAcc X A (newList []) { cls:=.type "list",data:=.seq #[] } (.lst []):=⟨fun zz zz zz h=>wpAny_newObj_type h,rfl,fun zz zz zz zz e=>⟨#[],⟨_,e⟩,.nil⟩⟩
theorem own_dict0 {K:Type} [DecidableEq K] {kd:KeyKind X.prog X.w K} {F:FS} {h:Heap} {a:Addr} (hs:sysModules < a) (e:h.get? a = some { cls:=.type "dict",data:=.dict #[] }):DctAt X kd F h.get? a []:=
 ⟨Nat.ne_of_gt hs,_,[],e,⟨#[],_,⟨rfl,rfl,rfl⟩,rfl,fun zz h=>absurd h (Array.not_mem_empty _),.nil,List.nodup_nil⟩,rfl,.nil⟩
theorem new_dict:NewAcc X A newDict { cls:=.type "dict",data:=.dict #[] } (.dct []):=⟨fun zz zz zz h=>wpAny_newObj_type h,rfl,fun zz zz zz hs e=>own_dict0 hs e⟩
theorem new_dicti:NewAcc X A newDict { cls:=.type "dict",data:=.dict #[] } (.dci []):=⟨fun zz zz zz h=>wpAny_newObj_type h,rfl,fun zz zz zz hs e=>own_dict0 hs e⟩
theorem evo_comp {e iter:Expr} {scope:Scope} {pos:Pos} {newAcc:Sem Value} {emit:Value -> Env -> Sem Unit} {t:Expr} {ifs:List Expr} {gs:List Comprehension} {o:Obj} {cc0 c:OC} (N:NewAcc X A newAcc o cc0)
  (he:eval e env = comprehension e scope env pos newAcc false (eval iter env)) (C:CompD X A env Γ Ω e iter scope emit t ifs gs cc0 c):EvO X A env Γ Ω e c:=by
 refine ⟨fun F s I=>he ▸ comp_core I N C fun D C s' h=>?_⟩
 obtain ⟨F',c',Ω',m,⟨rfl,rfl⟩,I',x,hO,hD,hn,hC,hC0⟩:=h
 exact ⟨m,hn,fun h' hs'=>⟨D,F',rfl,x.letC I' hC hC0 hs',hD,I'.letC hC hs'⟩⟩
theorem evo_lc {elt t iter:Expr} {ifs:List Expr} {gs:List Comprehension} {scope:Scope} {pos:Pos} {c:OC} (C:CompD X A env Γ Ω (.ListComp elt (⟨t,iter,ifs,0⟩ :: gs) scope pos) iter scope (emitL elt) t ifs gs (.lst []) c):EvO X A env Γ Ω (.ListComp elt (⟨t,iter,ifs,0⟩ :: gs) scope pos) c:=
 evo_comp new_list (by rw [arm_eval_ListComp]; rfl) C
theorem evo_dc {kx vx t iter:Expr} {ifs:List Expr} {gs:List Comprehension} {scope:Scope} {pos:Pos} {c:OC} (C:CompD X A env Γ Ω (.DictComp kx vx (⟨t,iter,ifs,0⟩ :: gs) scope pos) iter scope (emitD kx vx) t ifs gs (.dct []) c):EvO X A env Γ Ω (.DictComp kx vx (⟨t,iter,ifs,0⟩ :: gs) scope pos) c:=
 evo_comp new_dict (by rw [arm_eval_DictComp]; rfl) C
theorem evo_dci {kx vx t iter:Expr} {ifs:List Expr} {gs:List Comprehension} {scope:Scope} {pos:Pos} {c:OC} (C:CompD X A env Γ Ω (.DictComp kx vx (⟨t,iter,ifs,0⟩ :: gs) scope pos) iter scope (emitD kx vx) t ifs gs (.dci []) c):EvO X A env Γ Ω (.DictComp kx vx (⟨t,iter,ifs,0⟩ :: gs) scope pos) c:=
 evo_comp new_dicti (by rw [arm_eval_DictComp]; rfl) C
set_option tactic.hygienic true in
theorem ex_assign_comp {e iter:Expr} {scope:Scope} {pos:Pos} {newAcc:Sem Value} {emit:Value -> Env -> Sem Unit} {t:Expr} {ifs:List Expr} {gs:List Comprehension} {o:Obj} {cc0 c:OC} {x:Str} {p spos:Pos} {R:PostP} (N:NewAcc X A newAcc o cc0)
  (he:evalThenUse e env (assign (.Name x p) env) = (do let _ <- comprehension e scope env pos newAcc false (eval iter env) (some (assign (.Name x p) env)))) (C:CompD X A env Γ Ω e iter scope emit t ifs gs cc0 c)
  (hsw:swapsWith e (some (.Name x p)) spos.line env = pure true) (hk:Storable env x) (hr:R .next (upd Γ x c.d) Ω):Ex X A env Γ Ω (.Assign [.Name x p] e spos) R:=by
 refine ⟨?_⟩
 intro F s I
 rw [exec_Assign_Name_used _ _ _ _ hsw,he]
 refine wpAny_bind (wpAny_standAt (wpAny_bind (wpAny_bind ?_)))
 refine comp_core (use:=some (assign (.Name x p) env)) (Q:=fun zz s'=>wpAny X.M A (pure ():Sem Unit) (fun zz s''=>wpAny X.M A (pure .next) (Post X env Ω F s R) NoE s'') NoE s') I N C fun D CC1 s' h=>?_
 obtain ⟨F',c',Ω',m,⟨rfl,rfl⟩,I',x',hO,hD,hn,hC,hC0⟩:=h
 obtain ⟨q1,q2,q3⟩:=I'.own _ (List.mem_cons_self ..)
 obtain ⟨od,hod⟩:=q1.some
 have xx2:=x'.put hD q2 hod
 have I2:=I.ext xx2
 show wpAny _ A (assign (.Name x p) env (.ref D)) _ _ _
 refine wpAny_assign_Name (store_rule I2 (own_rd q1 hod (put_le q2) (FS.put_self ..)) hk fun ss3 I3 xx3=>⟨m,hn.at' fun o e=>xx3.keep CC1 o hC.t (fun mm=>mm.elim hC.l fun ⟨_,_,_,mm⟩=>hC.c (List.mem_map_of_mem (f:=(·.2)) (mem_of_lookup mm))) e,fun h' hs'=>wpAny_pure (wpAny_pure ?_)⟩)
 ·have y:=xx2.toS.trans I I2 I3 xx3.toS
  exact ⟨F'.put D od,_,_,.next,hr,trivial,I3.letC ⟨hC.l,hC.c,fun h=>hC.o (List.mem_cons_of_mem _ h),(FS.put_ne fun q:CC1 = D=>hC.o (q ▸ List.mem_cons_self ..)).trans hC.f,hC.t⟩ hs',
   y.le,y.new,fun b o e1 e2 e3 e4 e=>(hs'.2 b (fun q=>clash hC0 (q ▸ e))).trans (y.keep b o e1 e2 e3 e4 e),y.dom,y.os,y.gens⟩
set_option tactic.hygienic true in
theorem ex_assign_lc {elt t iter:Expr} {ifs:List Expr} {gs:List Comprehension} {scope:Scope} {pos:Pos} {c:OC} {x:Str} {p spos:Pos} {R:PostP} (C:CompD X A env Γ Ω (.ListComp elt (⟨t,iter,ifs,0⟩ :: gs) scope pos) iter scope (emitL elt) t ifs gs (.lst []) c)
  (hsw:swapsWith (.ListComp elt (⟨t,iter,ifs,0⟩ :: gs) scope pos) (some (.Name x p)) spos.line env = pure true) (hk:Storable env x) (hr:R .next (upd Γ x c.d) Ω):Ex X A env Γ Ω (.Assign [.Name x p] (.ListComp elt (⟨t,iter,ifs,0⟩ :: gs) scope pos) spos) R:=
 ex_assign_comp new_list rfl C hsw hk hr
set_option tactic.hygienic true in
theorem ex_assign_dc {kx vx t iter:Expr} {ifs:List Expr} {gs:List Comprehension} {scope:Scope} {pos:Pos} {c:OC} {x:Str} {p spos:Pos} {R:PostP} (C:CompD X A env Γ Ω (.DictComp kx vx (⟨t,iter,ifs,0⟩ :: gs) scope pos) iter scope (emitD kx vx) t ifs gs (.dct []) c)
  (hsw:swapsWith (.DictComp kx vx (⟨t,iter,ifs,0⟩ :: gs) scope pos) (some (.Name x p)) spos.line env = pure true) (hk:Storable env x) (hr:R .next (upd Γ x c.d) Ω):Ex X A env Γ Ω (.Assign [.Name x p] (.DictComp kx vx (⟨t,iter,ifs,0⟩ :: gs) scope pos) spos) R:=
 ex_assign_comp new_dict rfl C hsw hk hr
end
section
variable {X:Cx} {A:Around} {env:Env} {Γ Γ0:Loc} {Ω:Own} {F F':FS} {s s':Shared}
theorem Ext.fresh (x:Ext X F F' s s') {a:Addr} (h:s'.heap.get? a = none):s.heap.get? a = none:=
 get_none fun o e=>clash h (x.keep a o (fun hT=>(x.glob.tabs_there a hT).elim fun o e=>clash h e) e)
structure Off (X:Cx) (env:Env) (F:FS) (Ω:Own) (a:Addr):Prop where
 t:a ∉ X.T
 l:a ≠ env.locals
 c:a ∉ env.cells.map (·.2)
 o:a ∉ Ω.map (·.1)
theorem Inv.offFrozen (I:Inv X env F Γ Ω s) {a:Addr} {o:Obj} (h:F a = some o):Off X env F Ω a where
 t:=fun hT=>nomatch (I.tF a hT).symm.trans h
 l:=fun q=>oclash (y:=o) I.loc.1 (q ▸ h)
 c:=fun hm=>by obtain ⟨p,hp,rfl⟩:=List.mem_map.mp hm; exact nomatch (I.cells p.1 p.2 hp).2.1.symm.trans h
 o:=fun hm=>by obtain ⟨p,hp,rfl⟩:=List.mem_map.mp hm; exact nomatch (I.own p hp).2.1.symm.trans h
theorem Inv.offFresh (I:Inv X env F Γ Ω s) {a:Addr} (h:s.heap.get? a = none):Off X env F Ω a:=⟨I.nT h,I.nL h,I.nC h,I.nO h⟩
noncomputable def Each {α:Type} (P:α -> Prop):List α -> Prop
 | []=>True
 | a :: r=>P a /\ Each P r
theorem Each.mem {α:Type} {P:α -> Prop} {l:List α}:Each P l -> ∀ b ∈ l,P b:=
 List.rec (motive:=fun l=>Each P l -> ∀ b ∈ l,P b) (fun zz b h=>nomatch h) (fun a r ih h b m=>(List.mem_cons.mp m).elim (fun e=>e ▸ h.1) (ih h.2 b)) l
theorem Each.of {α:Type} {P:α -> Prop} {l:List α}:(∀ b ∈ l,P b) -> Each P l:=
 List.rec (motive:=fun l=>(∀ b ∈ l,P b) -> Each P l) (fun zz=>trivial) (fun a r ih h=>⟨h a (List.mem_cons_self ..),ih fun b m=>h b (List.mem_cons_of_mem _ m)⟩) l
theorem all_map {α β:Type} {f:α -> β} {Q:β -> Prop} {l:List α} (h:∀ a,Q (f a)):∀ d ∈ l.map f,Q d:=fun d m=>(List.mem_map.mp m).elim fun a e=>e.2 ▸ h a
theorem nle {a b:Nat} (h:Nat.ble a b = true):a <= b:=Nat.le_of_ble_eq_true h
inductive SrcAt (F1:FS) (ss1:Shared) (Ω:Own) (al:List Addr) (b:Addr):Prop
 | new (h:ss1.heap.get? b = none)
 | froz (o:Obj) (h:F1 b = some o)
 | own (h:b ∈ Ω.map (·.1)) (h':b ∈ al)
theorem SrcAt.off {al:List Addr} {b:Addr} (I:Inv X env F Γ Ω s) (h:SrcAt F s Ω al b):b ∉ X.T /\ b ≠ env.locals /\ b ∉ env.cells.map (·.2) /\ (b ∈ Ω.map (·.1) -> b ∈ al):=by
 have k:Off X env F Ω b -> b ∉ X.T /\ b ≠ env.locals /\ b ∉ env.cells.map (·.2) /\ (b ∈ Ω.map (·.1) -> b ∈ al):=fun k=>⟨k.t,k.l,k.c,fun q=>absurd q k.o⟩
 rcases h with h | ⟨o,h⟩ | ⟨h,h'⟩
 ·exact k (I.offFresh h)
 ·exact k (I.offFrozen h)
 ·exact ⟨I.ownT h,fun q=>I.loc.2.1 (q ▸ h),fun q=>(List.mem_map.mp q).elim fun p e=>(I.cells p.1 p.2 e.1).2.2.2.1 (e.2 ▸ h),fun zz=>h'⟩
theorem src_mk {t:Expr} {ds:List D} {al:List Addr} {F1:FS} {ss1:Shared} {hh2:Heap} {tk:Nat} {It:Addr} {fp wr:List Addr} {n:Nat} {P Md:Nat -> Value -> Heap -> Prop} {St:Nat -> Heap -> Prop}
  (I:Inv X env F Γ Ω s) (I1:Inv X env F1 Γ Ω ss1) (x1:Ext X F F1 s ss1) (hk:∀ b o,ss1.heap.get? b = some o -> hh2.get? b = some o) (W:KTurns X.prog X.w A t It fp wr n P Md St) (hn:n = ds.length) (hst:St 0 hh2)
  (hwr:Each (fun b=>ss1.heap.get? b = none) wr) (hfp:Each (SrcAt F1 ss1 Ω al) fp) (live:∀ i h,St i h -> Each (There h) fp)
  (item:∀ i v h F',P i v h -> F1.le F' -> Item X t F' h ds i v)
  (self:∀ i (s:Shared) (Q:Value -> Shared -> Prop) (E:Value -> Shared -> Prop),St i s.heap -> Q (.ref It) s -> wpAny X.M A (pyIter (.ref It)) Q E s) :
  ItR X A env Ω t ds al F s (.ref It) { ss1 with heap:=hh2,toks:=tk }:=
 ⟨F1,x1.trans (I1.stay (s':={ ss1 with heap:=hh2,toks:=tk }) hk) I.glob.tabs_there,It,fp,wr,P,Md,St,⟨rfl,hn ▸ W,hst,fun b hb=>⟨I1.nF (hwr.mem b hb),x1.fresh (hwr.mem b hb)⟩,fun b hb=>((hfp.mem b hb).off I1).1,fun i h st=>(live i h st).mem,fun i v h F' a b zz=>item i v h F' a b,self⟩,fun b hb=>((hfp.mem b hb).off I1).2⟩
theorem go_name {x:Str} {p:Pos} {I:Addr} {v:Value} {Q:Unit -> Shared -> Prop} {E:Value -> Shared -> Prop} (h:Q () s):wpAny X.M A (letOwnedTupleGo (.Name x p) (.ref I) v) Q E s:=wpAny_pure h
theorem walks_name {x:Str} {p:Pos} {It:Addr} {fp wr:List Addr} {n:Nat} {P:Nat -> Value -> Prop} {St:Nat -> Heap -> Prop} (W:Walks X.prog X.w A It fp wr n P St):KTurns X.prog X.w A (.Name x p) It fp wr n (fun i v zz=>P i v) (fun i v h=>P i v /\ St (i + 1) h) St:=
 KTurns.ofWalks W fun i v s Q E zz h=>go_name h
theorem it_list0 {x:Str} {p:Pos} {ds:List D} {al:List Addr} {F1:FS} {ss1:Shared} {a:Addr} {vs:List Value} (hh:A.handled = none) (I:Inv X env F Γ Ω s) (I1:Inv X env F1 Γ Ω ss1) (x1:Ext X F F1 s ss1) (hl:ss1.heap.IsList a vs.toArray) (r:RdL X F1 vs ds)
  (ha:SrcAt F1 ss1 Ω al a):wpAny X.M A (pyIter (.ref a)) (ItR X A env Ω (.Name x p) ds al F s) NoE ss1:=
 wpAny_pyIter_list hl (src_mk (tk:=ss1.toks) I I1 x1 (fun b o e=>Heap.get?_push_of_some _ e) (walks_name (Walks.list hh ss1.heap.objs.size a (fun q=>hl.elim fun o e=>clash (get_size _) (q ▸ e.1)) vs.toArray)) ((List.size_toArray ..).trans r.length) ⟨⟨_,Heap.get?_push_size _ rfl,rfl,rfl⟩,hl.push _⟩
  ⟨get_size _,trivial⟩ ⟨.new (get_size _),ha,trivial⟩ (fun i h st=>⟨st.1.elim fun o e=>⟨o,e.1⟩,st.2.elim fun o e=>⟨o,e.1⟩,trivial⟩)
  (fun i v h F' hP hle=>(r.at ((List.getElem?_toArray ..).symm.trans hP)).elim fun d hd=>.one d hd.1 rfl (hd.2.mono hle)) fun i s Q E st hQ=>wpAny_pyIter_listiter st.1 hQ)
inductive LstAt (X:Cx) (F:FS) (s:Shared) (a:Addr) (ds:List D):Prop
 | mk (o:Obj) (vs:List Value) (hF:F a = some o) (hl:s.heap.PlainList a (List.toArray vs)) (r:RdL X F vs ds)
theorem Inv.lst {v:Value} {ds:List D} (I:Inv X env F Γ Ω s) (r:Rd X F v (.lst ds)):∃ a,v = .ref a /\ LstAt X F s a ds:=
 r.inv.imp fun a h=>⟨h.1,let ⟨vs,n,e,r⟩:=h.2; ⟨_,vs,e,⟨n,I.fz _ _ e⟩,r⟩⟩
theorem it_list {x:Str} {p:Pos} {e:Expr} {ds:List D} (hh:A.handled = none) (he:Ev X A env Γ Ω e (.lst ds)):EvIt X A env Γ Ω (.Name x p) e ds []:=by
 refine ⟨fun F s I=>res_then I (he F s I) fun v F1 ss1 x1 I1 r=>?_⟩
 obtain ⟨a,rfl,o,vs,hF,hl,rl⟩:=I1.lst r
 exact it_list0 hh I I1 x1 hl.isList rl (.froz o hF)
theorem it_own {x:Str} {p:Pos} {e:Expr} {a:Addr} {ds:List D} (hh:A.handled = none) (he:Ev X A env Γ Ω e (.val (.ref a))) (ho:(a,OC.lst ds) ∈ Ω):EvIt X A env Γ Ω (.Name x p) e ds [a]:=by
 refine ⟨fun F s I=>res_then I (he F s I) fun v F1 ss1 x1 I1 r=>r.val_elim ?_⟩
 obtain ⟨⟨vs,hl,rl⟩,_⟩:=I1.own _ ho
 exact it_list0 (vs:=vs.toList) hh I I1 x1 hl.isList rl (.own (List.mem_map_of_mem (f:=(·.1)) ho) (List.mem_singleton.mpr rfl))
inductive TupIt (X:Cx) (F:FS) (vs:List Value) (ds:List D) (i:Nat) (T:Addr) (ws:List Value):Prop
 | mk (es:List D) (o:Obj) (n:Nat) (h1:vs[i]? = some (.ref T)) (h2:ds[i]? = some (.tup es)) (h3:F T = some o) (h4:o.cls = .type "tuple") (h5:o.data = .seq (List.toArray ws) n) (h6:RdL X F ws es)
theorem rdl_tups {vs:List Value} {ds:List D} (r:RdL X F vs ds) (ht:∀ d ∈ ds,∃ es,d = .tup es):∃ f:Nat -> Addr × List Value,∀ i,i < vs.length -> TupIt X F vs ds i (f i).1 (f i).2:=
 Classical.axiomOfChoice (r:=fun i (p:Addr × List Value)=>i < vs.length -> TupIt X F vs ds i p.1 p.2) fun i=>by
  by_cases hi:i < vs.length
  ·obtain ⟨d,hd,rv⟩:=r.at (List.getElem?_eq_getElem hi)
   obtain ⟨es,rfl⟩:=ht d (List.mem_of_getElem? hd)
   obtain ⟨T,e,o,ws,n,h1,h2,h3,h4⟩:=rv.inv
   exact ⟨(T,ws),fun zz=>⟨es,o,n,(List.getElem?_eq_getElem hi).trans (congrArg some e),hd,h1,h2,h3,h4⟩⟩
  ·exact ⟨(0,[]),fun h=>absurd h hi⟩
theorem it_tups {elts:List Expr} {k:Nat} {p:Pos} {e:Expr} {ds:List D} (hh:A.handled = none) (he:Ev X A env Γ Ω e (.lst ds)) (ht:∀ d ∈ ds,∃ es,d = .tup es):EvIt X A env Γ Ω (.Tuple elts k p) e ds []:=by
 refine ⟨fun F s I=>res_then I (he F s I) fun v F1 ss1 x1 I1 r=>?_⟩
 obtain ⟨a,rfl,o,vs,hF,hl,rl⟩:=I1.lst r
 obtain ⟨f,H⟩:=rdl_tups rl ht
 have hs:vs.toArray.size = vs.length:=List.size_toArray ..
 refine wpAny_pyIter_list hl.isList (src_mk (tk:=ss1.toks) I I1 x1 (fun b o e=>Heap.get?_push_of_some _ e)
  (KTurns.ofWalksU (elts:=elts) (k:=k) (pos:=p) (WalksU.listOfTuples (prog:=X.prog) (w:=X.w) hh ss1.heap.objs.size a (fun q=>hl.elim fun n e=>clash (get_size _) (q ▸ e)) vs.toArray (fun i=>(f i).1) (fun i=>(f i).2.toArray) (fun j hj=>?_) (fun j hj=>?_)).bound)
  (hs.trans rl.length) ⟨⟨_,Heap.get?_push_size _ rfl,rfl,rfl⟩,hl.isList.push _,fun j hj=>?_⟩ ⟨get_size _,trivial⟩ ⟨.new (get_size _),.froz o hF,.of fun b hb=>?_⟩ (fun i h st=>⟨st.1.elim fun o e=>⟨o,e.1⟩,st.2.1.elim fun o e=>⟨o,e.1⟩,.of fun b hb=>?_⟩) (fun i v h F' hP hle=>?_) fun i s Q E st hQ=>wpAny_pyIter_listiter st.1 hQ)
 ·obtain ⟨es,o,n,h1,_⟩:=H j (hs ▸ hj)
  exact (List.getElem?_toArray ..).trans h1
 ·obtain ⟨es,o,n,_,_,h3,_⟩:=H j (hs ▸ hj)
  exact fun q=>clash (get_size _) (q ▸ I1.fz _ _ h3)
 ·obtain ⟨es,o,n,_,_,h3,h4,h5,_⟩:=H j (hs ▸ hj)
  exact ⟨o,Heap.get?_push_of_some _ (I1.fz _ _ h3),h4,n,h5⟩
 ·obtain ⟨j,hj,rfl⟩:=List.mem_map.mp hb
  obtain ⟨es,o,n,_,_,h3,_⟩:=H j (hs ▸ List.mem_range.mp hj)
  exact .froz o h3
 ·obtain ⟨j,hj,rfl⟩:=List.mem_map.mp hb
  exact (st.2.2 j (List.mem_range.mp hj)).elim fun o e=>⟨o,e.1⟩
 ·obtain ⟨T',vals,e,⟨hi,rfl⟩,hT⟩:=hP
  obtain ⟨es,o,n,_,h2,_,_,_,h6⟩:=H i (hs ▸ hi)
  exact .tup T' _ es e h2 rfl hT (h6.mono hle)
end
section
variable {X:Cx} {A:Around} {env:Env} {Γ Γ0:Loc} {Ω:Own} {F F':FS} {s s':Shared}
noncomputable def Kp (X:Cx) (F:FS) (fv:Value):Prop:=∀ h:Heap,X.K.In h -> (∀ a o,F a = some o -> h.get? a = some o) -> ∃ k,(k = Keeper.frame \/ k = Keeper.machine \/ k = Keeper.boundFrame) /\ Looks X.M h (keeperOf fv) k
theorem kp_b {id:String}:Kp X F (.builtin id):=fun zz zz zz=>⟨.machine,.inr (.inl rfl),.now⟩
theorem kp_t {id:String}:Kp X F (.type id):=fun zz zz zz=>⟨.machine,.inr (.inl rfl),.now⟩
theorem kp_k {v:Value} (h:keepIn X.K v = true):Kp X F v:=fun zz a zz=>keeps_K h _ a
theorem kp_fn {a:Addr} {o:Obj} {fd:FuncData} (h:F a = some o) (hd:o.data = .func fd):Kp X F (.ref a):=fun zz zz hf=>
 ⟨.frame,.inl rfl,(Looks.ld (part:=none) (hf _ _ h)).andThen (by simp only [hd]; exact .now)⟩
theorem star_any {e:Expr} {rest:List Expr} {pos:Pos} (he:starEach (e :: rest) env = (false,eval e env) :: starEach rest env) (hp:(backTo pos (starEach rest env)).any (·.1) = false):((backTo pos (starEach (e :: rest) env)).any (·.1) || false) = false:=by
 rw [he]; exact (Bool.or_false _).trans hp
theorem args_plain {e:Expr} {rest:List Expr} {pos:Pos} {fv:Value} {Q:Args -> Shared -> Prop} {E:Value -> Shared -> Prop} (he:starEach (e :: rest) env = (false,eval e env) :: starEach rest env)
  (h:wpAny X.M A (spliced (backTo pos (starEach (e :: rest) env))) (fun vs=>Q ⟨vs,[]⟩) E s):wpAny X.M A (evalArgs fv true (backTo pos (starEach (e :: rest) env)) []) Q E s:=by
 rw [he] at h ⊢; exact evalArgs_plain h
theorem call_rule {fe e:Expr} {rest:List Expr} {pos:Pos} {fv:Value} {ds:List D} {Q:Value -> Shared -> Prop} {E:Value -> Shared -> Prop} {id:Str} {p:Pos}
  (I:Inv X env F Γ Ω s) (hf:Ev X A env Γ Ω (.Name id p) (.val fv)) (hk:∀ F',F.le F' -> Kp X F' fv) (ha:EvL X A env Γ Ω (e :: rest) ds) (he:starEach (e :: rest) env = (false,eval e env) :: starEach rest env) (hp:(backTo pos (starEach rest env)).any (·.1) = false)
  (k:∀ F1 ss1 vs,Ext X F F1 s ss1 -> Inv X env F1 Γ Ω ss1 -> RdL X F1 vs ds -> wpAny X.M A (call fv vs) Q E ss1):wpAny X.M A (eval (.Call (.Name id p) (e :: rest) [] pos) env) Q E s:=by
 refine wpAny_Call_Name_kw (res_then I (hf F s I) fun v F1 ss1 x1 I1 r=>r.val_elim ?_)
 refine callWith_of (P:=fun h=>X.K.In h /\ ∀ a o,F1 a = some o -> h.get? a = some o) (star_any he hp) (fun h P=>hk F1 x1.le h P.1 P.2) (args_plain he ?_)
 refine wpAny_mono (ha pos F1 ss1 I1) (fun vs ss2 hh2=>?_) fun zz zz e=>e.elim
 obtain ⟨F2,xx2,rr2⟩:=hh2
 have I2:=I1.ext xx2
 exact ⟨⟨I2.glob.k,fun a o e=>I2.fz a o (xx2.le a o e)⟩,k F2 ss2 vs (x1.trans xx2 I.glob.tabs_there) I2 rr2⟩
noncomputable def CallR (X:Cx) (A:Around) (env:Env) (Γ:Loc) (Ω:Own) (fv:Value) (ds:List D) (d:D):Prop:=
 ∀ F s vs,Inv X env F Γ Ω s -> RdL X F vs ds -> wpAny X.M A (call fv vs) (Res X F s d) NoE s
theorem ev_call {e:Expr} {rest:List Expr} {pos:Pos} {fv:Value} {ds:List D} {d:D} {id:Str} {p:Pos} (hf:Ev X A env Γ Ω (.Name id p) (.val fv)) (hk:∀ F',Kp X F' fv) (ha:EvL X A env Γ Ω (e :: rest) ds) (hc:CallR X A env Γ Ω fv ds d)
  (he:starEach (e :: rest) env = (false,eval e env) :: starEach rest env) (hp:(backTo pos (starEach rest env)).any (·.1) = false):Ev X A env Γ Ω (.Call (.Name id p) (e :: rest) [] pos) d:=⟨fun F s I=>
 call_rule (fe:=e) I hf (fun F' zz=>hk F') ha he hp fun F1 ss1 vs x1 I1 rr1=>res_up I x1 (hc F1 ss1 vs I1 rr1)⟩
noncomputable def MethFacts (T:String) (name:Str) (id:String):Prop:=PlainAttrs T /\ Slot T name id /\ typeOf (.builtin id) = pure (.type "method_descriptor")
inductive TyIs (s:Shared) (v:Value) (T:String):Prop
 | mk (t:s.TypeIs v T) (d:∀ a,v = .ref a -> ∃ ob,s.heap.get? a = some ob /\ ob.dict = none)
abbrev Ty (X:Cx) (env:Env) (Γ:Loc) (Ω:Own) (d0:D) (T:String):Prop:=∀ F s v,Inv X env F Γ Ω s -> Rd X F v d0 -> TyIs s v T
theorem meth_rule1 {o e:Expr} {rest:List Expr} {name:Str} {apos pos:Pos} {T:String} {id:String} {d0:D} {ds:List D} {Q:Value -> Shared -> Prop} {E:Value -> Shared -> Prop} (I:Inv X env F Γ Ω s) (mf:MethFacts T name id)
  (hbase:attributeBase o name env (eval o env) = eval o env) (hline:(apos.endLine == pos.line) = true)
  (hfew:((backTo pos (starEach (e :: rest) env)).all (fun x=>!x.1) && (backToKw pos (keywordEach [] env)).all (fun x=>x.1.isSome) && decide ((e :: rest).length + ([]:List Keyword).length + (if ([]:List Keyword).isEmpty then 0 else 1) < 30)) = true)
  (he:starEach (e :: rest) env = (false,eval e env) :: starEach rest env) (hp:(backTo pos (starEach rest env)).any (·.1) = false)
  (ho:Ev X A env Γ Ω o d0) (ht:Ty X env Γ Ω d0 T) (ha:EvL X A env Γ Ω (e :: rest) ds)
  (k:∀ F1 ss1 v vs,Ext X F F1 s ss1 -> Inv X env F1 Γ Ω ss1 -> Rd X F1 v d0 -> RdL X F1 vs ds -> wpAny X.M A (call (.builtin id) (v :: vs)) Q E ss1):wpAny X.M A (eval (.Call (.Attribute o name apos) (e :: rest) [] pos) env) Q E s:=by
 refine wpAny_Call_method_late hbase hfew hline rfl (res_then I (ho F s I) fun v F1 ss1 x1 I1 r=>?_)
 obtain ⟨hT,hd⟩:=ht F1 ss1 v I1 r
 refine ⟨T,id,mf.1,mf.2.1,mf.2.2,hT,hd,callWith_of (P:=fun h=>True) (star_any he hp) (fun h zz=>⟨.machine,.inr (.inl rfl),.now⟩) (args_plain he ?_)⟩
 refine wpAny_mono (ha pos F1 ss1 I1) (fun vs ss2 hh2=>?_) fun zz zz e=>e.elim
 obtain ⟨F2,xx2,rr2⟩:=hh2
 exact ⟨trivial,k F2 ss2 v vs (x1.trans xx2 I.glob.tabs_there) (I1.ext xx2) (r.mono xx2.le) rr2⟩
theorem meth_rule0 {o:Expr} {name:Str} {apos pos:Pos} {T:String} {id:String} {d0:D} {Q:Value -> Shared -> Prop} {E:Value -> Shared -> Prop} (I:Inv X env F Γ Ω s) (mf:MethFacts T name id)
  (hbase:attributeBase o name env (eval o env) = eval o env) (hline:(apos.endLine == pos.line) = true)
  (ho:Ev X A env Γ Ω o d0) (ht:Ty X env Γ Ω d0 T)
  (k:∀ F1 ss1 v,Ext X F F1 s ss1 -> Inv X env F1 Γ Ω ss1 -> Rd X F1 v d0 -> wpAny X.M A (call (.builtin id) [v]) Q E ss1):wpAny X.M A (eval (.Call (.Attribute o name apos) [] [] pos) env) Q E s:=by
 refine wpAny_Call_method_late hbase rfl hline rfl (res_then I (ho F s I) fun v F1 ss1 x1 I1 r=>?_)
 obtain ⟨hT,hd⟩:=ht F1 ss1 v I1 r
 exact ⟨T,id,mf.1,mf.2.1,mf.2.2,hT,hd,callWith_of (P:=fun zz=>True) rfl (fun h zz=>⟨.machine,.inr (.inl rfl),.now⟩) (evalArgs_nil3 ⟨trivial,k F1 ss1 v x1 I1 r⟩)⟩
theorem ty_ref {a:Addr} {o:Obj} {T:String} (e:s.heap.get? a = some o) (h:o.cls = .type T) (hd:o.dict = none):TyIs s (.ref a) T:=⟨⟨_,e,h⟩,fun b q=>Value.ref.inj q ▸ ⟨_,e,hd⟩⟩
theorem ty_own {a:Addr} {ds:List D} (h:(a,OC.lst ds) ∈ Ω):Ty X env Γ Ω (.val (.ref a)) "list" := fun F s v I r=>r.val_elim (by
 obtain ⟨⟨vs,⟨n,e⟩,_⟩,_⟩:=I.own _ h
 exact ty_ref e rfl rfl)
theorem DctAt.ty {K:Type} [DecidableEq K] {kd:KeyKind X.prog X.w K} {G:FS} {a:Addr} {es:List (K × D)} (x:DctAt X kd F G a es) (hG:∀ o,G a = some o -> s.heap.get? a = some o):TyIs s (.ref a) "dict" := by
 obtain ⟨_,o,kvs,ho,⟨es',ep,hx,_⟩,_⟩:=x
 exact ty_ref (hG _ ho) hx.1 hx.2.1
theorem ty_owndct {a:Addr} {es:List (Str × D)} (h:(a,OC.dct es) ∈ Ω):Ty X env Γ Ω (.val (.ref a)) "dict" := fun F s v I r=>r.val_elim (DctAt.ty (I.own _ h).1 fun zz e=>e)
theorem ty_dct {es:List (Str × D)}:Ty X env Γ Ω (.dct es) "dict" := fun F s v I r=>by obtain ⟨a,rfl,h⟩:=r.inv; exact h.ty (I.fz a)
theorem ty_dci {es:List (Int × D)}:Ty X env Γ Ω (.dci es) "dict" := fun F s v I r=>by obtain ⟨a,rfl,h⟩:=r.inv; exact h.ty (I.fz a)
theorem ty_str {x:Str}:Ty X env Γ Ω (.str x) "str" := fun F s v I r=>r.str_elim fun t=>⟨typeIs_str ..,fun b q=>nomatch q⟩
theorem walks_bound {It:Addr} {fp wr:List Addr} {n:Nat} {P:Nat -> Value -> Prop} {St:Nat -> Heap -> Prop} (W:Walks X.prog X.w A It fp wr n P St):Walks X.prog X.w A It fp wr n (fun i v=>i < n /\ P i v) St where
 sub:=W.sub
 frame:=W.frame
 item:=fun i s Q E hi st hQ=>W.item i s Q E hi st fun v h' tk hP=>hQ v h' tk ⟨hi,hP⟩
 done:=W.done
 self:=W.self
noncomputable def intsD (a:Int) (n:Nat):List D:=(List.range n).map fun (i:Nat)=>D.int (a + (i:Int))
theorem intsD_length (a:Int) (n:Nat):(intsD a n).length = n:=(List.length_map ..).trans List.length_range
theorem intsD_get {a:Int} {n i:Nat} (h:i < n):(intsD a n)[i]? = some (.int (a + (i:Int))):=by rw [intsD,List.getElem?_map,List.getElem?_range h]; rfl
theorem it_range {x:Str} {p:Pos} {F1:FS} {ss1:Shared} {a b:Int} {n:Nat} {r:Addr} {t u v:Tok} {al:List Addr} (hh:A.handled = none) (ha:-1000000 <= a) (ha':a <= 1000000) (hb:-1000000 <= b) (hb':b <= 1000000) (hn:(b - a).toNat = n)
  (I:Inv X env F Γ Ω s) (I1:Inv X env F1 Γ Ω ss1) (x1:Ext X F F1 s ss1) (hr:IsRange ss1.heap r a b 1 t u v):wpAny X.M A (pyIter (.ref r)) (ItR X A env Ω (.Name x p) (intsD a n) al F s) NoE ss1:=by
 refine wpAny_pyIter_range hr (small_one (Int.le_trans (by decide) ha) (Int.lt_of_le_of_lt ha' (by decide)) (Int.le_trans (by decide) hb) (Int.lt_of_le_of_lt hb' (by decide)))
  (src_mk (ds:=intsD a n) (tk:=ss1.toks) I I1 x1 (fun b o e=>Heap.get?_push_of_some _ e) (walks_name (walks_bound (Walks.range hh ss1.heap.objs.size a 1 n))) (intsD_length a n).symm ?_ ⟨get_size _,trivial⟩ ⟨.new (get_size _),trivial⟩ (fun i h st=>⟨⟨_,st⟩,trivial⟩) (fun i v h F' hP hle=>?_) fun i s Q E st hQ=>wpAny_pyIter_rangeiter st hQ)
 ·show IsRangeIter _ _ (a + 0) ((n:Int) - 0) 1
  rw [Int.add_zero,Int.sub_zero,<- hn,<- rangeSize_nat]
  exact Heap.get?_push_size _ rfl
 ·obtain ⟨hi,t,rfl⟩:=hP
  exact .one _ (intsD_get hi) rfl (by rw [Int.mul_one]; exact .int _ _)
theorem it_range1 {x:Str} {p p' pos:Pos} {e:Expr} {n:Int} (hh:A.handled = none) (hf:Ev X A env Γ Ω (.Name "range" p') (.val (.type "range"))) (ha:Ev X A env Γ Ω e (.int n)) (hn:n <= 1000000) (hn':-1000000 <= n) (he:starEach [e] env = [(false,eval e env)]):EvIt X A env Γ Ω (.Name x p) (.Call (.Name "range" p') [e] [] pos) (intsD 0 n.toNat) []:=
 ⟨fun F s I=>call_rule (fe:=e) I hf (fun zz zz=>kp_t) (evl_cons ha evl_nil he) he rfl fun F1 ss1 vs x1 I1 r=>r.one_elim fun v r=>r.int_elim fun tk1=>call_range_1 (by
  have y:=I1.stay (s':={ ss1 with heap:=ss1.heap.push { cls:=.type "range",data:=.fields #[.int 0 ss1.toks,.int n tk1,.int 1 (ss1.toks + 1)] },toks:=ss1.toks + 1 + 1 }) (fun b o e=>Heap.get?_push_of_some _ e)
  exact it_range hh (by decide) (by decide) hn' hn (congrArg Int.toNat (Int.sub_zero n)) I (I1.ext y) (x1.trans y I.glob.tabs_there) (IsRange.new ..))⟩
theorem it_range2 {x:Str} {p p' pos:Pos} {e e':Expr} {a b:Int} (hh:A.handled = none) (hf:Ev X A env Γ Ω (.Name "range" p') (.val (.type "range"))) (ha:Ev X A env Γ Ω e (.int a)) (hb:Ev X A env Γ Ω e' (.int b)) (h1:-1000000 <= a) (h2:a <= 1000000) (h3:-1000000 <= b) (h4:b <= 1000000)
  (he:starEach [e,e'] env = (false,eval e env) :: starEach [e'] env) (he':starEach [e'] env = [(false,eval e' env)]):EvIt X A env Γ Ω (.Name x p) (.Call (.Name "range" p') [e,e'] [] pos) (intsD a (b - a).toNat) []:=
 ⟨fun F s I=>call_rule (fe:=e) I hf (fun zz zz=>kp_t) (evl_cons ha (evl_cons hb evl_nil he') he) he (by rw [he']; rfl) fun F1 ss1 vs x1 I1 r=>r.two_elim fun v w r r'=>r.int_elim fun tk1=>r'.int_elim fun tk2=>call_range_2 (by
  have y:=I1.stay (s':={ ss1 with heap:=ss1.heap.push { cls:=.type "range",data:=.fields #[.int a tk1,.int b tk2,.int 1 ss1.toks] },toks:=ss1.toks + 1 }) (fun b o e=>Heap.get?_push_of_some _ e)
  exact it_range hh h1 h2 h3 h4 rfl I (I1.ext y) (x1.trans y I.glob.tabs_there) (IsRange.new ..))⟩
noncomputable def enumD (ds:List D):List D:=ds.zipIdx.map fun p=>D.tup [.int (p.2:Nat),p.1]
theorem enumD_get {ds:List D} {i:Nat} {d:D} (h:ds[i]? = some d):(enumD ds)[i]? = some (.tup [.int i,d]):=by
 rw [enumD,List.getElem?_map,List.getElem?_zipIdx,h,Nat.zero_add]; rfl
theorem enumD_length {ds:List D}:(enumD ds).length = ds.length:=(List.length_map ..).trans List.length_zipIdx
theorem it_enum {elts:List Expr} {k:Nat} {p p' pos:Pos} {e:Expr} {ds:List D} (hh:A.handled = none) (hf:Ev X A env Γ Ω (.Name "enumerate" p') (.val (.type "enumerate"))) (ha:Ev X A env Γ Ω e (.lst ds)) (he:starEach [e] env = [(false,eval e env)]):EvIt X A env Γ Ω (.Tuple elts k p) (.Call (.Name "enumerate" p') [e] [] pos) (enumD ds) []:=by
 refine ⟨fun F s I=>call_rule (fe:=e) I hf (fun zz zz=>kp_t) (evl_cons ha evl_nil he) he rfl fun F1 ss1 vs x1 I1 r=>r.one_elim fun v r=>?_⟩
 obtain ⟨l,rfl,o,vs,hF,hl,rl⟩:=I1.lst r
 have hlt:l < ss1.heap.objs.size:=hl.elim fun n e=>Heap.lt_size e
 refine call_enumerate_list hl.isList fun h' hE hI hsz hk=>wpAny_pyIter_enum hE (src_mk (tk:=ss1.toks) I I1 x1 hk
  (KTurns.ofWalksU (elts:=elts) (k:=k) (pos:=p) (WalksT.enumerate (prog:=X.prog) (w:=X.w) hh (ss1.heap.objs.size + 1) ss1.heap.objs.size l (Nat.succ_ne_self _) (Nat.ne_of_lt (Nat.lt_succ_of_lt hlt)) (Nat.ne_of_lt hlt) vs.toArray).toU)
  ((List.size_toArray ..).trans (rl.length.trans enumD_length.symm)) ⟨⟨_,hE⟩,hI,hl.isList.at fun o e=>hk _ o e⟩ ⟨fresh_le (Nat.le_succ _),get_size _,trivial⟩ ⟨.new (fresh_le (Nat.le_succ _)),.new (get_size _),.froz o hF,trivial⟩
  (fun i h st=>⟨st.1.elim fun old e=>⟨_,e⟩,st.2.1.elim fun o e=>⟨o,e.1⟩,st.2.2.elim fun o e=>⟨o,e.1⟩,trivial⟩) (fun i v h F' hP hle=>?_) fun i s Q E st hQ=>st.1.elim fun old e=>wpAny_pyIter_enum e hQ)
 obtain ⟨T,vals,rfl,⟨t,y,hx,rfl⟩,hT⟩:=hP
 obtain ⟨d,hd,rv⟩:=rl.at ((List.getElem?_toArray ..).symm.trans hx)
 exact .tup T [.int i t,y] _ rfl (enumD_get hd) rfl hT (.cons (.int _ _) (.one (rv.mono hle)))
noncomputable def zipD (xs ys:List D):List D:=List.zipWith (fun x y=>D.tup [x,y]) xs ys
theorem zipD_get {xs ys:List D} {i:Nat} {x y:D} (h:xs[i]? = some x) (h':ys[i]? = some y):(zipD xs ys)[i]? = some (.tup [x,y]):=by rw [zipD,List.getElem?_zipWith,h,h']
theorem it_zip {elts:List Expr} {k:Nat} {p p' pos:Pos} {e e':Expr} {xs ys:List D} (hh:A.handled = none) (hf:Ev X A env Γ Ω (.Name "zip" p') (.val (.type "zip"))) (ha:Ev X A env Γ Ω e (.lst xs)) (hb:Ev X A env Γ Ω e' (.lst ys))
  (he:starEach [e,e'] env = (false,eval e env) :: starEach [e'] env) (he':starEach [e'] env = [(false,eval e' env)]):EvIt X A env Γ Ω (.Tuple elts k p) (.Call (.Name "zip" p') [e,e'] [] pos) (zipD xs ys) []:=by
 refine ⟨fun F s I=>call_rule (fe:=e) I hf (fun zz zz=>kp_t) (evl_cons ha (evl_cons hb evl_nil he') he) he (by rw [he']; rfl) fun F1 ss1 vs x1 I1 r=>r.two_elim fun v w r1 r2=>?_⟩
 obtain ⟨l1,rfl,o1,vs1,hF1,hl1,rl1⟩:=I1.lst r1
 obtain ⟨l2,rfl,o2,vs2,hF2,hl2,rl2⟩:=I1.lst r2
 have fz:∀ j,ss1.heap.get? (ss1.heap.objs.size + j) = none:=fun j=>fresh_le (Nat.le_add_right _ _)
 refine call_zip_2 hl1.isList hl2.isList fun h' z1 z2 z3 z4 z5 hsz hk=>wpAny_pyIter_zip z1 (src_mk (tk:=ss1.toks) I I1 x1 hk
  (KTurns.ofWalksU (elts:=elts) (k:=k) (pos:=p) (WalksT.zip2 (prog:=X.prog) (w:=X.w) hh _ _ _ _ _ l1 l2 (ktu_apart ss1.heap.objs.size l1 l2 (hl1.elim fun n e=>Heap.lt_size e) (hl2.elim fun n e=>Heap.lt_size e)) vs1.toArray vs2.toArray).toU)
  (by rw [zipD,List.length_zipWith,List.size_toArray,List.size_toArray,rl1.length,rl2.length]) ⟨z1,z2,⟨_,_,z3⟩,z4,z5,hl1.isList.at fun o e=>hk _ o e,hl2.isList.at fun o e=>hk _ o e⟩
  ⟨fz 4,fz 3,get_size _,fz 1,trivial⟩ ⟨.new (fz 4),.new (fz 2),.new (fz 3),.new (get_size _),.new (fz 1),.froz _ hF1,.froz _ hF2,trivial⟩ (fun i h st=>?_) (fun i v h F' hP hle=>?_) fun i s Q E st hQ=>wpAny_pyIter_zip st.1 hQ)
 ·obtain ⟨q1,q2,⟨a,b',q3⟩,⟨_,q4,_⟩,⟨_,q5,_⟩,⟨_,q6,_⟩,⟨_,q7,_⟩⟩:=st
  exact ⟨⟨_,q1⟩,⟨_,q2⟩,⟨_,q3⟩,⟨_,q4⟩,⟨_,q5⟩,⟨_,q6⟩,⟨_,q7⟩,trivial⟩
 ·obtain ⟨T,vals,rfl,⟨y1,y2,hx1,hx2,rfl⟩,hT⟩:=hP
  obtain ⟨d1,hd1,rv1⟩:=rl1.at ((List.getElem?_toArray ..).symm.trans hx1)
  obtain ⟨d2,hd2,rv2⟩:=rl2.at ((List.getElem?_toArray ..).symm.trans hx2)
  exact .tup T [y1,y2] _ rfl (zipD_get hd1 hd2) rfl hT (.cons (rv1.mono hle) (.one (rv2.mono hle)))
inductive DctR (X:Cx) {K:Type} [DecidableEq K] (kd:KeyKind X.prog X.w K) (F:FS) (s:Shared) (a:Addr) (es:List (K × D)):Prop
 | mk (o:Obj) (kvs:List (K × Value)) (hF:F a = some o) (hsm:(a == sysModules) = false) (hke:kvs.map (·.1) = es.map (·.1)) (r:RdL X F (kvs.map (·.2)) (es.map (·.2))) (hd:s.heap.DictOf kd a kvs)
theorem DctAt.of {K:Type} [DecidableEq K] {kd:KeyKind X.prog X.w K} {a:Addr} {es:List (K × D)} (I:Inv X env F Γ Ω s) (x:DctAt X kd F F a es):DctR X kd F s a es:=by
 obtain ⟨h0,o,kvs,e,d,k,r⟩:=x; exact ⟨o,kvs,e,beq_eq_false_iff_ne.mpr h0,k,r,Heap.dictOf_iff.mpr ⟨_,I.fz _ _ e,d⟩⟩
theorem Inv.dct {v:Value} {es:List (Str × D)} (I:Inv X env F Γ Ω s) (r:Rd X F v (.dct es)):∃ a,v = .ref a /\ DctR X (strKind X.prog X.w) F s a es:=r.inv.imp fun a h=>⟨h.1,h.2.of I⟩
theorem Inv.dci {v:Value} {es:List (Int × D)} (I:Inv X env F Γ Ω s) (r:Rd X F v (.dci es)):∃ a,v = .ref a /\ DctR X (intKind X.prog X.w) F s a es:=r.inv.imp fun a h=>⟨h.1,h.2.of I⟩
theorem kvs_get {K:Type} {kvs:List (K × Value)} {es:List (K × D)} (hk:kvs.map (·.1) = es.map (·.1)) (r:RdL X F (kvs.map (·.2)) (es.map (·.2))) {i:Nat} {k:K} {v:Value} (h:kvs[i]? = some (k,v)):∃ d,es[i]? = some (k,d) /\ Rd X F v d:=by
 obtain ⟨d,hd,rv⟩:=r.at (i:=i) (v:=v) (by rw [List.getElem?_map,h]; rfl)
 have e1:(es.map (·.1))[i]? = some k:=by rw [<- hk,List.getElem?_map,h]; rfl
 rw [List.getElem?_map] at hd e1
 obtain ⟨p,hp,rfl⟩:=Option.map_eq_some_iff.mp hd
 rw [hp] at e1
 exact ⟨p.2,hp.trans (congrArg (fun k=>some (k,p.2)) (Option.some.inj e1)),rv⟩
noncomputable def itemsD (es:List (Str × D)):List D:=es.map fun p=>D.tup [.str p.1,p.2]
theorem mf_items:MethFacts "dict" "items" "dict.items" := ⟨PySem.F.plainAttrs_dict,PySem.F.slot_dict_items,PySem.F.type_dict_items⟩
theorem mf_values:MethFacts "dict" "values" "dict.values" := ⟨PySem.F.plainAttrs_dict,PySem.F.slot_dict_values,PySem.F.type_dict_values⟩
theorem it_items {elts:List Expr} {k:Nat} {p apos pos:Pos} {e:Expr} {es:List (Str × D)} (hh:A.handled = none) (ha:Ev X A env Γ Ω e (.dct es)) (hbase:attributeBase e "items" env (eval e env) = eval e env) (hline:(apos.endLine == pos.line) = true):EvIt X A env Γ Ω (.Tuple elts k p) (.Call (.Attribute e "items" apos) [] [] pos) (itemsD es) []:=by
 refine ⟨fun F s I=>meth_rule0 I mf_items hbase hline ha ty_dct fun F1 ss1 v x1 I1 r=>?_⟩
 obtain ⟨a,rfl,o,kvs,hF,hsm,hke,rl,hdo⟩:=I1.dct r
 refine call_meetsIn PySem.F.slot_dict_items hdo.typeIs PySem.F.entry_dict_items (PySem.F.args_dict_items_1 _) (meets_dict_items (PySem.strKind X.prog X.w) a hsm) ⟨⟨kvs,hdo⟩,?_⟩
 have y:=I1.stay (s':={ ss1 with heap:=ss1.heap.push { cls:=.type "dict_items",data:=.fields #[.ref a] } }) (fun b o e=>Heap.get?_push_of_some _ e)
 have hit:(ss1.heap.push { cls:=.type "dict_items",data:=.fields #[.ref a] }).IsItemsView ss1.heap.objs.size a:=⟨_,Heap.get?_push_size _ rfl,rfl,rfl⟩
 obtain ⟨ep,hat⟩:=(hdo.keep (h':=ss1.heap.push { cls:=.type "dict_items",data:=.fields #[.ref a] }) fun b o e=>Heap.get?_push_of_some _ e).dictAt
 generalize ss1.heap.push { cls:=.type "dict_items",data:=.fields #[.ref a] } = H at *
 have hl:kvs.length = (itemsD es).length:=(keys_length hke).trans (List.length_map ..).symm
 refine wpAny_pyIter_items (knd:=PySem.strKind X.prog X.w) hit hat (src_mk (ss1:={ ss1 with heap:=H }) (tk:=ss1.toks) I (I1.ext y) (x1.trans y I.glob.tabs_there) (fun b o e=>Heap.get?_push_of_some _ e) (kti_itemsTurns (prog:=X.prog) (w:=X.w) (knd:=PySem.strKind X.prog X.w) (elts:=elts) (kk:=k) (pos:=p) hh H.objs.size a (fun q=>hat.elim fun o h=>h.elim fun zz h=>clash (get_size _) (q ▸ h.1)) kvs ep) hl ⟨⟨.none,.none,Heap.get?_push_size _ rfl⟩,hat.at' fun o e=>Heap.get?_push_of_some _ e⟩
  ⟨get_size _,trivial⟩ ⟨.new (get_size _),.froz o hF,trivial⟩ (fun i h st=>?_) (fun i v h F' hP hle=>?_) fun i s Q E st hQ=>st.1.elim fun ok h=>h.elim fun ov he=>kcp_self he hQ)
 ·obtain ⟨⟨ok,ov,he⟩,⟨o',_,hm,_⟩⟩:=st
  exact ⟨⟨_,he⟩,⟨_,hm⟩,trivial⟩
 ·obtain ⟨T,key,kk,xx,rfl,hx,hkey,hT⟩:=hP
  obtain ⟨d,hd',rv⟩:=kvs_get hke rl hx
  obtain ⟨t,rfl⟩:=Value.isStrOf_shape hkey
  exact .tup T [.str kk t,xx] _ rfl ((List.getElem?_map ..).trans (congrArg _ hd')) rfl hT (.cons (.str _ _) (.one (rv.mono hle)))
end
section
variable {X:Cx} {A:Around} {env:Env} {Γ Γ0:Loc} {Ω:Own} {F F':FS} {s s':Shared}
theorem it_values {x:Str} {p apos pos:Pos} {e:Expr} {es:List (Int × D)} (hh:A.handled = none) (ha:Ev X A env Γ Ω e (.dci es)) (hbase:attributeBase e "values" env (eval e env) = eval e env) (hline:(apos.endLine == pos.line) = true):EvIt X A env Γ Ω (.Name x p) (.Call (.Attribute e "values" apos) [] [] pos) (es.map (·.2)) []:=by
 refine ⟨fun F s I=>meth_rule0 I mf_values hbase hline ha ty_dci fun F1 ss1 v x1 I1 r=>?_⟩
 obtain ⟨a,rfl,o,kvs,hF,hsm,hke,rl,hdo⟩:=I1.dci r
 refine call_meetsIn PySem.F.slot_dict_values hdo.typeIs PySem.F.entry_dict_values (PySem.F.args_dict_values_1 _) (meets_dict_values (intKind X.prog X.w) a hsm) ⟨⟨kvs,hdo⟩,?_⟩
 have y:=I1.stay (s':={ ss1 with heap:=ss1.heap.push { cls:=.type "dict_values",data:=.fields #[.ref a] } }) (fun b o e=>Heap.get?_push_of_some _ e)
 have hit:(ss1.heap.push { cls:=.type "dict_values",data:=.fields #[.ref a] }).IsValuesView ss1.heap.objs.size a:=⟨_,Heap.get?_push_size _ rfl,rfl,rfl⟩
 obtain ⟨ep,hat⟩:=(hdo.keep (h':=ss1.heap.push { cls:=.type "dict_values",data:=.fields #[.ref a] }) fun b o e=>Heap.get?_push_of_some _ e).dictAt
 generalize ss1.heap.push { cls:=.type "dict_values",data:=.fields #[.ref a] } = H at *
 have hl:kvs.length = (es.map (·.2)).length:=(keys_length hke).trans (List.length_map ..).symm
 refine wpAny_pyIter_values (knd:=intKind X.prog X.w) hit hat (src_mk (ss1:={ ss1 with heap:=H }) (tk:=ss1.toks) I (I1.ext y) (x1.trans y I.glob.tabs_there) (fun b o e=>Heap.get?_push_of_some _ e) (walks_name (Walks.dictValues (prog:=X.prog) (w:=X.w) (knd:=intKind X.prog X.w) hh H.objs.size a (fun q=>hat.elim fun o h=>h.elim fun zz h=>clash (get_size _) (q ▸ h.1)) kvs ep)) hl ⟨⟨_,Heap.get?_push_size _ rfl,rfl,rfl⟩,hat.at' fun o e=>Heap.get?_push_of_some _ e⟩
  ⟨get_size _,trivial⟩ ⟨.new (get_size _),.froz o hF,trivial⟩ (fun i h st=>?_) (fun i v h F' hP hle=>?_) fun i s Q E st hQ=>wpAny_pyIter_valiter st.1 hQ)
 ·obtain ⟨⟨_,he,_⟩,⟨o',_,hm,_⟩⟩:=st
  exact ⟨⟨_,he⟩,⟨_,hm⟩,trivial⟩
 ·obtain ⟨kk,hx⟩:=hP
  obtain ⟨d,hd',rv⟩:=kvs_get hke rl hx
  exact .one d ((List.getElem?_map ..).trans (congrArg _ hd')) rfl (rv.mono hle)
theorem it_keys {x:Str} {p:Pos} {e:Expr} {es:List (Str × D)} (hh:A.handled = none) (ha:Ev X A env Γ Ω e (.dct es)):EvIt X A env Γ Ω (.Name x p) e (es.map fun q=>.str q.1) []:=by
 refine ⟨fun F s I=>res_then I (ha F s I) fun v F1 ss1 x1 I1 r=>?_⟩
 obtain ⟨a,rfl,o,kvs,hF,hsm,hke,rl,hdo⟩:=I1.dct r
 obtain ⟨ep,hat⟩:=hdo.dictAt
 have hl:kvs.length = (es.map fun q=>D.str q.1).length:=(keys_length hke).trans (List.length_map ..).symm
 refine wpAny_pyIter_dict (knd:=PySem.strKind X.prog X.w) hsm hat (src_mk (tk:=ss1.toks) I I1 x1 (fun b o e=>Heap.get?_push_of_some _ e) (walks_name (Walks.dictKeys (prog:=X.prog) (w:=X.w) (knd:=PySem.strKind X.prog X.w) hh ss1.heap.objs.size a (fun q=>hat.elim fun o h=>h.elim fun zz h=>clash (get_size _) (q ▸ h.1)) kvs ep)) hl ⟨⟨_,Heap.get?_push_size _ rfl,rfl,rfl⟩,hat.at' fun o e=>Heap.get?_push_of_some _ e⟩
  ⟨get_size _,trivial⟩ ⟨.new (get_size _),.froz o hF,trivial⟩ (fun i h st=>?_) (fun i v h F' hP hle=>?_) fun i s Q E st hQ=>wpAny_pyIter_keyiter st.1 hQ)
 ·obtain ⟨⟨_,he,_⟩,⟨o',_,hm,_⟩⟩:=st
  exact ⟨⟨_,he⟩,⟨_,hm⟩,trivial⟩
 ·obtain ⟨kk,xx,hx,hkey⟩:=hP
  obtain ⟨d,hd',rv⟩:=kvs_get hke rl hx
  obtain ⟨t,rfl⟩:=Value.isStrOf_shape hkey
  exact .one _ ((List.getElem?_map ..).trans (congrArg _ hd')) rfl (.str _ _)
noncomputable def signs (x:Str):List D:=x.cps.toList.map fun c=>.str ⟨#[c]⟩
theorem it_str {x:Str} {p:Pos} {e:Expr} {y:Str} (hh:A.handled = none) (hy:y.cps.all (· < 128) = true) (ha:Ev X A env Γ Ω e (.str y)):EvIt X A env Γ Ω (.Name x p) e (signs y) []:=by
 refine ⟨fun F s I=>res_then I (ha F s I) fun v F1 ss1 x1 I1 r=>r.str_elim fun t=>wpAny_pyIter_ascii hy (src_mk (tk:=ss1.toks) I I1 x1 (fun b o e=>Heap.get?_push_of_some _ e) (walks_name (Walks.strAscii (prog:=X.prog) (w:=X.w) hh ss1.heap.objs.size y t)) ((List.length_map ..).trans Array.length_toList).symm ⟨_,Heap.get?_push_size _ rfl,rfl,rfl⟩
  ⟨get_size _,trivial⟩ ⟨.new (get_size _),trivial⟩ (fun i h st=>⟨st.elim fun o e=>⟨o,e.1⟩,trivial⟩) (fun i v h F' hP hle=>?_) fun i s Q E st hQ=>wpAny_pyIter_striter_ascii st hQ)⟩
 obtain ⟨c,u,hc,rfl⟩:=hP
 exact .one (.str ⟨#[c]⟩) (by rw [signs,List.getElem?_map,Array.getElem?_toList,hc]; rfl) rfl (.str _ _)
theorem it_keysM {α:Type} {xs:List α} {f:α -> Str × D} {x:Str} {p:Pos} {e:Expr} (hh:A.handled = none) (ha:Ev X A env Γ Ω e (.dct (xs.map f))):EvIt X A env Γ Ω (.Name x p) e (xs.map fun x=>.str (f x).1) []:=by
 have h:=it_keys (x:=x) (p:=p) hh ha
 rwa [List.map_map] at h
end
section
variable {X:Cx} {A:Around} {env:Env} {Γ Γ0:Loc} {Ω:Own} {F F':FS} {s s':Shared}
structure Base (X:Cx) (F:FS) (Ω:Own) (s:Shared):Prop where
 glob:Gl X F s.heap
 fb:∀ b o,b ∉ X.T -> X.h0.get? b = some o -> F b = some o
 fz:∀ a o,F a = some o -> s.heap.get? a = some o
 own:∀ p ∈ Ω,OwnAt X F s.heap p.1 p.2 /\ F p.1 = none /\ p.1 ∉ X.T
 nd:(Ω.map (·.1)).Nodup
 tF:∀ P ∈ X.T,F P = none
theorem Inv.base (I:Inv X env F Γ Ω s):Base X F Ω s:=⟨I.glob,I.fb,I.fz,I.own,I.nd,I.tF⟩
theorem Base.nil (B:Base X F Ω s):Base X F [] s:=⟨B.glob,B.fb,B.fz,(fun zz h=>nomatch h),List.nodup_nil,B.tF⟩
theorem Base.one (B:Base X F Ω s) {a:Addr} {c:OC} (h:(a,c) ∈ Ω):Base X F [(a,c)] s:=⟨B.glob,B.fb,B.fz,(fun p hp=>List.mem_singleton.mp hp ▸ B.own _ h),List.nodup_cons.mpr ⟨(fun h=>nomatch h),List.nodup_nil⟩,B.tF⟩
structure ExtO (X:Cx) (Ω:Own) (F F':FS) (s s':Shared):Prop where
 le:F.le F'
 fz:∀ a o,F' a = some o -> s'.heap.get? a = some o
 new:∀ a,F' a = F a \/ s.heap.get? a = none
 keep:∀ b o,b ∉ X.T -> b ∉ Ω.map (·.1) -> s.heap.get? b = some o -> s'.heap.get? b = some o
 glob:Gl X F' s'.heap
 os:s'.os = s.os
 gens:GensLe s.gens s'.gens
theorem ExtO.ext (x:ExtO X [] F F' s s'):Ext X F F' s s':=⟨x.le,x.fz,x.new,fun b o h e=>x.keep b o h (fun h=>nomatch h) e,x.glob,x.os,x.gens⟩
abbrev fenv (fd:FuncData) (L a:Addr):Env:=callEnvC fd L a
theorem bind_get {p:Str -> Prop} [DecidablePred p] {g:List (Str × Value) -> (Str -> Option Value) -> Str -> Option Value} (g0:∀ m,g [] m = m) (g1:∀ n v r m,g ((n,v) :: r) m = g r (if p n then fun y=>if y = n then some v else m y else m))
  {x:Str} {v:Value} (hp:p x) {binds:List (Str × Value)} (hn:(binds.map (·.1)).Nodup) (h:(x,v) ∈ binds):∀ m,g binds m x = some v:=by
 have keep:∀ r m,x ∉ r.map (·.1) -> g r m x = m x:=fun r=>by
  induction r with
  | nil=>exact fun m zz=>congrFun (g0 m) x
  | cons q r ih=>
   intro m hx
   rw [g1,ih _ fun h=>hx (List.mem_cons_of_mem _ h)]
   split
   ·exact if_neg fun e:x = q.1=>hx (e ▸ List.mem_cons_self ..)
   ·rfl
 induction binds with
 | nil=>cases h
 | cons q r ih=>
  obtain ⟨h1,h2⟩:=List.nodup_cons.mp hn
  intro m
  rw [g1]
  rcases List.mem_cons.mp h with e | h
  ·cases e
   rw [keep _ _ h1,if_pos hp,if_pos rfl]
  ·exact ih h2 h _
theorem bindL_get {kindOf:Str -> Option NameKind} {binds:List (Str × Value)} {m:Str -> Option Value} {x:Str} {v:Value} (hn:(binds.map (·.1)).Nodup) (hk:kindOf x = some .local) (h:(x,v) ∈ binds):bindL kindOf binds m x = some v:=
 bind_get (p:=fun n=>kindOf n = some .local) (fun zz=>rfl) (fun zz zz zz zz=>rfl) hk hn h m
theorem bindC_get {kindOf:Str -> Option NameKind} {binds:List (Str × Value)} {m:Str -> Option Value} {x:Str} {v:Value} (hn:(binds.map (·.1)).Nodup) (hk:kindOf x ≠ some .local) (h:(x,v) ∈ binds):bindC kindOf binds m x = some v:=
 bind_get (p:=fun n=>kindOf n ≠ some .local) (fun zz=>rfl) (fun zz zz zz zz=>by rw [bindC,ite_not]) hk hn h m
theorem zip_lookup {ns:List Str} {vs:List Value} {ds:List D} {x:Str} {d:D} (r:RdL X F vs ds) (h:(ns.zip ds).lookup x = some d):∃ v,(x,v) ∈ ns.zip vs /\ Rd X F v d:=by
 obtain ⟨i,hi⟩:=List.mem_iff_getElem?.mp (mem_of_lookup h)
 obtain ⟨h1,h2⟩:=List.getElem?_zip_eq_some.mp hi
 obtain ⟨v,hv,rv⟩:=r.get h2
 exact ⟨v,List.mem_of_getElem? (List.getElem?_zip_eq_some.mpr ⟨h1,hv⟩),rv⟩
structure DefOk (X:Cx) (fd:FuncData) (body:List Stmt):Prop where
 co:fd.scope.isCoroutine = false
 gen:fd.scope.isGenerator = false
 kind:fd.scope.kind = .function
 keys:((cellsFrom 0 fd.scope.names []).map (·.1)).Nodup
 has:∀ x,fd.scope.names.lookup x = some .cell -> x ∈ (cellsFrom 0 fd.scope.names []).map (·.1)
 body:fd.body = .stmts body
 clo:fd.closure = []
 gl:fd.globals = mainGlobals
 bi:fd.builtins = builtinsNs
 code:CodeIn (fun a=>X.K.lookup a) fd.qualname fd.code
theorem DefOk.look {fd:FuncData} {body:List Stmt} (ok:DefOk X fd body) (n:Nat) {x:Str} (h:fd.scope.names.lookup x = some .cell):∃ c,(cellsFrom n fd.scope.names []).lookup x = some c:=by
 obtain ⟨p,hp,rfl⟩:=List.mem_map.mp (PyProof.Rows.cellsFrom_names fd.scope.names 0 n [] [] rfl ▸ ok.has x h)
 exact lookup_of_mem (x:=p.1) (c:=p.2) hp
theorem CxOk.codeRec {fd:FuncData} {h:Heap} (g:Gl X F h) (k:CodeIn (fun a=>X.K.lookup a) fd.qualname fd.code):h.CodeRec fd.code fd.qualname:=by
 obtain ⟨c,o,vs,t,h1,h2,h3,h4⟩:=k; exact ⟨c,o,vs,t,h1,g.k _ _ h2,h3,h4⟩
theorem Base.nF (B:Base X F Ω s) {a:Addr} (ha:s.heap.get? a = none):F a = none:=Option.eq_none_iff_forall_ne_some.mpr fun o e=>oclash ha (B.fz a o e)
theorem Base.nT (B:Base X F Ω s) {a:Addr} (ha:s.heap.get? a = none):a ∉ X.T:=fun hT=>(B.glob.tabs_there a hT).elim fun o e=>clash ha e
theorem Base.nO (B:Base X F Ω s) {a:Addr} (ha:s.heap.get? a = none):a ∉ Ω.map (·.1):=fun hm=>by
 obtain ⟨p,hp,rfl⟩:=List.mem_map.mp hm
 exact (B.own p hp).1.some.elim fun o e=>clash ha e
theorem call_def {fa:Addr} {o:Obj} {fd:FuncData} {body:List Stmt} {pos:List Value} {kw:List (Str × Value)} {ns:List Str} {vs:List Value} {ds:List D} {Q:Value -> Shared -> Prop} {E:Value -> Shared -> Prop}
  (B:Base X F Ω s) (room:A.depth < recursionLimit) (ho:s.heap.get? fa = some o) (hd:o.data = .func fd) (ok:DefOk X fd body) (hb:BindsTo s fd ⟨pos,kw⟩ (ns.zip vs)) (r:RdL X F vs ds) (hn:ns.length = vs.length) (hnd:ns.Nodup)
  (hkind:∀ x ∈ ns,fd.scope.names.lookup x = some .local \/ fd.scope.names.lookup x = some .cell)
  (h:∀ L ss2,s.heap.get? L = none -> Inv X (fenv fd L fa) F (ns.zip ds) Ω ss2 -> Ext X F F s ss2 -> (∀ c ∈ (fenv fd L fa).cells.map (·.2),s.heap.get? c = none) ->
   wpAny X.M (A.deeper (fenv fd L fa)) (execs body (fenv fd L fa)) (fun f s'=>Q (match f with | .ret v=>v | _=>.none) s') (fun e s'=>wpAny X.M (A.deeper (fenv fd L fa)) (leaving (fenv fd L fa) e) (fun zz s''=>E e s'') (fun e' s''=>E e' s'') s') ss2) :
  wpAny X.M A (call (.ref fa) pos kw) Q E s:=by
 refine wpAny_call ?_
 have g:=B.glob
 refine codeAny_call_function room ho hd ok.co ok.gen ok.body (CxOk.codeRec g ok.code) (hb _ _ _ _ ?_)
 rw [ok.clo]
 have hfst:(ns.zip vs).map (·.1) = ns:=List.map_fst_zip (Nat.le_of_eq hn)
 refine wpAny_newFunctionEnv_cells ok.kind (fun x hx=>(hkind x.1 (hfst ▸ List.mem_map_of_mem hx)).imp id fun e=>⟨e,Option.isSome_iff_exists.mpr (ok.look _ e)⟩) fun env he ss2 Y=>?_
 subst he
 refine ⟨g.nolimit.keeps Y.toInCall.keep,codeAny_func ?_⟩
 obtain ⟨hh1,tk,rfl,keep⟩:=Y.done
 have fL:=get_size s.heap
 have fC:∀ c ∈ (callEnvC fd s.heap.objs.size fa).cells.map (·.2),s.heap.get? c = none:=fun c hc=>(List.mem_map.mp hc).elim fun p hp=>fresh_le (hp.2 ▸ Nat.le_of_lt (Y.above p.1 p.2 hp.1))
 have xx2:Ext X F F s { s with heap:=hh1,toks:=tk }:=.same g B.fz (fun b o e=>keep b o e) rfl (.refl _)
 have hns:((ns.zip vs).map (·.1)).Nodup:=hfst.symm ▸ hnd
 refine h _ _ fL ⟨⟨ok.kind,ok.gl,ok.bi⟩,xx2.glob,B.fb,xx2.fz,⟨_,Y.toInCall.ns,fun x d h1 h2=>?_⟩,fun x d h1 h2=>?_,fun n c hm=>?_,Y.apart,⟨B.nF fL,B.nO fL,B.nT fL⟩,fun p hp=>⟨(B.own p hp).1.keep (fun zz zz e=>e) fun o e=>keep _ o e,(B.own p hp).2⟩,B.nd,B.tF⟩ xx2 fC
 ·obtain ⟨v,hv,rv⟩:=zip_lookup r h1
  exact ⟨v,bindL_get hns h2 hv,rv⟩
 ·obtain ⟨v,hv,rv⟩:=zip_lookup r h1
  obtain ⟨c,hc⟩:=ok.look (s.heap.objs.size + 1) ((hkind x (List.of_mem_zip hv).1).resolve_left h2)
  obtain ⟨o',ho',hd'⟩:=Y.cell x c hc
  exact ⟨c,v,hc,⟨o',ho',hd'.trans (congrArg Data.cell (bindC_get hns h2 hv))⟩,rv⟩
 ·have fc:=fC c (List.mem_map_of_mem (f:=(·.2)) hm)
  exact ⟨⟨_,Y.cell n c (lookup_nd (PyProof.Rows.cellsFrom_names fd.scope.names 0 (s.heap.objs.size + 1) [] [] rfl ▸ ok.keys) hm)⟩,B.nF fc,Nat.ne_of_gt (Y.above n c hm),B.nO fc,B.nT fc⟩
theorem Inv.callO {a:Addr} {c c':OC} (I:Inv X env F Γ Ω s) (h:(a,c) ∈ Ω) (x:ExtO X [(a,c)] F F' s s') (ho:OwnAt X F' s'.heap a c'):Inv X env F' Γ (oset Ω a c') s':=by
 have ha:a ∈ Ω.map (·.1):=List.mem_map_of_mem (f:=(·.1)) h
 have k:∀ b o,b ∉ X.T -> b ≠ a -> s.heap.get? b = some o -> s'.heap.get? b = some o:=fun b o hb hne e=>x.keep b o hb (fun m=>hne (List.mem_singleton.mp m)) e
 have nF:∀ b,(∃ o,s.heap.get? b = some o) -> F b = none -> F' b = none:=fun b e h=>(x.new b).elim (fun q=>q.trans h) fun q=>e.elim fun o e=>clash q e
 refine ⟨I.eo,x.glob,fun b o hb e=>x.le b o (I.fb b o hb e),x.fz,?_,fun y d hy hl=>?_,fun n c hc=>?_,I.apart,⟨nF _ (I.ns.elim fun m h=>ns_there h.1) I.loc.1,(oset_fst ..).symm ▸ I.loc.2.1,I.loc.2.2⟩,fun p hp=>?_,(oset_fst ..).symm ▸ I.nd,fun P hP=>nF _ (I.glob.tabs_there P hP) (I.tF P hP)⟩
 ·obtain ⟨m,hn,hm⟩:=I.ns
  exact ⟨m,hn.at' fun o e=>k _ o I.loc.2.2 (fun q=>I.loc.2.1 (q ▸ ha)) e,fun y d h1 h2=>(hm y d h1 h2).imp fun v h=>⟨h.1,h.2.mono x.le⟩⟩
 ·obtain ⟨c,v,hc,⟨o,hv,hd⟩,r⟩:=I.cl y d hy hl
  obtain ⟨_,_,_,q3,q4⟩:=I.cells y c (mem_of_lookup hc)
  exact ⟨c,v,hc,⟨o,k _ _ q4 (fun q=>q3 (q ▸ ha)) hv,hd⟩,r.mono x.le⟩
 ·obtain ⟨⟨v,o,hv,hd⟩,e1,e2,e3,e4⟩:=I.cells n c hc
  exact ⟨⟨v,o,k _ _ e4 (fun q=>e3 (q ▸ ha)) hv,hd⟩,nF _ ⟨_,hv⟩ e1,e2,(oset_fst ..).symm ▸ e3,e4⟩
 ·rcases mem_oset I.nd hp with rfl | ⟨hp,hne⟩
  ·obtain ⟨q1,q2,q3⟩:=I.own _ h
   exact ⟨ho,nF _ q1.some q2,q3⟩
  ·obtain ⟨q1,q2,q3⟩:=I.own p hp
   exact ⟨q1.keep x.le fun o e=>k _ o q3 hne e,nF _ q1.some q2,q3⟩
theorem ExtO.toS {a:Addr} {c c':OC} (h:(a,c) ∈ Ω) (x:ExtO X [(a,c)] F F' s s'):ExtS X env Ω (oset Ω a c') F F' s s' where
 le:=x.le
 new:=fun a=>(x.new a).imp id .inl
 keep:=fun b o h1 zz zz h4 e=>x.keep b o h1 (fun q=>h4 (List.mem_singleton.mp q ▸ List.mem_map_of_mem (f:=(·.1)) h)) e
 dom:=fun b hb=>.inl (oset_fst a c' Ω ▸ hb)
 os:=x.os
 gens:=x.gens
theorem post_ext {fd:FuncData} {L fa:Addr} {ss2:Shared} {Γ':Loc} {Ω':Own} (_hL:s.heap.get? L = none) (hC:∀ c ∈ (fenv fd L fa).cells.map (·.2),s.heap.get? c = none) (xx2:Ext X F F s ss2) (I':Inv X (fenv fd L fa) F' Γ' Ω' s') (y:ExtS X (fenv fd L fa) Ω Ω' F F' ss2 s') (B:Base X F Ω s)
  (hO:∀ p ∈ Ω,F' p.1 = none):ExtO X Ω F F' s s' where
 le:=y.le
 fz:=I'.fz
 new:=fun a=>(y.new a).elim .inl fun e=>e.elim (fun e=>.inr (xx2.fresh e)) fun e=>by
  obtain ⟨p,hp,rfl⟩:=List.mem_map.mp e
  exact .inl ((hO p hp).trans (B.own p hp).2.1.symm)
 keep:=fun b o h1 h2 e=>y.keep b o h1 (fun q:b = L=>clash _hL (q ▸ e)) (fun q=>clash (hC b q) e) h2 (xx2.keep b o h1 e)
 glob:=I'.glob
 os:=y.os.trans xx2.os
 gens:=xx2.gens.trans y.gens
set_option tactic.hygienic true in
abbrev RetP (d:D):PostP:=fun fd zz zz=>fd = .ret d \/ (fd = .next /\ d = .none)
end
section
variable {X:Cx} {A:Around} {env:Env} {Γ Γ0:Loc} {Ω:Own} {F F':FS} {s s':Shared}
inductive AtLst (X:Cx) (F:FS) (s:Shared) (v:Value) (ds:List D):Prop
 | mk (a:Addr) (vs:List Value) (e:v = .ref a) (hl:s.heap.PlainList a (List.toArray vs)) (r:RdL X F vs ds)
abbrev LstD (X:Cx) (env:Env) (Γ:Loc) (Ω:Own) (d:D) (ds:List D):Prop:=∀ F s v,Inv X env F Γ Ω s -> Rd X F v d -> AtLst X F s v ds
theorem lst_d {ds:List D}:LstD X env Γ Ω (.lst ds) ds:=fun F s v I r=>by obtain ⟨a,e,_,vs,_,hl,r⟩:=I.lst r; exact ⟨a,vs,e,hl,r⟩
theorem own_d {a:Addr} {ds:List D} (h:(a,OC.lst ds) ∈ Ω):LstD X env Γ Ω (.val (.ref a)) ds:=fun F s v I r=>by obtain ⟨⟨vs,hl,r'⟩,_⟩:=I.own _ h; exact ⟨a,vs.toList,r.val_inv,hl,r'⟩
inductive AtDct (X:Cx) (F:FS) (s:Shared) (v:Value) (es:List (Str × D)):Prop
 | mk (a:Addr) (kvs:List (Str × Value)) (e:v = .ref a) (hsm:(a == sysModules) = false) (hke:kvs.map (·.1) = es.map (·.1)) (r:RdL X F (kvs.map (·.2)) (es.map (·.2))) (hd:s.heap.DictOf (PySem.strKind X.prog X.w) a kvs)
abbrev DctD (X:Cx) (env:Env) (Γ:Loc) (Ω:Own) (d:D) (es:List (Str × D)):Prop:=∀ F s v,Inv X env F Γ Ω s -> Rd X F v d -> AtDct X F s v es
theorem dct_d {es:List (Str × D)}:DctD X env Γ Ω (.dct es) es:=fun F s v I r=>by obtain ⟨a,e,_,kvs,_,h1,h2,h3,h4⟩:=I.dct r; exact ⟨a,kvs,e,h1,h2,h3,h4⟩
inductive OwnDct (X:Cx) (F:FS) (s:Shared) (a:Addr) (es:List (Str × D)):Prop
 | mk (kvs:List (Str × Value)) (hsm:a ≠ sysModules) (hke:kvs.map (·.1) = es.map (·.1)) (r:RdL X F (kvs.map (·.2)) (es.map (·.2))) (hd:s.heap.DictOf (PySem.strKind X.prog X.w) a kvs)
theorem own_dct {a:Addr} {es:List (Str × D)} (I:Inv X env F Γ Ω s) (h:(a,OC.dct es) ∈ Ω):OwnDct X F s a es:=by
 obtain ⟨⟨hsm,o,kvs,ho,hd,hke,rl⟩,_⟩:=I.own _ h; exact ⟨kvs,hsm,hke,rl,Heap.dictOf_iff.mpr ⟨o,ho,hd⟩⟩
theorem owndct_d {a:Addr} {es:List (Str × D)} (h:(a,OC.dct es) ∈ Ω):DctD X env Γ Ω (.val (.ref a)) es:=fun F s v I r=>by obtain ⟨kvs,h1,h2,h3,h4⟩:=own_dct I h; exact ⟨a,kvs,r.val_inv,beq_eq_false_iff_ne.mpr h1,h2,h3,h4⟩
inductive SubT (X:Cx) (env:Env) (Γ:Loc) (Ω:Own) (d:D):Prop
 | mk (T id:String) (ht:∀ F s v,Inv X env F Γ Ω s -> Rd X F v d -> s.TypeIs v T) (hl:typeLookup (.type T) "__getitem__" = pure (some (.builtin id)))
theorem sub_ops (slice:Expr) (o i:Value):∃ ops,subscripted slice false o i = operate ops (getItem o i):=by
 cases slice with
 | Slice a b c p=>cases c <;> exact ⟨_,rfl⟩
 | _=>exact ⟨_,rfl⟩
theorem ev_sub {value slice:Expr} {pos:Pos} {dd1 dd2 d:D} (h1:Ev X A env Γ Ω value dd1) (h2:Ev X A env Γ Ω slice dd2) (ht:SubT X env Γ Ω dd1) (ho:Op2 X A env Γ Ω getItem dd1 dd2 d):Ev X A env Γ Ω (.Subscript value slice pos) d:=by
 refine ⟨fun F s I=>Subscript_ (res_then I (h1 F s I) fun vv1 F1 ss1 x1 I1 rr1=>res_then I1 (h2 F1 ss1 I1) fun vv2 F2 ss2 xx2 I2 rr2=>?_)⟩
 obtain ⟨T,id,hT,hl⟩:=ht
 obtain ⟨ops,ho'⟩:=sub_ops slice vv1 vv2
 exact tail_any (hT F2 ss2 vv1 I2 (rr1.mono xx2.le)) hl (res_up I (x1.trans xx2 I.glob.tabs_there) (ho F2 ss2 vv1 vv2 I2 (rr1.mono xx2.le) rr2)) ho'
theorem Ty.is {d:D} {T:String} (h:Ty X env Γ Ω d T):∀ F s v,Inv X env F Γ Ω s -> Rd X F v d -> s.TypeIs v T:=fun F s v I r=>by obtain ⟨t,_⟩:=h F s v I r; exact t
theorem ty_lst {d:D} {ds:List D} (h:LstD X env Γ Ω d ds):Ty X env Γ Ω d "list" := fun F s v I r=>by
 obtain ⟨a,vs,rfl,⟨n,e⟩,_⟩:=h F s v I r
 exact ty_ref e rfl rfl
theorem subT_lst {ds:List D}:SubT X env Γ Ω (.lst ds):=⟨_,_,Ty.is (ty_lst lst_d),slot_list_getitem.lookup⟩
theorem subT_own {a:Addr} {ds:List D} (h:(a,OC.lst ds) ∈ Ω):SubT X env Γ Ω (.val (.ref a)):=⟨_,_,Ty.is (ty_own h),slot_list_getitem.lookup⟩
theorem subT_owndct {a:Addr} {es:List (Str × D)} (h:(a,OC.dct es) ∈ Ω):SubT X env Γ Ω (.val (.ref a)):=⟨_,_,Ty.is (ty_owndct h),slot_dict_getitem.lookup⟩
theorem subT_dct {es:List (Str × D)}:SubT X env Γ Ω (.dct es):=⟨_,_,Ty.is (ty_dct),slot_dict_getitem.lookup⟩
theorem subT_tup {ds:List D}:SubT X env Γ Ω (.tup ds):=⟨_,_,fun F s v I r=>by obtain ⟨T,vs,rfl,ht,_⟩:=I.tup r; exact ht.typeIs,slot_tuple_getitem.lookup⟩
theorem subT_str {x:Str}:SubT X env Γ Ω (.str x):=⟨_,_,Ty.is (ty_str),PySem.F.slot_str_getitem.lookup⟩
theorem op_int {t:Value -> Value -> Sem Value} {dd1 d:D} {i:Int} (h:∀ F s v tk,Inv X env F Γ Ω s -> Rd X F v dd1 -> wpAny X.M A (t v (.int i tk)) (Res X F s d) NoE s):Op2 X A env Γ Ω t dd1 (.int i) d:=fun F s v zz I rr1 rr2=>rr2.int_elim fun tk=>h F s v tk I rr1
theorem small_at {α:Type} {ds:List α} {i:Int} {d:α} (h0:0 <= i) (h:ds[i.toNat]? = some d) (hz:ds.length <= 1000000):i < ds.length /\ i < 2 ^ 63:=by
 have:=(List.getElem?_eq_some_iff.mp h).1
 omega
theorem get_seq {dd1 d:D} {ds:List D} {i:Int} (L:LstD X env Γ Ω dd1 ds) (h0:0 <= i) (h:ds[i.toNat]? = some d) (hz:ds.length <= 1000000):Op2 X A env Γ Ω getItem dd1 (.int i) d:=op_int fun F s v tk I rr1=>by
 obtain ⟨a,vs,rfl,hl,rl⟩:=L F s v I rr1
 obtain ⟨v,hv,rv⟩:=rl.get h
 exact wpAny_getItem_list hl.isList h0 (small_at h0 h hz).2 ((List.getElem?_toArray ..).trans hv) (I.res rv)
theorem get_lst {ds:List D} {i:Int} {d:D} (h0:0 <= i) (h:ds[i.toNat]? = some d) (hz:ds.length <= 1000000):Op2 X A env Γ Ω getItem (.lst ds) (.int i) d:=get_seq lst_d h0 h hz
theorem get_own {a:Addr} {ds:List D} {i:Int} {d:D} (ha:(a,OC.lst ds) ∈ Ω) (h0:0 <= i) (h:ds[i.toNat]? = some d) (hz:ds.length <= 1000000):Op2 X A env Γ Ω getItem (.val (.ref a)) (.int i) d:=get_seq (own_d ha) h0 h hz
theorem get_seq_neg {dd1 d:D} {ds:List D} {i:Int} (L:LstD X env Γ Ω dd1 ds) (h0:i < 0) (h1:-(ds.length:Int) <= i) (h:ds[(i + ds.length).toNat]? = some d) (hz:ds.length <= 1000000):Op2 X A env Γ Ω getItem dd1 (.int i) d:=op_int fun F s v tk I rr1=>by
 obtain ⟨a,vs,rfl,hl,rl⟩:=L F s v I rr1
 obtain ⟨v,hv,rv⟩:=rl.get h
 have e:vs.toArray.size = ds.length:=(List.size_toArray ..).trans rl.length
 exact wpAny_getItem_list_neg hl.isList h0 (e ▸ h1) (by omega) (e.symm ▸ (List.getElem?_toArray ..).trans hv) (I.res rv)
theorem get_lst_neg {ds:List D} {i:Int} {d:D} (h0:i < 0) (h1:-(ds.length:Int) <= i) (h:ds[(i + ds.length).toNat]? = some d) (hz:ds.length <= 1000000):Op2 X A env Γ Ω getItem (.lst ds) (.int i) d:=get_seq_neg lst_d h0 h1 h hz
theorem get_tup {ds:List D} {i:Int} {d:D} (h0:0 <= i) (h:ds[i.toNat]? = some d) (hz:ds.length <= 1000000):Op2 X A env Γ Ω getItem (.tup ds) (.int i) d:=op_int fun F s v tk I rr1=>by
 obtain ⟨T,vs,rfl,ht,rl⟩:=I.tup rr1
 obtain ⟨v,hv,rv⟩:=rl.get h
 have e:vs.toArray.size = ds.length:=(List.size_toArray ..).trans rl.length
 exact getItem_tuple ht (Int.le_trans (by decide) h0) (small_at h0 h hz).2 (PySem.seqIndex_of h0 (e ▸ (small_at h0 h hz).1)) ((List.getElem?_toArray ..).trans hv) (I.res rv)
inductive LkRel (X:Cx) (F:FS):Option Value -> Option D -> Prop
 | none:LkRel X F none none
 | some {v:Value} {d:D} (r:Rd X F v d):LkRel X F (some v) (some d)
theorem LkRel.get {o:Option Value} {o':Option D} (h:LkRel X F o o') {d:D} (e:o' = .some d):∃ v,o = .some v /\ Rd X F v d:=by
 cases h with
 | none=>cases e
 | some r=>exact ⟨_,rfl,Option.some.inj e ▸ r⟩
theorem LkRel.getD {o:Option Value} {o':Option D} (h:LkRel X F o o') {v:Value} {d:D} (r:Rd X F v d):Rd X F (o.getD v) (o'.getD d):=by
 cases h with
 | none=>exact r
 | some r=>exact r
theorem LkRel.isSome {o:Option Value} {o':Option D} (h:LkRel X F o o'):o.isSome = o'.isSome:=by cases h <;> rfl
theorem valueAt_get {kvs:List (Str × Value)} {es:List (Str × D)} (hk:kvs.map (·.1) = es.map (·.1)) (r:RdL X F (kvs.map (·.2)) (es.map (·.2))) (k:Str):LkRel X F (valueAt kvs k) (es.lookup k):=by
 induction kvs generalizing es with
 | nil=>
  cases es with
  | nil=>exact .none
  | cons e es=>cases hk
 | cons kv kvs ih=>
  cases es with
  | nil=>cases hk
  | cons e es=>
   injection hk with h1 h2
   have h1:kv.1 = e.1:=h1
   rw [List.lookup_cons,valueAt]
   by_cases h:k = e.1
   ·rw [List.find?_cons_of_pos (p:=fun kv:Str × Value=>decide (kv.1 = k)) (decide_eq_true (h1.trans h.symm)),beq_iff_eq.mpr h]
    exact .some r.uncons.1
   ·rw [List.find?_cons_of_neg (p:=fun kv:Str × Value=>decide (kv.1 = k)) (by rw [h1]; exact fun q=>h (of_decide_eq_true q).symm),beq_eq_false_iff_ne.mpr h]
    exact ih h2 r.uncons.2
theorem get_map {es:List (Str × D)} {k:Str} {dd1 d:D} (M:DctD X env Γ Ω dd1 es) (h:es.lookup k = some d):Op2 X A env Γ Ω getItem dd1 (.str k) d:=fun F s vv1 vv2 I rr1 rr2=>by
 obtain ⟨a,kvs,rfl,hsm,hke,rl,hdo⟩:=M F s vv1 I rr1
 obtain ⟨v,hv,rv⟩:=(valueAt_get hke rl k).get h
 exact wpAny_getItem_of (knd:=PySem.strKind X.prog X.w) (is_str rr2) hdo.mapOf hv (I.res rv)
theorem get_dct {es:List (Str × D)} {k:Str} {d:D} (h:es.lookup k = some d):Op2 X A env Γ Ω getItem (.dct es) (.str k) d:=get_map dct_d h
theorem get_owndct {a:Addr} {es:List (Str × D)} {k:Str} {d:D} (ha:(a,OC.dct es) ∈ Ω) (h:es.lookup k = some d):Op2 X A env Γ Ω getItem (.val (.ref a)) (.str k) d:=get_map (owndct_d ha) h
theorem get_str {x:Str} {i:Int} {c:Nat} (h0:0 <= i) (h1:i < 1000000) (h:x.cps[i.toNat]? = some c):Op2 X A env Γ Ω getItem (.str x) (.int i) (.str ⟨#[c]⟩):=op_int fun F s v tk I rr1=>rr1.str_elim fun t=>by
 have hlt:i.toNat < x.cps.size:=(Array.getElem?_eq_some_iff.mp h).1
 refine PyProof.Rows.getItem_str (by rw [decide_eq_false (Int.not_lt.mpr (Int.le_trans (by decide) h0)),decide_eq_false (Int.not_le.mpr (Int.lt_trans h1 (by decide)))]; rfl) ?_ (I.res (.str _ _))
 rw [PySem.seqIndex_of h0 (show i < ((x.length:Nat):Int) from (Int.toNat_lt h0).mp hlt)]
 exact h
theorem in_map {es:List (Str × D)} {k:Str} {d:D} (M:DctD X env Γ Ω d es):Op2 X A env Γ Ω (compareOp .In) (.str k) d (.bool (es.lookup k).isSome):=fun F s vv1 vv2 I rr1 rr2=>by
 obtain ⟨a,kvs,rfl,hsm,hke,rl,hdo⟩:=M F s vv2 I rr2
 exact wpAny_in_of (knd:=PySem.strKind X.prog X.w) (is_str rr1) hsm hdo.mapOf (I.res ((valueAt_get hke rl k).isSome ▸ .bool _))
theorem in_dct {es:List (Str × D)} {k:Str}:Op2 X A env Γ Ω (compareOp .In) (.str k) (.dct es) (.bool (es.lookup k).isSome):=in_map dct_d
theorem in_owndct {a:Addr} {es:List (Str × D)} {k:Str} (ha:(a,OC.dct es) ∈ Ω):Op2 X A env Γ Ω (compareOp .In) (.str k) (.val (.ref a)) (.bool (es.lookup k).isSome):=in_map (owndct_d ha)
theorem len_fit {n:Nat} (h:n <= 1000000):(n:Int) < 2 ^ 63:=Int.lt_of_le_of_lt (Int.ofNat_le.mpr h) (by decide)
theorem len_seq {d:D} {ds:List D} (L:LstD X env Γ Ω d ds) (hz:ds.length <= 1000000):CallR X A env Γ Ω (.builtin "len") [d] (.int ds.length):=fun F s vs I r=>r.one_elim fun v r=>by
 obtain ⟨a,vs,rfl,hl,rl⟩:=L F s v I r
 have e:vs.toArray.size = ds.length:=(List.size_toArray ..).trans rl.length
 exact call_len_list hl.isList (e ▸ len_fit hz) (I.res (e ▸ .int _ _))
theorem len_lst {ds:List D} (hz:ds.length <= 1000000):CallR X A env Γ Ω (.builtin "len") [.lst ds] (.int ds.length):=len_seq lst_d hz
theorem len_own {a:Addr} {ds:List D} (ha:(a,OC.lst ds) ∈ Ω) (hz:ds.length <= 1000000):CallR X A env Γ Ω (.builtin "len") [.val (.ref a)] (.int ds.length):=len_seq (own_d ha) hz
theorem len_str {x:Str} (hz:x.length <= 1000000):CallR X A env Γ Ω (.builtin "len") [.str x] (.int x.length):=fun F s vs I r=>r.one_elim fun v r=>r.str_elim fun t=>PyProof.Rows.len_str (Int.not_le.mpr (len_fit hz)) (I.res (.int _ _))
theorem rd_ite {c:Prop} [Decidable c] {i j:Int} {t u:Tok}:Rd X F (if c then .int i t else .int j u) (.int (if c then i else j)):=by split <;> exact .int _ _
theorem max_int {i j:Int} (hh:A.handled = none):CallR X A env Γ Ω (.builtin "max") [.int i,.int j] (.int (if j > i then j else i)):=fun F s vs I r=>r.two_elim fun v w r r'=>r.int_elim fun t=>r'.int_elim fun u=>max_two_ints hh fun h' tk hk=>⟨F,I.stay hk,rd_ite⟩
theorem min_int {i j:Int} (hh:A.handled = none):CallR X A env Γ Ω (.builtin "min") [.int i,.int j] (.int (if j < i then j else i)):=fun F s vs I r=>r.two_elim fun v w r r'=>r.int_elim fun t=>r'.int_elim fun u=>min_two_ints hh fun h' tk hk=>⟨F,I.stay hk,rd_ite⟩
theorem int_bool {b:Bool}:CallR X A env Γ Ω (.type "int") [.bool b] (.int (if b then 1 else 0)):=fun F s vs I r=>r.one_elim fun v r=>r.bool_elim (call_int_bool (I.res (.int _ _)))
theorem setItem_plain {l:Addr} {items:Array Value} {k:Int} {t:Tok} {v:Value} {Q:Unit -> Shared -> Prop} {E:Value -> Shared -> Prop} (hl:s.heap.PlainList l items) (h0:0 <= k) (hn:k < items.size) (hsz:items.size <= 1000000)
  (hQ:∀ h',h'.PlainList l (items.setIfInBounds k.toNat v) -> Heap.SameBut l s.heap h' -> Q () { s with heap:=h' }):wpAny X.M A (setItem (.ref l) (.int k t) v) Q E s:=by
 obtain ⟨n,ho⟩:=hl
 have hL:s.heap.IsList l items:=⟨_,ho,rfl,n,rfl⟩
 have hfit:=fitsIndex_of h0 (show k < 2 ^ 63 by omega)
 clear hsz
 unfold setItem
 try with_reducible refine wpAny_holding ?_
 first | refine wpAny_bind (wpAny_pure ?_) | skip
 refine wpAny_bind (wpAny_sequenceKey hL.typeIs (by decide) ?_)
 refine wpAny_bind (wpAny_callSpecial?_slot (name:=Str.ofString "__setitem__") hL.typeIs slot_list_setitem
  (wpAny_call_entry slot_list_setitem hL.typeIs entry_list_setitem ?_ (args_list_setitem _ _ _)))
 show wpAny _ _ (Builtin.List.listSubscript? (.int k t) >>= _) _ _ s
 refine wpAny_bind (wpAny_listSubscript_int hfit ?_)
 clear hfit
 obtain ⟨j,rfl⟩:=Int.eq_ofNat_of_zero_le h0
 have hj:j < items.size:=by omega
 show wpAny _ _ ((seqItemAt l j >>= fun r=>pure (r.map (j,·))) >>= _) _ _ s
 refine wpAny_bind (wpAny_bind (wpAny_seqItemAt ho rfl (wpAny_pure ?_)))
 rw [Array.getElem?_eq_getElem hj]
 show wpAny _ _ (setSeqItemAt l j v >>= _) _ _ s
 have e:∃ n',Obj.mapSeq (·.setIfInBounds j v) { cls:=.type "list",data:=.seq items n } = { cls:=.type "list",data:=.seq (items.setIfInBounds j v) n' }:=⟨_,rfl⟩
 obtain ⟨n',e⟩:=e
 have hfin:(s.heap.update l (Obj.mapSeq (·.setIfInBounds j v))).PlainList l (items.setIfInBounds j v):=
  ⟨n',(Heap.get?_update_self _ ho (by rw [e]; rfl)).trans (congrArg some e)⟩
 refine wpAny_bind (wpAny_setSeqItemAt ho rfl ?_)
 first
  | exact wpAny_bind (wpAny_pure (wpAny_pure ⟨.none,rfl,wpAny_pure (hQ _ hfin (Heap.SameBut.update ..))⟩))
  | exact wpAny_pure ⟨.none,rfl,wpAny_pure (hQ _ hfin (Heap.SameBut.update ..))⟩
end
section
variable {X:Cx} {A:Around} {env:Env} {Γ Γ0:Loc} {Ω:Own} {F F':FS} {s s':Shared}
inductive SRes (X:Cx) (env:Env) (Γ:Loc) (Ω:Own) (F:FS) (s:Shared) (R:D -> Own -> Prop) (v:Value) (s':Shared):Prop
 | mk (F':FS) (d:D) (Ω':Own) (hr:R d Ω') (r:Rd X F' v d) (I:Inv X env F' Γ Ω' s') (x:ExtS X env Ω Ω' F F' s s')
structure EvS (X:Cx) (A:Around) (env:Env) (Γ:Loc) (Ω:Own) (e:Expr) (R:D -> Own -> Prop):Prop where
 run:∀ F s,Inv X env F Γ Ω s -> wpAny X.M A (eval e env) (SRes X env Γ Ω F s R) NoE s
instance {X:Cx} {A:Around} {env:Env} {Γ:Loc} {Ω:Own} {e:Expr} {R:D -> Own -> Prop}:CoeFun (EvS X A env Γ Ω e R) (fun zz=>∀ F s,Inv X env F Γ Ω s -> wpAny X.M A (eval e env) (SRes X env Γ Ω F s R) NoE s):=⟨fun h=>h.run⟩
theorem s_then {t:Sem Value} {R:D -> Own -> Prop} {Q E:Value -> Shared -> Prop} (h:wpAny X.M A t (SRes X env Γ Ω F s R) NoE s)
  (k:∀ v s' F' d Ω',R d Ω' -> Rd X F' v d -> Inv X env F' Γ Ω' s' -> ExtS X env Ω Ω' F F' s s' -> Q v s'):wpAny X.M A t Q E s:=
 wpAny_mono h (fun v s' h=>by obtain ⟨F',d,Ω',a,b,c,e⟩:=h; exact k v s' F' d Ω' a b c e) fun zz zz e=>e.elim
theorem evs_of {e:Expr} {d:D} {R:D -> Own -> Prop} (h:Ev X A env Γ Ω e d) (k:R d Ω):EvS X A env Γ Ω e R:=⟨fun F s I=>res_then I (h F s I) fun v F' s' x I' r=>⟨F',d,Ω,k,r,I',x.toS⟩⟩
theorem evo_s {e:Expr} {c:OC} {R:D -> Own -> Prop} (h:EvO X A env Γ Ω e c) (k:∀ a,R (.val (.ref a)) ((a,c) :: Ω)):EvS X A env Γ Ω e R:=⟨fun F s I=>
 wpAny_mono (h F s I) (fun v s' h=>by
  obtain ⟨a,F',rfl,x,hn,I'⟩:=h
  exact ⟨F',_,_,k a,.val _,I',x.le,fun b=>(x.new b).imp id .inl,fun b o h zz zz zz e=>x.keep b o h e,fun b hb=>(List.mem_cons.mp hb).elim (fun e=>.inr (e ▸ hn)) .inl,x.os,x.gens⟩) fun zz zz e=>e⟩
theorem EvS.imp {e:Expr} {R R':D -> Own -> Prop} (h:EvS X A env Γ Ω e R) (k:∀ d Ω',R d Ω' -> R' d Ω'):EvS X A env Γ Ω e R':=⟨fun F s I=>s_then (h F s I) fun v s' F' d Ω' a b c e=>⟨F',d,Ω',k _ _ a,b,c,e⟩⟩
theorem SRes.up {R:D -> Own -> Prop} {v:Value} {F1:FS} {ss1 ss2:Shared} (I:Inv X env F Γ Ω s) (I1:Inv X env F1 Γ Ω ss1) (x:Ext X F F1 s ss1) (h:SRes X env Γ Ω F1 ss1 R v ss2):SRes X env Γ Ω F s R v ss2:=by
 obtain ⟨F2,d,Ω',a,r,I2,y⟩:=h
 exact ⟨F2,d,Ω',a,r,I2,x.toS.trans I I1 I2 y⟩
theorem evs_ife {t x y:Expr} {pos:Pos} {b:Bool} {R:D -> Own -> Prop} (ht:EvT X A env Γ Ω t b) (hx:b = true -> EvS X A env Γ Ω x R) (hy:b = false -> EvS X A env Γ Ω y R):EvS X A env Γ Ω (.IfExp t x y pos) R:=by
 refine ⟨fun F s I=>PySem.wpAny_IfExp (evt_then I (ht F s I) fun F1 ss1 x1 I1=>?_)⟩
 cases b with
 | true=>exact wpAny_mono (hx rfl F1 ss1 I1) (fun v ss2 h=>h.up I I1 x1) fun zz zz e=>e
 | false=>exact wpAny_mono (hy rfl F1 ss1 I1) (fun v ss2 h=>h.up I I1 x1) fun zz zz e=>e
set_option tactic.hygienic true in
inductive ExprS (Γ:Loc) (R:PostP) (d:D) (Ω':Own):Prop
 | mk (e:d = .none) (h:R .next Γ Ω')
set_option tactic.hygienic true in
theorem ex_expr_s {e:Expr} {pos:Pos} {R:PostP} (he:EvS X A env Γ Ω e (ExprS Γ R)) (hi:interactive env = false) (hs:swapsWith e none pos.line env = pure false):Ex X A env Γ Ω (.Expr e pos) R:=
 ⟨fun F s I=>PySem.wpAny_Expr (Q:=_) (s_then (he F s I) fun v ss1 F1 d Ω' ⟨e,h⟩ r I1 x1=>(e ▸ r:Rd X F1 v .none).none_elim ⟨F1,Γ,Ω',.next,h,trivial,I1,x1⟩) hi hs⟩
set_option tactic.hygienic true in
noncomputable abbrev AsgS (Γ:Loc) (x:Str) (R:PostP):D -> Own -> Prop:=fun d Ω'=>R .next (upd Γ x d) Ω'
set_option tactic.hygienic true in
theorem ex_assign_s {x:Str} {p:Pos} {value:Expr} {pos:Pos} {R:PostP} (he:EvS X A env Γ Ω value (AsgS Γ x R)) (hk:Storable env x)
  (hs:swapsWith value (some (.Name x p)) pos.line env = pure false):Ex X A env Γ Ω (.Assign [.Name x p] value pos) R:=
 ⟨fun F s I=>PySem.wpAny_Assign_Name (Q:=_) (s_then (he F s I) fun v ss1 F1 d Ω' hr r I1 x1=>store_rule I1 r hk fun s' a b=>⟨F1,_,Ω',.next,hr,trivial,a,x1.trans I I1 a b.toS⟩) hs⟩
set_option tactic.hygienic true in
inductive TsP (X:Cx) (A:Around) (env:Env) (Γ:Loc) (t:Expr) (R:PostP) (d:D) (Ω':Own):Prop
 | mk (ds:List D) (Γ':Loc) (e:d = .tup ds) (ha:AsgT X A env Γ Ω' t ds Γ') (hr:R .next Γ' Ω')
set_option tactic.hygienic true in
inductive WsP (X:Cx) (A:Around) (env:Env) (Γ:Loc) (names:List Str) (R:PostP) (d:D) (Ω':Own):Prop
 | mk (ds:List D) (Γ':Loc) (e:d = .tup ds) (hn:names.length = ds.length) (hb:Binds X A env Γ Ω' names.reverse ds.reverse Γ') (hr:R .next Γ' Ω')
set_option tactic.hygienic true in
theorem ex_assign_ts {ts:List Expr} {k:Nat} {p:Pos} {value:Expr} {pos:Pos} {R:PostP} (he:EvS X A env Γ Ω value (TsP X A env Γ (.Tuple ts k p) R))
  (hs:swapsWithSole [.Tuple ts k p] value pos.line env = pure false) (hw:swappedStores [.Tuple ts k p] value env = pure none):Ex X A env Γ Ω (.Assign [.Tuple ts k p] value pos) R:=by
 refine ⟨fun F s I=>PyProof.Rows.Assign_Tuple (s_then (he F s I) fun v ss1 F1 d Ω' hr r I1 x1=>?_) hs hw⟩
 obtain ⟨ds,Γ',rfl,ha,hr⟩:=hr
 exact wpAny_mono (asg_of_tuple ha F1 ss1 v I1 r) (fun zz ss2 h=>⟨F1,Γ',Ω',.next,hr,trivial,h.1,x1.trans I I1 h.1 h.2.toS⟩) fun zz zz e=>e.elim
set_option tactic.hygienic true in
theorem ex_assign_ws {ts:List Expr} {k:Nat} {p:Pos} {value:Expr} {pos:Pos} {names:List Str} {R:PostP} (hh:A.handled = none) (he:EvS X A env Γ Ω value (WsP X A env Γ names R))
  (hs:swapsWithSole [.Tuple ts k p] value pos.line env = pure false) (hw:swappedStores [.Tuple ts k p] value env = pure (some names)):Ex X A env Γ Ω (.Assign [.Tuple ts k p] value pos) R:=by
 refine ⟨fun F s I=>PyProof.Rows.Assign_Tuple_swapped (s_then (he F s I) fun v ss1 F1 d Ω' hr r I1 x1=>?_) hs hw⟩
 obtain ⟨ds,Γ',rfl,hn,ha,hr⟩:=hr
 obtain ⟨T,vs,rfl,ht,rs⟩:=I1.tup r
 rw [show names.length = (List.toArray vs).size by rw [hn,List.size_toArray,rs.length]]
 refine wpAny_unpackItems_tuple hh ht fun h' he=>?_
 have x:=I1.stay (s':={ ss1 with heap:=h' }) (fun b o e=>he b o (Nat.ne_of_lt (Heap.lt_size e)) e)
 have I2:=I1.ext x
 exact wpAny_mono (ha F1 _ _ I2 rs.reverse) (fun zz ss3 h=>⟨F1,Γ',Ω',.next,hr,trivial,h.1,(x1.trans I I1 I2 x.toS).trans I I2 h.1 h.2⟩) fun zz zz e=>e.elim
inductive SResL (X:Cx) (env:Env) (Γ:Loc) (Ω:Own) (F:FS) (s:Shared) (R:List D -> Own -> Prop) (vs:List Value) (s':Shared):Prop
 | mk (F':FS) (ds:List D) (Ω':Own) (hr:R ds Ω') (r:RdL X F' vs ds) (I:Inv X env F' Γ Ω' s') (x:ExtS X env Ω Ω' F F' s s')
structure EvSL (X:Cx) (A:Around) (env:Env) (Γ:Loc) (Ω:Own) (es:List Expr) (R:List D -> Own -> Prop):Prop where
 run:∀ (pos:Pos) F s,Inv X env F Γ Ω s -> wpAny X.M A (spliced (backTo pos (starEach es env))) (SResL X env Γ Ω F s R) NoE s
theorem evsl_nil {R:List D -> Own -> Prop} (h:R [] Ω):EvSL X A env Γ Ω [] R:=⟨fun zz F s I=>wpAny_items_nil ⟨F,[],Ω,h,.nil,I,(I.stay fun zz zz e=>e).toS⟩⟩
noncomputable abbrev PushS (R:List D -> Own -> Prop) (d:D):List D -> Own -> Prop:=fun ds Ω'=>R (d :: ds) Ω'
noncomputable abbrev ConsS (X:Cx) (A:Around) (env:Env) (Γ:Loc) (es:List Expr) (R:List D -> Own -> Prop):D -> Own -> Prop:=fun d Ω'=>EvSL X A env Γ Ω' es (PushS R d)
inductive TupS (R:D -> Own -> Prop) (ds:List D) (Ω':Own):Prop
 | mk (hz:ds.length <= 1000) (h:R (.tup ds) Ω')
theorem evsl_cons {e:Expr} {es:List Expr} {R:List D -> Own -> Prop} (h:EvS X A env Γ Ω e (ConsS X A env Γ es R)) (he:starEach (e :: es) env = (false,eval e env) :: starEach es env):EvSL X A env Γ Ω (e :: es) R:=by
 refine ⟨fun pos F s I=>wpAny_items_cons (s_then (h F s I) fun v ss1 F1 d Ω' hr r I1 x1=>wpAny_mono (hr.run pos F1 ss1 I1) (fun vs ss2 hh2=>?_) fun zz zz e=>e) he⟩
 obtain ⟨F2,ds,Ω'',a,rs,I2,xx2⟩:=hh2
 exact ⟨F2,d :: ds,Ω'',a,.cons (r.mono xx2.le) rs,I2,x1.trans I I1 I2 xx2⟩
theorem evs_tuple {es:List Expr} {k:Nat} {pos:Pos} {R:D -> Own -> Prop} (h:EvSL X A env Γ Ω es (TupS R)):EvS X A env Γ Ω (.Tuple es k pos) R:=by
 refine ⟨fun F s I=>PySem.wpAny_Tuple (wpAny_mono (h.run pos F s I) (fun vs ss1 hh1=>?_) fun zz zz e=>e)⟩
 obtain ⟨F1,ds,Ω',⟨hz,hr⟩,rr1,I1,x1⟩:=hh1
 have y:=I1.frozen (s':={ ss1 with heap:=ss1.heap.push { cls:=.type "tuple",data:=.seq vs.toArray } }) (get_size ss1.heap) (Heap.get?_push_size _ rfl) (fun b o e=>Heap.get?_push_of_some _ e)
 have I2:=I1.ext y
 exact ⟨rr1.length ▸ Nat.le_trans hz (by decide),_,_,Ω',hr,.tup (FS.put_self ..) rfl rfl (rr1.mono y.le),I2,x1.trans I I1 I2 y.toS⟩
theorem Inv.fresh1 {a:Addr} {c:OC} {F1:FS} {ss1 ss2:Shared} (I:Inv X env F Γ Ω s) (x:Ext X F F1 s ss1) (fr:ss1.heap.get? a = none) (y:Ext X F1 F1 ss1 ss2) (ho:OwnAt X F1 ss2.heap a c):Own1 X env Γ Ω c F s (.ref a) ss2:=
 have I1:=I.ext x
 ⟨_,_,rfl,x.trans y I.glob.tabs_there,x.fresh fr,I1.grow y (fun p hp=>(List.mem_cons.mp hp).elim (fun e=>e ▸ ⟨ho,I1.nF fr,I1.nT fr⟩) ((I1.ext y).own p)) (List.nodup_cons.mpr ⟨I1.nO fr,I1.nd⟩) fun b hb=>(List.mem_cons.mp hb).elim (fun e=>.inr (e ▸ fr)) .inl⟩
theorem evo_list {es:List Expr} {pos:Pos} {ds:List D} (h:EvL X A env Γ Ω es ds) (hz:ds.length <= 1000):EvO X A env Γ Ω (.List es pos) (.lst ds):=by
 refine ⟨fun F s I=>PySem.wpAny_List (wpAny_mono (h pos F s I) (fun vs ss1 hh1=>?_) fun zz zz e=>e)⟩
 obtain ⟨F1,x1,rr1⟩:=hh1
 exact ⟨rr1.length ▸ Nat.le_trans hz (by decide),I.fresh1 x1 (get_size ss1.heap) ((I.ext x1).stay (s':={ ss1 with heap:=ss1.heap.push { cls:=.type "list",data:=.seq vs.toArray } }) (fun b o e=>Heap.get?_push_of_some _ e)) ⟨_,⟨_,Heap.get?_push_size _ rfl⟩,rr1⟩⟩
theorem evo_dict0 {pos:Pos}:EvO X A env Γ Ω (.Dict [] [] pos) (.dct []):=
 ⟨fun F s I=>wpAny_Dict_empty (I.fresh1 (I.stay fun zz zz e=>e) (get_size s.heap) (I.stay (s':={ s with heap:=s.heap.push { cls:=.type "dict",data:=.dict #[] } }) (fun b o e=>Heap.get?_push_of_some _ e)) (own_dict0 I.glob.low (Heap.get?_push_size _ rfl)))⟩
theorem setOwnS {a:Addr} {c c':OC} {h':Heap} {tk:Nat} (I:Inv X env F Γ Ω s) (ha:(a,c) ∈ Ω) (hs:Heap.SameBut a s.heap h') (ho:OwnAt X F h' a c'):Inv X env F Γ (oset Ω a c') { s with heap:=h',toks:=tk } /\ ExtS X env Ω (oset Ω a c') F F s { s with heap:=h',toks:=tk }:=
 ⟨I.setOwn ha hs ho,fun zz zz e=>e,fun zz=>.inl rfl,fun b o zz zz zz hO e=>(hs.2 b (fun q=>hO (q ▸ List.mem_map_of_mem (f:=(·.1)) ha))).trans e,fun b hb=>.inl (oset_fst a c' Ω ▸ hb),rfl,.refl _⟩
theorem mf_append:MethFacts "list" "append" "list.append" := ⟨PySem.F.plainAttrs_list,PySem.F.slot_list_append,PySem.F.type_list_append⟩
theorem evs_append {o e:Expr} {apos pos:Pos} {a:Addr} {ds:List D} {d:D} {R:D -> Own -> Prop} (ho:Ev X A env Γ Ω o (.val (.ref a))) (ha:(a,OC.lst ds) ∈ Ω) (he:Ev X A env Γ Ω e d) (hz:ds.length <= 1000000) (hr:R .none (oset Ω a (.lst (ds ++ [d]))))
  (hbase:attributeBase o "append" env (eval o env) = eval o env) (hline:(apos.endLine == pos.line) = true) (hst:starEach [e] env = [(false,eval e env)]):EvS X A env Γ Ω (.Call (.Attribute o "append" apos) [e] [] pos) R:=by
 refine ⟨fun F s I=>meth_rule1 I mf_append hbase hline (by rw [hst]; rfl) hst rfl ho (ty_own ha) (evl_cons he evl_nil hst) fun F1 ss1 v vs x1 I1 r rs=>r.val_elim (rs.one_elim fun u r=>?_)⟩
 obtain ⟨⟨ws,hl,rl⟩,_⟩:=I1.own _ ha
 refine wpAny_list_append_plain hl (fun h' hl' hs=>?_) (by rw [<- Array.length_toList,rl.length]; exact Nat.le_trans hz (by decide))
 obtain ⟨I2,xx2⟩:=setOwnS (tk:=ss1.toks) (c':=.lst (ds ++ [d])) I1 ha hs ⟨_,hl',by rw [Array.toList_push]; exact rl.append (.one r)⟩
 exact ⟨F1,.none,_,hr,.none,I2,x1.toS.trans I I1 I2 xx2⟩
theorem mapSeq_plain (f:Array Value -> Array Value) (its:Array Value) (n:Nat):∃ n',Obj.mapSeq f { cls:=.type "list",data:=.seq its n } = { cls:=.type "list",data:=.seq (f its) n' }:=⟨_,rfl⟩
theorem plain_update {l:Addr} {its:Array Value} {n:Nat} {f:Array Value -> Array Value} (ho:s.heap.get? l = some { cls:=.type "list",data:=.seq its n }):(s.heap.update l (Obj.mapSeq f)).PlainList l (f its):=
 (mapSeq_plain f its n).imp fun n' e=>(Heap.get?_update_self _ ho (by rw [e]; rfl)).trans (congrArg some e)
theorem mf_pop:MethFacts "list" "pop" "list.pop" := ⟨PySem.F.plainAttrs_list,PySem.F.slot_list_pop,PySem.F.type_list_pop⟩
theorem RdL.popped {ws:List Value} {ds:List D} {d:D} (r:RdL X F ws (ds ++ [d])):∃ us v,ws = us ++ [v] /\ RdL X F us ds /\ Rd X F v d:=by
 induction ds generalizing ws with
 | nil=>exact r.one_elim fun v a=>⟨[],v,rfl,.nil,a⟩
 | cons e ds ih=>
  exact r.cons_elim fun v ws a b=>by
   obtain ⟨us,u,rfl,h1,h2⟩:=ih b
   exact ⟨v :: us,u,rfl,.cons a h1,h2⟩
theorem erase_last {ws:Array Value} {us:List Value} {v:Value} (h:ws.toList = us ++ [v]):(ws.eraseIdxIfInBounds us.length).toList = us:=by
 obtain rfl:ws = (us ++ [v]).toArray:=by rw [<- h]
 rw [List.eraseIdxIfInBounds_toArray,List.eraseIdx_append_of_length_le (Nat.le_refl _),Nat.sub_self]; exact List.append_nil us
theorem evs_pop {o:Expr} {apos pos:Pos} {a:Addr} {ds:List D} {d:D} {R:D -> Own -> Prop} (ho:Ev X A env Γ Ω o (.val (.ref a))) (ha:(a,OC.lst (ds ++ [d])) ∈ Ω) (hz:ds.length <= 1000000) (hr:R d (oset Ω a (.lst ds)))
  (hbase:attributeBase o "pop" env (eval o env) = eval o env) (hline:(apos.endLine == pos.line) = true):EvS X A env Γ Ω (.Call (.Attribute o "pop" apos) [] [] pos) R:=by
 refine ⟨fun F s I=>meth_rule0 I mf_pop hbase hline ho (ty_own ha) fun F1 ss1 v x1 I1 r=>r.val_elim ?_⟩
 obtain ⟨⟨ws,⟨n,ho'⟩,rl⟩,_⟩:=I1.own _ ha
 obtain ⟨us,v,hw,r1,r2⟩:=rl.popped
 have hsz:ws.size = us.length + 1:=by rw [<- Array.length_toList,hw]; exact List.length_append
 have hp:=plain_update (f:=fun xs=>xs.eraseIdxIfInBounds (ws.size - 1)) ho'
 refine call_meets PySem.F.slot_list_pop (Heap.PlainList.isList ⟨n,ho'⟩).typeIs PySem.F.entry_list_pop (PySem.F.args_list_pop_1 _) (MeetsSeq.list_pop_last a ws n v (by rw [<- Array.getElem?_toList,hsz,hw]; exact List.getElem?_concat_length) (by rw [hsz,r1.length]; exact Nat.le_trans (Nat.succ_le_succ hz) (by decide))) ⟨ho',?_⟩
 obtain ⟨I2,xx2⟩:=setOwnS (tk:=ss1.toks) (c':=.lst ds) I1 ha (Heap.SameBut.update ..) ⟨_,hp,by rw [hsz,Nat.add_sub_cancel,erase_last hw]; exact r1⟩
 exact ⟨F1,d,_,hr,r2,I2,x1.toS.trans I I1 I2 xx2⟩
end
section
variable {X:Cx} {A:Around} {env:Env} {Γ Γ0:Loc} {Ω:Own} {F F':FS} {s s':Shared}
noncomputable def EvP (X:Cx) (A:Around) (env:Env) (Γ:Loc) (Ω:Own) (e:Option Expr) (i:Option Int):Prop:=match e,i with
 | none,none=>True
 | some e,some i=>Ev X A env Γ Ω e (.int i)
 | _,_=>False
inductive PartOf (v:Value) (i:Option Int):Prop
 | mk (q:Option (Int × Tok)) (hv:v = partValue q) (hi:q.map (·.1) = i)
theorem evp_then {e:Option Expr} {i:Option Int} {Q:Value -> Shared -> Prop} (I:Inv X env F Γ Ω s) (h:EvP X A env Γ Ω e i) (k:∀ v F1 ss1,Ext X F F1 s ss1 -> Inv X env F1 Γ Ω ss1 -> PartOf v i -> Q v ss1):wpAny X.M A (evalPart e env) Q NoE s:=by
 cases e with
 | none=>
  cases i with
  | none=>exact wpAny_evalPart_none (k _ F s (I.stay fun zz zz e=>e) I ⟨none,rfl,rfl⟩)
  | some i=>exact h.elim
 | some e=>
  cases i with
  | none=>exact h.elim
  | some i=>exact wpAny_evalPart_some (res_then I (Ev.run h F s I) fun v F1 ss1 x1 I1 r=>r.int_elim fun t=>k _ F1 ss1 x1 I1 ⟨some (i,t),rfl,rfl⟩)
theorem isPart_of {v:Value} {i:Option Int} (h:PartOf v i):IsPart v i:=by
 obtain ⟨q,rfl,rfl⟩:=h
 cases q with
 | none=>exact .none
 | some p=>exact .int _ _
theorem ev_slice {value:Expr} {lower upper:Option Expr} {p pos:Pos} {dd1 d:D} {lo hi:Option Int} (h1:Ev X A env Γ Ω value dd1) (hl:EvP X A env Γ Ω lower lo) (hu:EvP X A env Γ Ω upper hi) (ht:SubT X env Γ Ω dd1)
  (ho:∀ F s v sl vl vu,Inv X env F Γ Ω s -> Rd X F v dd1 -> s.heap.IsSliceOf sl vl vu .none -> PartOf vl lo -> PartOf vu hi -> wpAny X.M A (getItem v (.ref sl)) (Res X F s d) NoE s):Ev X A env Γ Ω (.Subscript value (.Slice lower upper none p) pos) d:=by
 refine ⟨fun F s I=>Subscript_ (res_then I (h1 F s I) fun vv1 F1 ss1 x1 I1 rr1=>wpAny_Slice (wpAny_mono (evp_then (Q:=fun v ss2=>_) I1 hl fun vl F2 ss2 xx2 I2 pl=>evp_then I2 hu fun vu F3 ss3 xx3 I3 pu=>?_) (fun zz zz h=>h) fun zz zz e=>e.elim))⟩
 refine wpAny_evalPart_none ?_
 have y:=I3.stay (s':={ ss3 with heap:=ss3.heap.push { cls:=.type "slice",data:=.fields #[vl,vu,.none] } }) (fun b o e=>Heap.get?_push_of_some _ e)
 have I4:=I3.ext y
 have rr4:=(rr1.mono xx2.le).mono xx3.le
 obtain ⟨T,id,hT,hl'⟩:=ht
 obtain ⟨ops,ho'⟩:=sub_ops _ vv1 (.ref ss3.heap.objs.size)
 exact tail_any (hT _ _ vv1 I4 rr4) hl' (res_up I (((x1.trans xx2 I.glob.tabs_there).trans xx3 I.glob.tabs_there).trans y I.glob.tabs_there) (ho F3 _ vv1 _ vl vu I4 rr4 (Heap.IsSliceOf.new ..) pl pu)) ho'
theorem Inv.newList {us:List Value} {es:List D} (I:Inv X env F Γ Ω s) (r:RdL X F us es):Res X F s (.lst es) (.ref s.heap.objs.size) { s with heap:=s.heap.push { cls:=.type "list",data:=.seq us.toArray } }:=
 have y:=I.frozen (s':={ s with heap:=s.heap.push { cls:=.type "list",data:=.seq us.toArray } }) (get_size s.heap) (Heap.get?_push_size _ rfl) (fun b o e=>Heap.get?_push_of_some _ e)
 ⟨_,y,.lst (FS.put_self ..) (r.mono y.le)⟩
theorem slice_list {a sl:Addr} {vs:List Value} {vl vu:Value} {lo hi:Option Int} {ds es:List D} (I:Inv X env F Γ Ω s) (hl:s.heap.IsList a vs.toArray) (r:RdL X F vs ds) (hs:s.heap.IsSliceOf sl vl vu .none) (pl:IsPart vl lo) (pu:IsPart vu hi) (hz:ds.length <= 1000000)
  (hp:∃ us,slicePick vs.toArray lo hi none = List.toArray us /\ RdL X F us es):wpAny X.M A (getItem (.ref a) (.ref sl)) (Res X F s (.lst es)) NoE s:=by
 obtain ⟨us,e1,r1⟩:=hp
 refine wpAny_getItem_list_slice hl hs pl pu .none (fun q=>nomatch q) ?_ (by rw [List.size_toArray,r.length]; exact Nat.le_trans hz (by decide))
 rw [e1]
 exact I.newList r1
theorem ev_upto' {value e:Expr} {p pos:Pos} {d:D} {ds:List D} {n:Nat} (L:LstD X env Γ Ω d ds) (h1:Ev X A env Γ Ω value d) (h2:Ev X A env Γ Ω e (.int n)) (hz:ds.length <= 1000000):Ev X A env Γ Ω (.Subscript value (.Slice none (some e) none p) pos) (.lst (ds.take n)):=
 ev_slice (lo:=none) (hi:=some (n:Int)) h1 trivial h2 ⟨_,_,Ty.is (ty_lst L),slot_list_getitem.lookup⟩ (fun F s v sl vl vu I r hsl pl pu=>by
  obtain ⟨a,vs,rfl,hl,rl⟩:=L F s v I r
  exact slice_list I hl.isList rl hsl (isPart_of pl) (isPart_of pu) hz ⟨_,slicePick_upto' _ n,rl.take n⟩)
theorem ev_from' {value e:Expr} {p pos:Pos} {d:D} {ds:List D} {n:Nat} (L:LstD X env Γ Ω d ds) (h1:Ev X A env Γ Ω value d) (h2:Ev X A env Γ Ω e (.int n)) (hz:ds.length <= 1000000):Ev X A env Γ Ω (.Subscript value (.Slice (some e) none none p) pos) (.lst (ds.drop n)):=
 ev_slice (lo:=some (n:Int)) (hi:=none) h1 h2 trivial ⟨_,_,Ty.is (ty_lst L),slot_list_getitem.lookup⟩ (fun F s v sl vl vu I r hsl pl pu=>by
  obtain ⟨a,vs,rfl,hl,rl⟩:=L F s v I r
  exact slice_list I hl.isList rl hsl (isPart_of pl) (isPart_of pu) hz ⟨_,slicePick_from' _ n,rl.drop n⟩)
theorem ev_upto {value e:Expr} {p pos:Pos} {ds:List D} {n:Nat} (h1:Ev X A env Γ Ω value (.lst ds)) (h2:Ev X A env Γ Ω e (.int n)) (hz:ds.length <= 1000000):Ev X A env Γ Ω (.Subscript value (.Slice none (some e) none p) pos) (.lst (ds.take n)):=ev_upto' lst_d h1 h2 hz
theorem ev_from {value e:Expr} {p pos:Pos} {ds:List D} {n:Nat} (h1:Ev X A env Γ Ω value (.lst ds)) (h2:Ev X A env Γ Ω e (.int n)) (hz:ds.length <= 1000000):Ev X A env Γ Ω (.Subscript value (.Slice (some e) none none p) pos) (.lst (ds.drop n)):=ev_from' lst_d h1 h2 hz
theorem ev_upto_own {value e:Expr} {p pos:Pos} {a:Addr} {ds:List D} {n:Nat} (h1:Ev X A env Γ Ω value (.val (.ref a))) (ha:(a,OC.lst ds) ∈ Ω) (h2:Ev X A env Γ Ω e (.int n)) (hz:ds.length <= 1000000):Ev X A env Γ Ω (.Subscript value (.Slice none (some e) none p) pos) (.lst (ds.take n)):=ev_upto' (own_d ha) h1 h2 hz
theorem ev_from_own {value e:Expr} {p pos:Pos} {a:Addr} {ds:List D} {n:Nat} (h1:Ev X A env Γ Ω value (.val (.ref a))) (ha:(a,OC.lst ds) ∈ Ω) (h2:Ev X A env Γ Ω e (.int n)) (hz:ds.length <= 1000000):Ev X A env Γ Ω (.Subscript value (.Slice (some e) none none p) pos) (.lst (ds.drop n)):=ev_from' (own_d ha) h1 h2 hz
theorem op_addl {xs ys:List D} (hz:xs.length + ys.length <= 1000000):Op2 X A env Γ Ω (binaryOp .Add) (.lst xs) (.lst ys) (.lst (xs ++ ys)):=by
 intro F s vv1 vv2 I rr1 rr2
 obtain ⟨a,vs,rfl,⟨n,h1⟩,rl1⟩:=lst_d F s vv1 I rr1
 obtain ⟨b,ws,rfl,⟨m,h2⟩,rl2⟩:=lst_d F s vv2 I rr2
 refine PySem.P.add_list h1 h2 ?_ (by rw [List.size_toArray,List.size_toArray,rl1.length,rl2.length]; exact Nat.le_trans hz (by decide))
 rw [List.append_toArray]
 exact I.newList (rl1.append rl2)
theorem mf_get:MethFacts "dict" "get" "dict.get" := ⟨PySem.F.plainAttrs_dict,PySem.F.slot_dict_get,PySem.F.type_dict_get⟩
theorem ev_get2' {o e e':Expr} {apos pos:Pos} {d:D} {es:List (Str × D)} {k:Str} {d0:D} (M:DctD X env Γ Ω d es) (ht:Ty X env Γ Ω d "dict") (ho:Ev X A env Γ Ω o d) (he:Ev X A env Γ Ω e (.str k)) (he':Ev X A env Γ Ω e' d0) (hbase:attributeBase o "get" env (eval o env) = eval o env) (hline:(apos.endLine == pos.line) = true)
  (h1:starEach [e,e'] env = (false,eval e env) :: starEach [e'] env) (h2:starEach [e'] env = [(false,eval e' env)]):Ev X A env Γ Ω (.Call (.Attribute o "get" apos) [e,e'] [] pos) ((es.lookup k).getD d0):=by
 refine ⟨fun F s I=>meth_rule1 I mf_get hbase hline (by rw [h1,h2]; rfl) h1 (by rw [h2]; rfl) ho ht (evl_cons he (evl_cons he' evl_nil h2) h1) fun F1 ss1 v vs x1 I1 r rs=>rs.two_elim fun u w r1 r2=>?_⟩
 obtain ⟨a,kvs,rfl,hsm,hke,rl,hdo⟩:=M F1 ss1 v I1 r
 exact call_meetsIn PySem.F.slot_dict_get hdo.typeIs PySem.F.entry_dict_get (PySem.F.args_dict_get_3 _ _ _) (meets_dict_get_default (knd:=PySem.strKind X.prog X.w) a (is_str r1) hsm w) ⟨_,hdo.mapOf,F1,x1.trans (I1.stay fun zz zz e=>e) I.glob.tabs_there,(valueAt_get hke rl k).getD r2⟩
theorem ev_get2 {o e e':Expr} {apos pos:Pos} {es:List (Str × D)} {k:Str} {d0:D} (ho:Ev X A env Γ Ω o (.dct es)) (he:Ev X A env Γ Ω e (.str k)) (he':Ev X A env Γ Ω e' d0) (hbase:attributeBase o "get" env (eval o env) = eval o env) (hline:(apos.endLine == pos.line) = true)
  (h1:starEach [e,e'] env = (false,eval e env) :: starEach [e'] env) (h2:starEach [e'] env = [(false,eval e' env)]):Ev X A env Γ Ω (.Call (.Attribute o "get" apos) [e,e'] [] pos) ((es.lookup k).getD d0):=ev_get2' dct_d ty_dct ho he he' hbase hline h1 h2
theorem ev_get2_own {o e e':Expr} {apos pos:Pos} {a:Addr} {es:List (Str × D)} {k:Str} {d0:D} (ho:Ev X A env Γ Ω o (.val (.ref a))) (ha:(a,OC.dct es) ∈ Ω) (he:Ev X A env Γ Ω e (.str k)) (he':Ev X A env Γ Ω e' d0) (hbase:attributeBase o "get" env (eval o env) = eval o env) (hline:(apos.endLine == pos.line) = true)
  (h1:starEach [e,e'] env = (false,eval e env) :: starEach [e'] env) (h2:starEach [e'] env = [(false,eval e' env)]):Ev X A env Γ Ω (.Call (.Attribute o "get" apos) [e,e'] [] pos) ((es.lookup k).getD d0):=ev_get2' (owndct_d ha) (ty_owndct ha) ho he he' hbase hline h1 h2
theorem dict_of {es:List (Str × D)} (hz:es.length <= 1000000):CallR X A env Γ Ω (.type "dict") [.dct es] (.dct es):=fun F s vs I r=>r.one_elim fun v r=>by
 obtain ⟨a,kvs,rfl,hsm,hke,rl,hdo⟩:=dct_d F s v I r
 refine kt_call_dict hsm hdo (by rw [keys_length hke]; exact Nat.le_trans hz (by decide)) fun h' hd' hs=>?_
 obtain ⟨o',ho',hdo'⟩:=Heap.dictOf_iff.mp hd'
 have y:=I.frozen (s':={ s with heap:=h' }) (get_size s.heap) ho' fun b o e=>(hs.2 b (Nat.ne_of_lt (Heap.lt_size e))).trans (Heap.get?_push_of_some _ e)
 exact ⟨_,y,.dct (FS.put_self ..) hdo' (Nat.ne_of_gt I.glob.low) hke (rl.mono y.le)⟩
theorem notIn_str {x y:Str}:Op2 X A env Γ Ω (compareOp .NotIn) (.str y) (.str x) (.bool (!(!(Builtin.Str.occurrences x y 0 x.length 1).isEmpty))):=op2_str fun zz zz I=>PyProof.Rows.notIn_str (I.res (.bool _))
end
section
variable {X:Cx} {A:Around} {env:Env} {Γ Γ0:Loc} {Ω:Own} {F F':FS} {s s':Shared}
theorem setItem_own {a:Addr} {es:List (Str × D)} {k:Str} {kv v:Value} {d:D} {Q:Unit -> Shared -> Prop} (I:Inv X env F Γ Ω s) (ha:(a,OC.dct es) ∈ Ω) (rk:Rd X F kv (.str k)) (r:Rd X F v d) (hz:es.length <= 1000000)
  (hQ:∀ s',Inv X env F Γ (oset Ω a (.dct (dst es k d))) s' -> ExtS X env Ω (oset Ω a (.dct (dst es k d))) F F s s' -> Q () s'):wpAny X.M A (setItem (.ref a) kv v) Q NoE s:=by
 obtain ⟨kvs,hsm,hke,rl,hdo⟩:=own_dct I ha
 refine wpAny_setItem_pairs (knd:=PySem.strKind X.prog X.w) (is_str rk) hdo (fun h' hd' hs=>?_) (by rw [keys_length hke]; exact Nat.le_trans hz (by decide))
 obtain ⟨o',ho',hdo'⟩:=Heap.dictOf_iff.mp hd'
 obtain ⟨I2,xx2⟩:=setOwnS (tk:=s.toks + 1) (c':=.dct (dst es k d)) I ha hs ⟨hsm,o',_,ho',hdo',(dst_rd hke rl r).1,(dst_rd hke rl r).2⟩
 exact hQ _ I2 xx2
set_option tactic.hygienic true in
theorem ex_store_dct {o i:Expr} {pos' pos:Pos} {value:Expr} {a:Addr} {es:List (Str × D)} {k:Str} {d:D} {R:PostP} (hv:Ev X A env Γ Ω value d) (ho:Ev X A env Γ Ω o (.val (.ref a))) (ha:(a,OC.dct es) ∈ Ω) (hi:Ev X A env Γ Ω i (.str k)) (hz:es.length <= 1000000)
  (hr:R .next Γ (oset Ω a (.dct (dst es k d)))) (hs:swapsWith value (some (.Subscript o i pos')) pos.line env = pure false):Ex X A env Γ Ω (.Assign [.Subscript o i pos'] value pos) R:=
 ⟨fun F s I=>wpAny_Assign_Subscript (Q:=_) (res_then I (hv F s I) fun v F1 ss1 x1 I1 rr1=>res_then I1 (ho F1 ss1 I1) fun ov F2 ss2 xx2 I2 rr2=>rr2.val_elim (res_then I2 (hi F2 ss2 I2) fun iv F3 ss3 xx3 I3 rr3=>
  setItem_own I3 ha rr3 ((rr1.mono xx2.le).mono xx3.le) hz fun s' I' x'=>⟨F3,Γ,_,.next,hr,trivial,I',((x1.trans xx2 I.glob.tabs_there).trans xx3 I.glob.tabs_there).toS.trans I I3 I' x'⟩)) hs⟩
set_option tactic.hygienic true in
theorem ex_aug_own {o i:Expr} {pos' pos:Pos} {op:Operator} {value:Expr} {a:Addr} {c':OC} {di d0 dd1 d:D} {R:PostP} (ho:Ev X A env Γ Ω o (.val (.ref a))) (hi:Ev X A env Γ Ω i di) (hg:Op2 X A env Γ Ω getItem (.val (.ref a)) di d0)
  (hv:Ev X A env Γ Ω value dd1) (hop:Op2 X A env Γ Ω (inplaceOp op) d0 dd1 d) (hr:R .next Γ (oset Ω a c')) (hst:∀ ov iv new,augStore i ov iv new = (do holding [new,ov,iv] (setItem ov iv new); release [new,ov,iv] []; pure .next))
  (hset:∀ F s iv v (Q:Unit -> Shared -> Prop),Inv X env F Γ Ω s -> Rd X F iv di -> Rd X F v d -> (∀ s',Inv X env F Γ (oset Ω a c') s' -> ExtS X env Ω (oset Ω a c') F F s s' -> Q () s') -> wpAny X.M A (setItem (.ref a) iv v) Q NoE s):Ex X A env Γ Ω (.AugAssign (.Subscript o i pos') op value pos) R:=
 ⟨fun F s I=>wpAny_AugAssign_Subscript_any (Q:=_) (res_then I (ho F s I) fun ov F1 ss1 x1 I1 rr1=>res_then I1 (hi F1 ss1 I1) fun iv F2 ss2 xx2 I2 rr2=>res_then I2 (hg F2 ss2 ov iv I2 (rr1.mono xx2.le) rr2) fun old F3 ss3 xx3 I3 rr3=>res_then I3 (hv F3 ss3 I3) fun v F4 ss4 xx4 I4 rr4=>res_then I4 (hop F4 ss4 old v I4 (rr3.mono xx4.le) rr4) fun new F5 ss5 x5 I5 r5=>
  rr1.val_inv ▸ hset F5 ss5 iv new _ I5 (((rr2.mono xx3.le).mono xx4.le).mono x5.le) r5 fun s' I' x'=>⟨F5,Γ,_,.next,hr,trivial,I',((((x1.trans xx2 I.glob.tabs_there).trans xx3 I.glob.tabs_there).trans xx4 I.glob.tabs_there).trans x5 I.glob.tabs_there).toS.trans I I5 I' x'⟩) hst⟩
set_option tactic.hygienic true in
theorem ex_aug_dct {o i:Expr} {pos' pos:Pos} {op:Operator} {value:Expr} {a:Addr} {es:List (Str × D)} {k:Str} {d0 dd1 d:D} {R:PostP} (ho:Ev X A env Γ Ω o (.val (.ref a))) (ha:(a,OC.dct es) ∈ Ω) (hi:Ev X A env Γ Ω i (.str k)) (hh0:es.lookup k = some d0)
  (hv:Ev X A env Γ Ω value dd1) (hop:Op2 X A env Γ Ω (inplaceOp op) d0 dd1 d) (hz:es.length <= 1000000) (hr:R .next Γ (oset Ω a (.dct (dst es k d)))) (hst:∀ ov iv new,augStore i ov iv new = (do holding [new,ov,iv] (setItem ov iv new); release [new,ov,iv] []; pure .next):=by intro _ _ _; rfl):Ex X A env Γ Ω (.AugAssign (.Subscript o i pos') op value pos) R:=
 ex_aug_own ho hi (get_owndct ha hh0) hv hop hr hst fun F s iv v Q I rk r k=>setItem_own I ha rk r hz k
theorem RdL.set {v:Value} {d:D} (r:Rd X F v d) {vs:List Value} {ds:List D} (rs:RdL X F vs ds):∀ i,RdL X F (vs.set i v) (ds.set i d):=
 rs.ind (M:=fun vs ds=>∀ i,RdL X F (vs.set i v) (ds.set i d)) (fun zz=>.nil) fun a rs ih i=>Nat.rec (motive:=fun i=>RdL X F (List.set (_ :: _) i v) (List.set (_ :: _) i d)) (.cons r rs) (fun i zz=>.cons a (ih i)) i
set_option tactic.hygienic true in
theorem ex_aug_lst {o i:Expr} {pos' pos:Pos} {op:Operator} {value:Expr} {a:Addr} {ds:List D} {k:Int} {d0 dd1 d:D} {R:PostP} (ho:Ev X A env Γ Ω o (.val (.ref a))) (ha:(a,OC.lst ds) ∈ Ω) (hi:Ev X A env Γ Ω i (.int k)) (hk:0 <= k) (hh0:ds[k.toNat]? = some d0)
  (hv:Ev X A env Γ Ω value dd1) (hop:Op2 X A env Γ Ω (inplaceOp op) d0 dd1 d) (hz:ds.length <= 1000000) (hr:R .next Γ (oset Ω a (.lst (ds.set k.toNat d)))) (hst:∀ ov iv new,augStore i ov iv new = (do holding [new,ov,iv] (setItem ov iv new); release [new,ov,iv] []; pure .next):=by intro _ _ _; rfl):Ex X A env Γ Ω (.AugAssign (.Subscript o i pos') op value pos) R:=
 ex_aug_own ho hi (get_own ha hk hh0 hz) hv hop hr hst fun F s iv v Q I rk r q=>rk.int_elim fun t=>by
  obtain ⟨⟨ws,hl,rl⟩,_⟩:=I.own _ ha
  have e:ws.size = ds.length:=Array.length_toList.symm.trans rl.length
  refine setItem_plain hl hk (e ▸ (small_at hk hh0 hz).1) (e ▸ hz) fun h' hl' hs=>?_
  obtain ⟨I6,x6⟩:=setOwnS (tk:=s.toks) (c':=.lst (ds.set k.toNat d)) I ha hs ⟨_,hl',by rw [Array.toList_setIfInBounds]; exact RdL.set r rl _⟩
  exact q _ I6 x6
theorem mf_insert:MethFacts "list" "insert" "list.insert" := ⟨PySem.F.plainAttrs_list,PySem.F.slot_list_insert,PySem.F.type_list_insert⟩
theorem fits_nat {n:Nat} (h:n <= 1000000):Builtin.List.listFitsIndex (n:Int) = true:=by
 have h0:(0:Int) <= (n:Int):=Int.natCast_nonneg n
 have h1:=len_fit h
 revert h0 h1
 generalize (n:Int) = k
 exact fun h0 h1=>fitsIndex_of h0 h1
theorem insert_toList (ws:Array Value) (v:Value) (n:Nat):((ws.extract 0 n).push v ++ ws.extract n).toList = ws.toList.take n ++ [v] ++ ws.toList.drop n:=by
 rw [Array.toList_append,Array.toList_push,Array.toList_extract,Array.toList_extract,List.extract_eq_drop_take,List.extract_eq_drop_take,Nat.sub_zero,List.drop_zero,List.take_of_length_le (l:=ws.toList.drop n) (by rw [List.length_drop,Array.length_toList]; exact Nat.le_refl _)]
theorem evs_insert {o e e':Expr} {apos pos:Pos} {a:Addr} {ds:List D} {n:Nat} {d:D} {R:D -> Own -> Prop} (ho:Ev X A env Γ Ω o (.val (.ref a))) (ha:(a,OC.lst ds) ∈ Ω) (he:Ev X A env Γ Ω e (.int n)) (he':Ev X A env Γ Ω e' d) (hn:n <= ds.length) (hz:ds.length <= 1000000) (hr:R .none (oset Ω a (.lst (ds.take n ++ [d] ++ ds.drop n))))
  (hbase:attributeBase o "insert" env (eval o env) = eval o env) (hline:(apos.endLine == pos.line) = true) (h1:starEach [e,e'] env = (false,eval e env) :: starEach [e'] env) (h2:starEach [e'] env = [(false,eval e' env)]):EvS X A env Γ Ω (.Call (.Attribute o "insert" apos) [e,e'] [] pos) R:=by
 refine ⟨fun F s I=>meth_rule1 I mf_insert hbase hline (by rw [h1,h2]; rfl) h1 (by rw [h2]; rfl) ho (ty_own ha) (evl_cons he (evl_cons he' evl_nil h2) h1) fun F1 ss1 v vs x1 I1 r rs=>r.val_elim (rs.two_elim fun u v2 r1 r2=>r1.int_elim fun tk1=>?_)⟩
 obtain ⟨⟨ws,⟨m,ho'⟩,rl⟩,_⟩:=I1.own _ ha
 have e:ws.size = ds.length:=Array.length_toList.symm.trans rl.length
 have hk:(if (n:Int) < 0 then ((n:Int) + ((ws.size:Nat):Int)).toNat else min (n:Int).toNat ws.size) = n:=by rw [if_neg (Int.not_lt.mpr (Int.natCast_nonneg n)),Int.toNat_natCast,Nat.min_eq_left (e ▸ hn)]
 have hfit:=fits_nat (Nat.le_trans hn hz)
 revert hk hfit
 generalize (n:Int) = x
 intro hk hfit
 have hp:=plain_update (f:=fun xs=>have k:=if x < 0 then (x + ((xs.size:Nat):Int)).toNat else min x.toNat xs.size; (xs.extract 0 k).push v2 ++ xs.extract k) ho'
 refine call_meets PySem.F.slot_list_insert (Heap.PlainList.isList ⟨m,ho'⟩).typeIs PySem.F.entry_list_insert (PySem.F.args_list_insert_3 _ _ _) (AutoListH.list_insert_list_int_val_1 a ws m x tk1 v2 (by rw [hfit]; exact Bool.false_ne_true) (by rw [e]; exact Nat.le_trans hz (by decide))) ⟨ho',?_⟩
 obtain ⟨I2,xx2⟩:=setOwnS (tk:=ss1.toks) (c':=.lst (ds.take n ++ [d] ++ ds.drop n)) I1 ha (Heap.SameBut.update ..) ⟨_,hp,by dsimp only; rw [hk,insert_toList]; exact ((rl.take n).append (.one r2)).append (rl.drop n)⟩
 exact ⟨F1,.none,_,hr,.none,I2,x1.toS.trans I I1 I2 xx2⟩
theorem mf_extend:MethFacts "list" "extend" "list.extend" := ⟨PySem.F.plainAttrs_list,PySem.F.slot_list_extend,PySem.F.type_list_extend⟩
theorem evs_extend {o e:Expr} {apos pos:Pos} {a:Addr} {ds es:List D} {R:D -> Own -> Prop} (ho:Ev X A env Γ Ω o (.val (.ref a))) (ha:(a,OC.lst ds) ∈ Ω) (he:Ev X A env Γ Ω e (.lst es)) (hz:ds.length + es.length <= 1000000) (hr:R .none (oset Ω a (.lst (ds ++ es))))
  (hbase:attributeBase o "extend" env (eval o env) = eval o env) (hline:(apos.endLine == pos.line) = true) (hst:starEach [e] env = [(false,eval e env)]):EvS X A env Γ Ω (.Call (.Attribute o "extend" apos) [e] [] pos) R:=by
 refine ⟨fun F s I=>meth_rule1 I mf_extend hbase hline (by rw [hst]; rfl) hst rfl ho (ty_own ha) (evl_cons he evl_nil hst) fun F1 ss1 v vs x1 I1 r rs=>r.val_elim (rs.one_elim fun v2 r=>?_)⟩
 obtain ⟨b,us,rfl,⟨m2,h2⟩,rl2⟩:=lst_d F1 ss1 v2 I1 r
 obtain ⟨⟨ws,⟨m,ho'⟩,rl⟩,_⟩:=I1.own _ ha
 have hle:ws.size + us.toArray.size <= 1000000:=by rw [<- Array.length_toList,List.size_toArray,rl.length,rl2.length]; exact hz
 refine call_meets PySem.F.slot_list_extend (Heap.PlainList.isList ⟨m,ho'⟩).typeIs PySem.F.entry_list_extend (PySem.F.args_list_extend_2 _ _) (AutoSeq1.list_extend_list_list_0 a ws m b us.toArray m2 ?_ (Nat.le_trans (Nat.le_trans (Nat.le_add_right _ _) hle) (by decide)) (Nat.le_trans hle (by decide))) ⟨ho',h2,?_⟩
 ·rw [show Builtin.List.listTooLong (ws.size + us.toArray.size) = false from decide_eq_false (Nat.not_lt.mpr (Nat.le_trans hle (by decide))),Bool.and_false]
  exact Bool.false_ne_true
 obtain ⟨I2,xx2⟩:=setOwnS (tk:=ss1.toks) (c':=.lst (ds ++ es)) I1 ha (Heap.SameBut.update ..) ⟨_,plain_update (f:=fun x=>x ++ us.toArray) ho',by rw [Array.toList_append]; exact rl.append rl2⟩
 exact ⟨F1,.none,_,hr,.none,I2,x1.toS.trans I I1 I2 xx2⟩
end
section
variable {X:Cx} {A:Around} {env:Env} {Γ Γ0:Loc} {Ω:Own} {F F':FS} {s s':Shared}
structure EvK (X:Cx) (A:Around) (env:Env) (Γ:Loc) (Ω:Own) (kws:List Keyword) (ds:List D):Prop where
 run:∀ (pos:Pos) F s,Inv X env F Γ Ω s -> wpAny X.M A (evalAll ((backToKw pos (keywordEach kws env)).map (·.2))) (ResL X F s ds) NoE s
theorem evk_nil:EvK X A env Γ Ω [] []:=⟨fun pos F s I=>kwAll_nil ⟨F,I.stay fun zz zz e=>e,.nil⟩⟩
theorem evk_cons {name:Str} {value:Expr} {p:Pos} {rest:List Keyword} {d:D} {ds:List D} (h:Ev X A env Γ Ω value d) (hr:EvK X A env Γ Ω rest ds):EvK X A env Γ Ω (⟨some name,value,p⟩ :: rest) (d :: ds):=
 ⟨fun pos F s I=>kwAll_cons (res_then I (h F s I) fun v F1 ss1 x1 I1 r=>wpAny_mono (hr.run pos F1 ss1 I1) (fun vs ss2 ⟨F2,xx2,rr2⟩=>⟨F2,x1.trans xx2 I.glob.tabs_there,.cons (r.mono xx2.le) rr2⟩) fun zz zz e=>e)⟩
theorem call_rule_kw {e:Expr} {rest:List Expr} {kws:List Keyword} {pos:Pos} {fv:Value} {ds es:List D} {ns:List Str} {Q:Value -> Shared -> Prop} {E:Value -> Shared -> Prop} {id:Str} {p:Pos}
  (I:Inv X env F Γ Ω s) (hf:Ev X A env Γ Ω (.Name id p) (.val fv)) (hk:∀ F',F.le F' -> Kp X F' fv) (ha:EvL X A env Γ Ω (e :: rest) ds) (hkw:EvK X A env Γ Ω kws es) (he:starEach (e :: rest) env = (false,eval e env) :: starEach rest env)
  (hp:((backTo pos (starEach (e :: rest) env)).any (·.1) || (backToKw pos (keywordEach kws env)).any (·.1.isNone)) = false) (hall:(backToKw pos (keywordEach kws env)).all (·.1.isSome) = true) (hns:(backToKw pos (keywordEach kws env)).filterMap (·.1) = ns)
  (k:∀ F1 ss1 vs us,Ext X F F1 s ss1 -> Inv X env F1 Γ Ω ss1 -> RdL X F1 vs ds -> RdL X F1 us es -> wpAny X.M A (call fv vs (ns.zip us)) Q E ss1):wpAny X.M A (eval (.Call (.Name id p) (e :: rest) kws pos) env) Q E s:=by
 refine wpAny_Call_Name_kw (res_then I (hf F s I) fun v F1 ss1 x1 I1 r=>r.val_elim ?_)
 refine callWith_of (P:=fun h=>X.K.In h /\ ∀ a o,F1 a = some o -> h.get? a = some o) hp (fun h P=>hk F1 x1.le h P.1 P.2) (evalArgs_kw2 hall ?_ he)
 refine wpAny_mono (ha pos F1 ss1 I1) (fun vs ss2 hh2=>?_) fun zz zz e=>e.elim
 obtain ⟨F2,xx2,rr2⟩:=hh2
 have I2:=I1.ext xx2
 refine wpAny_mono (hkw.run pos F2 ss2 I2) (fun us ss3 hh3=>?_) fun zz zz e=>e.elim
 obtain ⟨F3,xx3,rr3⟩:=hh3
 have I3:=I2.ext xx3
 rw [hns]
 exact ⟨⟨I3.glob.k,fun a o e=>I3.fz a o (xx3.le a o (xx2.le a o e))⟩,k F3 ss3 vs us ((x1.trans xx2 I.glob.tabs_there).trans xx3 I.glob.tabs_there) I3 (rr2.mono xx3.le) rr3⟩
structure Room (A:Around) (n:Nat):Prop where
 d:A.depth + n < recursionLimit
 u:A.units + 8 * n + 64 < cLine
 h:A.handled = none
theorem Room.deeper {n:Nat} (r:Room A (n + 1)) (env:Env):Room (A.deeper env) n:=
 ⟨Nat.add_right_comm A.depth 1 n ▸ r.d,Nat.lt_of_le_of_lt (by show A.units + 3 + 8 * n + 64 <= A.units + 8 * (n + 1) + 64; omega) r.u,r.h⟩
theorem Room.le {n m:Nat} (r:Room A n) (h:m <= n):Room A m:=⟨Nat.lt_of_le_of_lt (Nat.add_le_add_left h _) r.d,Nat.lt_of_le_of_lt (Nat.add_le_add_right (Nat.add_le_add_left (Nat.mul_le_mul_left 8 h) _) 64) r.u,r.h⟩
theorem Room.one {n:Nat} (r:Room A (n + 1)):A.depth < recursionLimit:=Nat.lt_of_le_of_lt (Nat.le_add_right _ _) r.d
noncomputable def CallQ (X:Cx) (n:Nat) (fv:Value) (ns:List Str) (ds es:List D) (d:D):Prop:=
 ∀ (A:Around) F s vs us,Room A n -> Base X F [] s -> RdL X F vs ds -> RdL X F us es -> wpAny X.M A (call fv vs (ns.zip us)) (Res X F s d) NoE s
theorem CallQ.r {n:Nat} {fv:Value} {ds:List D} {d:D} (h:CallQ X n fv [] ds [] d) (hA:Room A n):CallR X A env Γ Ω fv ds d:=fun F s vs I r=>
 h A F s vs [] hA I.base.nil r .nil
set_option tactic.hygienic true in
theorem ret_rd {d:D} {f:Flow} {fl:FlowD} (hr:fl = .ret d \/ (fl = .next /\ d = .none)) (rf:FlowRd X F f fl):Rd X F (match (generalizing:=false) f with | .ret v=>v | _=>.none) d:=by
 rcases hr with rfl | ⟨rfl,rfl⟩ <;> cases f <;> first | exact rf.elim | exact rf | exact .none
theorem callQ_def {fa:Addr} {o:Obj} {fd:FuncData} {body:List Stmt} {ks:List Str} {ds es gs:List D} {d:D} {n:Nat} {ns:List Str} (ho:X.K.lookup fa = some o) (hd:o.data = .func fd) (ok:DefOk X fd body) (hnd:ns.Nodup) (hkind:∀ x ∈ ns,fd.scope.names.lookup x = some .local \/ fd.scope.names.lookup x = some .cell) (hnl:ns.length = gs.length)
  (hb:∀ F s vs us,Base X F [] s -> RdL X F vs ds -> RdL X F us es -> ∃ ws,BindsTo s fd ⟨vs,ks.zip us⟩ (ns.zip ws) /\ RdL X F ws gs)
  (h:∀ (A:Around) L,Room A n -> Exs X A (fenv fd L fa) (ns.zip gs) [] body (RetP d)):CallQ X (n + 1) (.ref fa) ks ds es d:=by
 intro A F s vs us hA B r rk
 obtain ⟨ws,hbt,ru⟩:=hb F s vs us B r rk
 refine call_def B hA.one (B.glob.k _ _ ho) hd ok hbt ru (hnl.trans ru.length.symm) hnd hkind fun L ss2 hL I2 xx2 hC=>?_
 refine wpAny_mono (h (A.deeper (fenv fd L fa)) L (hA.deeper _) F ss2 I2) (fun f s' p=>?_) fun zz zz e=>e.elim
 obtain ⟨F',Γ',Ω',fl,hr,rf,I',y⟩:=p
 exact ⟨F',(post_ext hL hC xx2 I' y B (fun p hp=>nomatch hp)).ext,ret_rd hr rf⟩
inductive ResO (X:Cx) (F:FS) (s:Shared) (a:Addr) (c c':OC) (d:D) (v:Value) (s':Shared):Prop
 | mk (F':FS) (x:ExtO X [(a,c)] F F' s s') (o:OwnAt X F' s'.heap a c') (r:Rd X F' v d)
theorem ResO.up {a:Addr} {c c':OC} {d:D} {v:Value} {F1:FS} {ss1:Shared} {R:D -> Own -> Prop} (h:ResO X F1 ss1 a c c' d v s') (I:Inv X env F Γ Ω s) (I1:Inv X env F1 Γ Ω ss1) (x1:Ext X F F1 s ss1) (hm:(a,c) ∈ Ω) (hr:R d (oset Ω a c')):SRes X env Γ Ω F s R v s':=by
 obtain ⟨F2,xx2,oo2,rr2⟩:=h
 have I2:=I1.callO hm xx2 oo2
 exact ⟨F2,d,_,hr,rr2,I2,x1.toS.trans I I1 I2 (xx2.toS hm)⟩
noncomputable def CallO (X:Cx) (n:Nat) (fv:Value) (a:Addr) (c:OC) (ns:List Str) (ds es:List D) (d:D) (c':OC):Prop:=
 ∀ (A:Around) F s vs us,Room A n -> Base X F [(a,c)] s -> RdL X F vs ds -> RdL X F us es -> wpAny X.M A (call fv vs (ns.zip us)) (ResO X F s a c c' d) NoE s
set_option tactic.hygienic true in
theorem callO_def {fa:Addr} {o:Obj} {fd:FuncData} {body:List Stmt} {a:Addr} {c c':OC} {ks:List Str} {ds es gs:List D} {d:D} {n:Nat} {ns:List Str} (ho:X.K.lookup fa = some o) (hd:o.data = .func fd) (ok:DefOk X fd body) (hnd:ns.Nodup) (hkind:∀ x ∈ ns,fd.scope.names.lookup x = some .local \/ fd.scope.names.lookup x = some .cell) (hnl:ns.length = gs.length)
  (hb:∀ F s vs us,Base X F [(a,c)] s -> RdL X F vs ds -> RdL X F us es -> ∃ ws,BindsTo s fd ⟨vs,ks.zip us⟩ (ns.zip ws) /\ RdL X F ws gs)
  (h:∀ (A:Around) L,Room A n -> Exs X A (fenv fd L fa) (ns.zip gs) [(a,c)] body (fun fd zz Ω'=>(fd = .ret d \/ (fd = .next /\ d = .none)) /\ (a,c') ∈ Ω')):CallO X (n + 1) (.ref fa) a c ks ds es d c':=by
 intro A F s vs us hA B r rk
 obtain ⟨ws,hbt,ru⟩:=hb F s vs us B r rk
 refine call_def B hA.one (B.glob.k _ _ ho) hd ok hbt ru (hnl.trans ru.length.symm) hnd hkind fun L ss2 hL I2 xx2 hC=>?_
 refine wpAny_mono (h (A.deeper (fenv fd L fa)) L (hA.deeper _) F ss2 I2) (fun f s' p=>?_) fun zz zz e=>e.elim
 obtain ⟨F',Γ',Ω',fl,⟨hr,hm⟩,rf,I',y⟩:=p
 obtain ⟨o1,o2,o3⟩:=I'.own _ hm
 exact ⟨F',post_ext hL hC xx2 I' y B (fun p hp=>List.mem_singleton.mp hp ▸ o2),o1,ret_rd hr rf⟩
theorem evs_call {e:Expr} {rest:List Expr} {pos:Pos} {fv:Value} {a:Addr} {c c':OC} {ds:List D} {d:D} {n:Nat} {id:Str} {p:Pos} {R:D -> Own -> Prop} (hA:Room A n) (hf:Ev X A env Γ Ω (.Name id p) (.val fv)) (hk:∀ F',Kp X F' fv) (ha:EvL X A env Γ Ω (e :: rest) ds) (hm:(a,c) ∈ Ω) (hc:CallO X n fv a c [] ds [] d c') (hr:R d (oset Ω a c'))
  (he:starEach (e :: rest) env = (false,eval e env) :: starEach rest env) (hp:(backTo pos (starEach rest env)).any (·.1) = false):EvS X A env Γ Ω (.Call (.Name id p) (e :: rest) [] pos) R:=⟨fun F s I=>
 call_rule (fe:=e) I hf (fun F' zz=>hk F') ha he hp fun F1 ss1 vs x1 I1 rr1=>
  wpAny_mono (hc A F1 ss1 vs [] hA (I1.base.one hm) rr1 .nil) (fun v ss2 h=>h.up I I1 x1 hm hr) fun zz zz e=>e⟩
theorem evs_call_kw {e:Expr} {rest:List Expr} {kws:List Keyword} {ns:List Str} {pos:Pos} {fv:Value} {a:Addr} {c c':OC} {ds es:List D} {d:D} {n:Nat} {id:Str} {p:Pos} {R:D -> Own -> Prop} (hA:Room A n) (hf:Ev X A env Γ Ω (.Name id p) (.val fv)) (hk:∀ F',Kp X F' fv) (ha:EvL X A env Γ Ω (e :: rest) ds) (hkw:EvK X A env Γ Ω kws es) (hm:(a,c) ∈ Ω) (hc:CallO X n fv a c ns ds es d c') (hr:R d (oset Ω a c'))
  (he:starEach (e :: rest) env = (false,eval e env) :: starEach rest env) (hp:((backTo pos (starEach (e :: rest) env)).any (·.1) || (backToKw pos (keywordEach kws env)).any (·.1.isNone)) = false) (hall:(backToKw pos (keywordEach kws env)).all (·.1.isSome) = true) (hns:(backToKw pos (keywordEach kws env)).filterMap (·.1) = ns):EvS X A env Γ Ω (.Call (.Name id p) (e :: rest) kws pos) R:=⟨fun F s I=>
 call_rule_kw I hf (fun F' zz=>hk F') ha hkw he hp hall hns fun F1 ss1 vs us x1 I1 rr1 r1'=>
  wpAny_mono (hc A F1 ss1 vs us hA (I1.base.one hm) rr1 r1') (fun v ss2 h=>h.up I I1 x1 hm hr) fun zz zz e=>e⟩
theorem Inv.freeze {a:Addr} {c:OC} (I:Inv X env F Γ ((a,c) :: Ω) s) {Γ':Loc} (h:∀ x d,Γ'.lookup x = some d -> Γ.lookup x = some d \/ (Γ.lookup x = some (.val (.ref a)) /\ d = c.d)):∃ F',Inv X env F' Γ' Ω s /\ ExtS X env ((a,c) :: Ω) Ω F F' s s:=by
 obtain ⟨q1,q2,q3⟩:=I.own _ (List.mem_cons_self ..)
 obtain ⟨o,ho⟩:=q1.some
 have hle:F.le (F.put a o):=put_le q2
 have up:∀ {x:Str} {d:D},Γ'.lookup x = some d -> ∃ d',Γ.lookup x = some d' /\ ∀ v,Rd X F v d' -> Rd X (F.put a o) v d:=fun {x d} e=>(h x d e).elim (fun e=>⟨d,e,fun v r=>r.mono hle⟩) fun e=>⟨_,e.1,fun v r=>e.2 ▸ r.val_inv ▸ own_rd q1 ho hle (FS.put_self ..)⟩
 have nd:=List.nodup_cons.mp I.nd
 refine ⟨F.put a o,⟨I.eo,I.glob.mono hle,fun b p hb e=>hle b p (I.fb b p hb e),fun b p e=>?_,?_,fun x d h1 h2=>?_,fun n c' hm=>?_,I.apart,⟨(FS.put_ne fun q:env.locals = a=>I.loc.2.1 (q ▸ List.mem_cons_self ..)).trans I.loc.1,fun q=>I.loc.2.1 (List.mem_cons_of_mem _ q),I.loc.2.2⟩,fun p hp=>?_,nd.2,fun P hP=>(FS.put_ne fun q:P = a=>q3 (q ▸ hP)).trans (I.tF P hP)⟩,hle,fun b=>?_,fun b p zz zz zz zz e=>e,fun b hb=>.inl (List.mem_cons_of_mem _ hb),rfl,.refl _⟩
 ·exact put_fz I.fz ho b p e
 ·obtain ⟨m,hn,hm⟩:=I.ns
  refine ⟨m,hn,fun x d h1 h2=>?_⟩
  obtain ⟨d',hd',k⟩:=up h1
  exact (hm x d' hd' h2).imp fun v hv=>⟨hv.1,k v hv.2⟩
 ·obtain ⟨d',hd',k⟩:=up h1
  obtain ⟨c',v,hc,hv,r⟩:=I.cl x d' hd' h2
  exact ⟨c',v,hc,hv,k v r⟩
 ·obtain ⟨e0,e1,e2,e3,e4⟩:=I.cells n c' hm
  exact ⟨e0,(FS.put_ne fun q:c' = a=>e3 (q ▸ List.mem_cons_self ..)).trans e1,e2,fun q=>e3 (List.mem_cons_of_mem _ q),e4⟩
 ·obtain ⟨e1,e2,e3⟩:=I.own p (List.mem_cons_of_mem _ hp)
  exact ⟨e1.keep hle fun zz e=>e,(FS.put_ne fun q:p.1 = a=>nd.1 (q ▸ List.mem_map_of_mem (f:=(·.1)) hp)).trans e2,e3⟩
 ·by_cases hb:b = a
  ·exact .inr (.inr (hb ▸ List.mem_cons_self ..))
  ·exact .inl (FS.put_ne hb)
theorem exs_freeze {a:Addr} {c:OC} {Γ':Loc} {st:List Stmt} {R:PostP} (h:∀ x d,Γ'.lookup x = some d -> Γ.lookup x = some d \/ (Γ.lookup x = some (.val (.ref a)) /\ d = c.d)) (k:Exs X A env Γ' Ω st R):Exs X A env Γ ((a,c) :: Ω) st R:=by
 refine ⟨?_⟩
 intro F s I
 obtain ⟨F',I',x⟩:=I.freeze h
 exact post_up I I' x (k F' s I')
theorem sub_fst {Ω Ω':Own} (h:∀ p,p ∈ Ω' -> p ∈ Ω) {a:Addr} (q:a ∈ Ω'.map (·.1)):a ∈ Ω.map (·.1):=(List.mem_map.mp q).elim fun p e=>e.2 ▸ List.mem_map_of_mem (h p e.1)
theorem Inv.perm {Ω':Own} (I:Inv X env F Γ Ω s) (h:∀ p,p ∈ Ω' -> p ∈ Ω) (hn:(Ω'.map (·.1)).Nodup):Inv X env F Γ Ω' s:=
 { I with
  cells:=fun n c hm=>⟨(I.cells n c hm).1,(I.cells n c hm).2.1,(I.cells n c hm).2.2.1,fun q=>(I.cells n c hm).2.2.2.1 (sub_fst h q),(I.cells n c hm).2.2.2.2⟩
  loc:=⟨I.loc.1,fun q=>I.loc.2.1 (sub_fst h q),I.loc.2.2⟩
  own:=fun p hp=>I.own p (h p hp)
  nd:=hn }
theorem exs_perm {Ω':Own} {st:List Stmt} {R:PostP} (h:∀ p,p ∈ Ω' -> p ∈ Ω) (hn:(Ω.map (·.1)).Nodup -> (Ω'.map (·.1)).Nodup) (k:Exs X A env Γ Ω' st R):Exs X A env Γ Ω st R:=by
 refine ⟨?_⟩
 intro F s I
 have I':=I.perm h (hn I.nd)
 have x:ExtS X env Ω Ω' F F s s:=⟨fun zz zz e=>e,fun zz=>.inl rfl,fun zz zz zz zz zz zz e=>e,fun b hb=>.inl (sub_fst h hb),rfl,.refl _⟩
 exact post_up I I' x (k F s I')
theorem dst_length {K V:Type} [DecidableEq K] (es:List (K × V)) (k:K) (v:V):(dst es k v).length <= es.length + 1:=by
 unfold dst; split
 ·rw [List.length_map]; exact Nat.le_succ _
 ·rw [List.length_append]; exact Nat.le_refl _
theorem dst_fold {K V:Type} [DecidableEq K] (es:List (K × V)):∀ (acc:List (K × V)),(es.foldl (fun acc p=>dst acc p.1 p.2) acc).length <= acc.length + es.length:=by
 induction es with
 | nil=>exact fun acc=>Nat.le_refl _
 | cons p r ih=>exact fun acc=>Nat.le_trans (ih _) (Nat.le_trans (Nat.add_le_add_right (dst_length ..) _) (Nat.le_of_eq (Nat.add_right_comm ..)))
end
section
variable {X:Cx} {A:Around} {env:Env} {Γ Γ0:Loc} {Ω:Own} {F F':FS} {s s':Shared}
set_option tactic.hygienic true in
theorem among_snoc (pos:Pos) (a b:Int) (v c:Value) (l:List Value) (ht:TriplesOk l) (h:codeAmong pos (l ++ [rawInt a,rawInt b,c]) = some v):codeAmong pos l = some v \/ v = c:=by
 fun_induction TriplesOk l with
 | case1=>
  rw [List.nil_append,rawInt,rawInt,codeAmong] at h
  split at h
  ·exact .inr (Option.some.inj h).symm
  ·cases h
 | case2 a' t b' u x rest ih=>
  rw [List.cons_append,List.cons_append,List.cons_append,codeAmong] at h
  rw [codeAmong]
  split at h
  ·rename_i hb; rw [if_pos hb]; exact .inl h
  ·rename_i hb; rw [if_neg hb]; exact ih ht h
 | case3 l h1 h2=>exact ht.elim
theorem Inv.addCode {Pt c':Addr} {ps:Array Value} {a b:Int} {h':Heap} {tk:Nat} {oc:Obj} {vs:Array Value} {t:Tok} (I:Inv X env F Γ Ω s) (hPT:Pt ∈ X.T) (hP:s.heap.get? Pt = some (tabObj ps)) (ht:TriplesOk ps.toList)
  (hx:∀ b o,b ≠ Pt -> s.heap.get? b = some o -> h'.get? b = some o) (hfr:s.heap.get? c' = none) (htb:h'.get? Pt = some (tabObj (ps ++ #[rawInt a,rawInt b,.ref c'])))
  (hoc:h'.get? c' = some oc) (hd:oc.data = .fields vs) (hv:vs[1]? = some (.str (X.qn Pt) t)):Ext X F (F.put c' oc) s { s with heap:=h',toks:=tk }:=by
 have le:F.le (F.put c' oc):=put_le (I.nF hfr)
 have hl:(ps ++ #[rawInt a,rawInt b,Value.ref c']).toList = ps.toList ++ [rawInt a,rawInt b,.ref c']:=Array.toList_append
 refine ⟨le,put_fz (fun a o e=>hx a o (fun q=>oclash (y:=o) (I.tF Pt hPT) (q ▸ e)) (I.fz a o e)) hoc,fun a=>?_,fun b o hb e=>hx b o (fun q=>hb (q ▸ hPT)) e,⟨I.glob.ok,fun b o hb e=>hx b o (fun q=>hb (q ▸ hPT)) (I.glob.base b o hb e),fun P hP'=>?_,fun P hP' ps' e pos' v hv'=>?_⟩,rfl,.refl _⟩
 ·by_cases h2:a = c'
  ·exact .inr (h2 ▸ hfr)
  ·exact .inl (FS.put_ne h2)
 ·by_cases q:P = Pt
  ·exact ⟨_,q ▸ htb,hl ▸ TriplesOk_snoc _ _ _ _ ht⟩
  ·obtain ⟨ps',e',t'⟩:=I.glob.tabs_ok P hP'
   exact ⟨ps',hx P _ q e',t'⟩
 ·by_cases q:P = Pt
  ·subst q
   obtain rfl:ps' = ps ++ #[rawInt a,rawInt b,.ref c']:=Data.fields.inj (congrArg Obj.data (Option.some.inj (e.symm.trans htb)))
   rcases among_snoc pos' a b v _ _ ht (hl ▸ hv') with h1 | h1
   ·exact (I.glob.codes P hP' ps hP pos' v h1).to le
   ·exact ⟨c',oc,vs,t,h1,FS.put_self ..,hd,hv⟩
  ·obtain ⟨ps0,e0,_⟩:=I.glob.tabs_ok P hP'
   exact (I.glob.codes P hP' ps' (e0.trans ((hx P _ q e0).symm.trans e)) pos' v hv').to le
theorem CodeHd.at {h h':Heap} {c Pt:Addr} (x:CodeHd h c Pt) (k:∀ o,h.get? c = some o -> o.cls = .type "code" -> h'.get? c = some o):CodeHd h' c Pt:=
 x.imp fun o x=>x.imp fun zz x=>x.imp fun zz x=>x.imp fun zz x=>x.imp fun zz x=>x.imp fun zz x=>x.imp fun zz x=>x.imp fun zz x=>x.imp fun zz x=>⟨k o x.1 x.2.1,x.2⟩
theorem Gl.codeHd {h:Heap} (g:Gl X F h) {c Pt:Addr} (hm:(c,Pt) ∈ X.tabs):CodeHd h c Pt:=by
 refine CodeHd.at (g.ok.tab _ hm).1 fun o e hc=>g.base _ _ (g.ok.notT e ?_) e
 rintro ⟨ps,_,h⟩
 cases hc.symm.trans h
theorem ext_fn {h':Heap} {tk:Nat} {ss1:Shared} {F1:FS} {fo:Obj} (I:Inv X env F Γ Ω s) (x:Ext X F F1 s ss1) (hf:fo.isFreed = false) {h'':Heap} (hk:∀ b o,ss1.heap.get? b = some o -> h''.get? b = some o) (hs:ss1.heap.get? h''.objs.size = none):Ext X F (F1.put h''.objs.size fo) s { ss1 with heap:=h''.push fo,toks:=tk }:=
 x.trans ((I.ext x).frozen (s':={ ss1 with heap:=h''.push fo,toks:=tk }) hs (Heap.get?_push_size _ hf) fun b o e=>Heap.get?_push_of_some _ (hk b o e)) I.glob.tabs_there
inductive LamR (X:Cx) (env:Env) (F:FS) (s:Shared) (params:Arguments) (body:Expr) (scope:Scope) (clos:List (Str × Addr)) (v:Value) (s':Shared):Prop
 | mk (F':FS) (c':Addr) (ctv pm:Value) (x:Ext X F F' s s') (r:Rd X F' v (.fn (kla_fn "<lambda>" (env.qual ++ "<lambda>") params body scope clos pm (.ref c') ctv) [] []))
theorem ev_lambda_x {params:Arguments} {body:Expr} {scope:Scope} {pos:Pos} {c Pt:Addr} {clos:List (Str × Addr)} (hcode:env.code = .ref c) (hm:(c,Pt) ∈ X.tabs) (hq:env.qual ++ "<lambda>" = X.qn Pt) (hcl:closureFor scope env = pure clos) (hdef:defaultsOf params env = ([],[])) (I:Inv X env F Γ Ω s) :
  wpAny X.M A (eval (.Lambda params body scope pos) env) (LamR X env F s params body scope clos) NoE s:=by
 refine kla_eval hdef ?_
 obtain ⟨bm,ob,b1,b2,b3,b4,b5,b6⟩:=I.glob.bm
 have hPT:Pt ∈ X.T:=List.mem_map_of_mem (f:=(·.2)) hm
 obtain ⟨ps,hP,ht⟩:=I.glob.tabs_ok Pt hPT
 have hg:=I.glob.g
 obtain ⟨og,es,ep,eg,hgd,_⟩:=id hg
 have hbP:bm ≠ Pt:=fun q=>by
  cases (q ▸ b3).symm.trans hP
  cases b4
 have hbG:bm ≠ mainGlobals:=fun q=>by
  cases (q ▸ b3).symm.trans eg
  cases hgd.symm.trans b6
 have hgP:mainGlobals ≠ Pt:=fun q=>by
  cases (q ▸ eg).symm.trans hP
  cases hgd
 have hB:s.heap.BuiltinsAt X.mg Pt:=⟨bm,ob,b1,b2,hbG,hbP,b3,b4,b5,b6⟩
 cases hf:codeAmong pos ps.toList with
 | some cv=>
  have k:CodeIn F (env.qual ++ "<lambda>") cv:=hq ▸ I.glob.codes Pt hPT ps hP pos cv hf
  obtain ⟨c',oc,vs,t,rfl,hF,hd,hv⟩:=id k
  refine kla_makeFunctionHit (mg:=X.mg) hcl I.eo.gl hg hcode (I.glob.codeHd hm) hP ht hf hB fun ctv h' tk hk hsz=>?_
  have y:=ext_fn (tk:=tk) (fo:={ cls:=.type "function",data:=.func (kla_fn "<lambda>" (env.qual ++ "<lambda>") params body scope clos ((X.mg "__name__").getD .none) (.ref c') ctv) }) (h':=h') I (I.stay fun zz zz e=>e) rfl hk (fresh_le hsz)
  exact ⟨_,c',ctv,_,y,.fn (cs:=[]) (FS.put_self ..) rfl (k.to y.le) (fun p hp=>nomatch hp) .nil⟩
 | none=>
  refine kla_makeFunction (mg:=X.mg) hcl I.eo.gl hg hcode (I.glob.codeHd hm) hP ht hf hgP hB fun c' ctv h' tk hx hge hlt hrec htb=>?_
  obtain ⟨cc2,oc,vs,t,e2,hoc,hd,hv⟩:=hrec
  cases e2
  have y:=ext_fn (tk:=tk) (fo:=kla_obj "<lambda>" (env.qual ++ "<lambda>") params body scope clos ((X.mg "__name__").getD .none) c' ctv) (h':=h') I (I.addCode (tk:=tk) hPT hP ht hx (fresh_le hge) htb hoc hd (hq ▸ hv)) rfl (fun zz zz e=>e) (get_size h')
  exact ⟨_,c',ctv,_,y,.fn (cs:=[]) (FS.put_self ..) rfl ⟨c',oc,vs,t,rfl,(FS.put_ne (Nat.ne_of_lt hlt)).trans (FS.put_self ..),hd,hv⟩ (fun p hp=>nomatch hp) .nil⟩
theorem ev_lambda {params:Arguments} {body:Expr} {scope:Scope} {pos:Pos} {c Pt:Addr} {clos:List (Str × Addr)} (hcode:env.code = .ref c) (hm:(c,Pt) ∈ X.tabs) (hq:env.qual ++ "<lambda>" = X.qn Pt) (hcl:closureFor scope env = pure clos) (hdef:defaultsOf params env = ([],[])) :
  EvS X A env Γ Ω (.Lambda params body scope pos) (fun d Ω'=>∃ c' ctv pm,d = .fn (kla_fn "<lambda>" (env.qual ++ "<lambda>") params body scope clos pm (.ref c') ctv) [] [] /\ Ω' = Ω):=⟨fun F s I=>
 wpAny_mono (ev_lambda_x hcode hm hq hcl hdef I) (fun v s' h=>by
  obtain ⟨F',c',ctv,pm,y,r⟩:=h
  exact ⟨F',_,Ω,⟨c',ctv,pm,rfl,rfl⟩,r,I.ext y,y.toS⟩) fun zz zz e=>e⟩
end
section
variable {X:Cx} {A:Around} {env:Env} {Γ Γ0:Loc} {Ω:Own} {F F':FS} {s s':Shared}
noncomputable def FS.del (F:FS) (a:Addr):FS:=fun b=>if b = a then none else F b
theorem FS.del_ne {a b:Addr} (h:b ≠ a):F.del a b = F b:=if_neg h
theorem FS.del_self {a:Addr}:F.del a a = none:=if_pos rfl
theorem FS.del_some {a b:Addr} {o:Obj} (e:F.del a b = some o):F b = some o:=by
 by_cases h:b = a
 ·exact oclash FS.del_self (h ▸ e)
 ·exact (FS.del_ne h).symm.trans e
theorem ne_cell {cw:Addr} {oc:Obj} {cv:Option Value} (hc:F cw = some oc) (hd:oc.data = .cell cv) {a:Addr} {o:Obj} (h:F a = some o) (hn:∀ v,o.data ≠ .cell v):F.del cw a = some o:=
 (FS.del_ne fun q:a = cw=>hn cv ((congrArg Obj.data (Option.some.inj ((q ▸ h).symm.trans hc))).trans hd)).trans h
noncomputable def NF (X:Cx) (d:D):Prop:=∀ {F:FS} {cw:Addr} {oc:Obj} {cv:Option Value} {v:Value},F cw = some oc -> oc.data = .cell cv -> Rd X F v d -> Rd X (F.del cw) v d
noncomputable def NFL (X:Cx) (ds:List D):Prop:=∀ {F:FS} {cw:Addr} {oc:Obj} {cv:Option Value} {vs:List Value},F cw = some oc -> oc.data = .cell cv -> RdL X F vs ds -> RdL X (F.del cw) vs ds
theorem NF.int {i:Int}:NF X (.int i):=fun zz zz r=>r.int_elim fun t=>.int i t
theorem NF.str {x:Str}:NF X (.str x):=fun zz zz r=>r.str_elim fun t=>.str x t
theorem NFL.of {ds:List D} (h:∀ d ∈ ds,NF X d):NFL X ds:=fun {F cw _ _ _} hc hd r=>
 r.ind (M:=fun vs ds=>(∀ d ∈ ds,NF X d) -> RdL X (F.del cw) vs ds) (fun zz=>.nil) (fun a zz ih h=>.cons (h _ (List.mem_cons_self ..) hc hd a) (ih fun d m=>h d (List.mem_cons_of_mem _ m))) h
theorem NF.tup {ds:List D} (h:NFL X ds):NF X (.tup ds):=fun hc hd r=>by
 obtain ⟨a,rfl,o,vs,n,e,q1,q2,r⟩:=r.inv
 exact .tup (ne_cell hc hd e (by rw [q2]; exact fun zz q=>nomatch q)) q1 q2 (h hc hd r)
theorem NF.lst {ds:List D} (h:NFL X ds):NF X (.lst ds):=fun hc hd r=>by
 obtain ⟨a,rfl,vs,n,e,r⟩:=r.inv
 exact .lst (ne_cell hc hd e (fun zz q=>nomatch q)) (h hc hd r)
section
variable {cw:Addr} {oc:Obj} {cv:Option Value}
theorem CodeIn.del {q:Str} {v:Value} (h:CodeIn F q v) (hc:F cw = some oc) (hd:oc.data = .cell cv):CodeIn (F.del cw) q v:=by
 obtain ⟨c,o,vs,t,e,h,d,n⟩:=h
 exact ⟨c,o,vs,t,e,ne_cell hc hd h (by rw [d]; exact fun zz q=>nomatch q),d,n⟩
theorem Gl.del {h:Heap} (g:Gl X F h) (hc:F cw = some oc) (hd:oc.data = .cell cv):Gl X (F.del cw) h:=⟨g.ok,g.base,g.tabs_ok,fun P hP ps e pos v hv=>(g.codes P hP ps e pos v hv).del hc hd⟩
theorem Base.hold (B:Base X F Ω s) (h0:F cw = none) (hs:s.heap.get? cw = some oc) (hO:cw ∉ Ω.map (·.1)) (hT:cw ∉ X.T):Base X (F.put cw oc) Ω s:=
 ⟨B.glob.mono (put_le h0),fun b o hb e=>put_le h0 _ _ (B.fb b o hb e),put_fz B.fz hs,fun p hp=>⟨(B.own p hp).1.keep (put_le h0) fun zz e=>e,(FS.put_ne fun q:p.1 = cw=>hO (q ▸ List.mem_map_of_mem (f:=(·.1)) hp)).trans (B.own p hp).2.1,(B.own p hp).2.2⟩,B.nd,fun P hP=>(FS.put_ne fun q:P = cw=>hT (q ▸ hP)).trans (B.tF P hP)⟩
theorem ExtO.letgo {F2:FS} (x:ExtO X Ω (F.put cw oc) F2 s s') (h0:F cw = none) (hd:oc.data = .cell cv):ExtO X Ω F (F2.del cw) s s':=
 ⟨fun b o e=>(FS.del_ne fun q:b = cw=>oclash (y:=o) h0 (q ▸ e)).trans (x.le _ _ (put_le h0 _ _ e)),fun b o e=>x.fz b o (FS.del_some e),fun b=>by
  by_cases hb:b = cw
  ·subst hb; exact .inl (FS.del_self.trans h0.symm)
  ·exact (x.new b).imp (fun e=>(FS.del_ne hb).trans (e.trans (FS.put_ne hb))) id,x.keep,x.glob.del (x.le _ _ (FS.put_self ..)) hd,x.os,x.gens⟩
theorem Rd.hold {u v:Value} {fd:FuncData} {dy:D} (r:Rd X F u (.fn fd [] [])) (I:Inv X env F Γ Ω s) (h0:F cw = Option.none) (hT:cw ∉ X.T) (hd:oc.data = .cell (some v)) (rv:Rd X F v dy):Rd X (F.put cw oc) u (.fn fd [cw] [dy]):=by
 obtain ⟨fa,rfl,fo,cs,_,h1,h2,h3,_⟩:=r.inv
 exact .fn (cs:=[(cw,v)]) (put_le h0 _ _ h1) h2 (h3.to (put_le h0)) (fun p hp=>List.mem_singleton.mp hp ▸ ⟨hT,I.new0 h0 hT,oc,FS.put_self ..,hd⟩) (.one (rv.mono (put_le h0)))
end
noncomputable def KeyF (X:Cx) (n:Nat) (fd:FuncData) (cs:List Addr) (es:List D) (ds:List D) (d:D):Prop:=
 ∀ (A:Around) F s a vs,Room A n -> Base X F [] s -> Rd X F (.ref a) (.fn fd cs es) -> RdL X F vs ds -> wpAny X.M A (call (.ref a) vs) (Res X F s d) NoE s
theorem kp_rd {a:Addr} {fd:FuncData} {cs:List Addr} {es:List D} (h:Rd X F (.ref a) (.fn fd cs es)):Kp X F (.ref a):=by
 obtain ⟨b,e,o,_,_,h1,h2,_⟩:=h.inv
 cases e
 exact kp_fn h1 h2
theorem ev_call_fn {e:Expr} {rest:List Expr} {pos:Pos} {fd:FuncData} {cs:List Addr} {es ds:List D} {d:D} {n:Nat} {id:Str} {p:Pos} (hA:Room A n) (hf:Ev X A env Γ Ω (.Name id p) (.fn fd cs es)) (ha:EvL X A env Γ Ω (e :: rest) ds) (hc:KeyF X n fd cs es ds d)
  (he:starEach (e :: rest) env = (false,eval e env) :: starEach rest env) (hp:(backTo pos (starEach rest env)).any (·.1) = false):Ev X A env Γ Ω (.Call (.Name id p) (e :: rest) [] pos) d:=by
 refine ⟨fun F s I=>wpAny_Call_Name_kw (res_then I (hf F s I) fun v F1 ss1 x1 I1 r=>?_)⟩
 obtain ⟨a,rfl,_⟩:=r.inv
 refine callWith_of (P:=fun h=>X.K.In h /\ ∀ a o,F1 a = some o -> h.get? a = some o) (star_any he hp) (fun h P=>kp_rd r h P.1 P.2) (args_plain he ?_)
 refine wpAny_mono (ha pos F1 ss1 I1) (fun vs ss2 hh2=>?_) fun zz zz e=>e.elim
 obtain ⟨F2,xx2,rr2⟩:=hh2
 have I2:=I1.ext xx2
 exact ⟨⟨I2.glob.k,fun a o e=>I2.fz a o (xx2.le a o e)⟩,res_up I (x1.trans xx2 I.glob.tabs_there) (hc A F2 ss2 a vs hA I2.base.nil (r.mono xx2.le) rr2)⟩
theorem evs_call_kw_fn {e:Expr} {rest:List Expr} {kws:List Keyword} {nm:Str} {pos:Pos} {fv:Value} {a:Addr} {c:OC} {ds ds':List D} {fd:FuncData} {n:Nat} {id:Str} {p:Pos} {y:Str} {cw:Addr} {dy:D} {R:D -> Own -> Prop} (hA:Room A n) (hf:Ev X A env Γ Ω (.Name id p) (.val fv)) (hk:∀ F',Kp X F' fv) (ha:EvL X A env Γ Ω (e :: rest) ds) (hkw:EvK X A env Γ Ω kws [.fn fd [] []]) (hm:(a,c) ∈ Ω)
  (hy:Γ.lookup y = some dy) (hyk:env.kindOf y ≠ some .local) (hyc:env.cells.lookup y = some cw) (hc:CallO X n fv a c [nm] ds [.fn fd [cw] [dy]] .none (.lst ds')) (hnf:NFL X ds') (hr:R .none (oset Ω a (.lst ds')))
  (he:starEach (e :: rest) env = (false,eval e env) :: starEach rest env) (hp:((backTo pos (starEach (e :: rest) env)).any (·.1) || (backToKw pos (keywordEach kws env)).any (·.1.isNone)) = false) (hall:(backToKw pos (keywordEach kws env)).all (·.1.isSome) = true) (hns:(backToKw pos (keywordEach kws env)).filterMap (·.1) = [nm]):EvS X A env Γ Ω (.Call (.Name id p) (e :: rest) kws pos) R:=⟨fun F s I=>
 call_rule_kw I hf (fun F' zz=>hk F') ha hkw he hp hall hns fun F1 ss1 vs us x1 I1 rr1 r1'=>r1'.one_elim fun u ru=>by
  obtain ⟨cw',v,hc1,⟨oc,hoc,hod⟩,rv⟩:=I1.cl y dy hy hyk
  cases hyc.symm.trans hc1
  obtain ⟨_,h0,_,hcO,hcT⟩:=I1.cells y cw (mem_of_lookup hyc)
  refine wpAny_mono (hc A (F1.put cw oc) ss1 vs [u] hA ((I1.base.hold h0 hoc hcO hcT).one hm) (rr1.mono (put_le h0)) (.one (ru.hold I1 h0 hcT hod rv))) (fun w ss2 hh2=>?_) fun zz zz e=>e
  obtain ⟨F2,xx2,⟨ws,hl,rl⟩,rr2⟩:=hh2
  exact ResO.up (c':=.lst ds') ⟨_,xx2.letgo h0 hod,⟨ws,hl,hnf (xx2.le _ _ (FS.put_self ..)) hod rl⟩,rr2.none_elim .none⟩ I I1 x1 hm hr⟩
theorem call_lam {fa:Addr} {fd:FuncData} {cs:List Addr} {es:List D} {body:Expr} {vs:List Value} {binds:List (Str × Value)} {Q:Value -> Shared -> Prop} {E:Value -> Shared -> Prop} (B:Base X F Ω s) (room:A.depth < recursionLimit) (hf:Rd X F (.ref fa) (.fn fd cs es)) (hco:fd.scope.isCoroutine = false) (hgen:fd.scope.isGenerator = false) (hbody:fd.body = .expr body) (hk:fd.scope.kind = .function)
  (hbind:bindArgs fd ⟨vs,[]⟩ = pure binds) (hloc:∀ y ∈ binds,fd.scope.names.lookup y.1 = some .local) (hcell:∀ x ∈ fd.scope.names,x.2 ≠ .cell)
  (h:∀ L hh1 tk,s.heap.get? L = none -> hh1.Ns L (fun y=>binds.reverse.lookup y) -> (∀ b o,s.heap.get? b = some o -> hh1.get? b = some o) ->
   wpAny X.M (A.deeper (newEnv fd.scope L fd.globals fd.closure (fd.qualname ++ ".<locals>.") (some fa) fd.code none fd.builtins)) (eval body (newEnv fd.scope L fd.globals fd.closure (fd.qualname ++ ".<locals>.") (some fa) fd.code none fd.builtins)) Q NoE { s with heap:=hh1,toks:=tk }):wpAny X.M A (call (.ref fa) vs) Q E s:=by
 obtain ⟨_,q,_,_,_,h1,h2,⟨c,oc,vs',t,q1,q2,q3,q4⟩,_⟩:=hf.inv
 cases q
 refine wpAny_call (kla_callFunE room (B.fz _ _ h1) h2 hco hgen hbody ⟨c,oc,vs',t,q1,B.fz _ _ q2,q3,q4⟩ ?_)
 rw [hbind]
 refine wpAny_pure (wpAny_newFunctionEnv hcell hloc (fun hh1 hns hsb=>⟨B.glob.nolimit.fresh _ hsb,?_⟩) hk)
 exact kla_codeExpr (wpAny_mono (h s.heap.objs.size hh1 _ (get_size _) hns fun b o e=>hsb.extBut b o (Nat.ne_of_lt (Heap.lt_size e)) (Heap.get?_push_of_some _ e)) (fun v s' hq=>hq) fun zz zz e=>e.elim)
abbrev lenv (fd:FuncData) (L fa:Addr):Env:=newEnv fd.scope L fd.globals fd.closure (fd.qualname ++ ".<locals>.") (some fa) fd.code none fd.builtins
structure LamOk (fd:FuncData) (body:Expr) (x:Str):Prop where
 co:fd.scope.isCoroutine = false
 gen:fd.scope.isGenerator = false
 body:fd.body = .expr body
 kind:fd.scope.kind = .function
 bind:∀ v,bindArgs fd ⟨[v],[]⟩ = pure [(x,v)]
 loc:fd.scope.names.lookup x = some .local
 cell:∀ y ∈ fd.scope.names,y.2 ≠ .cell
 gl:fd.globals = mainGlobals
 bi:fd.builtins = builtinsNs
theorem LamOk.inv {fd:FuncData} {body:Expr} {x:Str} {Γc:Loc} {d0:D} {v:Value} {L a:Addr} {hh1:Heap} {tk:Nat} (ok:LamOk fd body x) (gl:Gl X F hh1) (fb:∀ b o,b ∉ X.T -> X.h0.get? b = some o -> F b = some o) (fz:∀ a o,F a = some o -> hh1.get? a = some o) (hns:hh1.Ns L (fun y=>[(x,v)].reverse.lookup y)) (r:Rd X F v d0)
  (hc:∀ z d,Γc.lookup z = some d -> fd.scope.names.lookup z ≠ some .local /\ ∃ c v,fd.closure.lookup z = some c /\ hh1.IsCell c (some v) /\ Rd X F v d) (hcells:∀ n c,(n,c) ∈ fd.closure -> (∃ v,hh1.IsCell c v) /\ F c = none /\ c ≠ L /\ c ∉ X.T) (ap:fd.closure.Pairwise fun x y=>x.2 ≠ y.2) (nF:F L = none) (nT:L ∉ X.T) (tF:∀ P ∈ X.T,F P = none) :
  Inv X (lenv fd L a) F ((x,d0) :: Γc) [] { s with heap:=hh1,toks:=tk }:=by
 refine ⟨⟨ok.kind,ok.gl,ok.bi⟩,gl,fb,fz,⟨_,hns,fun z d h1 h2=>(lookup_cases h1).elim (fun e=>⟨v,?_,e.2 ▸ r⟩) fun e=>absurd h2 (hc z d e.2).1⟩,fun z d h1 h2=>(lookup_cases h1).elim (fun e=>absurd (e.1 ▸ ok.loc) h2) fun e=>(hc z d e.2).2,fun n c hm=>⟨(hcells n c hm).1,(hcells n c hm).2.1,(hcells n c hm).2.2.1,(fun q=>nomatch q),(hcells n c hm).2.2.2⟩,ap,⟨nF,(fun q=>nomatch q),nT⟩,(fun p hp=>nomatch hp),List.nodup_nil,tF⟩
 exact e.1 ▸ List.lookup_cons_self
theorem keyF0 {fd:FuncData} {body:Expr} {x:Str} {d0 d:D} {n:Nat} (ok:LamOk fd body x) (hcl:fd.closure = []) (h:∀ A L fa,Room A n -> Ev X A (lenv fd L fa) [(x,d0)] [] body d):KeyF X (n + 1) fd [] [] [d0] d:=by
 refine fun A F s a vs hA B hf r=>r.one_elim fun v r=>call_lam B hA.one hf ok.co ok.gen ok.body ok.kind (ok.bind v) (fun y hy=>List.mem_singleton.mp hy ▸ ok.loc) ok.cell fun L hh1 tk hL hns hk=>?_
 have xx2:Ext X F F s { s with heap:=hh1,toks:=tk }:=.same B.glob B.fz hk rfl (.refl _)
 exact wpAny_mono (h _ L a (hA.deeper _) F _ (ok.inv xx2.glob B.fb xx2.fz hns r (fun z d e=>nomatch e) (fun n c hm=>nomatch (hcl ▸ hm:(n,c) ∈ [])) (hcl ▸ .nil) (B.nF hL) (B.nT hL) B.tF)) (fun w ss2 ⟨F',y,r⟩=>⟨F',xx2.trans y B.glob.tabs_there,r⟩) fun zz zz e=>e
theorem Ext.reput {cw:Addr} {oc:Obj} (y:Ext X (F.del cw) F' s s') (hF:F cw = some oc) (hT:cw ∉ X.T) (hs:s.heap.get? cw = some oc):Ext X F (F'.put cw oc) s s':=by
 have h0:F' cw = none:=(y.new cw).elim (fun e=>e.trans FS.del_self) fun e=>clash e hs
 refine ⟨fun b o e=>?_,put_fz y.fz (y.keep cw oc hT hs),fun b=>?_,y.keep,y.glob.mono (put_le h0),y.os,y.gens⟩
 ·by_cases hb:b = cw
  ·subst hb; exact (FS.put_self ..).trans (hF.symm.trans e)
  ·exact put_le h0 _ _ (y.le b o ((FS.del_ne hb).trans e))
 ·by_cases hb:b = cw
  ·subst hb; exact .inl ((FS.put_self ..).trans hF.symm)
  ·exact (y.new b).imp (fun e=>(FS.put_ne hb).trans (e.trans (FS.del_ne hb))) id
theorem keyF1 {fd:FuncData} {body:Expr} {x y:Str} {cw:Addr} {dy d0 d:D} {n:Nat} (ok:LamOk fd body x) (hcl:fd.closure = [(y,cw)]) (hyx:y ≠ x) (hyk:fd.scope.names.lookup y ≠ some .local) (hnf:NF X d0) (hny:NF X dy) (h:∀ A L fa,Room A n -> Ev X A (lenv fd L fa) [(x,d0),(y,dy)] [] body d):KeyF X (n + 1) fd [cw] [dy] [d0] d:=by
 refine fun A F s a vs hA B hf r=>r.one_elim fun v r=>call_lam B hA.one hf ok.co ok.gen ok.body ok.kind (ok.bind v) (fun y hy=>List.mem_singleton.mp hy ▸ ok.loc) ok.cell fun L hh1 tk hL hns hk=>?_
 obtain ⟨fa,_,fo,cvs,hcs,_,_,_,hcv,hrv⟩:=hf.inv
 obtain ⟨⟨c0,cv⟩,rfl⟩:∃ p,cvs = [p]:=List.length_eq_one_iff.mp ((List.length_map _).symm.trans (congrArg List.length hcs).symm)
 obtain rfl:cw = c0:=List.head_eq_of_cons_eq hcs
 obtain ⟨hcT,hc0,oc,hFc,hod⟩:=hcv _ (List.mem_cons_self ..)
 have rcv:Rd X F cv dy:=hrv.uncons.1
 have hLc:L ≠ cw:=fun q=>oclash (B.nF hL) (q ▸ hFc)
 have xx2:Ext X F F s { s with heap:=hh1,toks:=tk }:=.same B.glob B.fz hk rfl (.refl _)
 have hcell1:hh1.get? cw = some oc:=hk _ _ (B.fz _ _ hFc)
 refine wpAny_mono (h _ L a (hA.deeper _) _ _ (ok.inv (xx2.glob.del hFc hod) (fun b o hb e=>(FS.del_ne fun q:b = cw=>clash hc0 (q ▸ e)).trans (B.fb b o hb e)) (fun b o e=>xx2.fz b o (FS.del_some e)) hns (hnf hFc hod r) (fun z d e=>?_) (fun n c hm=>?_) (hcl ▸ List.pairwise_singleton ..) ((FS.del_ne hLc).trans (B.nF hL)) (B.nT hL) fun P hP=>(FS.del_ne fun q:P = cw=>hcT (q ▸ hP)).trans (B.tF P hP))) (fun w ss2 ⟨F',y,r⟩=>?_) fun zz zz e=>e
 ·obtain ⟨rfl,rfl⟩:=(lookup_cases e).resolve_right fun e=>nomatch e.2
  exact ⟨hyk,cw,cv,hcl ▸ List.lookup_cons_self,⟨oc,hcell1,hod⟩,hny hFc hod rcv⟩
 ·cases List.mem_singleton.mp (hcl ▸ hm)
  exact ⟨⟨_,oc,hcell1,hod⟩,FS.del_self,hLc.symm,hcT⟩
 ·have z:=y.reput hFc hcT hcell1
  have h0:F' cw = none:=(y.new cw).elim (fun e=>e.trans FS.del_self) fun e=>clash e hcell1
  exact ⟨_,xx2.trans z B.glob.tabs_there,r.mono (put_le h0)⟩
end
section
variable {X:Cx} {A:Around} {env:Env} {Γ Γ0:Loc} {Ω:Own} {F F':FS} {s s':Shared}
open SeqAt
noncomputable def Eqs (X:Cx) (n:Nat) (d:D):Prop:=∀ {A:Around} {F:FS} {s:Shared} {v u:Value},(∀ a o,F a = some o -> s.heap.get? a = some o) -> A.units + n < cLine -> Rd X F v d -> Rd X F u d -> EqAt A s v u true
theorem at_true {b:Bool} (h:b = true) {v u:Value} (k:EqAt A s v u b):EqAt A s v u true:=h ▸ k
theorem Eqs.int {n:Nat} {i:Int}:Eqs X n (.int i):=fun zz zz r r'=>r.int_elim fun t=>r'.int_elim fun t'=>at_true (beq_self_eq_true i) (EqAt.int_int i t i t')
theorem Eqs.str {n:Nat} {x:Str}:Eqs X n (.str x):=fun zz zz r r'=>r.str_elim fun t=>r'.str_elim fun t'=>at_true (beq_self_eq_true x) (EqAt.str_str x t x t')
theorem Eqs.bool {n:Nat} {b:Bool}:Eqs X n (.bool b):=fun zz zz r r'=>r.bool_inv ▸ r'.bool_inv ▸ EqAt.same _
theorem eq_items {n:Nat} {vs us:List Value} {ds:List D} (hf:∀ a o,F a = some o -> s.heap.get? a = some o) (hu:A.units + (n + 1) < cLine) (r:RdL X F vs ds) (r':RdL X F us ds) (h:∀ d ∈ ds,Eqs X n d) :
  ∀ j (h1:j < vs.toArray.size) (h2:j < us.toArray.size),EqAt A.in1 s vs.toArray[j] us.toArray[j] true:=fun j h1 h2=>by
 obtain ⟨d,hd,rd⟩:=r.at (i:=j) (v:=vs.toArray[j]) ((List.getElem?_toArray ..).symm.trans (Array.getElem?_eq_getElem h1))
 obtain ⟨e,he,re⟩:=r'.at (i:=j) (v:=us.toArray[j]) ((List.getElem?_toArray ..).symm.trans (Array.getElem?_eq_getElem h2))
 cases hd.symm.trans he
 exact h d (List.mem_of_getElem? hd) hf (Nat.add_right_comm A.units 1 n ▸ hu) rd re
theorem all_true (n:Nat):(List.range n).all (fun zz=>true) = true:=List.all_eq_true.mpr fun zz zz=>rfl
theorem same_size {vs us:List Value} {ds:List D} (r:RdL X F vs ds) (r':RdL X F us ds):vs.toArray.size = us.toArray.size:=by rw [List.size_toArray,List.size_toArray,r.length,r'.length]
theorem eq_lists {n:Nat} {a b:Addr} {vs us:List Value} {ds:List D} (hf:∀ a o,F a = some o -> s.heap.get? a = some o) (hu:A.units + (n + 1) < cLine) (hl:s.heap.IsList a vs.toArray) (hb:s.heap.IsList b us.toArray) (r:RdL X F vs ds) (r':RdL X F us ds) (h:∀ d ∈ ds,Eqs X n d) :
  RcAt A s (.ref a) (.ref b) true /\ RcNeAt A s (.ref a) (.ref b) false:=by
 have t1:=RcAt.lists hl hb (same_size r r') (Nat.lt_of_le_of_lt (Nat.le_add_right ..) hu) (eq_items hf hu r r' h)
 have t2:=RcNeAt.lists hl hb (same_size r r') (Nat.lt_of_le_of_lt (Nat.le_add_right ..) hu) (eq_items hf hu r r' h)
 rw [all_true] at t1 t2
 exact ⟨t1,t2⟩
theorem Eqs.lst {n:Nat} {ds:List D} (h:∀ d ∈ ds,Eqs X n d):Eqs X (n + 1) (.lst ds):=fun hf hu r r'=>by
 obtain ⟨a,rfl,vs,m,e,r1⟩:=r.inv
 obtain ⟨b,rfl,us,m',e',r2⟩:=r'.inv
 by_cases hab:a = b
 ·subst hab; exact EqAt.same _
 ·exact EqAt.of_refs hab (eq_lists hf hu ⟨_,hf _ _ e,rfl,m,rfl⟩ ⟨_,hf _ _ e',rfl,m',rfl⟩ r1 r2 h).1
theorem Eqs.tup {n:Nat} {ds:List D} (h:∀ d ∈ ds,Eqs X n d):Eqs X (n + 1) (.tup ds):=fun {A F s v u} hf hu r r'=>by
 obtain ⟨a,rfl,o,vs,m,e,q1,q2,r1⟩:=r.inv
 obtain ⟨b,rfl,o',us,m',e',q1',q2',r2⟩:=r'.inv
 by_cases hab:a = b
 ·subst hab; exact EqAt.same _
 ·have t:=RcAt.tuples (A:=A) (s:=s) ⟨o,hf _ _ e,q1,m,q2⟩ ⟨o',hf _ _ e',q1',m',q2'⟩ (Nat.lt_of_le_of_lt (Nat.le_add_right ..) hu) (eq_items hf hu r1 r2 h)
  rw [all_true,beq_iff_eq.mpr (same_size r1 r2)] at t
  exact EqAt.of_refs hab t
theorem op_list {op:CmpOp} {d e:D} {ds es:List D} {b:Bool} (L:LstD X env Γ Ω d ds) (L':LstD X env Γ Ω e es)
  (h:∀ {F s a c vs us},Inv X env F Γ Ω s -> s.heap.IsList a (List.toArray vs) -> s.heap.IsList c (List.toArray us) -> RdL X F vs ds -> RdL X F us es -> ∀ Q:Value -> Shared -> Prop,Q (.bool b) s -> wpAny X.M A (compareOp op (.ref a) (.ref c)) Q NoE s):Op2 X A env Γ Ω (compareOp op) d e (.bool b):=fun F s v u I r r'=>by
 obtain ⟨a,vs,rfl,hl,rl⟩:=L F s v I r
 obtain ⟨c,us,rfl,hl',rl'⟩:=L' F s u I r'
 exact h I hl.isList hl'.isList rl rl' _ (I.res (.bool _))
theorem op_eql' {n:Nat} {d e:D} {ds:List D} (L:LstD X env Γ Ω d ds) (L':LstD X env Γ Ω e ds) (hu:A.units + (n + 1) < cLine) (h:∀ d ∈ ds,Eqs X n d):Op2 X A env Γ Ω (compareOp .Eq) d e (.bool true):=
 op_list L L' fun I hl hl' r r' Q q=>(eq_lists I.fz hu hl hl' r r' h).1 X.prog X.w _ _ q
theorem op_nel' {n:Nat} {d e:D} {ds:List D} (L:LstD X env Γ Ω d ds) (L':LstD X env Γ Ω e ds) (hu:A.units + (n + 1) < cLine) (h:∀ d ∈ ds,Eqs X n d):Op2 X A env Γ Ω (compareOp .NotEq) d e (.bool false):=
 op_list L L' fun I hl hl' r r' Q q=>(eq_lists I.fz hu hl hl' r r' h).2 X.prog X.w _ _ q
theorem size_ne {vs us:List Value} {d:D} {ds:List D} (r:RdL X F vs (d :: ds)) (r':RdL X F us []):(vs.toArray.size != us.toArray.size) = true:=by
 rw [List.size_toArray,List.size_toArray,r.length,r'.length]; rfl
theorem op_eq0 {d:D} {ds:List D} (L:LstD X env Γ Ω d ds) (hu:A.units + 1 < cLine):Op2 X A env Γ Ω (compareOp .Eq) d (.lst []) (.bool ds.isEmpty):=by
 cases ds with
 | nil=>exact op_eql' (n:=0) L lst_d hu fun zz h=>nomatch h
 | cons e es=>exact op_list L lst_d fun I hl hl' r r' Q q=>RcAt.lists_lengths hl hl' (size_ne r r') (Nat.lt_of_succ_lt hu) X.prog X.w _ _ q
theorem op_ne0 {d:D} {ds:List D} (L:LstD X env Γ Ω d ds) (hu:A.units + 1 < cLine):Op2 X A env Γ Ω (compareOp .NotEq) d (.lst []) (.bool (!ds.isEmpty)):=by
 cases ds with
 | nil=>exact op_nel' (n:=0) L lst_d hu fun zz h=>nomatch h
 | cons e es=>exact op_list L lst_d fun I hl hl' r r' Q q=>RcNeAt.lists_lengths hl hl' (size_ne r r') (Nat.lt_of_succ_lt hu) X.prog X.w _ _ q
end
section
variable {X:Cx} {A:Around} {env:Env} {Γ Γ0:Loc} {Ω:Own} {F F':FS} {s s':Shared}
theorem op_nes {x y:Str}:Op2 X A env Γ Ω (compareOp .NotEq) (.str x) (.str y) (.bool (x != y)):=op2_str fun zz zz I=>PyProof.Rows.ne_str (I.res (.bool _))
theorem op_isBool {b c:Bool}:Op2 X A env Γ Ω (compareOp .Is) (.bool b) (.bool c) (.bool (b == c)):=fun F s vv1 vv2 I rr1 rr2=>by
 rw [rr1.bool_inv,rr2.bool_inv]
 refine wpAny_is_plain rfl (I.res ?_)
 rw [show ((Value.bool b) == (Value.bool c)) = (b == c) by cases b <;> cases c <;> rfl]
 exact .bool _
noncomputable def isI (k:Int):Value -> Bool
 | .int i _=>i == k
 | _=>false
theorem any_isI {k:Int} {l:List Int} {vs:List Value} {ds:List D} (r:RdL X F vs ds) (e:ds = l.map D.int):vs.any (isI k) = l.contains k:=by
 induction l generalizing vs ds with
 | nil=>subst e; exact r.nil_elim rfl
 | cons i l ih=>
  subst e
  exact r.cons_elim fun v ws a b=>a.int_elim fun t=>by
   rw [List.any_cons,List.contains_cons,ih b rfl]
   exact congrArg (· || _) (Bool.beq_comm ..)
theorem notIn_ints {k:Int} {l:List Int}:Op2 X A env Γ Ω (compareOp .NotIn) (.int k) (.lst (l.map D.int)) (.bool (!l.contains k)):=fun F s vv1 vv2 I rr1 rr2=>rr1.int_elim fun t=>by
 obtain ⟨a,vs,rfl,hl,rl⟩:=lst_d F s vv2 I rr2
 refine SeqAt.notIn_listAt (isI k) hl.isList (fun y hy=>?_) (I.res ?_)
 ·obtain ⟨i,hi⟩:=List.getElem?_of_mem (List.mem_toArray.mp hy)
  obtain ⟨d,hd,rd⟩:=rl.at hi
  obtain ⟨j,_,rfl⟩:=List.mem_map.mp (List.mem_of_getElem? hd)
  exact rd.int_elim fun u=>SeqAt.EqAt.int_int j u k t
 ·rw [List.any_toArray,any_isI rl rfl]
  exact .bool _
end
section
variable {X:Cx} {A:Around} {env:Env} {Γ Γ0:Loc} {Ω:Own} {F F':FS} {s s':Shared}
structure Later (X:Cx) (Pv:List Addr) (F F':FS) (s s':Shared):Prop where
 le:F.le F'
 base:Base X F' [] s'
 keep:∀ a ∈ Pv,F' a = none /\ ∀ o,s.heap.get? a = some o -> s'.heap.get? a = some o
theorem Later.trans {Pv:List Addr} {F1 F2:FS} {ss1 ss2:Shared} (x:Later X Pv F F1 s ss1) (y:Later X Pv F1 F2 ss1 ss2):Later X Pv F F2 s ss2:=
 ⟨fun a o e=>y.le a o (x.le a o e),y.base,fun a ha=>⟨(y.keep a ha).1,fun o e=>(y.keep a ha).2 o ((x.keep a ha).2 o e)⟩⟩
structure ExtP (X:Cx) (Pv Pv':List Addr) (F F':FS) (s s':Shared):Prop where
 le:F.le F'
 new:∀ a,F' a = F a \/ s.heap.get? a = none \/ a ∈ Pv
 keep:∀ b o,b ∉ X.T -> b ∉ Pv -> s.heap.get? b = some o -> s'.heap.get? b = some o
 dom:∀ b ∈ Pv',b ∈ Pv \/ s.heap.get? b = none
 priv:∀ b ∈ Pv',F' b = none /\ b ∉ X.T /\ ∃ o,s'.heap.get? b = some o
 base:Base X F' [] s'
 os:s'.os = s.os
 gens:GensLe s.gens s'.gens
noncomputable def GEnd (X:Cx) (A:Around) (rr:Result):List D -> List Addr -> FS -> Shared -> End -> Shared -> Prop
 | []=>fun Pv F0 ss0 e s'=>e = .ret rr /\ ∃ F',ExtP X Pv [] F0 F' ss0 s'
 | d :: ds=>fun Pv F0 ss0 e s'=>match e with
  | .ret _=>False
  | .susp v g l k c p fs=>(End.susp v g l k c p fs).quiet = true /\ ∃ F' Pv',ExtP X Pv Pv' F0 F' ss0 s' /\ Rd X F' v d /\
    ∀ F'' s'',Later X Pv' F' F'' s' s'' -> ∀ Γ pp1,Γ.code = c -> Γ.Woken A -> ∃ ee2 ss2,Runs X.M Γ pp1 (k (.send .none)) fs s'' ee2 ss2 /\ GEnd X A rr ds Pv' F'' s'' ee2 ss2
noncomputable def GSeg (X:Cx) (A:Around) (rr:Result) (ds:List D) (Pv:List Addr) (F0:FS) (ss0:Shared) (c:Code) (t:Sem Fin) (fs:List Frame) (s:Shared):Prop:=
 ∀ Γ p,Γ.code = c -> Γ.Woken A -> ∃ e s',Runs X.M Γ p t fs s e s' /\ GEnd X A rr ds Pv F0 ss0 e s'
section
variable {rr:Result} {ds:List D} {Pv:List Addr} {F0:FS} {ss0:Shared} {c:Code} {fs:List Frame}
theorem gseg_wrap {α:Type} {m:Sem α} {K:α -> Sem Fin} {H:Value -> Sem Fin} {gd lv}
  (h:wpAny X.M (A.over c fs) m (fun a s'=>GSeg X A rr ds Pv F0 ss0 c (K a) fs s') NoE s):GSeg X A rr ds Pv F0 ss0 c (m.wrap K H gd lv) fs s:=by
 rintro Γ p rfl hΓ
 exact runs_wrap_of_wp K H gd lv m (h (Γ.over fs) p (hΓ.over fs)) (fun a p' s' h'=>h' Γ p' rfl hΓ) (fun x p' s' h'=>h'.elim)
theorem gseg_bind_wrap {α β:Type} {m:Sem α} {K:α -> Sem β} {K':β -> Sem Fin} {H':Value -> Sem Fin} {gd lv}
  (h:wpAny X.M (A.over c fs) m (fun a s'=>GSeg X A rr ds Pv F0 ss0 c ((K a).wrap K' H' gd lv) fs s') NoE s):GSeg X A rr ds Pv F0 ss0 c ((m >>= K).wrap K' H' gd lv) fs s:=by
 rw [Sem.bind_eq_wrap',Sem.wrap_wrap]; exact gseg_wrap h
theorem gseg_at {p':Pos} {k:Unit -> Sem Fin} (h:GSeg X A rr ds Pv F0 ss0 c (k ()) fs s):GSeg X A rr ds Pv F0 ss0 c (.at p' k) fs s:=
 gseg_wrap (m:=standAt p') (K:=k) (H:=.raise) (gd:=id) (lv:=id) (wpAny_standAt h)
theorem gseg_point {l:List Value} {k:Unit -> Sem Fin} (h:GSeg X A rr ds Pv F0 ss0 c (k ()) fs s):GSeg X A rr ds Pv F0 ss0 c (.point l k) fs s:=
 gseg_wrap (m:=point) (K:=k) (H:=.raise) (gd:=id) (lv:=fun zz=>l) (wpAny_point h)
theorem gseg_call {c':Code} {h g l} {k:Result -> Sem Fin} (hc:∀ p,GSeg X A rr ds Pv F0 ss0 c' (X.M.den c') (.ret k h g l c p [] :: fs) s) :
  GSeg X A rr ds Pv F0 ss0 c (.call c' h g l k) fs s:=by
 rintro Γ p rfl hΓ
 obtain ⟨e,s',hr,he⟩:=hc p (Γ.goto c') p rfl (hΓ.goto c')
 exact ⟨e,s',runs_call_seg hr,he⟩
theorem gseg_leaf {k h g l cc1 pp1 kp} (r:Result) (hk:GSeg X A rr ds Pv F0 ss0 cc1 (k r) fs s):GSeg X A rr ds Pv F0 ss0 c (leafOf r) (.ret k h g l cc1 pp1 kp :: fs) s:=by
 rintro Γ p rfl hΓ
 obtain ⟨e,s',hr,he⟩:=hk (Γ.goto cc1) pp1 rfl (hΓ.goto cc1)
 exact ⟨e,s',Runs.pop r hr,he⟩
theorem gseg_again {c':Code} (hq:c'.quiet = true) (hc:GSeg X A rr ds Pv F0 ss0 c' (X.M.den c') fs s):GSeg X A rr ds Pv F0 ss0 c (.pure (.again c')) fs s:=by
 rintro Γ p rfl hΓ
 obtain ⟨e,s',hr,he⟩:=hc (Γ.goto c') p rfl (hΓ.goto c')
 exact ⟨e,s',Runs.head (c₁:=c') (fun zz zz x=>.again hq x) hr,he⟩
theorem gseg_end (h:∃ F',ExtP X Pv [] F0 F' ss0 s):GSeg X A rr [] Pv F0 ss0 c (leafOf rr) [] s:=by
 rintro Γ p rfl _
 exact ⟨.ret rr,s,Runs.leaf rr,rfl,h⟩
theorem gseg_yield {d:D} {v g l} {k:Resume -> Sem Fin} (hfs:splitAtGen fs = none) (hg:g = false) (hfg:fs.any Frame.guarded = false)
  (h:∃ F' Pv',ExtP X Pv Pv' F0 F' ss0 s /\ Rd X F' v d /\ ∀ F'' s'',Later X Pv' F' F'' s s'' -> GSeg X A rr ds Pv' F'' s'' c (k (.send .none)) fs s'') :
  GSeg X A rr (d :: ds) Pv F0 ss0 c (.yield v g l k) fs s:=by
 rintro Γ p rfl _
 obtain ⟨F',Pv',x,r,hk⟩:=h
 exact ⟨_,s,Runs.yield' fs hfs,by simp [End.quiet,hg,hfg],F',Pv',x,r,fun F'' s'' y=>hk F'' s'' y⟩
section
variable {K:Flow -> Sem Fin} {H:Value -> Sem Fin} {gd:Bool -> Bool} {lv:List Value -> List Value}
set_option tactic.hygienic true in
theorem gseg_cons {st:Stmt} {rest:List Stmt}
  (h:GSeg X A rr ds Pv F0 ss0 c ((exec st env).wrap (fun f=>match f with | .next=>(execs rest env).wrap K H gd lv | f=>K f) H gd lv) fs s) :
  GSeg X A rr ds Pv F0 ss0 c ((execs (st :: rest) env).wrap K H gd lv) fs s:=by rw [execs_cons_wrap]; exact h
set_option tactic.hygienic true in
theorem gseg_Yield {e:Expr} {d:D} {ypos pos:Pos} (hfs:splitAtGen fs = none) (hgd:gd false = false) (hfg:fs.any Frame.guarded = false)
  (h:wpAny X.M (A.over c fs) (eval e env) (fun v s=>∃ F' Pv',ExtP X Pv Pv' F0 F' ss0 s /\ Rd X F' v d /\ ∀ F'' s'',Later X Pv' F' F'' s s'' -> GSeg X A rr ds Pv' F'' s'' c (K .next) fs s'') NoE s)
  (hco:env.scope.isCoroutine = false:=by rfl) (hi:interactive env = false:=by rfl) :
  GSeg X A rr (d :: ds) Pv F0 ss0 c ((exec (.Expr (.Yield (some e) ypos) pos) env).wrap K H gd lv) fs s:=by
 rw [exec_Expr env _ pos hi rfl]
 show GSeg X A rr (d :: ds) Pv F0 ss0 c (.at pos fun zz=>((eval e env >>= fun v=>(standAt ypos >>= fun zz=>yieldOut env v)) >>= fun x=>
  dropValue (.Yield (some e) ypos) pos x).wrap K H gd lv) fs s
 have hy:∀ v,yieldOut env v = yieldValue v:=fun v=>by simp only [yieldOut,hco,Bool.false_eq_true,if_false]
 simp only [hy]
 refine gseg_at ?_
 rw [Sem.bind_eq_wrap',Sem.bind_eq_wrap',Sem.wrap_wrap,Sem.wrap_wrap]
 refine gseg_wrap (wpAny_mono h (fun v s' h'=>?_) fun zz zz x=>x)
 exact gseg_at (gseg_yield hfs hgd hfg h')
theorem gseg_If {test:Expr} {body orelse:List Stmt} {pos:Pos}
  (h:wpAny X.M (A.over c fs) (isTrue test env (eval test env)) (fun b s'=>GSeg X A rr ds Pv F0 ss0 c ((execs (if b = true then body else orelse) env).wrap K H gd lv) fs s') NoE s) :
  GSeg X A rr ds Pv F0 ss0 c ((exec (.If test body orelse pos) env).wrap K H gd lv) fs s:=by
 rw [arm_exec_If]
 refine gseg_bind_wrap (wpAny_standAt (gseg_bind_wrap (wpAny_mono h (fun b s' hb=>?_) fun zz zz x=>x)))
 cases b <;> exact hb
theorem gseg_For {t iter:Expr} {body orelse:List Stmt} {pos:Pos} (hs:∀ x,foldedSetIterable iter env x = pure x)
  (h:wpAny X.M (A.over c fs) (eval iter env) (fun x ss1=>wpAny X.M (A.over c fs) (pyIter x) (fun it ss2=>∀ kr l p,(∀ f,kr (.ok f) = K f) ->
   GSeg X A rr ds Pv F0 ss0 (.forLoop t it body orelse env) (X.M.den (.forLoop t it body orelse env)) (.ret kr none (gd false) l c p [] :: fs) ss2) NoE ss1) NoE s) :
  GSeg X A rr ds Pv F0 ss0 c ((exec (.For t iter body orelse pos) env).wrap K H gd lv) fs s:=by
 rw [arm_exec_For]
 refine gseg_bind_wrap (wpAny_standAt (gseg_bind_wrap (wpAny_mono h (fun x ss1 hh1=>?_) fun zz zz x=>x)))
 rw [hs]
 refine gseg_bind_wrap (wpAny_pure (gseg_bind_wrap (wpAny_standAt (gseg_bind_wrap (wpAny_holding (wpAny_mono hh1 (fun it ss2 hh2=>?_) fun zz zz x=>x))))))
 refine gseg_call fun p=>hh2 _ _ p fun f=>rfl
set_option tactic.hygienic true in
theorem gseg_forLoop {t:Expr} {it:Value} {body orelse:List Stmt}
  (h:wpAny X.M (A.over (.forLoop t it body orelse env) fs) (pyNext it) (fun r ss1=>match r with
   | none=>GSeg X A rr ds Pv F0 ss0 (.block orelse env) (X.M.den (.block orelse env)) fs ss1
   | some v=>wpAny X.M (A.over (.forLoop t it body orelse env) fs) (letOwnedTupleGo t it v) (fun zz s1'=>wpAny X.M (A.over (.forLoop t it body orelse env) fs) (assign t env v) (fun zz ss2=>∀ H',
     GSeg X A rr ds Pv F0 ss0 (.forLoop t it body orelse env) ((execs body env).wrap (fun f=>match f with
      | .next | .cont=>.pure (.again (.forLoop t it body orelse env))
      | .brk=>.pure (.done .next)
      | .ret v=>.pure (.done (.ret v))) H' id id) fs ss2) NoE s1') NoE ss1) NoE s) :
  GSeg X A rr ds Pv F0 ss0 (.forLoop t it body orelse env) (X.M.den (.forLoop t it body orelse env)) fs s:=by
 show GSeg X A rr ds Pv F0 ss0 _ ((forTurn t it body orelse env).onRaise (fun x=>do noteFrame x env; theTreesLotGoes x)) fs s
 unfold forTurn
 rw [Sem.onRaise_eq_wrap]
 refine gseg_bind_wrap (wpAny_standAt (gseg_bind_wrap (wpAny_onRaise (wpAny_mono h (fun r ss1 hh1=>?_) fun zz zz x=>x.elim))))
 cases r with
 | none=>exact gseg_again rfl hh1
 | some v=>
  refine gseg_bind_wrap (wpAny_mono hh1 (fun zz s1' hh1'=>?_) fun zz zz x=>x)
  refine gseg_bind_wrap (wpAny_mono hh1' (fun zz ss2 hh2=>?_) fun zz zz x=>x)
  rw [Sem.bind_eq_wrap',Sem.wrap_wrap]
  rw [Sem.wrap_congr (execs body env) _ _ (K':=fun f=>match f with
      | .next | .cont=>.pure (.again (.forLoop t it body orelse env))
      | .brk=>.pure (.done .next)
      | .ret v=>.pure (.done (.ret v))) (fun f=>by cases f <;> rfl) (fun e=>rfl)]
  exact hh2 _
set_option tactic.hygienic true in
theorem gseg_block_nil {kr l p cc1 kp} {g:Bool} (h:GSeg X A rr ds Pv F0 ss0 cc1 (kr (.ok .next)) fs s):GSeg X A rr ds Pv F0 ss0 (.block [] env) (X.M.den (.block [] env)) (.ret kr none g l cc1 p kp :: fs) s:=by
 show GSeg X A rr ds Pv F0 ss0 _ ((execs [] env).onRaise (fun x=>do noteFrame x env; theTreesLotGoes x) >>= fun f=>(.pure (.done f):Sem PySem.Fin)) _ s
 rw [Sem.bind_eq_wrap',Sem.onRaise_eq_wrap,Sem.wrap_wrap]
 refine gseg_wrap (wpAny_execs_nil ?_)
 exact gseg_leaf (.ok .next) h
theorem gseg_func {body:List Stmt} (h:∀ H',GSeg X A rr ds Pv F0 ss0 (.func body env) ((execs body env).wrap (fun f=>.pure (.done (.ret (match f with | .ret v=>v | _=>.none)))) H' id id) fs s) :
  GSeg X A rr ds Pv F0 ss0 (.func body env) (X.M.den (.func body env)) fs s:=by
 show GSeg X A rr ds Pv F0 ss0 _ (.point [] fun zz=>((execs body env).onRaise (leaving env)) >>= _) fs s
 refine gseg_point ?_
 rw [Sem.onRaise_eq_wrap,Sem.bind_eq_wrap',Sem.wrap_wrap]
 rw [Sem.wrap_congr (execs body env) _ _ (K':=fun f=>.pure (.done (.ret (match f with | .ret v=>v | _=>.none)))) (fun f=>by cases f <;> rfl) (fun e=>rfl)]
 exact h _
end
end
end
section
variable {X:Cx} {A:Around} {env:Env} {Γ Γ0:Loc} {Ω:Own} {F F':FS} {s s':Shared}
noncomputable def Wait (X:Cx) (A:Around) (rr:Result) (ds:List D) (Pv:List Addr) (F:FS) (s:Shared) (gs:GenState):Prop:=
 ∀ F'' s'',Later X Pv F F'' s s'' -> match gs with
  | .fresh c=>GSeg X A rr ds Pv F'' s'' c (X.M.den c) [] s''
  | .suspended k _ c _ fs _=>GSeg X A rr ds Pv F'' s'' c (k (.send .none)) fs s''
  | _=>False
theorem Wait.later {rr:Result} {ds:List D} {Pv:List Addr} {gs:GenState} (x:Wait X A rr ds Pv F s gs) (y:Later X Pv F F' s s'):Wait X A rr ds Pv F' s' gs:=fun F'' s'' z=>x F'' s'' (y.trans z)
theorem wpAny_resumeG {rr:Result} {ds:List D} {Pv:List Addr} {E:Value -> Shared -> Prop} {g:Nat} {gs:GenState}
  {l:List Value} {α:Type} {k:GenResult -> Sem α} {Q:α -> Shared -> Prop} (B:Base X F [] s) (hP:∀ b ∈ Pv,F b = none) (hg:s.gens[g]? = some gs) (hw:Wait X A rr ds Pv F s gs)
  (hR:ds = [] -> ∀ F' ss1,ExtP X Pv [] F F' (s.setGen g .running) ss1 -> wpAny X.M A (k (End.ret rr).result) Q E (ss1.setGen g .finished))
  (hY:∀ d ds',ds = d :: ds' -> ∀ v F' Pv' ss1 gs',gs'.bare = true -> ExtP X Pv Pv' F F' (s.setGen g .running) ss1 -> Rd X F' v d -> Wait X A rr ds' Pv' F' ss1 gs' -> wpAny X.M A (k (.yielded v)) Q E (ss1.setGen g gs')) :
  wpAny X.M A (.resume g (.send .none) l k) Q E s:=by
 intro Γ p hΓ
 rw [Sem.wp_resume]
 have hB:∀ c,(Γ.wake c p).Woken A:=fun c=>hΓ.wake c p
 have fin:∀ ee1 ss1,GEnd X A rr ds Pv F (s.setGen g .running) ee1 ss1 -> ee1.quiet = true /\
   Sem.wp X.M Γ (k ee1.result) (fun a zz s'=>Q a s') (fun e zz s'=>E e s') p (ss1.setGen g ee1.genState):=by
  intro ee1 ss1 he
  cases ds with
  | nil=>
   obtain ⟨rfl,F',x⟩:=he
   exact ⟨rfl,hR rfl F' ss1 x Γ p hΓ⟩
  | cons d ds=>
   cases ee1 with
   | ret x=>exact he.elim
   | susp v gg0 ll0 k0 cc0 pp0 fs0=>
    obtain ⟨hq,F',Pv',x,r,hk⟩:=he
    exact ⟨hq,hY d ds rfl v F' Pv' ss1 _ (End.bare_of_quiet hq) x r (fun F'' s'' y Γ pp1=>hk F'' s'' y Γ pp1) Γ p hΓ⟩
 have lat:Later X Pv F F s (s.setGen g .running):=⟨fun zz zz e=>e,⟨B.glob,B.fb,B.fz,B.own,B.nd,B.tF⟩,fun a ha=>⟨hP a ha,fun zz e=>e⟩⟩
 have hgo:=hw F (s.setGen g .running) lat
 cases gs with
 | fresh c=>
  obtain ⟨ee1,ss1,hr,he⟩:=hgo (Γ.wake c p) p rfl (hB c)
  exact ⟨_,_,by unfold Wakes; rw [hg]; exact ⟨ee1,ss1,hr,(fin ee1 ss1 he).1,rfl,rfl⟩,(fin ee1 ss1 he).2⟩
 | suspended k0 ll0 cc0 pp0 fs0 cl=>
  obtain ⟨ee1,ss1,hr,he⟩:=hgo (Γ.wake cc0 p) pp0 rfl (hB cc0)
  exact ⟨_,_,by unfold Wakes; rw [hg]; exact ⟨ee1,ss1,hr,(fin ee1 ss1 he).1,rfl,rfl⟩,(fin ee1 ss1 he).2⟩
 | running=>exact hgo.elim
 | finished=>exact hgo.elim
theorem raise_stop {prog:Program} {w:World} {α β:Type} {k:β -> Sem α} {Q:α -> Shared -> Prop} {E:Value -> Shared -> Prop} (hh:A.handled = none) (h:∀ h' e,(∀ b o,s.heap.get? b = some o -> h'.get? b = some o) -> (∃ o,h'.get? e = some o /\ o.cls = .type "StopIteration") -> E (.ref e) { s with heap:=h' }) :
  wpAny (model prog w) A (newExc (.type "StopIteration") []) (fun v s'=>wpAny (model prog w) A (raiseNew v >>= k) Q E s') E s:=by
 simp only [newExc,newTuple]
 refine wpAny_bind (wpAny_newObj_type ?_ (by size_fits))
 refine wpAny_bind (m:=firstArgMember _ _) (wpAny_of_eq (a:=Value.none) (by first | rfl | (simp only [firstArgMember]; rfl)) ?_)
 refine wpAny_newObj_type ?_ (by size_fits)
 simp only [raiseNew]
 refine wpAny_bind (wpAny_bind (wpAny_handled ?_))
 rw [hh]
 refine wpAny_throw (h _ _ ?_ ?_)
 ·exact fun b o hb=>Heap.get?_push_of_some _ (Heap.get?_push_of_some _ hb)
 ·exact ⟨_,Heap.get?_push_size _ rfl,rfl⟩
set_option tactic.hygienic true in
theorem wpAny_pyNext_G {rr:Result} {ds:List D} {Pv:List Addr} {E:Value -> Shared -> Prop} {a:Addr} {g:Nat} {gs:GenState} {Q:Option Value -> Shared -> Prop} (hrr:rr = .ok (.ret .none) \/ rr = .ok .next) (hh:A.handled = none)
  (hroom:A.depth < recursionLimit) (B:Base X F [] s) (hP:∀ b ∈ Pv,F b = none) (hg:s.heap.IsGen a g) (hgs:s.gens[g]? = some gs) (hw:Wait X A.in1 rr ds Pv F s gs)
  (hY:∀ d ds',ds = d :: ds' -> ∀ v F' Pv' ss1 gs',gs'.bare = true -> ExtP X Pv Pv' F F' (s.setGen g .running) ss1 -> Rd X F' v d -> Wait X A.in1 rr ds' Pv' F' ss1 gs' -> Q (some v) (ss1.setGen g gs'))
  (hR:ds = [] -> ∀ F' ss1,ExtP X Pv [] F F' (s.setGen g .running) ss1 -> ∀ h',(∀ b o,ss1.heap.get? b = some o -> h'.get? b = some o) -> Q none { ss1.setGen g .finished with heap:=h' }) :
  wpAny X.M A (pyNext (.ref a)) Q E s:=by
 unfold pyNext
 refine wpAny_bind (wpAny_attempt (wpAny_callSpecial?_slot (name:=Str.ofString "__next__") hg.typeIs slot_gen_next
  (wpAny_call_entry slot_gen_next hg.typeIs entry_gen_next ?_ (args_gen_next _))))
 show wpAny _ _ (Builtin.Generator.genWake (.ref a) (.send .none)) _ _ s
 unfold Builtin.Generator.genWake
 refine wpAny_bind (wpAny_holding (wpAny_genNumber hg (wpAny_bind (wpAny_genState hgs ?_))))
 have lat:Later X Pv F F s s:=⟨fun zz zz e=>e,B,fun a ha=>⟨hP a ha,fun zz e=>e⟩⟩
 have hgo:=hw F s lat
 cases gs with
 | running=>exact hgo.elim
 | finished=>exact hgo.elim
 | _=>
  refine wpAny_bind (wpAny_roomToWake B.glob.nolimit hroom ?_)
  show wpAny _ _ (.resume g (.send .none) [] _) _ _ s
  refine wpAny_resumeG B hP hgs hw (fun hd F' ss1 hx=>?_) (fun d ds' hd v F' Pv' ss1 gs' hb hx r hw'=>?_)
  ·rw [show (End.ret rr).result = (End.ret (.ok .next)).result by rcases hrr with rfl | rfl <;> rfl]
   refine wpAny_bind (m:=newExc (.type "StopIteration") []) (raise_stop (A:=A.in1) hh fun h' e hk ho=>?_)
   exact wpAny_bind (wpAny_isInstance (T := "StopIteration") (b:=true) ho isSubtype_stop (wpAny_pure (hR hd F' ss1 hx h' hk)))
  ·exact wpAny_pure ⟨v,rfl,wpAny_pure (hY d ds' hd v F' Pv' ss1 gs' hb hx r hw')⟩
end
section
variable {X:Cx} {A:Around} {env:Env} {Γ Γ0:Loc} {Ω:Own} {F F':FS} {s s':Shared}
theorem inv_later {Pv:List Addr} (I:Inv X env F Γ [] s) (hc:env.cells = []) (y:Later X Pv F F' s s') (hL:env.locals ∈ Pv):Inv X env F' Γ [] s' where
 eo:=I.eo
 glob:=y.base.glob
 fb:=y.base.fb
 fz:=y.base.fz
 ns:=by
  obtain ⟨m,hn,hm⟩:=I.ns
  refine ⟨m,hn.at' fun o e=>(y.keep _ hL).2 o e,fun x d h1 h2=>?_⟩
  obtain ⟨v,hv,r⟩:=hm x d h1 h2
  exact ⟨v,hv,r.mono y.le⟩
 cl:=fun x d h1 h2=>by
  obtain ⟨c,v,hc',_⟩:=I.cl x d h1 h2
  rw [hc] at hc'; cases hc'
 cells:=fun n c h=>nomatch (hc ▸ h:(n,c) ∈ [])
 apart:=hc ▸ .nil
 loc:=⟨(y.keep _ hL).1,(fun h=>nomatch h),I.loc.2.2⟩
 own:=fun zz h=>nomatch h
 nd:=List.nodup_nil
 tF:=y.base.tF
structure GenOk (X:Cx) (fd:FuncData) (body:List Stmt):Prop where
 co:fd.scope.isCoroutine = false
 gen:fd.scope.isGenerator = true
 kind:fd.scope.kind = .function
 nc:∀ n c,cellsFrom n fd.scope.names [] = c -> c = []
 body:fd.body = .stmts body
 clo:fd.closure = []
 gl:fd.globals = mainGlobals
 bi:fd.builtins = builtinsNs
 code:CodeIn (fun a=>X.K.lookup a) fd.qualname fd.code
structure GenNew (X:Cx) (A:Around) (rr:Result) (outs:List D) (F F':FS) (s s':Shared) (a:Addr) (g:Nat) (gs:GenState) (Pv:List Addr):Prop where
 ext:Ext X F F' s s'
 gen:s'.heap.IsGen a g
 st:s'.gens[g]? = some gs
 new:s.gens.size <= g
 wait:Wait X A rr outs Pv F' s' gs
 priv:∀ b ∈ a :: Pv,s.heap.get? b = none /\ F' b = none /\ b ∉ X.T /\ ∃ o,s'.heap.get? b = some o
 apart:a ∉ Pv
inductive GenR (X:Cx) (A:Around) (rr:Result) (outs:List D) (F:FS) (s:Shared) (v:Value) (s':Shared):Prop
 | mk (F':FS) (a g:Nat) (gs:GenState) (Pv:List Addr) (e:v = .ref a) (N:GenNew X A rr outs F F' s s' a g gs Pv)
theorem gens_push {a:Array GenState} {c:Code}:GensLe a (a.push (.fresh c)):=
 ⟨fun i x e=>(Array.getElem?_push_lt (Array.getElem?_eq_some_iff.mp e).1).trans ((Array.getElem?_eq_getElem (Array.getElem?_eq_some_iff.mp e).1).symm.trans e),fun h y hy=>(Array.mem_push.mp hy).elim (h y) fun e=>e ▸ rfl⟩
theorem call_gen {fa:Addr} {o:Obj} {fd:FuncData} {body:List Stmt} {pos:List Value} {kw:List (Str × Value)} {ns:List Str} {vs:List Value} {ds outs:List D} {Ag:Around} {E:Value -> Shared -> Prop}
  (B:Base X F [] s) (room:A.depth < recursionLimit) (ho:s.heap.get? fa = some o) (hd:o.data = .func fd) (ok:GenOk X fd body) (hb:BindsTo s fd ⟨pos,kw⟩ (ns.zip vs)) (r:RdL X F vs ds) (hn:ns.length = vs.length) (hnd:ns.Nodup)
  (hkind:∀ x ∈ ns,fd.scope.names.lookup x = some .local)
  (wait:∀ L F'' s'',Inv X (fenv fd L fa) F'' (ns.zip ds) [] s'' -> L ∉ X.T -> (∃ o,s''.heap.get? L = some o) -> GSeg X Ag (.ok (.ret .none)) outs [L] F'' s'' (.func body (fenv fd L fa)) (X.M.den (.func body (fenv fd L fa))) [] s'') :
  wpAny X.M A (call (.ref fa) pos kw) (GenR X Ag (.ok (.ret .none)) outs F s) E s:=by
 refine wpAny_call ?_
 have g:=B.glob
 refine codeAny_call_generator room ho hd ok.co ok.gen ok.body (CxOk.codeRec g ok.code) (hb _ _ _ _ ?_)
 rw [ok.clo]
 have hfst:(ns.zip vs).map (·.1) = ns:=List.map_fst_zip (Nat.le_of_eq hn)
 refine wpAny_newFunctionEnv_cells ok.kind (fun x hx=>.inl (hkind _ (hfst ▸ List.mem_map_of_mem hx))) fun env he ss2 Y=>?_
 subst he
 refine ⟨g.nolimit.keeps Y.toInCall.keep,?_⟩
 obtain ⟨hh1,tk,rfl,keep⟩:=Y.done
 have fL:=get_size s.heap
 have hns:((ns.zip vs).map (·.1)).Nodup:=hfst.symm ▸ hnd
 obtain ⟨oL,hoL⟩:=ns_there Y.toInCall.ns
 have hLs:s.heap.objs.size < hh1.objs.size:=Heap.lt_size hoL
 have fG:s.heap.get? hh1.objs.size = none:=fresh_le (Nat.le_of_lt hLs)
 have hcl:(fenv fd s.heap.objs.size fa).cells = []:=ok.nc _ _ rfl
 have hG:(hh1.push { cls:=.type "generator",data:=.fields #[.int s.gens.size 0,.str fd.name tk,.str fd.qualname (tk + 1)] }).get? hh1.objs.size = some { cls:=.type "generator",data:=.fields #[.int s.gens.size 0,.str fd.name tk,.str fd.qualname (tk + 1)] }:=Heap.get?_push_size _ rfl
 have kp1:∀ b o,hh1.get? b = some o -> (hh1.push { cls:=.type "generator",data:=.fields #[.int s.gens.size 0,.str fd.name tk,.str fd.qualname (tk + 1)] }).get? b = some o:=fun b o e=>Heap.get?_push_of_some _ e
 show GenR X Ag _ _ _ _ _ { s with heap:=hh1.push { cls:=.type "generator",data:=.fields #[.int s.gens.size 0,.str fd.name tk,.str fd.qualname (tk + 1)] },gens:=s.gens.push (.fresh (.func body (fenv fd s.heap.objs.size fa))),toks:=tk + 1 + 1 }
 generalize hh1.push { cls:=.type "generator",data:=.fields #[.int s.gens.size 0,.str fd.name tk,.str fd.qualname (tk + 1)] } = hh2 at hG kp1 ⊢
 have x:Ext X F F s { s with heap:=hh2,gens:=s.gens.push (.fresh (.func body (fenv fd s.heap.objs.size fa))),toks:=tk + 1 + 1 }:=.same g B.fz (fun b o e=>kp1 b o (keep b o e)) rfl gens_push
 have hN:=Y.toInCall.ns.keeps kp1
 refine ⟨F,hh1.objs.size,s.gens.size,_,[s.heap.objs.size],rfl,x,⟨_,_,_,hG,rfl,rfl,rfl⟩,Array.getElem?_push_size ..,Nat.le_refl _,fun F'' s'' y=>?_,fun b hb=>?_,fun h=>Nat.ne_of_gt hLs (List.mem_singleton.mp h)⟩
 rotate_left
 ·rcases List.mem_cons.mp hb with rfl | hb
  ·exact ⟨fG,B.nF fG,B.nT fG,_,hG⟩
  ·obtain rfl:=List.mem_singleton.mp hb
   exact ⟨fL,B.nF fL,B.nT fL,_,kp1 _ _ hoL⟩
 have I3:Inv X (fenv fd s.heap.objs.size fa) F (ns.zip ds) [] { s with heap:=hh2,gens:=s.gens.push (.fresh (.func body (fenv fd s.heap.objs.size fa))),toks:=tk + 1 + 1 }:=by
  refine ⟨⟨ok.kind,ok.gl,ok.bi⟩,x.glob,B.fb,x.fz,⟨_,hN,fun x d h1 h2=>?_⟩,fun x d h1 h2=>?_,fun n c hm=>(nomatch (hcl ▸ hm:(n,c) ∈ [])),hcl ▸ .nil,⟨B.nF fL,(fun h=>nomatch h),B.nT fL⟩,(fun p hp=>nomatch hp),List.nodup_nil,B.tF⟩
  ·obtain ⟨v,hv,rv⟩:=zip_lookup r h1
   exact ⟨v,bindL_get hns h2 hv,rv⟩
  ·obtain ⟨v,hv,rv⟩:=zip_lookup r h1
   exact absurd (hkind x (List.of_mem_zip hv).1) h2
 ·exact wait _ F'' s'' (inv_later I3 hcl y (List.mem_singleton.mpr rfl)) (B.nT fL) ((ns_there hN).imp fun o e=>(y.keep _ (List.mem_singleton.mpr rfl)).2 o e)
theorem Inv.extP {Pv Pv':List Addr} (I:Inv X env F Γ Ω s) (x:ExtP X Pv Pv' F F' s s') (off:∀ b ∈ Pv,b ≠ env.locals /\ b ∉ env.cells.map (·.2) /\ b ∉ Ω.map (·.1)):Inv X env F' Γ Ω s' where
 eo:=I.eo
 glob:=x.base.glob
 fb:=x.base.fb
 fz:=x.base.fz
 ns:=by
  obtain ⟨m,hn,hm⟩:=I.ns
  refine ⟨m,hn.at' fun o e=>x.keep _ o I.loc.2.2 (fun h=>(off _ h).1 rfl) e,fun y d h1 h2=>?_⟩
  obtain ⟨v,hv,r⟩:=hm y d h1 h2
  exact ⟨v,hv,r.mono x.le⟩
 cl:=fun y d h1 h2=>by
  obtain ⟨c,v,hc,⟨o,ho,hd⟩,r⟩:=I.cl y d h1 h2
  exact ⟨c,v,hc,⟨o,x.keep _ _ (I.cells y c (mem_of_lookup hc)).2.2.2.2 (fun h=>(off _ h).2.1 (List.mem_map_of_mem (f:=(·.2)) (mem_of_lookup hc))) ho,hd⟩,r.mono x.le⟩
 cells:=fun n c hm=>by
  obtain ⟨⟨v,o,ho,hd⟩,h1,h2,h3,h4⟩:=I.cells n c hm
  have hc:=List.mem_map_of_mem (f:=(·.2)) hm
  exact ⟨⟨v,o,x.keep _ _ h4 (fun h=>(off _ h).2.1 hc) ho,hd⟩,(x.new c).elim (fun e=>e.trans h1) fun e=>e.elim (fun e=>clash e ho) fun e=>absurd hc (off _ e).2.1,h2,h3,h4⟩
 apart:=I.apart
 loc:=⟨(x.new env.locals).elim (fun e=>e.trans I.loc.1) fun e=>e.elim (fun e=>I.ns.elim fun m h=>(ns_there h.1).elim fun o ho=>clash e ho) fun e=>absurd rfl (off _ e).1,I.loc.2⟩
 own:=fun p hp=>by
  obtain ⟨h1,h2,h3⟩:=I.own p hp
  have hm:=List.mem_map_of_mem (f:=(·.1)) hp
  exact ⟨h1.keep x.le fun o e=>x.keep _ o h3 (fun h=>(off _ h).2.2 hm) e,(x.new p.1).elim (fun e=>e.trans h2) fun e=>e.elim (fun e=>h1.some.elim fun o ho=>clash e ho) fun e=>absurd hm (off _ e).2.2,h3⟩
 nd:=I.nd
 tF:=x.base.tF
theorem Inv.alive {Ω1:Own} {Γ₁:Loc} {F1:FS} {ss1:Shared} (I1:Inv X env F1 Γ₁ Ω1 ss1) (x:ExtS X env Ω Ω1 F F1 s ss1) {a:Addr} (h:ss1.heap.get? a = none):s.heap.get? a = none \/ a ∈ Ω.map (·.1):=by
 by_cases hO:a ∈ Ω.map (·.1)
 ·exact .inr hO
 ·exact .inl (get_none fun o e=>clash h (x.keep a o (I1.nT h) (I1.nL h) (I1.nC h) hO e))
end
section
variable {X:Cx} {A:Around} {env:Env} {Γ Γ0:Loc} {Ω:Own} {F F':FS} {s s':Shared}
structure EvGen (X:Cx) (A Ag:Around) (env:Env) (Γ:Loc) (Ω:Own) (e:Expr) (ds:List D) (rr:Result):Prop where
 run:∀ F s,Inv X env F Γ Ω s -> wpAny X.M A (eval e env) (GenR X Ag rr ds F s) NoE s
theorem wpAny_let_gen {ts:List Expr} {k:Nat} {p:Pos} {a g:Nat} {v:Value} {Q:Unit -> Shared -> Prop} {E:Value -> Shared -> Prop} (hg:s.heap.IsGen a g) (hQ:Q () s):wpAny X.M A (letOwnedTupleGo (.Tuple ts k p) (.ref a) v) Q E s:=by
 obtain ⟨o,nm,qn,ho,hc,hd,hs⟩:=hg
 unfold letOwnedTupleGo
 cases v <;> first | exact wpAny_pure hQ | skip
 refine wpAny_bind (wpAny_load ho ?_)
 rw [hc,hd]
 refine wpAny_ite_split (fun h=>absurd ((Bool.and_eq_true ..).mp h).1 (by decide)) fun zz=>wpAny_pure hQ
theorem gens_set {a b:Array GenState} {g:Nat} {y:GenState} (h:GensLe a b) (hg:a.size <= g) (hy:y.bare = true):GensLe a (b.setIfInBounds g y):=by
 refine ⟨fun i x e=>(Array.getElem?_setIfInBounds_ne (Nat.ne_of_gt (Nat.lt_of_lt_of_le (Array.getElem?_eq_some_iff.mp e).1 hg))).trans (h.1 i x e),fun ha z hz=>?_⟩
 obtain ⟨i,hi,rfl⟩:=Array.mem_iff_getElem.mp hz
 rw [Array.size_setIfInBounds] at hi
 rw [Array.getElem_setIfInBounds hi]
 split
 ·exact hy
 ·exact h.2 ha _ (Array.getElem_mem _)
theorem gens_back {a b:Array GenState} {g:Nat} (h:GensLe (a.setIfInBounds g .running) b) {c:Array GenState} (k:GensLe c a) (hg:c.size <= g):GensLe c b:=(gens_set k hg rfl).trans h
structure PO (X:Cx) (env:Env) (Ω Ω':Own) (F':FS) (s:Shared) (h':Heap) (b:Addr):Prop where
 old:s.heap.get? b = none \/ b ∈ Ω.map (·.1)
 f:F' b = none
 t:b ∉ X.T
 l:b ≠ env.locals
 c:b ∉ env.cells.map (·.2)
 o:b ∉ Ω'.map (·.1)
 live:There h' b
theorem Inv.regen (I:Inv X env F Γ Ω s) (e:s'.heap = s.heap):Inv X env F Γ Ω s':=⟨I.eo,e ▸ I.glob,I.fb,e ▸ I.fz,e ▸ I.ns,e ▸ I.cl,e ▸ I.cells,I.apart,I.loc,e ▸ I.own,I.nd,I.tF⟩
theorem PO.stretch {Ω1:Own} {Γ₁:Loc} {F1 F3:FS} {ss1 ss3:Shared} {Pv Pv':List Addr} {a:Addr} (I1:Inv X env F1 Γ₁ Ω1 ss1) (al:∀ b,ss1.heap.get? b = none -> s.heap.get? b = none \/ b ∈ Ω.map (·.1)) (xp:ExtP X Pv Pv' F1 F3 ss1 ss3) (hap:a ∉ Pv) (hpv:∀ b ∈ a :: Pv,PO X env Ω Ω1 F1 s ss1.heap b) :
  a ∉ Pv' /\ ∀ b ∈ a :: Pv',PO X env Ω Ω1 F3 s ss3.heap b:=by
 have ha:=hpv a (List.mem_cons_self ..)
 obtain ⟨o,ho⟩:=ha.live
 refine ⟨fun h=>(xp.dom a h).elim hap fun e=>clash e ho,fun b hb=>(List.mem_cons.mp hb).elim (fun e=>e ▸ ⟨ha.old,(xp.new a).elim (fun e=>e.trans ha.f) fun e=>e.elim (fun e=>clash e ho) fun e=>absurd e hap,ha.t,ha.l,ha.c,ha.o,o,xp.keep a o ha.t hap ho⟩) fun hb=>?_⟩
 have q:=xp.priv b hb
 rcases xp.dom b hb with e | e
 ·have h5:=hpv b (List.mem_cons_of_mem _ e)
  exact ⟨h5.old,q.1,h5.t,h5.l,h5.c,h5.o,q.2.2⟩
 ·exact ⟨al b e,q.1,q.2.1,I1.nL e,I1.nC e,I1.nO e,q.2.2⟩
theorem PO.body {Ω1 Ω5:Own} {F3 F5:FS} {ss3 ss5:Shared} {b:Addr} (q:PO X env Ω Ω1 F3 s ss3.heap b) (x:ExtS X env Ω1 Ω5 F3 F5 ss3 ss5):PO X env Ω Ω5 F5 s ss5.heap b:=by
 obtain ⟨o,ho⟩:=q.live
 exact ⟨q.old,(x.new b).elim (fun e=>e.trans q.f) fun e=>e.elim (fun e=>clash e ho) fun e=>absurd e q.o,q.t,q.l,q.c,fun hm=>(x.dom b hm).elim q.o fun e=>clash e ho,o,x.keep b o q.t q.l q.c q.o ho⟩
theorem gen_stretch {Ω1:Own} {Γ₁:Loc} {F1 F3:FS} {ss1 ss3:Shared} {Pv Pv':List Addr} {g:Nat} {y:GenState} {h':Heap} (I1:Inv X env F1 Γ₁ Ω1 ss1) (x1:ExtS X env Ω Ω1 F F1 s ss1) (hN:s.gens.size <= g) (hpv:∀ b ∈ Pv,PO X env Ω Ω1 F1 s ss1.heap b) (xp:ExtP X Pv Pv' F1 F3 (ss1.setGen g .running) ss3) (hy:y.bare = true) (hk:∀ b o,ss3.heap.get? b = some o -> h'.get? b = some o) :
  Inv X env F3 Γ₁ Ω1 { ss3.setGen g y with heap:=h' } /\ ExtS X env Ω Ω1 F F3 s { ss3.setGen g y with heap:=h' }:=by
 have I3:Inv X env F3 Γ₁ Ω1 ss3:=(I1.regen (s':=ss1.setGen g .running) rfl).extP xp fun b hb=>⟨(hpv b hb).l,(hpv b hb).c,(hpv b hb).o⟩
 refine ⟨(I3.ext (.same (s':={ ss3 with heap:=h' }) I3.glob I3.fz hk rfl (.refl _))).regen rfl,fun a' o e=>xp.le a' o (x1.le a' o e),fun b=>?_,fun b o h1 h2 h3 h4 e=>hk b o (xp.keep b o h1 (fun hb=>(hpv b hb).old.elim (fun q=>clash q e) h4) (x1.keep b o h1 h2 h3 h4 e)),x1.dom,xp.os.trans x1.os,gens_set (gens_back xp.gens x1.gens hN) hN hy⟩
 rcases xp.new b with e | e | e
 ·rw [e]; exact x1.new b
 ·exact .inr (I1.alive x1 e)
 ·exact .inr (hpv b e).old
inductive GenAt' (X:Cx) (A:Around) (env:Env) (F:FS) (Ω:Own) (s:Shared) (J:Nat -> Loc -> Own -> Prop) (rr:Result) (ds:List D) (a g:Nat) (k:Nat) (s':Shared):Prop
 | mk (F':FS) (Γ':Loc) (Ω':Own) (i:Nat) (Pv:List Addr) (gs:GenState) (j:J i Γ' Ω') (I:Inv X env F' Γ' Ω' s') (x:ExtS X env Ω Ω' F F' s s') (hi:i <= ds.length) (hk:k = ds.length + 1 - i)
  (hgen:s'.heap.IsGen a g) (hgs:s'.gens[g]? = some gs) (hw:Wait X A.in1 rr (ds.drop i) Pv F' s' gs) (hap:a ∉ Pv) (hpv:∀ b ∈ a :: Pv,PO X env Ω Ω' F' s s'.heap b)
theorem drop_cons {ds ds':List D} {d:D} {i:Nat} (h:ds.drop i = d :: ds'):i < ds.length /\ ds[i]? = some d /\ ds' = ds.drop (i + 1):=by
 have hlt:i < ds.length:=Nat.lt_of_not_le fun q=>nomatch (List.drop_eq_nil_of_le q).symm.trans h
 rw [List.drop_eq_getElem_cons hlt] at h
 injection h with h1 h2
 exact ⟨hlt,(List.getElem?_eq_getElem hlt).trans (congrArg some h1),h2.symm⟩
theorem gen_kept {h h':Heap} {a g:Nat} (hg:h.IsGen a g) (k:∀ o,h.get? a = some o -> h'.get? a = some o):h'.IsGen a g:=by
 obtain ⟨o,nm,qn,ho,r⟩:=hg
 exact ⟨o,nm,qn,k o ho,r⟩
theorem asg_any {t:Expr} {v:Value} {d:D} {Γ₂:Loc} (h:AsgI X A env Γ Ω t d Γ₂) (I:Inv X env F Γ Ω s) (r:Rd X F v d) (ht:isTup t = true -> ∃ es,d = .tup es):wpAny X.M A (assign t env v) (fun zz s'=>Inv X env F Γ₂ Ω s' /\ ExtM X (StM env (tgtNames t)) F F s s') NoE s:=by
 cases hi:isTup t with
 | true=>
  obtain ⟨es,rfl⟩:=ht hi
  obtain ⟨T,vs,rfl,q,rs⟩:=I.tup r
  exact h.1 hi _ rfl F _ _ _ I q rs
 | false=>exact h.2 hi F _ v I r
set_option tactic.hygienic true in
theorem ex_forgen {rr:Result} {ts:List Expr} {tk:Nat} {tp:Pos} {iter:Expr} {body:List Stmt} {pos:Pos} {ds:List D} {R:PostP} (hrr:rr = .ok (.ret .none) \/ rr = .ok .next) (hh:A.handled = none) (room:A.depth < recursionLimit)
  (J:Nat -> Loc -> Own -> Prop) (hit:EvGen X A A.in1 env Γ Ω iter ds rr) (hh0:J 0 Γ Ω)
  (turn:∀ i d Γ₁ Ω1,ds[i]? = some d -> J i Γ₁ Ω1 -> ForTurn X A env Γ₁ Ω1 (.Tuple ts tk tp) d body (LoopP (J (i + 1)) R))
  (htup:∀ d ∈ ds,∃ es,d = .tup es)
  (done:∀ Γ' Ω',J ds.length Γ' Ω' -> R .next Γ' Ω') (hs:∀ x,foldedSetIterable iter env x = pure x):Ex X A env Γ Ω (.For (.Tuple ts tk tp) iter body [] pos) R:=by
 refine ⟨fun F s I=>PySem.wpAny_For (Q:=_) (wpAny_mono (hit.run F s I) (fun x ss1 hh1=>?_) fun zz zz e=>e.elim) hs⟩
 obtain ⟨F2,a,g,gs0,Pv0,rfl,N⟩:=hh1
 refine wpAny_pyIter_gen N.gen (codeAny_forLoop_any (GenAt' X A env F Ω s J rr ds a g) ?_ (ds.length + 1)
  ⟨F2,Γ,Ω,0,Pv0,gs0,hh0,I.ext N.ext,N.ext.toS,Nat.zero_le _,rfl,N.gen,N.st,N.wait,N.apart,fun b hb=>⟨.inl (N.priv b hb).1,(N.priv b hb).2.1,(N.priv b hb).2.2.1,I.nL (N.priv b hb).1,I.nC (N.priv b hb).1,I.nO (N.priv b hb).1,(N.priv b hb).2.2.2⟩⟩)
 intro k ss1 hh1
 obtain ⟨F1,Γ₁,Ω1,i,Pv,gs,hj,I1,x1,hi,hk,hgen,hgs,hw,hap,hpv⟩:=hh1
 have hpv':∀ b ∈ Pv,PO X env Ω Ω1 F1 s ss1.heap b:=fun b hb=>hpv b (List.mem_cons_of_mem _ hb)
 refine wpAny_pyNext_G hrr hh room I1.base.nil (fun b hb=>(hpv' b hb).f) hgen hgs hw (fun d ds' hdd v F3 Pv' ss3 gs' hb xp r hw'=>?_) (fun hnil F3 ss3 xp h' hk'=>?_)
 ·obtain ⟨hlt,hdi,rfl⟩:=drop_cons hdd
  obtain ⟨I3,xx3⟩:=gen_stretch (h':=ss3.heap) I1 x1 N.new hpv' xp hb fun zz zz e=>e
  obtain ⟨hap3,hpv3⟩:=PO.stretch (I1.regen (s':=ss1.setGen g .running) rfl) (fun b=>I1.alive x1) xp hap hpv
  have hgen3:ss3.heap.IsGen a g:=gen_kept hgen fun o e=>xp.keep a o (hpv a (List.mem_cons_self ..)).t hap e
  obtain ⟨Γ₂,hasg,hbody⟩:=turn i d Γ₁ Ω1 hdi hj
  refine wpAny_let_gen (s:=ss3.setGen g gs') hgen3 (wpAny_mono (asg_any hasg I3 r fun zz=>htup d (List.mem_of_getElem? hdi)) (fun zz ss4 hh4=>wpAny_mono (hbody F3 ss4 hh4.1) (fun f ss5 p=>?_) fun zz zz e=>e.elim) fun zz zz e=>e.elim)
  obtain ⟨F5,Γ5,Ω5,fd,hr,rf,I5,x5⟩:=p
  have x35:=hh4.2.toS.trans I3 hh4.1 I5 x5
  have x05:=xx3.trans I I3 I5 x35
  have kp:∀ b ∈ a :: Pv',∀ o,ss3.heap.get? b = some o -> ss5.heap.get? b = some o:=fun b hb o e=>x35.keep b o (hpv3 b hb).t (hpv3 b hb).l (hpv3 b hb).c (hpv3 b hb).o e
  have po5:∀ b ∈ a :: Pv',PO X env Ω Ω5 F5 s ss5.heap b:=fun b hb=>(hpv3 b hb).body (ss3:=ss3.setGen g gs') x35
  have fin:J (i + 1) Γ5 Ω5 -> ∃ m,m < k /\ GenAt' X A env F Ω s J rr ds a g m ss5:=fun hj'=>
   ⟨ds.length - i,by rw [hk,Nat.succ_sub hi]; exact Nat.lt_succ_self _,F5,Γ5,Ω5,i + 1,Pv',gs',hj',I5,x05,hlt,(Nat.add_sub_add_right ..).symm,gen_kept hgen3 (kp a (List.mem_cons_self ..)),x35.gens.1 g _ (setGen_self (xp.gens.1 g _ (setGen_self hgs))),
    hw'.later ⟨x35.le,I5.base.nil,fun b hb=>⟨(po5 b (List.mem_cons_of_mem _ hb)).f,kp b (List.mem_cons_of_mem _ hb)⟩⟩,hap3,po5⟩
  revert hr
  exact rf.on fin (fun hr=>⟨F5,Γ5,Ω5,.next,hr,trivial,I5,x05⟩) fin fun v d r hr=>⟨F5,Γ5,Ω5,.ret _,hr,r,I5,x05⟩
 ·obtain rfl:i = ds.length:=Nat.le_antisymm hi (List.drop_eq_nil_iff.mp hnil)
  obtain ⟨I3,xx3⟩:=gen_stretch I1 x1 N.new hpv' xp (y:=.finished) rfl hk'
  exact wpAny_execs_nil ⟨F3,Γ₁,Ω1,.next,done _ _ hj,trivial,I3,xx3⟩
end
section
noncomputable def qv:Program:=view PySem.Challenge.pw_xh0026_01 [1,2,3,10,11,12,13,15,16,17,18,19,20,21]
noncomputable def looseV:List Str:=["insort_right", "bisect_right", "insort_left", "bisect_left"]
local macro_rules | `(tactic| o_law)=>`(tactic| (refine holds_law (by decide +kernel) fun said=>?_))
local macro_rules | `(tactic| o_head (kmHook $K $l $e $t))=>`(tactic| (refine holds_open (q:=qv) (loose:=looseV) (Xt:=fun s=>xlAt qv [] s && recOk (RowW.records (OpenRow.toRowW (OpenLaw.row PySem.Challenge.rw_xh0026_01))) s) (XP:=XL qv []) (Yf:=Hook.obs (kmHook $K $l $e [23,101,133])) (Ya:=Hook.val (kmHook $K $l $e [23,101,133])) (YP:=Hook.says (kmHook $K $l $e [23,101,133])) (N:=1362) (fun w=>by kernel_rfl) (Hook.of (kmHook $K $l $e [23,101,133])) (Hook.keeps (kmHook $K $l $e [23,101,133])) (fun s e=>xl_of s (Bool.and_eq_true_iff.mp e).1) XL.keeps (by rfl) (by rfl) (by rfl) (fun s e=>recFacts_of (Bool.and_eq_true_iff.mp e).2) (by rfl) (by assumption) (by decide +kernel) ⟨rfl,rfl,rfl,rfl,rfl,by decide +kernel⟩ ?hw ?hc))
open_top hd for PySem.Challenge.rw_xh0026_01
end
section
noncomputable def KK (P:Params):Frag:=hd.heap_1 P
noncomputable def fdDef:FuncData:={ name := "",qualname := "",params:=⟨[],[],none,[],[],none,[]⟩,body:=.stmts [],scope:={ kind:=.function,names:=[],isGenerator:=false,isCoroutine:=false },globals:=0,closure:=[],defaults:=.none,kwdefaults:=.none,doc:=.none,pyModule:=.none,code:=.none,builtins:=0 }
noncomputable def fdOf (P:Params) (a:Addr):FuncData:=match (KK P).lookup a with
 | some ⟨_,_,.func fd,_⟩=>fd
 | _=>fdDef
noncomputable def isFunc (K:Frag) (a:Addr):Bool:=match K.lookup a with
 | some ⟨_,_,.func _,_⟩=>true
 | _=>false
set_option tactic.hygienic true in
theorem fd_of {P:Params} {a:Addr} (h:isFunc (KK P) a = true):∃ o,(KK P).lookup a = some o /\ o.data = .func (fdOf P a):=by
 unfold isFunc at h
 unfold fdOf
 split at h
 ·rename_i e
  rw [e]
  exact ⟨_,rfl,rfl⟩
 ·cases h
noncomputable def codeOk (K:Frag) (fd:FuncData):Bool:=match fd.code with
 | .ref c=>(match (K.lookup c:Option Obj) with
  | some o=>(match o.data with
   | .fields vs=>(match (vs[1]?:Option Value) with
    | some (Value.str q _)=>q == fd.qualname
    | _=>false)
   | _=>false)
  | none=>false)
 | _=>false
set_option tactic.hygienic true in
theorem code_of {K:Frag} {fd:FuncData} (h:codeOk K fd = true):CodeIn (fun a=>K.lookup a) fd.qualname fd.code:=by
 unfold codeOk at h
 split at h
 ·rename_i c hc
  split at h
  ·rename_i o hk
   split at h
   ·rename_i vs hv
    split at h
    ·rename_i q t hq
     exact ⟨c,o,vs,t,hc,hk,hv,beq_iff_eq.mp h ▸ hq⟩
    ·cases h
   ·cases h
  ·cases h
 ·cases h
structure XOk (X:Cx) (P:Params):Prop where
 k:X.K = KK P
noncomputable def defChk (P:Params) (a:Addr):Bool:=
 let fd:=fdOf P a
 isFunc (KK P) a && (!fd.scope.isCoroutine && (!fd.scope.isGenerator && (fd.scope.kind == .function && (decide ((cellsFrom 0 fd.scope.names []).map (·.1)).Nodup && (fd.scope.names.all (fun p=>p.2 != .cell || ((cellsFrom 0 fd.scope.names []).map (·.1)).contains p.1) && (fd.closure.isEmpty && (decide (fd.globals = mainGlobals) && (decide (fd.builtins = builtinsNs) && codeOk (KK P) fd))))))))
theorem and_l {a b:Bool} (h:(a && b) = true):a = true:=((Bool.and_eq_true ..).mp h).1
theorem and_r {a b:Bool} (h:(a && b) = true):b = true:=((Bool.and_eq_true ..).mp h).2
theorem not_f {a:Bool} (h:(!a) = true):a = false:=(Bool.not_eq_true' ..).mp h
theorem def_ok {X:Cx} {P:Params} (hX:XOk X P) {a:Addr} {body:List Stmt} (h:defChk P a = true) (hb:(fdOf P a).body = .stmts body):(∃ o,X.K.lookup a = some o /\ o.data = .func (fdOf P a)) /\ DefOk X (fdOf P a) body:=by
 have h2:=and_r h
 have h3:=and_r h2
 have h4:=and_r h3
 have h5:=and_r h4
 have h6:=and_r h5
 have h7:=and_r h6
 have h8:=and_r h7
 refine ⟨hX.k.symm ▸ fd_of (and_l h),not_f (and_l h2),not_f (and_l h3),eq_of_beq (and_l h4),of_decide_eq_true (and_l h5),fun x hx=>?_,hb,List.isEmpty_iff.mp (and_l h7),of_decide_eq_true (and_l h8),of_decide_eq_true (and_l (and_r h8)),hX.k.symm ▸ code_of (and_r (and_r h8))⟩
 exact List.contains_iff_mem.mp (List.all_eq_true.mp (and_l h6) _ (mem_of_lookup hx))
noncomputable def fbK (P:Params) (a:Addr):List Stmt:=match (fdOf P a).body with
 | .stmts b=>b
 | _=>[]
noncomputable abbrev envF (P:Params) (a:Addr) (L:Addr):Env:=fenv (fdOf P a) L a
noncomputable def kindChk (P:Params) (a:Addr) (ns:List Str):Bool:=decide ns.Nodup && ns.all fun x=>(fdOf P a).scope.names.lookup x == some .local || (fdOf P a).scope.names.lookup x == some .cell
theorem kind_ok {P:Params} {a:Addr} {ns:List Str} (h:kindChk P a ns = true):ns.Nodup /\ ∀ x ∈ ns,(fdOf P a).scope.names.lookup x = some .local \/ (fdOf P a).scope.names.lookup x = some .cell:=
 ⟨of_decide_eq_true (and_l h),fun x hx=>((Bool.or_eq_true ..).mp (List.all_eq_true.mp (and_r h) x hx)).imp eq_of_beq eq_of_beq⟩
set_option tactic.hygienic true in
theorem body_ok {P:Params} {a:Addr} (h:(match (fdOf P a).body with | .stmts _=>true | _=>false) = true):(fdOf P a).body = .stmts (fbK P a):=by
 unfold fbK
 split at h
 ·rename_i e; rw [e]
 ·cases h
noncomputable def forB (l:List Stmt):List Stmt:=match l with
 | .For _ _ b _ _ :: _=>b
 | _=>[]
theorem def_q {X:Cx} {P:Params} (hX:XOk X P) {a:Addr} {ns ks:List Str} {ds es gs:List D} {d:D} {n:Nat} (hc:defChk P a = true) (hb:(match (fdOf P a).body with | .stmts _=>true | _=>false) = true) (hk:kindChk P a ns = true) (hn:ns.length = gs.length)
  (hbind:∀ F s vs us,Base X F [] s -> RdL X F vs ds -> RdL X F us es -> ∃ ws,(∀ S,peek (KK P) S (bindArgs (fdOf P a) ⟨vs,ks.zip us⟩) = some (ns.zip ws)) /\ RdL X F ws gs)
  (h:∀ (A:Around) L,Room A n -> Exs X A (envF P a L) (ns.zip gs) [] (fbK P a) (RetP d)):CallQ X (n + 1) (.ref a) ks ds es d:=by
 obtain ⟨⟨o,ho,hd⟩,ok⟩:=def_ok hX hc (body_ok hb)
 obtain ⟨k1,k2⟩:=kind_ok hk
 refine callQ_def ho hd ok k1 k2 hn (fun F s vs us B r rk=>?_) h
 obtain ⟨ws,h1,h2⟩:=hbind F s vs us B r rk
 exact ⟨ws,kp_binds (K:=KK P) (by rw [<- hX.k]; exact B.glob.k) h1,h2⟩
set_option tactic.hygienic true in
theorem def_o {X:Cx} {P:Params} (hX:XOk X P) {a:Addr} {b:Addr} {c c':OC} {ns ks:List Str} {ds es gs:List D} {d:D} {n:Nat} (hc:defChk P a = true) (hb:(match (fdOf P a).body with | .stmts _=>true | _=>false) = true) (hk:kindChk P a ns = true) (hn:ns.length = gs.length)
  (hbind:∀ F s vs us,Base X F [(b,c)] s -> RdL X F vs ds -> RdL X F us es -> ∃ ws,(∀ S,peek (KK P) S (bindArgs (fdOf P a) ⟨vs,ks.zip us⟩) = some (ns.zip ws)) /\ RdL X F ws gs)
  (h:∀ (A:Around) L,Room A n -> Exs X A (envF P a L) (ns.zip gs) [(b,c)] (fbK P a) (fun fd zz Ω'=>(fd = .ret d \/ (fd = .next /\ d = .none)) /\ (b,c') ∈ Ω')):CallO X (n + 1) (.ref a) b c ks ds es d c':=by
 obtain ⟨⟨o,ho,hd⟩,ok⟩:=def_ok hX hc (body_ok hb)
 obtain ⟨k1,k2⟩:=kind_ok hk
 refine callO_def ho hd ok k1 k2 hn (fun F s vs us B r rk=>?_) h
 obtain ⟨ws,h1,h2⟩:=hbind F s vs us B r rk
 exact ⟨ws,kp_binds (K:=KK P) (by rw [<- hX.k]; exact B.glob.k) h1,h2⟩
theorem rdl1 {X:Cx} {F:FS} {vs:List Value} {d:D} (r:RdL X F vs [d]):∃ v,vs = [v]:=r.one_elim fun v zz=>⟨v,rfl⟩
theorem rdl0 {X:Cx} {F:FS} {vs:List Value} (r:RdL X F vs []):vs = []:=r.nil_inv
theorem rdl2 {X:Cx} {F:FS} {vs:List Value} {d e:D} (r:RdL X F vs [d,e]):∃ v w,vs = [v,w] /\ Rd X F v d /\ Rd X F w e:=r.two_elim fun v w a b=>⟨v,w,rfl,a,b⟩
theorem rdl3 {X:Cx} {F:FS} {vs:List Value} {d e f:D} (r:RdL X F vs [d,e,f]):∃ v w u,vs = [v,w,u] /\ Rd X F v d /\ Rd X F w e /\ Rd X F u f:=r.cons_elim fun v ws a b=>(rdl2 b).elim fun w h=>h.elim fun u h=>⟨v,w,u,congrArg _ h.1,a,h.2⟩
theorem rdl4 {X:Cx} {F:FS} {vs:List Value} {d e f g:D} (r:RdL X F vs [d,e,f,g]):∃ v w u x,vs = [v,w,u,x] /\ Rd X F v d /\ Rd X F w e /\ Rd X F u f /\ Rd X F x g:=r.cons_elim fun v ws a b=>(rdl3 b).elim fun w h=>h.elim fun u h=>h.elim fun x h=>⟨v,w,u,x,congrArg _ h.1,a,h.2⟩
theorem rdl5 {X:Cx} {F:FS} {vs:List Value} {d e f g h:D} (r:RdL X F vs [d,e,f,g,h]):∃ v w u x y,vs = [v,w,u,x,y]:=r.cons_elim fun v ws a b=>(rdl4 b).elim fun w h=>h.elim fun u h=>h.elim fun x h=>h.elim fun y h=>⟨v,w,u,x,y,congrArg _ h.1⟩
section
variable {X:Cx} {P:Params} {A:Around} {env:Env} {Γ:Loc} {Ω:Own}
noncomputable def glOk (env:Env) (x:Str):Bool:=env.kindOf x == some .globalImplicit && !(x == ("__debug__" : Str))
noncomputable def biOk (P:Params) (env:Env) (x:Str):Bool:=glOk env x && (!(x == ("__name__" : Str)) && match nsIn (KK P) mainGlobals x with | some none=>true | _=>false)
noncomputable def varOk (env:Env) (x:Str):Bool:=isVar env x && (!(x == ("__debug__" : Str)) && !(x == ("__classdict__" : Str)))
theorem eg {x:Str} {pos:Pos} {v:Value} (hX:XOk X P) (hk:glOk env x = true:=by kernel_rfl) (e:nsIn (KK P) mainGlobals x = some (some v):=by kernel_rfl):Ev X A env Γ Ω (.Name x pos) (.val v):=ev_glob (eq_of_beq (and_l hk)) (by rw [hX.k]; exact e) (not_f (and_r hk))
theorem bi_none {o:Option (Option Value)} (h:(match o with | some none=>true | _=>false) = true):o = some none:=by
 split at h
 ·rfl
 ·cases h
theorem eb {x:Str} {pos:Pos} {v:Value} (hX:XOk X P) (hv:bootBuiltins x = some v:=by kernel_rfl) (hk:biOk P env x = true:=by kernel_rfl):Ev X A env Γ Ω (.Name x pos) (.val v):=ev_bi (eq_of_beq (and_l (and_l hk))) (by rw [hX.k]; exact bi_none (and_r (and_r hk))) hv (beq_eq_false_iff_ne.mp (not_f (and_l (and_r hk)))) (not_f (and_r (and_l hk)))
theorem va {x:Str} {pos:Pos} {d:D} (h:Γ.lookup x = some d:=by rfl) (hk:varOk env x = true:=by kernel_rfl):Ev X A env Γ Ω (.Name x pos) d:=ev_var h (and_l hk) (not_f (and_l (and_r hk))) (not_f (and_r (and_r hk)))
theorem ev_eq {e:Expr} {d d':D} (q:d = d') (h:Ev X A env Γ Ω e d):Ev X A env Γ Ω e d':=q ▸ h
theorem asgI_name {x:Str} {p:Pos} {d:D} (hk:Storable env x:=by kernel_rfl):AsgI X A env Γ Ω (.Name x p) d (upd Γ x d):=⟨(fun h=>nomatch h),fun zz=>asg_name hk⟩
theorem asgI_tup {ts:List Expr} {k:Nat} {p:Pos} {ds:List D} {Γ':Loc} (hh:A.handled = none) (h:AsgL X A env Γ Ω ts ds Γ') (hn:(assignEach ts env).length = ds.length:=by rfl) (hstar:(assignEach ts env).findIdx? (·.1) = none:=by rfl):AsgI X A env Γ Ω (.Tuple ts k p) (.tup ds) Γ':=
 ⟨fun zz es e=>D.tup.inj e ▸ asg_tuple hh h hn hstar,(fun h=>nomatch h)⟩
theorem an {x:Str} {pos:Pos} {ts:List Expr} {d:D} {ds:List D} {Γ':Loc} (h:AsgL X A env (upd Γ x d) Ω ts ds Γ') (hk:Storable env x:=by kernel_rfl):AsgL X A env Γ Ω (.Name x pos :: ts) (d :: ds) Γ':=asgl_cons hk h
theorem sub_nil:Sub [] Γ:=fun zz zz h=>nomatch h
theorem sub_cons {x:Str} {d:D} {r:Loc} (h:Γ.lookup x = some d) (hr:Sub r Γ):Sub ((x,d) :: r) Γ:=fun y e he=>(lookup_cases he).elim (fun q=>q.1 ▸ q.2 ▸ h) fun q=>hr y e q.2
theorem sub_app {Δ:Loc}:∀ {Γ:Loc},Sub Γ (Γ ++ Δ)
 | (x,d) :: r,y,e,h=>by
  rw [List.cons_append,List.lookup_cons]
  rw [List.lookup_cons] at h
  cases q:y == x with
  | true=>rw [q] at h; exact h
  | false=>rw [q] at h; exact sub_app y e h
theorem sub_pre {Γ':Loc} (n:Nat) (h:Γ'.take n = Γ):Sub Γ Γ':=h ▸ fun x d e=>List.take_append_drop n Γ' ▸ sub_app x d e
theorem mem_o {b:Addr} {c:OC}:(b,c) ∈ [(b,c)]:=List.mem_singleton.mpr rfl
theorem oset1 {b:Addr} {c c':OC}:oset [(b,c)] b c' = [(b,c')]:=if_pos rfl
theorem sub_refl:Sub Γ Γ:=fun zz zz h=>h
theorem Exs.sub {st:List Stmt} {R:PostP} {Γ0:Loc} (h:Exs X A env Γ0 Ω st R) (hs:Sub Γ0 Γ):Exs X A env Γ Ω st R:=⟨fun F s I=>h F s (I.weak hs)⟩
inductive StF (G:Nat -> Loc) (W:Nat -> Own) (i:Nat) (Γ':Loc) (Ω':Own):Prop
 | mk (s:Sub (G i) Γ') (e:Ω' = W i)
theorem AsgI.weak {t:Expr} {d:D} {Γ₂ Γ':Loc} (ha:AsgI X A env Γ Ω t d Γ₂) (hsub:Sub Γ Γ'):AsgI X A env Γ' Ω t d Γ₂:=
 ⟨fun ht es he=>⟨fun F s T vs I=>(ha.1 ht es he).run F s T vs (I.weak hsub)⟩,fun ht=>⟨fun F s v I=>(ha.2 ht).run F s v (I.weak hsub)⟩⟩
theorem exs_for {t iter:Expr} {body rest:List Stmt} {pos:Pos} {ds:List D} {R:PostP} (G:Nat -> Loc) (W:Nat -> Own) (hit:EvIt X A env Γ Ω t iter ds []) (hh0:Ω = W 0) (hs0:Sub (G 0) Γ)
  (turn:∀ i d,ds[i]? = some d -> ForTurn X A env (G i) (W i) t d body (LoopP (StF G W (i + 1)) (SeqP X A env rest R)))
  (done:Exs X A env (G ds.length) (W ds.length) rest R) (hs:∀ x,foldedSetIterable iter env x = pure x:=by intro _; rfl):Exs X A env Γ Ω (.For t iter body [] pos :: rest) R:=
 exs_cons (ex_for (J:=StF G W) hit ⟨hs0,hh0⟩ (fun i d Γ₁ Ω1 hd ⟨s,e⟩=>let ⟨Γ₂,ha,hb⟩:=turn i d hd; ⟨Γ₂,e ▸ ha.weak s,e ▸ hb⟩) (fun Γ' Ω' ⟨s,e⟩=>e ▸ done.sub s) hs)
inductive SubW (J:Nat -> Loc -> Own -> Prop) (n:Nat) (Γ':Loc) (Ω':Own):Prop
 | mk (Γ'':Loc) (m:Nat) (s:Sub Γ'' Γ') (h:m < n) (j:J m Γ'' Ω')
inductive SubJ (J:Nat -> Loc -> Own -> Prop) (n:Nat) (Γ':Loc) (Ω':Own):Prop
 | mk (Γ'':Loc) (s:Sub Γ'' Γ') (j:J n Γ'' Ω')
theorem exs_while {t:Expr} {body rest:List Stmt} {pos:Pos} {R:PostP} (J:Nat -> Loc -> Own -> Prop) {n:Nat} {Γ0:Loc} (hh0:J n Γ0 Ω) (hs0:Sub Γ0 Γ)
  (turn:∀ n Γ₁ Ω1,J n Γ₁ Ω1 -> WhTurn X A env Γ₁ Ω1 t body (LoopP (SubW J n) (SeqP X A env rest R)) (Exs X A env Γ₁ Ω1 rest R)):Exs X A env Γ Ω (.While t body [] pos :: rest) R:=
 exs_cons (ex_while (J:=SubJ J) ⟨Γ0,hs0,hh0⟩ fun n Γ₁ Ω1 ⟨Γ'',s,j⟩=>let ⟨b,ht,hb,hf⟩:=turn n Γ'' Ω1 j
  ⟨b,⟨fun F q I=>ht.run F q (I.weak s)⟩,fun h=>((hb h).sub s).imp fun fd Γ' Ω'=>FlowD.casesOn (motive:=fun fd=>LoopP (SubW J n) (SeqP X A env rest R) fd Γ' Ω' -> LoopP (Less (SubJ J) n) (SeqP X A env rest R) fd Γ' Ω') fd (fun ⟨Γ'',m,a,b,c⟩=>⟨m,b,Γ'',a,c⟩) id (fun ⟨Γ'',m,a,b,c⟩=>⟨m,b,Γ'',a,c⟩) fun zz=>id,fun h=>(hf h).sub s⟩)
end
end
section
variable {X:Cx} {A:Around} {env:Env} {Γ Γ0:Loc} {Ω:Own} {F F':FS} {s s':Shared}
noncomputable def PEnum (x:Str) (i:Nat) (v:Value) (h:Heap):Prop:=∃ T t u c,v = .ref T /\ x.cps[i]? = some c /\ h.IsTuple T #[.int i t,.str ⟨#[c]⟩ u]
structure EnumS (X:Cx) (x:Str) (F1:FS) (s:Shared) (it:Value) (ss2:Shared) (e i0:Addr) (St:Nat -> Heap -> Prop):Prop where
 it:it = .ref e
 st:St 0 ss2.heap
 new:∀ b ∈ [e,i0],s.heap.get? b = none /\ F1 b = none /\ b ∉ X.T
 live:∀ i h,St i h -> ∀ b ∈ [e,i0],∃ o,h.get? b = some o
 turns:∀ A':Around,A'.handled = none -> ∀ elts k pos,∃ Md,KTurns X.prog X.w A' (.Tuple elts k pos) e [e,i0] [e,i0] x.cps.size (PEnum x) Md St
inductive EnumR (X:Cx) (x:Str) (F:FS) (s:Shared) (it:Value) (ss2:Shared):Prop
 | mk (F1:FS) (e i0:Addr) (St:Nat -> Heap -> Prop) (y:Ext X F F1 s ss2) (S:EnumS X x F1 s it ss2 e i0 St)
theorem eval_enum_str {p' pos:Pos} {ex:Expr} {x:Str} (hf:Ev X A env Γ Ω (.Name "enumerate" p') (.val (.type "enumerate"))) (ha:Ev X A env Γ Ω ex (.str x)) (he:starEach [ex] env = [(false,eval ex env)])
  (I:Inv X env F Γ Ω s):wpAny X.M A (eval (.Call (.Name "enumerate" p') [ex] [] pos) env) (fun v ss1=>wpAny X.M A (pyIter v) (EnumR X x F s) NoE ss1) NoE s:=by
 refine call_rule (fe:=ex) I hf (fun zz zz=>kp_t) (evl_cons ha evl_nil he) he rfl fun F1 ss1 vs x1 I1 r=>r.one_elim fun v r=>r.str_elim fun t=>call_enumerate_str fun h' hE hI hsz hk=>wpAny_pyIter_enum hE ?_
 have new:∀ b,ss1.heap.get? b = none -> s.heap.get? b = none /\ F1 b = none /\ b ∉ X.T:=fun b q=>⟨x1.fresh q,I1.nF q,I1.nT q⟩
 have main:∀ (cls:String),h'.IsStrIter ss1.heap.objs.size cls x t 0 -> (∀ A':Around,A'.handled = none -> Draws X.prog X.w A' ss1.heap.objs.size [ss1.heap.objs.size] x.cps.size (fun i v=>∃ c u,x.cps[i]? = some c /\ v = .str ⟨#[c]⟩ u) (fun i h=>h.IsStrIter ss1.heap.objs.size cls x t i)) -> EnumR X x F s (.ref (ss1.heap.objs.size + 1)) { ss1 with heap:=h' }:=by
  intro cls hit D
  refine ⟨F1,_,ss1.heap.objs.size,fun i h=>(∃ old,IsEnum h (ss1.heap.objs.size + 1) ss1.heap.objs.size i old) /\ h.IsStrIter ss1.heap.objs.size cls x t i,x1.trans (I1.stay (s':={ ss1 with heap:=h' }) hk) I.glob.tabs_there,rfl,⟨⟨_,hE⟩,hit⟩,
   Each.mem ⟨new _ (fresh_le (Nat.le_succ _)),new _ (get_size _),trivial⟩,fun i h st=>Each.mem ⟨st.1.elim fun zz e=>⟨_,e⟩,st.2.elim fun zz e=>⟨_,e.1⟩,trivial⟩,fun A' hA' elts k pos=>?_⟩
  have W:=KTurns.ofWalksU (elts:=elts) (k:=k) (pos:=pos) (WalksT.enumerateD (D A'.in1 hA') (ss1.heap.objs.size + 1) (Nat.succ_ne_self _) (fun hm=>Nat.succ_ne_self _ (List.mem_singleton.mp hm)) (List.mem_singleton.mpr rfl)).toU
  refine ⟨_,⟨W.sub,W.frame,W.item,fun i v s Q E hm hQ=>W.go i v s Q E hm fun h' hP st' hk'=>hQ h' ?_ st' hk',W.done⟩⟩
  obtain ⟨T,vals,rfl,⟨t',y,⟨c,u,hc,rfl⟩,rfl⟩,hT⟩:=hP
  exact ⟨T,t',u,c,rfl,hc,hT⟩
 unfold strIterType at hI
 split at hI
 ·exact main _ hI fun A' hA'=>Draws.strAscii hA' _ x t
 ·exact main _ hI fun A' hA'=>Draws.strWide hA' _ x t
structure GS (X:Cx) (env:Env) (Pv Pv1:List Addr) (F0:FS) (ss0:Shared) (F:FS) (Γ:Loc) (s:Shared):Prop where
 inv:Inv X env F Γ [] s
 x:ExtP X Pv Pv1 F0 F ss0 s
 loc:env.locals ∈ Pv1
 nc:env.cells = []
variable {Pv Pv1:List Addr} {F0:FS} {ss0:Shared}
theorem GS.ofLater (g:GS X env Pv Pv1 F0 ss0 F Γ s) (y:Later X Pv1 F F' s s'):GS X env Pv1 Pv1 F' s' F' Γ s' where
 inv:=inv_later g.inv g.nc y g.loc
 x:=⟨fun zz zz e=>e,fun zz=>.inl rfl,fun zz zz zz zz e=>e,fun zz h=>.inl h,fun b hb=>⟨(y.keep b hb).1,(g.x.priv b hb).2.1,let ⟨o,ho⟩:=(g.x.priv b hb).2.2; ⟨o,(y.keep b hb).2 o ho⟩⟩,y.base,rfl,.refl _⟩
 loc:=g.loc
 nc:=g.nc
theorem GS.kc (g:GS X env Pv Pv1 F0 ss0 F Γ s) (b:Addr):b ∉ env.cells.map (·.2):=g.nc.symm ▸ fun h=>nomatch h
theorem GS.alive (g:GS X env Pv Pv1 F0 ss0 F Γ s) {a:Addr} (h:s.heap.get? a = none):ss0.heap.get? a = none \/ a ∈ Pv:=by
 by_cases hP:a ∈ Pv
 ·exact .inr hP
 ·exact .inl (get_none fun o e=>clash h (g.x.keep a o (g.inv.nT h) hP e))
theorem GS.step {Γ':Loc} (g:GS X env Pv Pv1 F0 ss0 F Γ s) (I':Inv X env F' Γ' [] s') (y:ExtS X env [] [] F F' s s'):GS X env Pv Pv1 F0 ss0 F' Γ' s' /\ ∀ b ∈ Pv1,b ≠ env.locals -> ∀ o,s.heap.get? b = some o -> s'.heap.get? b = some o:=by
 have kp:∀ b ∈ Pv1,b ≠ env.locals -> ∀ o,s.heap.get? b = some o -> s'.heap.get? b = some o:=fun b hb hl o e=>y.keep b o (g.x.priv b hb).2.1 hl (g.kc b) (fun h=>nomatch h) e
 refine ⟨⟨I',⟨fun a o e=>y.le a o (g.x.le a o e),fun a=>(y.new a).elim (fun e=>e.symm ▸ g.x.new a) fun e=>e.elim (fun e=>.inr (g.alive e)) (fun e=>nomatch e),fun b o hT hP e=>y.keep b o hT (fun hl=>(g.x.dom b (hl ▸ g.loc)).elim hP fun q=>clash q e) (g.kc b) (fun h=>nomatch h) (g.x.keep b o hT hP e),g.x.dom,fun b hb=>⟨?_,(g.x.priv b hb).2.1,?_⟩,I'.base,y.os.trans g.x.os,g.x.gens.trans y.gens⟩,g.loc,g.nc⟩,kp⟩
 ·obtain ⟨o,ho⟩:=(g.x.priv b hb).2.2
  exact (y.new b).elim (fun e=>e.trans (g.x.priv b hb).1) fun e=>e.elim (fun e=>clash e ho) fun e=>nomatch e
 ·by_cases hl:b = env.locals
  ·exact hl ▸ I'.ns.elim fun m h=>ns_there h.1
  ·exact (g.x.priv b hb).2.2.imp fun o ho=>kp b hb hl o ho
theorem GS.weak {Γ':Loc} (g:GS X env Pv Pv1 F0 ss0 F Γ s) (h:∀ x d,Γ'.lookup x = some d -> Γ.lookup x = some d):GS X env Pv Pv1 F0 ss0 F Γ' s:=⟨g.inv.weak h,g.x,g.loc,g.nc⟩
theorem GS.grow {fp:List Addr} (g:GS X env Pv Pv1 F0 ss0 F Γ s) (y:Ext X F F' s s') (hn:∀ b ∈ fp,s.heap.get? b = none /\ F' b = none /\ b ∉ X.T /\ ∃ o,s'.heap.get? b = some o):GS X env Pv (fp ++ Pv1) F0 ss0 F' Γ s':=by
 have I':=g.inv.ext y
 have g':=(g.step I' y.toS).1
 refine ⟨I',⟨g'.x.le,g'.x.new,g'.x.keep,fun b hb=>?_,fun b hb=>?_,g'.x.base,g'.x.os,g'.x.gens⟩,List.mem_append_right _ g.loc,g.nc⟩
 ·exact (List.mem_append.mp hb).elim (fun h=>(g.alive (hn b h).1).symm) (g.x.dom b)
 ·exact (List.mem_append.mp hb).elim (fun h=>(hn b h).2) (g'.x.priv b)
theorem GS.touch {wr Pv2:List Addr} {h':Heap} {tk:Nat} (g:GS X env Pv Pv1 F0 ss0 F Γ s) (hw:∀ b ∈ wr,b ∈ Pv1 /\ b ≠ env.locals) (h2:∀ b ∈ Pv2,b ∈ Pv1 /\ (b ∈ wr -> ∃ o,h'.get? b = some o)) (hL:env.locals ∈ Pv2) (hk:∀ b o,b ∉ wr -> s.heap.get? b = some o -> h'.get? b = some o):GS X env Pv Pv2 F0 ss0 F Γ { s with heap:=h',toks:=tk }:=by
 have I':Inv X env F Γ [] { s with heap:=h',toks:=tk }:=g.inv.touch (M:=(· ∈ wr)) (fun a ha=>⟨(g.x.priv a (hw a ha).1).1,(g.x.priv a (hw a ha).1).2.1,(hw a ha).2,g.kc a,(fun h=>nomatch h)⟩) hk
 refine ⟨I',⟨g.x.le,g.x.new,fun b o hT hP e=>hk b o (fun hm=>(g.x.dom b (hw b hm).1).elim hP fun q=>clash q e) (g.x.keep b o hT hP e),fun b hb=>g.x.dom b (h2 b hb).1,fun b hb=>⟨(g.x.priv b (h2 b hb).1).1,(g.x.priv b (h2 b hb).1).2.1,?_⟩,I'.base,g.x.os,g.x.gens⟩,hL,g.nc⟩
 by_cases hm:b ∈ wr
 ·exact (h2 b hb).2 hm
 ·exact (g.x.priv b (h2 b hb).1).2.2.imp fun o ho=>hk b o hm ho
theorem GS.close (g:GS X env Pv Pv1 F0 ss0 F Γ s):∃ F',ExtP X Pv [] F0 F' ss0 s:=⟨F,g.x.le,g.x.new,g.x.keep,(fun zz h=>nomatch h),(fun zz h=>nomatch h),g.x.base,g.x.os,g.x.gens⟩
end
section
variable {X:Cx} {P:Params}
noncomputable def sumI (l:List Int):Int:=l.foldl (· + ·) 0
theorem sumI_take {l:List Int} {i:Nat} {v:Int} (h:l[i]? = some v):sumI (l.take (i + 1)) = sumI (l.take i) + v:=by
 rw [List.take_add_one,h,sumI,List.foldl_append]; rfl
theorem c_count_calls (hX:XOk X P) (es:List (Int × Int)):CallQ X 1 (.ref 35) [] [D.dci (es.map fun p=>(p.1,D.int p.2))] [] (.int (sumI (es.map (·.2)))):=by
 refine def_q (n:=0) (ns:=["callers"]) (gs:=[D.dci (es.map fun p=>(p.1,D.int p.2))]) hX (by kernel_rfl) (by kernel_rfl) (by kernel_rfl) rfl (fun F s vs us B r rk=>⟨vs,?_,r⟩) fun A L hA=>?_
 ·obtain ⟨a,rfl⟩:=rdl1 r
  rw [rdl0 rk]
  exact fun S=>by kernel_rfl
 ·have hh:=hA.h
  refine exs_cons (ex_assign (d:=.int 0) ev_int (by kernel_rfl) ?_ (by rfl))
  have hlen:(es.map fun p=>(p.1,D.int p.2)).map (·.2) = (es.map (·.2)).map D.int:=by simp
  refine exs_for (G:=fun i=>([("callers",.dci (es.map fun p=>(p.1,D.int p.2))),("nc",.int (sumI ((es.map (·.2)).take i)))]:Loc)) (W:=fun i=>[]) (it_values hh va (by rfl) (by kernel_rfl)) rfl sub_refl ?_ ?_
  ·intro i d hd
   rw [hlen,List.getElem?_map] at hd
   obtain ⟨v,hv,rfl⟩:=Option.map_eq_some_iff.mp hd
   refine ⟨_,asgI_name,exs_cons (ex_aug (by rfl) (by kernel_rfl) (by kernel_rfl) va op_iadd (by kernel_rfl) (exs_nil ⟨?_,rfl⟩))⟩
   exact sub_cons (by rfl) (sub_cons (by rw [sumI_take hv]; rfl) sub_nil)
  ·skip
   exact exs_cons (ex_return va (.inl (by simp [List.take_of_length_le])))
end
section
variable {X:Cx} {P:Params}
structure Cut (p:Nat -> Bool) (lo hi r:Nat):Prop where
 ge:lo <= r
 le:r <= hi
 at_:∀ m,lo <= m -> m < hi -> p m = decide (r <= m)
noncomputable def optD:Option Nat -> D
 | some h=>.int h
 | none=>.none
noncomputable def bisG (a x k:D) (l h:Nat):Loc:=[("a",a),("x",x),("lo",.int l),("hi",.int h),("key",k)]
inductive BisJ (G:Nat -> Nat -> Loc) (Ω0:Own) (lo hi r n:Nat) (Γ:Loc) (Ω:Own):Prop
 | mk (l h:Nat) (e:Γ = G l h) (h1:lo <= l) (h2:h <= hi) (h3:l <= r) (h4:r <= h) (hn:n = h - l) (ho:Ω = Ω0)
section
variable {G:Nat -> Nat -> Loc} {Γ:Loc} {Ω:Own} {lo hi r l h:Nat}
theorem mid_lt (hl:l < h):l <= (l + h) / 2 /\ (l + h) / 2 < h:=by omega
theorem bis_left (hl:l < h) (h1:lo <= l) (h2:h <= hi) (h3:l <= r) (hr:r <= (l + h) / 2) (s:Sub (G l ((l + h) / 2)) Γ):SubW (BisJ G Ω lo hi r) (h - l) Γ Ω:=
 have m:=mid_lt hl
 ⟨_,_,s,Nat.sub_lt_sub_right m.1 m.2,l,_,rfl,h1,Nat.le_trans (Nat.le_of_lt m.2) h2,h3,hr,rfl,rfl⟩
theorem bis_right (hl:l < h) (h1:lo <= l) (h2:h <= hi) (h4:r <= h) (hr:(l + h) / 2 < r) (s:Sub (G ((l + h) / 2 + 1) h) Γ):SubW (BisJ G Ω lo hi r) (h - l) Γ Ω:=
 have m:=mid_lt hl
 ⟨_,_,s,Nat.sub_lt_sub_left hl (Nat.lt_succ_of_le m.1),_,h,rfl,Nat.le_trans h1 (Nat.le_succ_of_le m.1),h2,hr,h4,rfl,rfl⟩
theorem bis_end {hl:¬l < h} (h3:l <= r) (h4:r <= h):l = r:=Nat.le_antisymm h3 (Nat.le_trans h4 (Nat.not_lt.mp hl))
theorem cut_le {m:Nat} {b:Bool} (e:b = decide (r <= m)) (hb:b = true):r <= m:=of_decide_eq_true (e.symm.trans hb)
theorem cut_lt {m:Nat} {b:Bool} (e:b = decide (r <= m)) (hb:b = false):m < r:=Nat.not_le.mp (of_decide_eq_false (e.symm.trans hb))
theorem ev_mid {A:Around} {env:Env} {e e':Expr} {k:Nat} {p1 p2 p3:Pos} (a:Ev X A env Γ Ω e (.int (l:Nat))) (b:Ev X A env Γ Ω e' (.int (h:Nat))):Ev X A env Γ Ω (.BinOp (.BinOp e .Add e' p1) .FloorDiv (.Constant (.int 2) k p2) p3) (.int ((l + h) / 2:Nat)):=by
 rw [show (((l + h) / 2:Nat):Int) = ((l:Int) + (h:Int)).fdiv 2 by rw [Int.fdiv_eq_ediv_of_nonneg _ (by decide)]; rfl]
 exact ev_bin (ev_bin a b op_add) ev_int (op_fdiv (by decide) (by kernel_rfl))
theorem lt_nat {a b:Nat} {c:Bool} (h:decide ((a:Int) < b) = c):decide (a < b) = c:=(decide_eq_decide.mpr Int.ofNat_lt.symm).trans h
end
theorem int_get {xs:List Int} {m:Nat} (h:m < xs.length):(xs.map D.int)[((m:Nat):Int).toNat]? = some (.int (xs.getD m 0)):=by
 rw [Int.toNat_natCast,List.getElem?_map,List.getD_eq_getElem?_getD,List.getElem?_eq_getElem h]; rfl
theorem bis_loop_r (hX:XOk X P) {A:Around} {L:Addr} {xs:List Int} {x:Int} {lo hi r:Nat} (c:Cut (fun i=>decide (x < xs.getD i 0)) lo hi r) (hh:hi <= xs.length) (hz:xs.length <= 1000000) :
  Exs X A (envF P 53 L) (bisG (.lst (xs.map .int)) (.int x) .none lo hi) [] ((fbK P 53).drop 2) (RetP (.int (r:Nat))):=by
 refine exs_cons (ex_if (b:=true) (evt_cmp va ev_none (op_isNone (d:=.none) (fun v q=>nomatch q)) rfl) (fun zz=>?_) (fun h=>nomatch h))
 refine exs_while (J:=BisJ (bisG (.lst (xs.map .int)) (.int x) .none) [] lo hi r) ⟨lo,hi,rfl,Nat.le_refl _,Nat.le_refl _,c.ge,c.le,rfl,rfl⟩ sub_refl ?_
 rintro n Γ Ω ⟨l,h,rfl,h1,h2,h3,h4,rfl,rfl⟩
 refine ⟨_,evt_cmp va va op_lt rfl,fun hlt=>?_,fun hlt=>exs_nil (exs_cons (ex_return va (.inl (by rw [bis_end (hl:=of_decide_eq_false (lt_nat hlt)) h3 h4]))))⟩
 have hlt:=of_decide_eq_true (lt_nat hlt)
 have m:=mid_lt hlt
 have hat:=c.at_ _ (Nat.le_trans h1 m.1) (Nat.lt_of_lt_of_le m.2 h2)
 refine exs_cons (ex_assign (ev_mid va va) (by kernel_rfl) (exs_cons (ex_if (evt_cmp va (ev_sub va va subT_lst (get_lst (Int.natCast_nonneg _) (int_get (Nat.lt_of_lt_of_le m.2 (Nat.le_trans h2 hh))) (by rwa [List.length_map]))) op_lt rfl) (fun hb=>?_) (fun hb=>?_))) rfl)
 ·exact exs_cons (ex_assign va (by kernel_rfl) (exs_nil (exs_nil (bis_left hlt h1 h2 h3 (cut_le hat hb) (sub_pre 5 rfl)))) rfl)
 ·exact exs_cons (ex_assign (ev_bin va ev_int op_add) (by kernel_rfl) (exs_nil (exs_nil (bis_right hlt h1 h2 h4 (cut_lt hat hb) (sub_pre 5 rfl)))) rfl)
theorem not_neg (l:Nat):decide ((l:Int) < 0) = false:=decide_eq_false (Int.not_lt.mpr (Int.natCast_nonneg l))
theorem bis_head_r (hX:XOk X P) {A:Around} {L:Addr} {xs:List Int} {x:Int} {lo r:Nat} {hi:Option Nat} (c:Cut (fun i=>decide (x < xs.getD i 0)) lo (hi.getD xs.length) r) (hh:hi.getD xs.length <= xs.length) (hz:xs.length <= 1000000) :
  Exs X A (envF P 53 L) [("a",.lst (xs.map .int)),("x",.int x),("lo",.int lo),("hi",optD hi),("key",.none)] [] (fbK P 53) (RetP (.int (r:Nat))):=by
 refine exs_cons (ex_if (b:=false) (evt_cmp va ev_int (op_b op_lt (not_neg lo)) rfl) (fun h=>nomatch h) (fun zz=>exs_nil ?_))
 cases hi with
 | none=>
  refine exs_cons (ex_if (b:=true) (evt_cmp va ev_none (op_isNone (d:=.none) (fun v q=>nomatch q)) rfl) (fun zz=>?_) (fun h=>nomatch h))
  refine exs_cons (ex_assign (d:=.int xs.length) (ev_call (eb (v:=.builtin "len") hX) (fun zz=>kp_b) (evl_cons va evl_nil rfl) ?_ rfl rfl) (by kernel_rfl) (exs_nil (bis_loop_r hX c hh hz)) rfl)
  exact (List.length_map D.int:(xs.map D.int).length = _) ▸ len_lst (by rwa [List.length_map])
 | some h=>exact exs_cons (ex_if (b:=false) (evt_cmp va ev_none (op_isNone (d:=.int h) (fun v q=>nomatch q)) rfl) (fun h=>nomatch h) (fun zz=>exs_nil (bis_loop_r hX c hh hz)))
theorem c_bisr3 (hX:XOk X P) {xs:List Int} {x:Int} {lo r:Nat} (c:Cut (fun i=>decide (x < xs.getD i 0)) lo xs.length r) (hz:xs.length <= 1000000):CallQ X 1 (.ref 53) [] [.lst (xs.map .int),.int x,.int lo] [] (.int (r:Nat)):=by
 refine def_q (n:=0) (ns:=["a", "x", "lo", "hi", "key"]) (gs:=[.lst (xs.map .int),.int x,.int lo,.none,.none]) hX (by kernel_rfl) (by kernel_rfl) (by kernel_rfl) rfl (fun F s vs us B r rk=>?_) fun A L hA=>bis_head_r (hi:=none) hX c (Nat.le_refl _) hz
 obtain ⟨v,w,u,rfl,r1,r2,r3⟩:=rdl3 r
 rw [rdl0 rk]
 exact ⟨[v,w,u,.none,.none],fun S=>by kernel_rfl,.cons r1 (.cons r2 (.cons r3 (.cons .none (.cons .none .nil))))⟩
theorem c_bisr4 (hX:XOk X P) {xs:List Int} {x:Int} {lo hi r:Nat} (c:Cut (fun i=>decide (x < xs.getD i 0)) lo hi r) (hh:hi <= xs.length) (hz:xs.length <= 1000000):CallQ X 1 (.ref 53) [] [.lst (xs.map .int),.int x,.int lo,.int hi] [] (.int (r:Nat)):=by
 refine def_q (n:=0) (ns:=["a", "x", "lo", "hi", "key"]) (gs:=[.lst (xs.map .int),.int x,.int lo,.int hi,.none]) hX (by kernel_rfl) (by kernel_rfl) (by kernel_rfl) rfl (fun F s vs us B r rk=>?_) fun A L hA=>bis_head_r (hi:=some hi) hX c hh hz
 obtain ⟨v,w,u,y,rfl,r1,r2,r3,r4⟩:=rdl4 r
 rw [rdl0 rk]
 exact ⟨[v,w,u,y,.none],fun S=>by kernel_rfl,.cons r1 (.cons r2 (.cons r3 (.cons r4 (.cons .none .nil))))⟩
end
section
variable {X:Cx} {P:Params}
theorem op_lts {A:Around} {env:Env} {Γ:Loc} {Ω:Own} {x y:Str}:Op2 X A env Γ Ω (compareOp .Lt) (.str x) (.str y) (.bool (decide (x.cps.toList < y.cps.toList))):=op2_str fun zz zz I=>PyProof.Rows.lt_str (I.res (.bool _))
structure KeyOn (X:Cx) (n:Nat) (fd:FuncData) (cs:List Addr) (es:List D) (ds:List D) (kf:Nat -> Str):Prop where
 at_:∀ i d,ds[i]? = some d -> KeyF X n fd cs es [d] (.str (kf i))
section
variable {n:Nat} {fd:FuncData} {cs:List Addr} {es:List D} {ds:List D} {kf:Nat -> Str} {b:Addr} {kx:Str}
set_option tactic.hygienic true in
theorem bis_key_r (hX:XOk X P) {A:Around} (hA:Room A n) {L:Addr} {r:Nat} (K:KeyOn X n fd cs es ds kf) (c:Cut (fun i=>decide (kx.cps.toList < (kf i).cps.toList)) 0 ds.length r) (hz:ds.length <= 1000000) :
  Exs X A (envF P 53 L) [("a",.val (.ref b)),("x",.str kx),("lo",.int 0),("hi",.none),("key",.fn fd cs es)] [(b,.lst ds)] (fbK P 53) (fun fd zz Ω'=>(fd = .ret (.int (r:Nat)) \/ (fd = .next /\ D.int (r:Nat) = .none)) /\ (b,OC.lst ds) ∈ Ω'):=by
 have hb:(b,OC.lst ds) ∈ [(b,OC.lst ds)]:=List.mem_singleton.mpr rfl
 refine exs_cons (ex_if (b:=false) (evt_cmp va ev_int op_lt rfl) (fun h=>nomatch h) (fun zz=>exs_nil ?_))
 refine exs_cons (ex_if (b:=true) (evt_cmp va ev_none (op_isNone (d:=.none) (fun v q=>nomatch q)) rfl) (fun zz=>?_) (fun h=>nomatch h))
 refine exs_cons (ex_assign (d:=.int ds.length) (ev_call (fv:=.builtin "len") (eb hX) (fun zz=>kp_b) (evl_cons va evl_nil rfl) (len_own hb hz) rfl rfl) (by kernel_rfl) (exs_nil ?_) rfl)
 refine exs_cons (ex_if (b:=false) (evt_cmp va ev_none (op_isNone (d:=.fn fd cs es) (fun v q=>nomatch q)) rfl) (fun h=>nomatch h) (fun zz=>?_))
 refine exs_while (J:=BisJ (bisG (.val (.ref b)) (.str kx) (.fn fd cs es)) [(b,.lst ds)] 0 ds.length r) ⟨0,ds.length,rfl,Nat.le_refl _,Nat.le_refl _,c.ge,c.le,rfl,rfl⟩ sub_refl ?_
 rintro m Γ Ω ⟨l,h,rfl,h1,h2,h3,h4,rfl,rfl⟩
 refine ⟨_,evt_cmp va va op_lt rfl,fun hlt=>?_,fun hlt=>exs_nil (exs_cons (ex_return va ⟨.inl (by rw [bis_end (hl:=of_decide_eq_false (lt_nat hlt)) h3 h4]),hb⟩))⟩
 have hlt:=of_decide_eq_true (lt_nat hlt)
 have m:=mid_lt hlt
 have hm:=Nat.lt_of_lt_of_le m.2 h2
 have hat:=c.at_ _ (Nat.le_trans h1 m.1) hm
 refine exs_cons (ex_assign (ev_mid va va) (by kernel_rfl) (exs_cons (ex_if (evt_cmp va (ev_call_fn hA (fd:=fd) (cs:=cs) (es:=es) va (evl_cons (ev_sub va va (subT_own hb) (get_own (d:=ds[(l + h) / 2]) hb (Int.natCast_nonneg _) (by rw [Int.toNat_natCast,List.getElem?_eq_getElem hm]) hz)) evl_nil rfl) (K.at_ _ _ (List.getElem?_eq_getElem hm)) rfl rfl) op_lts rfl) (fun hb=>?_) (fun hb=>?_))) rfl)
 ·exact exs_cons (ex_assign va (by kernel_rfl) (exs_nil (exs_nil (bis_left hlt h1 h2 h3 (cut_le hat hb) (sub_pre 5 rfl)))) rfl)
 ·exact exs_cons (ex_assign (ev_bin va ev_int op_add) (by kernel_rfl) (exs_nil (exs_nil (bis_right hlt h1 h2 h4 (cut_lt hat hb) (sub_pre 5 rfl)))) rfl)
set_option tactic.hygienic true in
theorem bis_key_l (hX:XOk X P) {A:Around} (hA:Room A n) {L:Addr} {r:Nat} (K:KeyOn X n fd cs es ds kf) (c:Cut (fun i=>!decide ((kf i).cps.toList < kx.cps.toList)) 0 ds.length r) (hz:ds.length <= 1000000) :
  Exs X A (envF P 71 L) [("a",.val (.ref b)),("x",.str kx),("lo",.int 0),("hi",.none),("key",.fn fd cs es)] [(b,.lst ds)] (fbK P 71) (fun fd zz Ω'=>(fd = .ret (.int (r:Nat)) \/ (fd = .next /\ D.int (r:Nat) = .none)) /\ (b,OC.lst ds) ∈ Ω'):=by
 have hb:(b,OC.lst ds) ∈ [(b,OC.lst ds)]:=List.mem_singleton.mpr rfl
 refine exs_cons (ex_if (b:=false) (evt_cmp va ev_int op_lt rfl) (fun h=>nomatch h) (fun zz=>exs_nil ?_))
 refine exs_cons (ex_if (b:=true) (evt_cmp va ev_none (op_isNone (d:=.none) (fun v q=>nomatch q)) rfl) (fun zz=>?_) (fun h=>nomatch h))
 refine exs_cons (ex_assign (d:=.int ds.length) (ev_call (fv:=.builtin "len") (eb hX) (fun zz=>kp_b) (evl_cons va evl_nil rfl) (len_own hb hz) rfl rfl) (by kernel_rfl) (exs_nil ?_) rfl)
 refine exs_cons (ex_if (b:=false) (evt_cmp va ev_none (op_isNone (d:=.fn fd cs es) (fun v q=>nomatch q)) rfl) (fun h=>nomatch h) (fun zz=>?_))
 refine exs_while (J:=BisJ (bisG (.val (.ref b)) (.str kx) (.fn fd cs es)) [(b,.lst ds)] 0 ds.length r) ⟨0,ds.length,rfl,Nat.le_refl _,Nat.le_refl _,c.ge,c.le,rfl,rfl⟩ sub_refl ?_
 rintro m Γ Ω ⟨l,h,rfl,h1,h2,h3,h4,rfl,rfl⟩
 refine ⟨_,evt_cmp va va op_lt rfl,fun hlt=>?_,fun hlt=>exs_nil (exs_cons (ex_return va ⟨.inl (by rw [bis_end (hl:=of_decide_eq_false (lt_nat hlt)) h3 h4]),hb⟩))⟩
 have hlt:=of_decide_eq_true (lt_nat hlt)
 have m:=mid_lt hlt
 have hm:=Nat.lt_of_lt_of_le m.2 h2
 have hat:=c.at_ _ (Nat.le_trans h1 m.1) hm
 refine exs_cons (ex_assign (ev_mid va va) (by kernel_rfl) (exs_cons (ex_if (evt_cmp (ev_call_fn hA (fd:=fd) (cs:=cs) (es:=es) va (evl_cons (ev_sub va va (subT_own hb) (get_own (d:=ds[(l + h) / 2]) hb (Int.natCast_nonneg _) (by rw [Int.toNat_natCast,List.getElem?_eq_getElem hm]) hz)) evl_nil rfl) (K.at_ _ _ (List.getElem?_eq_getElem hm)) rfl rfl) va op_lts rfl) (fun hb=>?_) (fun hb=>?_))) rfl)
 ·exact exs_cons (ex_assign (ev_bin va ev_int op_add) (by kernel_rfl) (exs_nil (exs_nil (bis_right hlt h1 h2 h4 (cut_lt hat (congrArg not hb)) (sub_pre 5 rfl)))) rfl)
 ·exact exs_cons (ex_assign va (by kernel_rfl) (exs_nil (exs_nil (bis_left hlt h1 h2 h3 (cut_le hat (congrArg not hb)) (sub_pre 5 rfl)))) rfl)
theorem c_bis_r (hX:XOk X P) {r:Nat} (K:KeyOn X n fd cs es ds kf) (c:Cut (fun i=>decide (kx.cps.toList < (kf i).cps.toList)) 0 ds.length r) (hz:ds.length <= 1000000):CallO X (n + 1) (.ref 53) b (.lst ds) ["key"] [.val (.ref b),.str kx,.int 0,.none] [.fn fd cs es] (.int (r:Nat)) (.lst ds):=by
 refine def_o (n:=n) (ns:=["a", "x", "lo", "hi", "key"]) (gs:=[.val (.ref b),.str kx,.int 0,.none,.fn fd cs es]) hX (by kernel_rfl) (by kernel_rfl) (by kernel_rfl) rfl (fun F s vs us B r rk=>?_) fun A L hA=>bis_key_r hX hA K c hz
 obtain ⟨v,w,u,y,rfl,r1,r2,r3,r4⟩:=rdl4 r
 obtain ⟨z,rfl⟩:=rdl1 rk
 exact ⟨[v,w,u,y,z],fun S=>by kernel_rfl,.cons r1 (.cons r2 (.cons r3 (.cons r4 rk)))⟩
theorem c_bis_l (hX:XOk X P) {r:Nat} (K:KeyOn X n fd cs es ds kf) (c:Cut (fun i=>!decide ((kf i).cps.toList < kx.cps.toList)) 0 ds.length r) (hz:ds.length <= 1000000):CallO X (n + 1) (.ref 71) b (.lst ds) ["key"] [.val (.ref b),.str kx,.int 0,.none] [.fn fd cs es] (.int (r:Nat)) (.lst ds):=by
 refine def_o (n:=n) (ns:=["a", "x", "lo", "hi", "key"]) (gs:=[.val (.ref b),.str kx,.int 0,.none,.fn fd cs es]) hX (by kernel_rfl) (by kernel_rfl) (by kernel_rfl) rfl (fun F s vs us B r rk=>?_) fun A L hA=>bis_key_l hX hA K c hz
 obtain ⟨v,w,u,y,rfl,r1,r2,r3,r4⟩:=rdl4 r
 obtain ⟨z,rfl⟩:=rdl1 rk
 exact ⟨[v,w,u,y,z],fun S=>by kernel_rfl,.cons r1 (.cons r2 (.cons r3 (.cons r4 rk)))⟩
end
end
section
variable {X:Cx} {P:Params}
section
variable {n:Nat} {fd:FuncData} {cs:List Addr} {es:List D} {ds:List D} {kf:Nat -> Str} {b:Addr} {kx:Str} {dx:D}
set_option tactic.hygienic true in
theorem ins_key_r (hX:XOk X P) {A:Around} (hA:Room A (n + 1)) {L:Addr} {r:Nat} (K:KeyOn X n fd cs es ds kf) (c:Cut (fun i=>decide (kx.cps.toList < (kf i).cps.toList)) 0 ds.length r) (kX:KeyF X n fd cs es [dx] (.str kx)) (hz:ds.length <= 1000000) :
  Exs X A (envF P 44 L) [("a",.val (.ref b)),("x",dx),("lo",.int 0),("hi",.none),("key",.fn fd cs es)] [(b,.lst ds)] (fbK P 44) (fun fd zz Ω'=>(fd = .ret .none \/ (fd = .next /\ D.none = .none)) /\ (b,OC.lst (ds.take r ++ [dx] ++ ds.drop r)) ∈ Ω'):=by
 have hb:(b,OC.lst ds) ∈ [(b,OC.lst ds)]:=List.mem_singleton.mpr rfl
 refine exs_cons (ex_if (b:=false) (evt_cmp va ev_none (op_isNone (d:=.fn fd cs es) (fun v q=>nomatch q)) rfl) (fun h=>nomatch h) (fun zz=>?_))
 refine exs_cons (ex_assign_s (evs_call_kw (fv:=.ref 53) hA (eg hX) (fun zz=>kp_k (by rw [hX.k]; kernel_rfl)) (evl_cons va (evl_cons (ev_call_fn (hA.le (Nat.le_succ n)) (fd:=fd) (cs:=cs) (es:=es) va (evl_cons va evl_nil rfl) kX rfl rfl) (evl_cons va (evl_cons va evl_nil rfl) rfl) rfl) rfl) (evk_cons va evk_nil) hb (c_bis_r hX K c hz) ?_ rfl rfl rfl rfl) (by kernel_rfl) rfl)
 rw [oset1]
 refine exs_nil (exs_cons (ex_expr_s (evs_insert va hb va va c.le hz ⟨rfl,exs_nil ⟨.inr ⟨rfl,rfl⟩,by rw [oset1]; exact List.mem_singleton.mpr rfl⟩⟩ rfl (by kernel_rfl) rfl rfl) rfl rfl))
set_option tactic.hygienic true in
theorem ins_key_l (hX:XOk X P) {A:Around} (hA:Room A (n + 1)) {L:Addr} {r:Nat} (K:KeyOn X n fd cs es ds kf) (c:Cut (fun i=>!decide ((kf i).cps.toList < kx.cps.toList)) 0 ds.length r) (kX:KeyF X n fd cs es [dx] (.str kx)) (hz:ds.length <= 1000000) :
  Exs X A (envF P 62 L) [("a",.val (.ref b)),("x",dx),("lo",.int 0),("hi",.none),("key",.fn fd cs es)] [(b,.lst ds)] (fbK P 62) (fun fd zz Ω'=>(fd = .ret .none \/ (fd = .next /\ D.none = .none)) /\ (b,OC.lst (ds.take r ++ [dx] ++ ds.drop r)) ∈ Ω'):=by
 have hb:(b,OC.lst ds) ∈ [(b,OC.lst ds)]:=List.mem_singleton.mpr rfl
 refine exs_cons (ex_if (b:=false) (evt_cmp va ev_none (op_isNone (d:=.fn fd cs es) (fun v q=>nomatch q)) rfl) (fun h=>nomatch h) (fun zz=>?_))
 refine exs_cons (ex_assign_s (evs_call_kw (fv:=.ref 71) hA (eg hX) (fun zz=>kp_k (by rw [hX.k]; kernel_rfl)) (evl_cons va (evl_cons (ev_call_fn (hA.le (Nat.le_succ n)) (fd:=fd) (cs:=cs) (es:=es) va (evl_cons va evl_nil rfl) kX rfl rfl) (evl_cons va (evl_cons va evl_nil rfl) rfl) rfl) rfl) (evk_cons va evk_nil) hb (c_bis_l hX K c hz) ?_ rfl rfl rfl rfl) (by kernel_rfl) rfl)
 rw [oset1]
 refine exs_nil (exs_cons (ex_expr_s (evs_insert va hb va va c.le hz ⟨rfl,exs_nil ⟨.inr ⟨rfl,rfl⟩,by rw [oset1]; exact List.mem_singleton.mpr rfl⟩⟩ rfl (by kernel_rfl) rfl rfl) rfl rfl))
theorem c_ins_r (hX:XOk X P) {r:Nat} (K:KeyOn X n fd cs es ds kf) (c:Cut (fun i=>decide (kx.cps.toList < (kf i).cps.toList)) 0 ds.length r) (kX:KeyF X n fd cs es [dx] (.str kx)) (hz:ds.length <= 1000000):CallO X (n + 2) (.ref 44) b (.lst ds) ["key"] [.val (.ref b),dx] [.fn fd cs es] .none (.lst (ds.take r ++ [dx] ++ ds.drop r)):=by
 refine def_o (n:=n + 1) (ns:=["a", "x", "lo", "hi", "key"]) (gs:=[.val (.ref b),dx,.int 0,.none,.fn fd cs es]) hX (by kernel_rfl) (by kernel_rfl) (by kernel_rfl) rfl (fun F s vs us B r rk=>?_) fun A L hA=>ins_key_r hX hA K c kX hz
 obtain ⟨v,w,rfl,r1,r2⟩:=rdl2 r
 obtain ⟨z,rfl⟩:=rdl1 rk
 refine ⟨[v,w,.int 0 229,.none,z],fun S=>?_,.cons r1 (.cons r2 (.cons (.int 0 229) (.cons .none rk)))⟩
 kernel_rfl
theorem c_ins_l (hX:XOk X P) {r:Nat} (K:KeyOn X n fd cs es ds kf) (c:Cut (fun i=>!decide ((kf i).cps.toList < kx.cps.toList)) 0 ds.length r) (kX:KeyF X n fd cs es [dx] (.str kx)) (hz:ds.length <= 1000000):CallO X (n + 2) (.ref 62) b (.lst ds) ["key"] [.val (.ref b),dx] [.fn fd cs es] .none (.lst (ds.take r ++ [dx] ++ ds.drop r)):=by
 refine def_o (n:=n + 1) (ns:=["a", "x", "lo", "hi", "key"]) (gs:=[.val (.ref b),dx,.int 0,.none,.fn fd cs es]) hX (by kernel_rfl) (by kernel_rfl) (by kernel_rfl) rfl (fun F s vs us B r rk=>?_) fun A L hA=>ins_key_l hX hA K c kX hz
 obtain ⟨v,w,rfl,r1,r2⟩:=rdl2 r
 obtain ⟨z,rfl⟩:=rdl1 rk
 refine ⟨[v,w,.int 0 256,.none,z],fun S=>?_,.cons r1 (.cons r2 (.cons (.int 0 256) (.cons .none rk)))⟩
 kernel_rfl
end
end
section
section
variable {X:Cx} {A:Around} {env:Env} {Γ Γ0:Loc} {Ω:Own} {F F':FS} {s s':Shared}
theorem fm_take {β:Type} {f:D -> Option β} {ds:List D} {i:Nat} {d:D} (hd:ds[i]? = some d):(ds.take (i + 1)).filterMap f = (ds.take i).filterMap f ++ (f d).toList:=by
 rw [List.take_add_one,hd,List.filterMap_append]
 refine congrArg _ ?_
 show List.filterMap f [d] = _
 rw [List.filterMap_cons]
 cases f d <;> rfl
theorem comp_one {e t iter:Expr} {ifs:List Expr} {scope:Scope} {emit:Value -> Env -> Sem Unit} {ds:List D} {al:List Addr} (S:Nat -> OC) {cc0 c:OC} (it:IsComp X e [⟨t,iter,ifs,0⟩] emit) (sc:ScopeOk env scope) (hf:∀ x,foldedSetIterable iter env x = pure x) (hns:∀ x ∈ tgtNames t,(x,NameKind.free) ∉ scope.names) (hit:EvIt X A env Γ Ω t iter ds al)
  (h0:cc0 = S 0) (h1:S ds.length = c) (turn:∀ C i (d:D),ds[i]? = some d -> ∃ Γ₁,(∀ D,AsgI X A (cenvOf scope env C) (capt scope.names Γ) ((D,S i) :: Ω) t d Γ₁) /\ Turn X A (cenvOf scope env C) Γ₁ (capt scope.names Γ) Ω (S i) e [⟨t,iter,ifs,0⟩] emit 0 ifs (tgtNames t) fun c Ω'=>c = S (i + 1) /\ Ω' = Ω) :
  CompD X A env Γ Ω e iter scope emit t ifs [] cc0 c:=
 ⟨it,sc,hf,tgtNames t,ds,al,fun i c Ω'=>c = S i /\ Ω' = Ω,fun zz h=>h,hns,hit,⟨h0,rfl⟩,fun C i d cc1 Ω1 hd h=>by obtain ⟨rfl,rfl⟩:=h; exact turn C i d hd,fun c' Ω' h=>⟨h.1.trans h1,h.2⟩⟩
inductive EmL (X:Cx) (A:Around) (ce:Env) (Γ:Loc) (c:OC) (Ω:Own) (elt:Expr) (o:Option D):Prop
 | mk (d:D) (e:o = some d) (he:∀ D,Ev X A ce Γ ((D,c) :: Ω) elt d)
inductive FmT (X:Cx) (A:Around) (ce:Env) (Γ:Loc) (c:OC) (Ω:Own) (t:Expr) (d:D) (ifs:List Expr) (elt:Expr) (o:Option D):Prop
 | mk (Γ₁:Loc) (ha:∀ D,AsgI X A ce Γ ((D,c) :: Ω) t d Γ₁) (hs:Sub Γ Γ₁) (b:Bool) (ht:∀ D,TestsD X A ce Γ₁ ((D,c) :: Ω) ifs b) (h1:b = true -> EmL X A ce Γ₁ c Ω elt o) (h0:b = false -> o = none)
noncomputable def nsChk (ns:List Str) (scope:Scope):Bool:=scope.names.all fun p=>!(p.2 == .free && ns.contains p.1)
theorem ns_ok {ns:List Str} {scope:Scope} (h:nsChk ns scope = true):∀ x ∈ ns,(x,NameKind.free) ∉ scope.names:=fun x hx hm=>by
 have:=List.all_eq_true.mp h _ hm
 simp at this
 exact this hx
noncomputable def compOk (env:Env) (scope:Scope) (t:Expr):Bool:=scopeChk env scope && nsChk (tgtNames t) scope
theorem comp_of {α:Type} {xs:List α} {h:α -> D} {e t iter:Expr} {ifs:List Expr} {scope:Scope} {emit:Value -> Env -> Sem Unit} {al:List Addr} (S:Nat -> OC) {cc0 c:OC} (it:IsComp X e [⟨t,iter,ifs,0⟩] emit) (hc:compOk env scope t = true) (hf:∀ x,foldedSetIterable iter env x = pure x) (hit:EvIt X A env Γ Ω t iter (xs.map h) al)
  (h0:cc0 = S 0) (h1:S xs.length = c) (turn:∀ C i x,xs[i]? = some x -> ∃ Γ₁,(∀ D,AsgI X A (cenvOf scope env C) (capt scope.names Γ) ((D,S i) :: Ω) t (h x) Γ₁) /\ Turn X A (cenvOf scope env C) Γ₁ (capt scope.names Γ) Ω (S i) e [⟨t,iter,ifs,0⟩] emit 0 ifs (tgtNames t) fun c Ω'=>c = S (i + 1) /\ Ω' = Ω) :
  CompD X A env Γ Ω e iter scope emit t ifs [] cc0 c:=
 comp_one S it (scopeOk (and_l hc)) hf (ns_ok (and_r hc)) hit h0 (by rw [List.length_map]; exact h1) fun C i d hd=>by
  rw [List.getElem?_map] at hd
  obtain ⟨x,hx,rfl⟩:=Option.map_eq_some_iff.mp hd
  exact turn C i x hx
theorem fl_snoc {α β:Type} {xs:List α} {p:α -> Bool} {g:α -> β} {i:Nat} {x:α} (h:xs[i]? = some x):((xs.take (i + 1)).filter p).map g = if p x then ((xs.take i).filter p).map g ++ [g x] else ((xs.take i).filter p).map g:=by
 rw [List.take_add_one,h,List.filter_append,List.map_append]
 show _ ++ (List.filter p [x]).map g = _
 rw [List.filter_cons]
 cases p x
 ·exact List.append_nil _
 ·rfl
theorem fl_len {α β:Type} {xs:List α} {p:α -> Bool} {g:α -> β} {i n:Nat} (hz:xs.length <= n):(((xs.take i).filter p).map g).length <= n:=by
 rw [List.length_map]; exact Nat.le_trans (List.length_filter_le ..) (Nat.le_trans (List.length_take_le' ..) hz)
inductive FlT (X:Cx) (A:Around) (ce:Env) (Γ:Loc) (c:OC) (Ω:Own) (t:Expr) (d:D) (ifs:List Expr) (elt:Expr) (b:Bool) (e:D):Prop
 | mk (Γ₁:Loc) (ha:∀ D,AsgI X A ce Γ ((D,c) :: Ω) t d Γ₁) (hs:Sub Γ Γ₁) (ht:∀ D,TestsD X A ce Γ₁ ((D,c) :: Ω) ifs b) (he:b = true -> ∀ D,Ev X A ce Γ₁ ((D,c) :: Ω) elt e)
theorem lc_filt {α:Type} {xs:List α} {h:α -> D} (p:α -> Bool) (g:α -> D) {elt t iter:Expr} {ifs:List Expr} {scope:Scope} {pos:Pos} {al:List Addr} (hit:EvIt X A env Γ Ω t iter (xs.map h) al) (hz:xs.length <= 1000)
  (turn:∀ C (x:α) (acc:List D),x ∈ xs -> FlT X A (cenvOf scope env C) (capt scope.names Γ) (.lst acc) Ω t (h x) ifs elt (p x) (g x)) (hc:compOk env scope t = true:=by kernel_rfl) (hf:∀ x,foldedSetIterable iter env x = pure x:=by intro _; rfl) :
  CompD X A env Γ Ω (.ListComp elt [⟨t,iter,ifs,0⟩] scope pos) iter scope (emitL elt) t ifs [] (.lst []) (.lst ((xs.filter p).map g)):=
 comp_of (fun i=>.lst (((xs.take i).filter p).map g)) isComp_list hc hf hit rfl (by rw [List.take_length]) fun C i x hx=>
  let ⟨Γ₁,ha,hs,ht,he⟩:=turn C x _ (List.mem_of_getElem? hx)
  ⟨Γ₁,ha,turn_list_emit rfl ht he hs ⟨congrArg OC.lst (fl_snoc hx).symm,rfl⟩ (fl_len hz)⟩
inductive MapT (X:Cx) (A:Around) (ce:Env) (Γ:Loc) (c:OC) (Ω:Own) (t:Expr) (d:D) (elt:Expr) (e:D):Prop
 | mk (Γ₁:Loc) (ha:∀ D,AsgI X A ce Γ ((D,c) :: Ω) t d Γ₁) (hs:Sub Γ Γ₁) (he:∀ D,Ev X A ce Γ₁ ((D,c) :: Ω) elt e)
theorem lc_mapA {α:Type} {xs:List α} {h:α -> D} (g:α -> D) {elt t iter:Expr} {scope:Scope} {pos:Pos} {al:List Addr} (hit:EvIt X A env Γ Ω t iter (xs.map h) al) (hz:xs.length <= 1000)
  (turn:∀ C (x:α) (acc:List D),x ∈ xs -> MapT X A (cenvOf scope env C) (capt scope.names Γ) (.lst acc) Ω t (h x) elt (g x)) (hc:compOk env scope t = true:=by kernel_rfl) (hf:∀ x,foldedSetIterable iter env x = pure x:=by intro _; rfl) :
  CompD X A env Γ Ω (.ListComp elt [⟨t,iter,[],0⟩] scope pos) iter scope (emitL elt) t [] [] (.lst []) (.lst (xs.map g)):=by
 have k:=lc_filt (fun zz=>true) g (pos:=pos) (elt:=elt) hit hz (fun C x acc hx=>let ⟨Γ₁,ha,hs,he⟩:=turn C x acc hx; ⟨Γ₁,ha,hs,fun zz=>tests_nil,fun zz=>he⟩) hc hf
 rwa [List.filter_eq_self.mpr fun zz zz=>rfl] at k
set_option tactic.hygienic true in
theorem capt_sub {x:Str} {d:D} {Γ:Loc} (h:Γ.lookup x = none):Sub Γ (upd Γ x d):=fun y e he=>by
 rw [upd_lookup]
 split
 ·rename_i q; subst q; rw [h] at he; cases he
 ·exact he
theorem Sub.trans {Γ₁ Γ₂ Γ3:Loc} (a:Sub Γ₁ Γ₂) (b:Sub Γ₂ Γ3):Sub Γ₁ Γ3:=fun x d h=>b x d (a x d h)
theorem len_eq {ds:List D} {n:Nat} (h:ds.length = n) (hz:n <= 1000000):CallR X A env Γ Ω (.builtin "len") [.lst ds] (.int (n:Int)):=by
 subst h; exact len_lst hz
theorem len_map {α:Type} {m:List α} {g:α -> D} (hz:m.length <= 1000):CallR X A env Γ Ω (.builtin "len") [.lst (m.map g)] (.int (m.length:Nat)):=len_eq (List.length_map ..) (Nat.le_trans hz (by decide))
theorem ev_at {v e:Expr} {pos:Pos} {i:Nat} {ds:List D} {d:D} (h1:Ev X A env Γ Ω v (.tup ds)) (h2:Ev X A env Γ Ω e (.int (i:Nat))) (h:ds[i]? = some d) (hz:ds.length <= 1000):Ev X A env Γ Ω (.Subscript v e pos) d:=
 ev_sub h1 h2 subT_tup (get_tup (Int.natCast_nonneg i) h (Nat.le_trans hz (by decide)))
theorem ints_0 (n:Nat):intsD 0 n = (List.range n).map fun (i:Nat)=>D.int (i:Nat):=List.map_congr_left fun i zz=>congrArg D.int (Int.zero_add _)
theorem it_nat {x:Str} {p p' pos:Pos} {e:Expr} {n:Nat} (hh:A.handled = none) (hf:Ev X A env Γ Ω (.Name "range" p') (.val (.type "range"))) (ha:Ev X A env Γ Ω e (.int (n:Nat))) (hn:n <= 1000) (he:starEach [e] env = [(false,eval e env)]):EvIt X A env Γ Ω (.Name x p) (.Call (.Name "range" p') [e] [] pos) ((List.range n).map fun (i:Nat)=>D.int (i:Nat)) []:=by
 have h:=it_range1 (x:=x) (p:=p) (pos:=pos) hh hf ha (Int.le_trans (Int.ofNat_le.mpr hn) (by decide)) (Int.le_trans (by decide) (Int.natCast_nonneg n)) he
 rwa [Int.toNat_natCast,ints_0] at h
end
noncomputable def mulS (x:Str) (n:Int):Str:=if n < 1 then Str.empty else if (n == 1 || x.length == 0) = true then x else ⟨(List.replicate n.toNat x.cps).foldl (· ++ ·) #[]⟩
theorem rep_size (xs:Array Nat):∀ (n:Nat) (acc:Array Nat),((List.replicate n xs).foldl (· ++ ·) acc).size = acc.size + n * xs.size
 | 0,acc=>by simp
 | n + 1,acc=>by
  rw [List.replicate_succ,List.foldl_cons,rep_size xs n,Array.size_append,Nat.succ_mul]; omega
set_option tactic.hygienic true in
theorem op_muls {X:Cx} {A:Around} {env:Env} {Γ:Loc} {Ω:Own} {x:Str} {n:Int} (h0:-1000 <= n) (h1:n <= 1000) (hx:x.length <= 1000):Op2 X A env Γ Ω (binaryOp .Mult) (.str x) (.int n) (.str (mulS x n)):=by
 refine fun F s vv1 vv2 I rr1 rr2=>rr1.str_elim fun t=>rr2.int_elim fun u=>?_
 refine PySem.P.mul_str (by rw [decide_eq_false (by omega),decide_eq_false (by omega)]; rfl) (fun a b=>?_) (fun a b=>?_) ?_
 ·have:1000 * n <= 2 ^ 63 - 1:=by omega
  have h2:(1000:Int) <= (2 ^ 63 - 1) / n:=(Int.le_ediv_iff_mul_le (by omega)).mpr this
  omega
 ·have h2:x.length * n.toNat <= 1000 * 1000:=Nat.mul_le_mul hx (by omega)
  exact decide_eq_false (Nat.not_lt.mpr (Nat.le_trans h2 (by decide)))
 ·unfold mulS
  split
  ·exact ⟨by decide,I.res (.str _ _)⟩
  ·split
   ·exact I.res (.str _ _)
   ·rename_i a b
    refine ⟨?_,I.res (.str _ _)⟩
    have h2:n.toNat * x.cps.size <= 1000 * 1000:=Nat.mul_le_mul (by omega) hx
    exact Nat.le_trans (Nat.le_of_eq ((rep_size x.cps n.toNat #[]).trans (by simp))) (Nat.le_trans h2 (by decide))
noncomputable def lt:Nat -> Str
 | 0 => "a"
 | 1 => "b"
 | 2 => "c"
 | _ => "m"
noncomputable def pr (p:Nat × Nat):D:=.tup [.str (lt p.1),.str (lt p.2)]
noncomputable def kS (w:Nat) (x:Str):Str:=if w / 2 = 0 then Str.empty else x
noncomputable def keyN (w:Nat) (p:Nat × Nat):Nat:=if w / 2 = 0 then 0 else p.1
theorem fin4 {P:Nat -> Prop} (h0:P 0) (h1:P 1) (h2:P 2) (h3:P 3):∀ i,i < 4 -> P i
 | 0,_=>h0
 | 1,_=>h1
 | 2,_=>h2
 | 3,_=>h3
 | n + 4,h=>absurd h (by omega)
theorem lt_lt (i j:Nat) (hi:i < 4) (hj:j < 4):decide ((lt i).cps.toList < (lt j).cps.toList) = decide (i < j):=by
 revert j
 refine fin4 (P:=fun i=>∀ j,j < 4 -> decide ((lt i).cps.toList < (lt j).cps.toList) = decide (i < j)) ?_ ?_ ?_ ?_ i hi <;> intro j hj
 ·exact fin4 (P:=fun j=>decide ((lt 0).cps.toList < (lt j).cps.toList) = decide (0 < j)) (by decide +kernel) (by decide +kernel) (by decide +kernel) (by decide +kernel) j hj
 ·exact fin4 (P:=fun j=>decide ((lt 1).cps.toList < (lt j).cps.toList) = decide (1 < j)) (by decide +kernel) (by decide +kernel) (by decide +kernel) (by decide +kernel) j hj
 ·exact fin4 (P:=fun j=>decide ((lt 2).cps.toList < (lt j).cps.toList) = decide (2 < j)) (by decide +kernel) (by decide +kernel) (by decide +kernel) (by decide +kernel) j hj
 ·exact fin4 (P:=fun j=>decide ((lt 3).cps.toList < (lt j).cps.toList) = decide (3 < j)) (by decide +kernel) (by decide +kernel) (by decide +kernel) (by decide +kernel) j hj
theorem lt_eq (i j:Nat) (hi:i < 4) (hj:j < 4):(lt i == lt j) = decide (i = j):=by
 revert j
 refine fin4 (P:=fun i=>∀ j,j < 4 -> (lt i == lt j) = decide (i = j)) ?_ ?_ ?_ ?_ i hi <;> intro j hj
 ·exact fin4 (P:=fun j=>(lt 0 == lt j) = decide (0 = j)) (by decide +kernel) (by decide +kernel) (by decide +kernel) (by decide +kernel) j hj
 ·exact fin4 (P:=fun j=>(lt 1 == lt j) = decide (1 = j)) (by decide +kernel) (by decide +kernel) (by decide +kernel) (by decide +kernel) j hj
 ·exact fin4 (P:=fun j=>(lt 2 == lt j) = decide (2 = j)) (by decide +kernel) (by decide +kernel) (by decide +kernel) (by decide +kernel) j hj
 ·exact fin4 (P:=fun j=>(lt 3 == lt j) = decide (3 = j)) (by decide +kernel) (by decide +kernel) (by decide +kernel) (by decide +kernel) j hj
theorem kS_lt {w:Nat} {p q:Nat × Nat} (hp:p.1 < 4) (hq:q.1 < 4):decide ((kS w (lt p.1)).cps.toList < (kS w (lt q.1)).cps.toList) = decide (keyN w p < keyN w q):=by
 unfold kS keyN
 split
 ·decide +kernel
 ·exact lt_lt _ _ hp hq
theorem kS_eq {w:Nat} {p q:Nat × Nat} (hp:p.1 < 4) (hq:q.1 < 4):(kS w (lt p.1) == kS w (lt q.1)) = decide (keyN w p = keyN w q):=by
 unfold kS keyN
 split
 ·decide +kernel
 ·exact lt_eq _ _ hp hq
theorem mulS_k {w:Nat} (hw:w < 4) (i:Nat):mulS (lt i) ((w / 2:Nat):Int) = kS w (lt i):=by
 have h:w / 2 = 0 \/ w / 2 = 1:=by omega
 unfold mulS kS
 rcases h with h | h <;> rw [h] <;> rfl
theorem lt_len (i:Nat):(lt i).length = 1:=by
 unfold lt; split <;> rfl
theorem fdiv2 (w:Nat):((w:Int)).fdiv 2 = ((w / 2:Nat):Int):=by
 rw [Int.fdiv_eq_ediv_of_nonneg _ (by decide)]; omega
theorem fmod2 (w:Nat):((w:Int)).fmod 2 = ((w % 2:Nat):Int):=by
 rw [Int.fmod_eq_emod_of_nonneg _ (by decide)]; omega
section
variable {X:Cx} {P:Params}
structure XOk2 (X:Cx) (P:Params):Prop extends XOk X P where
 lay:((103:Addr),(101:Addr)) ∈ X.tabs /\ X.qn 101 = "_law_lay.<locals>.<lambda>"
 law:((135:Addr),(133:Addr)) ∈ X.tabs /\ X.qn 133 = "law.<locals>.<lambda>"
noncomputable def layN (w:Nat) (ws:List (Nat × Nat)) (x:Nat × Nat):Nat:=ws.countP fun p=>decide (keyN w p < keyN w x) || (decide (w % 2 = 0) && decide (keyN w p = keyN w x))
noncomputable def lay1 (w:Nat) (ws:List (Nat × Nat)) (x:Nat × Nat):List (Nat × Nat):=ws.take (layN w ws x) ++ [x] ++ ws.drop (layN w ws x)
end
end
section
theorem cut_at {α:Type} {q:α -> Bool} {d:α}:∀ {ws:List α},ws.Pairwise (fun a b=>q a = true -> q b = true) -> ∀ i,i < ws.length -> q (ws.getD i d) = decide ((ws.countP fun p=>!q p) <= i)
 | [],_,_,h=>absurd h (Nat.not_lt_zero _)
 | a :: r,hp,i,h=>by
  obtain ⟨h1,h2⟩:=List.pairwise_cons.mp hp
  cases ha:q a with
  | true=>
   have hz:(a :: r).countP (fun p=>!q p) = 0:=List.countP_eq_zero.mpr (List.forall_mem_cons.mpr ⟨by rw [ha]; exact Bool.false_ne_true,fun b hb=>by rw [h1 b hb ha]; exact Bool.false_ne_true⟩)
   rw [hz,decide_eq_true (Nat.zero_le i)]
   cases i with
   | zero=>exact ha
   | succ j=>
    have hj:=Nat.lt_of_succ_lt_succ h
    rw [List.getD_cons_succ,List.getD_eq_getElem?_getD,List.getElem?_eq_getElem hj]
    exact h1 _ (List.getElem_mem hj) ha
  | false=>
   rw [List.countP_cons_of_pos (by rw [ha]; rfl)]
   cases i with
   | zero=>exact ha
   | succ j=>exact (cut_at h2 j (Nat.lt_of_succ_lt_succ h)).trans (decide_eq_decide.mpr Nat.succ_le_succ_iff.symm)
theorem cut_list {α:Type} {q:α -> Bool} {d:α} {ws:List α} (h:ws.Pairwise fun a b=>q a = true -> q b = true):Cut (fun i=>q (ws.getD i d)) 0 ws.length (ws.countP fun p=>!q p):=
 ⟨Nat.zero_le _,List.countP_le_length,fun m zz hm=>cut_at h m hm⟩
noncomputable def Sorted (w:Nat) (ws:List (Nat × Nat)):Prop:=ws.Pairwise fun p q=>keyN w p <= keyN w q
noncomputable def layQ (w:Nat) (x p:Nat × Nat):Bool:=if w % 2 = 0 then decide (keyN w x < keyN w p) else !decide (keyN w p < keyN w x)
section
variable {w:Nat} {ws:List (Nat × Nat)} {x:Nat × Nat}
theorem lay_not (p:Nat × Nat):(decide (keyN w p < keyN w x) || (decide (w % 2 = 0) && decide (keyN w p = keyN w x))) = !layQ w x p:=by
 unfold layQ
 by_cases hw:w % 2 = 0
 ·rw [if_pos hw,decide_eq_true hw,Bool.true_and,<- Bool.decide_or,<- decide_not]
  exact decide_eq_decide.mpr (Nat.le_iff_lt_or_eq.symm.trans Nat.not_lt.symm)
 ·rw [if_neg hw,decide_eq_false hw,Bool.false_and,Bool.or_false,Bool.not_not]
theorem layN_eq:layN w ws x = ws.countP fun p=>!layQ w x p:=congrArg (fun f=>ws.countP f) (funext lay_not)
theorem lay_cut (h:Sorted w ws):Cut (fun i=>layQ w x (ws.getD i (0,0))) 0 ws.length (layN w ws x):=layN_eq ▸ cut_list (h.imp fun {a b} hab=>by
 unfold layQ
 split
 ·exact fun q=>decide_eq_true (Nat.lt_of_lt_of_le (of_decide_eq_true q) hab)
 ·rw [<- decide_not,<- decide_not]
  exact fun q=>decide_eq_true (Nat.not_lt.mpr (Nat.le_trans (Nat.not_lt.mp (of_decide_eq_true q)) hab)))
theorem bis_lay_r (h:Sorted w ws) (hw:w % 2 = 0):Cut (fun i=>decide (keyN w x < keyN w (ws.getD i (0,0)))) 0 ws.length (layN w ws x):=(show (fun i=>layQ w x (ws.getD i (0,0))) = _ from funext fun i=>if_pos hw) ▸ lay_cut h
theorem bis_lay_l (h:Sorted w ws) (hw:w % 2 ≠ 0):Cut (fun i=>!decide (keyN w (ws.getD i (0,0)) < keyN w x)) 0 ws.length (layN w ws x):=(show (fun i=>layQ w x (ws.getD i (0,0))) = _ from funext fun i=>if_neg hw) ▸ lay_cut h
theorem layQ_f {p:Nat × Nat} (h:layQ w x p = false):keyN w p <= keyN w x:=by
 unfold layQ at h
 split at h
 ·exact Nat.not_lt.mp (of_decide_eq_false h)
 ·rw [<- decide_not] at h; exact Nat.le_of_lt (Nat.lt_of_not_le fun q=>of_decide_eq_false h (Nat.not_lt.mpr q))
theorem layQ_t {p:Nat × Nat} (h:layQ w x p = true):keyN w x <= keyN w p:=by
 unfold layQ at h
 split at h
 ·exact Nat.le_of_lt (of_decide_eq_true h)
 ·rw [<- decide_not] at h; exact Nat.not_lt.mp (of_decide_eq_true h)
theorem layN_le (w:Nat) (ws:List (Nat × Nat)) (x:Nat × Nat):layN w ws x <= ws.length:=List.countP_le_length
theorem lay1_sorted (h:Sorted w ws):Sorted w (lay1 w ws x):=by
 have c:=lay_cut (x:=x) h
 unfold lay1 Sorted
 generalize layN w ws x = n at c
 have at_:∀ i (hi:i < ws.length),layQ w x ws[i] = decide (n <= i):=fun i hi=>by
  have:=c.at_ i (Nat.zero_le i) hi
  rwa [List.getD_eq_getElem?_getD,List.getElem?_eq_getElem hi] at this
 have hx1:∀ p ∈ ws.take n,keyN w p <= keyN w x:=fun p hp=>by
  obtain ⟨i,hi,rfl⟩:=List.mem_iff_getElem.mp hp
  rw [List.length_take] at hi
  rw [List.getElem_take]
  exact layQ_f ((at_ i _).trans (decide_eq_false (Nat.not_le.mpr (Nat.lt_of_lt_of_le hi (Nat.min_le_left ..)))))
 have hx2:∀ p ∈ ws.drop n,keyN w x <= keyN w p:=fun p hp=>by
  obtain ⟨i,hi,rfl⟩:=List.mem_iff_getElem.mp hp
  rw [List.getElem_drop]
  exact layQ_t ((at_ (n + i) _).trans (decide_eq_true (Nat.le_add_right ..)))
 rw [List.pairwise_append,List.pairwise_append]
 refine ⟨⟨h.sublist (List.take_sublist ..),List.pairwise_singleton ..,fun p hp q hq=>by rw [List.mem_singleton.mp hq]; exact hx1 p hp⟩,h.sublist (List.drop_sublist ..),fun p hp q hq=>?_⟩
 rcases List.mem_append.mp hp with hp | hp
 ·exact Nat.le_trans (hx1 p hp) (hx2 q hq)
 ·rw [List.mem_singleton.mp hp]; exact hx2 q hq
end
end
section
section
variable {X:Cx} {P:Params}
noncomputable def layAll (w:Nat) (ws:List (Nat × Nat)) (row:List Nat) (c:Nat):List (Nat × Nat):=row.foldl (fun ws l=>lay1 w ws (l,c)) ws
theorem lay1_mem {w:Nat} {ws:List (Nat × Nat)} {x:Nat × Nat} {p:Nat × Nat} (h:p ∈ lay1 w ws x):p ∈ ws \/ p = x:=by
 unfold lay1 at h
 rcases List.mem_append.mp h with h | h
 ·rcases List.mem_append.mp h with h | h
  ·exact .inl (List.mem_of_mem_take h)
  ·exact .inr (List.mem_singleton.mp h)
 ·exact .inl (List.mem_of_mem_drop h)
theorem lay1_length (w:Nat) (ws:List (Nat × Nat)) (x:Nat × Nat):(lay1 w ws x).length = ws.length + 1:=by
 have:=layN_le w ws x
 simp [lay1]; omega
theorem layAll_ok (w c:Nat) (hc:c < 4):∀ (row:List Nat) (ws:List (Nat × Nat)),(∀ l ∈ row,l < 4) -> Sorted w ws -> (∀ p ∈ ws,p.1 < 4 /\ p.2 < 4) -> Sorted w (layAll w ws row c) /\ (∀ p ∈ layAll w ws row c,p.1 < 4 /\ p.2 < 4) /\ (layAll w ws row c).length = ws.length + row.length
 | [],ws,_,h2,h3=>⟨h2,h3,rfl⟩
 | l :: row,ws,h1,h2,h3=>by
  obtain ⟨a,b,d⟩:=layAll_ok w c hc row (lay1 w ws (l,c)) (fun l' h=>h1 l' (List.mem_cons_of_mem _ h)) (lay1_sorted h2) fun p hp=>by
   rcases lay1_mem hp with h | h
   ·exact h3 p h
   ·rw [h]; exact ⟨h1 l (List.mem_cons_self ..),hc⟩
  exact ⟨a,b,by rw [show layAll w ws (l :: row) c = layAll w (lay1 w ws (l,c)) row c from rfl,d,lay1_length]; simp; omega⟩
theorem nf_pr (p:Nat × Nat):NF X (pr p):=NF.tup (ds:=[.str (lt p.1),.str (lt p.2)]) (NFL.of (ds:=[.str (lt p.1),.str (lt p.2)]) (Each.mem ⟨NF.str,NF.str,trivial⟩))
theorem eqs_pr (p:Nat × Nat):Eqs X 1 (pr p):=Eqs.tup (ds:=[.str (lt p.1),.str (lt p.2)]) (Each.mem ⟨Eqs.str,Eqs.str,trivial⟩)
theorem lay_sign {fd:FuncData} {body:Expr} {cw:Addr} {w:Nat} (hw:w < 4) (ok:LamOk fd body "w") (hcl:fd.closure = [(("way" : Str),cw)]) (hyk:fd.scope.names.lookup ("way" : Str) ≠ some NameKind.local)
  (hb:∀ (A:Around) L fa (x:Str),Room A 0 -> x.length <= 1000 -> ∀ c,Ev X A (lenv fd L fa) [("w",.tup [.str x,c]),("way",.int w)] [] body (.str (mulS x ((w / 2:Nat):Int)))) (p:Nat × Nat):KeyF X 1 fd [cw] [.int w] [pr p] (.str (kS w (lt p.1))):=by
 refine keyF1 (y := "way") ok hcl (by decide +kernel) hyk (nf_pr p) NF.int fun A L fa hA=>?_
 rw [<- mulS_k hw]
 exact hb A L fa _ hA (by rw [lt_len]; decide) _
theorem beq0 (n:Nat):(((n:Nat):Int) == 0) = decide (n = 0):=by
 rw [Bool.eq_iff_iff]; simp
set_option tactic.hygienic true in
theorem lay_walk (hX:XOk2 X P) {A:Around} (hA:Room A 10) {L:Addr} {b:Addr} (ws:List (Nat × Nat)) (row:List Nat) (c:Nat) (w:Nat) (hw:w < 4) (hc:c < 4) (hrow:∀ l ∈ row,l < 4) (hws:∀ p ∈ ws,p.1 < 4 /\ p.2 < 4) (hs:Sorted w ws) (hlen:ws.length + row.length <= 100) :
  Exs X A (envF P 104 L) [("waiting",.val (.ref b)),("row",.lst (row.map fun i=>.str (lt i))),("caller",.str (lt c)),("way",.int w)] [(b,.lst (ws.map pr))] (fbK P 104) (fun fd zz Ω'=>(fd = .ret (.bool true) \/ (fd = .next /\ D.bool true = .none)) /\ (b,OC.lst ((layAll w ws row c).map pr)) ∈ Ω'):=by
 have hh:=hA.h
 refine exs_cons (ex_assign_ts (evs_tuple (evsl_cons (evs_of (ev_bin va ev_int (op_fdiv (by decide) (by kernel_rfl))) ?_) rfl)) rfl rfl)
 rw [fdiv2]
 refine evsl_cons ((ev_lambda (c:=103) (Pt:=101) rfl hX.lay.1 (by rw [hX.lay.2]; kernel_rfl) (closure_eq (by kernel_rfl)) rfl).imp ?_) rfl
 rintro d Ω' ⟨c',ctv,pm,rfl,rfl⟩
 refine evsl_nil ⟨by simp,_,_,rfl,asg_tuple hA.h (an (an asgl_nil)) rfl rfl,?_⟩
 obtain ⟨cw,hcw⟩:∃ cw,(envF P 104 L).cells.lookup ("way" : Str) = some cw:=⟨_,rfl⟩
 have hcl:clFrom (envF P 104 L) [(("w" : Str),NameKind.local),(("way" : Str),NameKind.free)] = [(("way" : Str),cw)]:=by
  show (match ((envF P 104 L).cells.lookup ("way" : Str)).map fun d=>(("way" : Str),d) with | some c=>[c] | none=>[]).reverse = _
  rw [hcw]; rfl
 generalize hfd:(kla_fn (Str.ofString "<lambda>") _ _ _ _ _ pm (Value.ref c') ctv) = fdS
 have KS:∀ p:Nat × Nat,KeyF X 1 fdS [cw] [.int w] [pr p] (.str (kS w (lt p.1))):=fun p=>by
  subst hfd
  refine lay_sign hw ⟨rfl,rfl,rfl,rfl,fun v=>by kernel_rfl,by kernel_rfl,(show ∀ y ∈ [(("w" : Str),NameKind.local),(("way" : Str),NameKind.free)],y.2 ≠ NameKind.cell by simp),rfl,rfl⟩ hcl (by show (some NameKind.free:Option NameKind) ≠ some .local; decide) (fun A L fa x hA hx c=>?_) p
  rw [<- fdiv2]
  exact ev_bin (ev_sub va ev_int subT_tup (get_tup (by decide) rfl (nle rfl))) (ev_bin va ev_int (op_fdiv (by decide) (by kernel_rfl))) (op_muls (by rw [fdiv2]; omega) (by rw [fdiv2]; omega) hx)
 clear hfd
 show Exs X A _ _ _ _ _
 refine exs_for (G:=fun i=>([("waiting",.val (.ref b)),("caller",.str (lt c)),("way",.int w),("by",.int ((w / 2:Nat):Int)),("sign",.fn fdS [] [])]:Loc)) (W:=fun i=>[(b,OC.lst ((layAll w ws (row.take i) c).map pr))]) (it_list hh va) rfl (sub_cons (by rfl) (sub_cons (by rfl) (sub_cons (by rfl) (sub_cons (by rfl) (sub_cons (by rfl) sub_nil))))) ?_ ?_
 ·intro i d hd
  rw [List.getElem?_map] at hd
  obtain ⟨l,hl,rfl⟩:=Option.map_eq_some_iff.mp hd
  have hl4:l < 4:=hrow l (List.mem_of_getElem? hl)
  obtain ⟨s1,s2,s3⟩:=layAll_ok w c hc (row.take i) ws (fun l' h=>hrow l' (List.mem_of_mem_take h)) hs hws
  have hstep:layAll w ws (row.take (i + 1)) c = lay1 w (layAll w ws (row.take i) c) (l,c):=by
   unfold layAll
   rw [List.take_add_one,hl,List.foldl_append]; rfl
  have hfin:[(b,OC.lst ((lay1 w (layAll w ws (row.take i) c) (l,c)).map pr))] = [(b,OC.lst ((layAll w ws (row.take (i + 1)) c).map pr))]:=by rw [hstep]
  generalize layAll w ws (row.take i) c = vs at *
  have hb:(b,OC.lst (vs.map pr)) ∈ [(b,OC.lst (vs.map pr))]:=List.mem_singleton.mpr rfl
  have hvs:vs.length <= 1000:=Nat.le_trans (Nat.le_of_eq s3) (Nat.le_trans (Nat.add_le_add_left (List.length_take_le' ..) _) (Nat.le_trans hlen (by decide)))
  have hvl:(vs.map pr).length <= 1000:=by rwa [List.length_map]
  refine ⟨_,asgI_name,exs_cons (ex_assign (d:=.int (layN w vs (l,c))) ?_ (by kernel_rfl) ?_ rfl)⟩
  ·rw [layN,List.countP_eq_length_filter]
   refine ev_call (fv:=.builtin "len") (eb hX.toXOk) (fun zz=>kp_b) (evl_cons (EvO.ev (evo_lc (lc_filt (fun p=>decide (keyN w p < keyN w (l,c)) || (decide (w % 2 = 0) && decide (keyN w p = keyN w (l,c)))) pr (it_own hh va hb) hvs fun C p acc hp=>⟨_,fun D=>asgI_name,capt_sub (by rfl),fun D=>tests_one ?_,fun zz D=>va⟩))) evl_nil rfl) (len_map (Nat.le_trans (List.length_filter_le ..) hvs)) rfl rfl
   have hp4:=(s2 p hp).1
   rw [<- kS_lt (p:=p) (q:=(l,c)) hp4 hl4,<- kS_eq (p:=p) (q:=(l,c)) hp4 hl4,<- beq0,<- fmod2,<- mulS_k hw,<- mulS_k hw]
   refine evt_or2 (evt_cmp (ev_bin (ev_at (i:=0) (ds:=[.str (lt p.1),.str (lt p.2)]) va ev_int rfl (nle rfl)) va (op_muls (by omega) (by omega) (by rw [lt_len]; decide))) (ev_bin va va (op_muls (by omega) (by omega) (by rw [lt_len]; decide))) op_lts rfl) fun zz=>evt_and2 (evt_cmp (ev_bin va ev_int (op_mod (by decide))) ev_int op_eqi rfl) fun zz=>evt_cmp (ev_bin (ev_at (i:=0) (ds:=[.str (lt p.1),.str (lt p.2)]) va ev_int rfl (nle rfl)) va (op_muls (by omega) (by omega) (by rw [lt_len]; decide))) (ev_bin va va (op_muls (by omega) (by omega) (by rw [lt_len]; decide))) op_eqs rfl
  ·have hn:=layN_le w vs (l,c)
   refine exs_cons (ex_assign (d:=.lst ((lay1 w vs (l,c)).map pr)) ?_ (by kernel_rfl) ?_ rfl)
   ·have e:(lay1 w vs (l,c)).map pr = ((vs.map pr).take (layN w vs (l,c)) ++ [pr (l,c)]) ++ (vs.map pr).drop (layN w vs (l,c)):=by
     simp [lay1]
    rw [e]
    exact ev_bin (ev_bin (ev_upto_own va hb va (by omega)) (ev_list (evl_cons (ev_tuple (evl_cons va (evl_cons va evl_nil rfl) rfl) (nle rfl)) evl_nil rfl) (by simp)) (op_addl (by simp only [List.length_append,List.length_take,List.length_drop,List.length_cons,List.length_nil]; omega))) (ev_from_own va hb va (by omega)) (op_addl (by simp only [List.length_append,List.length_take,List.length_drop,List.length_cons,List.length_nil]; omega))
   ·have hkx:KeyF X 1 fdS [cw] [.int w] [pr (l,c)] (.str (kS w (lt l))):=KS (l,c)
    have hK:KeyOn X 1 fdS [cw] [.int w] (vs.map pr) (fun i=>kS w (lt (vs.getD i (0,0)).1)):=⟨fun i d hd=>by
     rw [List.getElem?_map] at hd
     obtain ⟨p,hp,rfl⟩:=Option.map_eq_some_iff.mp hd
     have:vs.getD i (0,0) = p:=by rw [List.getD_eq_getElem?_getD,hp]; rfl
     simp only [this]
     exact KS p⟩
    have hg4:∀ i,(vs.getD i (0,0)).1 < 4:=fun i=>by
     rw [List.getD_eq_getElem?_getD]
     cases hv:vs[i]? with
     | none=>decide
     | some p=>exact (s2 p (List.mem_of_getElem? hv)).1
    have er:∀ i,decide ((kS w (lt l)).cps.toList < (kS w (lt (vs.getD i (0,0)).1)).cps.toList) = decide (keyN w (l,c) < keyN w (vs.getD i (0,0))):=fun i=>kS_lt (p:=(l,c)) hl4 (hg4 i)
    have el:∀ i,decide ((kS w (lt (vs.getD i (0,0)).1)).cps.toList < (kS w (lt l)).cps.toList) = decide (keyN w (vs.getD i (0,0)) < keyN w (l,c)):=fun i=>kS_lt (q:=(l,c)) (hg4 i) hl4
    have hnf:NFL X ((lay1 w vs (l,c)).map pr):=NFL.of (all_map nf_pr)
    have hmap:(lay1 w vs (l,c)).map pr = (vs.map pr).take (layN w vs (l,c)) ++ [pr (l,c)] ++ (vs.map pr).drop (layN w vs (l,c)):=by simp [lay1]
    have hzz:(vs.map pr).length <= 1000000:=by omega
    refine exs_cons (ex_expr_s (evs_ife (b:=decide (w % 2 = 0)) (by rw [<- beq0,<- fmod2]; exact evt_cmp (ev_bin va ev_int (op_mod (by decide))) ev_int op_eqi rfl) (fun he=>?_) (fun he=>?_)) rfl rfl)
    ·have cr:=c_ins_r hX.toXOk (b:=b) (dx:=pr (l,c)) (r:=layN w vs (l,c)) hK (by rw [List.length_map]; simp only [er]; exact bis_lay_r s1 (of_decide_eq_true he)) hkx hzz
     rw [<- hmap] at cr
     refine evs_call_kw_fn (y := "way") (dy:=.int w) (cw:=cw) (n:=3) (fv:=.ref 44) (hA.le (by decide)) (eg hX.toXOk) (fun zz=>kp_k (by rw [hX.k]; kernel_rfl)) (evl_cons va (evl_cons (ev_tuple (evl_cons va (evl_cons va evl_nil rfl) rfl) (nle rfl)) evl_nil rfl) rfl) (evk_cons va evk_nil) hb (by rfl) (fun q=>nomatch (show some NameKind.cell = some NameKind.local from q)) hcw cr hnf ⟨rfl,?_⟩ rfl rfl rfl rfl
     rw [oset1]
     have hu:=hA.u
     exact exs_cons (ex_if (b:=false) (evt_cmp va va (op_nel' (n:=1) (own_d (List.mem_singleton.mpr rfl)) lst_d (by omega) (all_map eqs_pr)) rfl) (fun h=>nomatch h) (fun zz=>exs_nil (exs_nil ⟨sub_pre 5 rfl,hfin⟩)))
    ·have cl:=c_ins_l hX.toXOk (b:=b) (dx:=pr (l,c)) (r:=layN w vs (l,c)) hK (by rw [List.length_map]; simp only [el]; exact bis_lay_l s1 (of_decide_eq_false he)) hkx hzz
     rw [<- hmap] at cl
     refine evs_call_kw_fn (y := "way") (dy:=.int w) (cw:=cw) (n:=3) (fv:=.ref 62) (hA.le (by decide)) (eg hX.toXOk) (fun zz=>kp_k (by rw [hX.k]; kernel_rfl)) (evl_cons va (evl_cons (ev_tuple (evl_cons va (evl_cons va evl_nil rfl) rfl) (nle rfl)) evl_nil rfl) rfl) (evk_cons va evk_nil) hb (by rfl) (fun q=>nomatch (show some NameKind.cell = some NameKind.local from q)) hcw cl hnf ⟨rfl,?_⟩ rfl rfl rfl rfl
     rw [oset1]
     have hu:=hA.u
     exact exs_cons (ex_if (b:=false) (evt_cmp va va (op_nel' (n:=1) (own_d (List.mem_singleton.mpr rfl)) lst_d (by omega) (all_map eqs_pr)) rfl) (fun h=>nomatch h) (fun zz=>exs_nil (exs_nil ⟨sub_pre 5 rfl,hfin⟩)))
 ·rw [List.length_map,List.take_length]
  exact exs_cons (ex_return ev_bool ⟨.inl rfl,List.mem_singleton.mpr rfl⟩)
theorem c_lay (hX:XOk2 X P) {b:Addr} (ws:List (Nat × Nat)) (row:List Nat) (c:Nat) (w:Nat) (hw:w < 4) (hc:c < 4) (hrow:∀ l ∈ row,l < 4) (hws:∀ p ∈ ws,p.1 < 4 /\ p.2 < 4) (hs:Sorted w ws) (hlen:ws.length + row.length <= 100) :
  CallO X 11 (.ref 104) b (.lst (ws.map pr)) [] [.val (.ref b),.lst (row.map fun i=>.str (lt i)),.str (lt c),.int w] [] (.bool true) (.lst ((layAll w ws row c).map pr)):=by
 refine def_o (n:=10) (ns:=["waiting", "row", "caller", "way"]) (gs:=[.val (.ref b),.lst (row.map fun i=>.str (lt i)),.str (lt c),.int w]) hX.toXOk (by kernel_rfl) (by kernel_rfl) (by kernel_rfl) rfl (fun F s vs us B r rk=>⟨vs,?_,r⟩) fun A L hA=>lay_walk hX hA ws row c w hw hc hrow hws hs hlen
 obtain ⟨v,u,y,z,rfl,_⟩:=rdl4 r
 rw [rdl0 rk]
 exact fun S=>by kernel_rfl
end
end
section
section
variable {X:Cx} {A:Around} {env:Env} {Γ Γ₁:Loc} {F F':FS} {s s':Shared} {Pv Pv1:List Addr} {F0:FS} {ss0:Shared} {rr:Result} {ds:List D} {c:Code} {fs:List Frame}
variable {K:Flow -> Sem PySem.Fin} {H:Value -> Sem PySem.Fin} {gd:Bool -> Bool} {lv:List Value -> List Value}
abbrev KeptP (env:Env) (Pv:List Addr) (s s':Shared):Prop:=∀ b ∈ Pv,b ≠ env.locals -> ∀ o,s.heap.get? b = some o -> s'.heap.get? b = some o
set_option tactic.hygienic true in
theorem gs_stmt {st:Stmt} (g:GS X env Pv Pv1 F0 ss0 F Γ s) (h:Ex X (A.over c fs) env Γ [] st (fun fd Γ' Ω'=>fd = .next /\ Γ' = Γ₁ /\ Ω' = []))
  (k:∀ F' s',GS X env Pv Pv1 F0 ss0 F' Γ₁ s' -> KeptP env Pv1 s s' -> GSeg X A rr ds Pv F0 ss0 c (K .next) fs s'):GSeg X A rr ds Pv F0 ss0 c ((exec st env).wrap K H gd lv) fs s:=by
 refine gseg_wrap (wpAny_mono (h F s g.inv) (fun f s' p=>?_) fun zz zz e=>e)
 obtain ⟨F',Γ',Ω',fd,⟨rfl,rfl,rfl⟩,rf,I',y⟩:=p
 cases f <;> first | exact rf.elim | skip
 exact k F' s' (g.step I' y).1 (g.step I' y).2
theorem gs_if {test:Expr} {body orelse:List Stmt} {pos:Pos} {b:Bool} (g:GS X env Pv Pv1 F0 ss0 F Γ s) (h:EvT X (A.over c fs) env Γ [] test b)
  (k:∀ F' s',GS X env Pv Pv1 F0 ss0 F' Γ s' -> KeptP env Pv1 s s' -> GSeg X A rr ds Pv F0 ss0 c ((execs (if b = true then body else orelse) env).wrap K H gd lv) fs s'):GSeg X A rr ds Pv F0 ss0 c ((exec (.If test body orelse pos) env).wrap K H gd lv) fs s:=
 gseg_If (evt_then g.inv (h F s g.inv) fun F1 ss1 x I1=>k F1 ss1 (g.step I1 x.toS).1 (g.step I1 x.toS).2)
set_option tactic.hygienic true in
theorem gs_yield {e:Expr} {d:D} {ypos pos:Pos} (g:GS X env Pv Pv1 F0 ss0 F Γ s) (h:Ev X (A.over c fs) env Γ [] e d)
  (k:∀ F' s',GS X env Pv1 Pv1 F' s' F' Γ s' -> KeptP env Pv1 s s' -> GSeg X A rr ds Pv1 F' s' c (K .next) fs s')
  (hfs:splitAtGen fs = none:=by rfl) (hgd:gd false = false:=by rfl) (hfg:fs.any Frame.guarded = false:=by rfl)
  (hco:env.scope.isCoroutine = false:=by kernel_rfl) (hi:interactive env = false:=by kernel_rfl):GSeg X A rr (d :: ds) Pv F0 ss0 c ((exec (.Expr (.Yield (some e) ypos) pos) env).wrap K H gd lv) fs s:=by
 refine gseg_Yield hfs hgd hfg (wpAny_mono (h F s g.inv) (fun v ss1 hh1=>?_) fun zz zz e=>e) hco hi
 obtain ⟨F1,x1,rr1⟩:=hh1
 have gg1:=g.step (g.inv.ext x1) x1.toS
 refine ⟨F1,Pv1,gg1.1.x,rr1,fun F'' s'' y=>k F'' s'' (gg1.1.ofLater y) fun b hb hl o e=>(y.keep b hb).2 o (gg1.2 b hb hl o e)⟩
end
noncomputable def bsl:Str := "\\"
noncomputable def escOut (i:Nat) (esc:Bool) (ch:Str):List D:=if esc then [.tup [.int i,.str (bsl ++ ch)]] else if ch == bsl then [] else [.tup [.int i,.str ch]]
noncomputable def escNext (esc:Bool) (ch:Str):Bool:=if esc then false else ch == bsl
noncomputable def escEnd (esc:Bool) (p:Int):List D:=if esc then [.tup [.int p,.str bsl]] else []
noncomputable def escOuts:List Str -> Nat -> Bool -> Int -> List D
 | [],_,esc,p=>escEnd esc p
 | ch :: r,i,esc,_=>escOut i esc ch ++ escOuts r (i + 1) (escNext esc ch) i
noncomputable def escAll (x:Str):List D:=escOuts (PyProof.Rows.signs x) 0 false 0
section
variable {X:Cx} {P:Params} {A:Around} {L:Addr}
abbrev escΓ (x:Str) (p:Int) (esc:Bool):Loc:=[("addr",.str x),("pos",.int p),("escape",.bool esc)]
theorem esc_tail (hX:XOk X P) {x:Str} {p:Int} {esc:Bool} {Pv Pv1:List Addr} {F0 F:FS} {ss0 s:Shared} {H':Value -> Sem PySem.Fin} (g:GS X (envF P 78 L) Pv Pv1 F0 ss0 F (escΓ x p esc) s) :
  GSeg X A (.ok (.ret .none)) (escEnd esc p) Pv F0 ss0 (.func (fbK P 78) (envF P 78 L)) ((execs ((fbK P 78).drop 3) (envF P 78 L)).wrap (fun f=>.pure (.done (.ret (match f with | .ret v=>v | _=>.none)))) H' id id) [] s:=by
 refine gseg_cons (gs_if g (b:=esc) (evt_val va tru_bool (by rfl)) fun F1 ss1 gg1 zz=>?_)
 cases esc with
 | true=>
  refine gseg_cons (gs_yield gg1 (ev_tuple (evl_cons va (evl_cons ev_str evl_nil rfl) rfl) (by simp)) fun F2 ss2 gg2 zz=>?_)
  exact gseg_end gg2.close
 | false=>exact gseg_end gg1.close
noncomputable def forAt (b:List Stmt):Expr × Expr × List Stmt:=match b.drop 2 with
 | .For t it body _ _ :: _=>(t,it,body)
 | _=>(.Constant .none 0 ⟨0,0,0,0⟩,.Constant .none 0 ⟨0,0,0,0⟩,[])
theorem escOuts_cons {x:Str} {i:Nat} {cp:Nat} (h:x.cps[i]? = some cp) (esc:Bool) (p:Int):escOuts ((PyProof.Rows.signs x).drop i) i esc p = escOut i esc ⟨#[cp]⟩ ++ escOuts ((PyProof.Rows.signs x).drop (i + 1)) (i + 1) (escNext esc ⟨#[cp]⟩) i:=by
 have hlt:i < (PyProof.Rows.signs x).length:=by
  have:=(Array.getElem?_eq_some_iff.mp h).1
  simpa [PyProof.Rows.signs] using this
 rw [List.drop_eq_getElem_cons hlt]
 have:(PyProof.Rows.signs x)[i] = (⟨#[cp]⟩:Str):=by
  obtain ⟨h1,h2⟩:=Array.getElem?_eq_some_iff.mp h
  simp [PyProof.Rows.signs,h2]
 rw [this]; rfl
noncomputable abbrev escC (P:Params) (L:Addr) (e:Addr):Code:=.forLoop (forAt (fbK P 78)).1 (.ref e) (forAt (fbK P 78)).2.2 [] (envF P 78 L)
set_option tactic.hygienic true in
theorem esc_loop (hX:XOk X P) (hh:A.handled = none) {x:Str} (hx:x.length <= 100000) {K:Flow -> Sem PySem.Fin} {kr:Result -> Sem PySem.Fin} {l:List Value} {pp0:Pos} {e i0:Addr} {St:Nat -> Heap -> Prop} (hkr:∀ f,kr (.ok f) = K f)
  (hfp:∀ b ∈ [e,i0],b ≠ L) (live:∀ i h,St i h -> ∀ b ∈ [e,i0],∃ o,h.get? b = some o)
  (turns:∀ A':Around,A'.handled = none -> ∃ Md,KTurns X.prog X.w A' (forAt (fbK P 78)).1 e [e,i0] [e,i0] x.cps.size (PEnum x) Md St)
  (cont:∀ p esc Pv Pv1 F0 F ss0 s,GS X (envF P 78 L) Pv Pv1 F0 ss0 F (escΓ x p esc) s -> GSeg X A (.ok (.ret .none)) (escEnd esc p) Pv F0 ss0 (.func (fbK P 78) (envF P 78 L)) (K .next) [] s) :
  ∀ (n i:Nat) (p:Int) (esc:Bool) Pv Pv1 F0 F ss0 s,i + n = x.cps.size -> GS X (envF P 78 L) Pv Pv1 F0 ss0 F (escΓ x p esc) s -> (∀ b ∈ [e,i0],b ∈ Pv1) -> St i s.heap ->
   GSeg X A (.ok (.ret .none)) (escOuts ((PyProof.Rows.signs x).drop i) i esc p) Pv F0 ss0 (escC P L e) (X.M.den (escC P L e)) [.ret kr none false l (.func (fbK P 78) (envF P 78 L)) pp0 []] s:=by
 have hlen:(PyProof.Rows.signs x).length = x.cps.size:=by simp [PyProof.Rows.signs]
 intro n
 induction n with
 | zero=>
  intro i p esc Pv Pv1 F0 F ss0 s hi g hsub hst
  have hin:i = x.cps.size:=by omega
  subst hin
  rw [List.drop_of_length_le (by omega)]
  obtain ⟨Md,W⟩:=turns (A.over (escC P L e) [.ret kr none false l (.func (fbK P 78) (envF P 78 L)) pp0 []]) hh
  refine gseg_forLoop (W.done s _ _ hst fun h' tk hk=>?_)
  refine gseg_block_nil ?_
  rw [hkr]
  exact cont p esc Pv [L] F0 F ss0 _ (g.touch (wr:=[e,i0]) (fun b hb=>⟨hsub b hb,hfp b hb⟩) (fun b hb=>by rw [List.mem_singleton.mp hb]; exact ⟨g.loc,fun h=>absurd rfl (hfp _ h)⟩) (List.mem_singleton.mpr rfl) hk)
 | succ n ih=>
  intro i p esc Pv Pv1 F0 F ss0 s hi g hsub hst
  obtain ⟨Md,W⟩:=turns (A.over (escC P L e) [.ret kr none false l (.func (fbK P 78) (envF P 78 L)) pp0 []]) hh
  refine gseg_forLoop (W.item i s _ _ (by omega) hst fun v hh1 ttk1 hmd hk1=>W.go i v _ _ _ hmd fun hh2 hP hst2 hk2=>?_)
  have gg2:GS X (envF P 78 L) Pv Pv1 F0 ss0 F (escΓ x p esc) { s with heap:=hh2,toks:=ttk1 }:=g.touch (wr:=[e,i0]) (fun b hb=>⟨hsub b hb,hfp b hb⟩) (fun b hb=>⟨hb,fun h=>live _ _ hst2 b h⟩) g.loc fun b o hb e=>hk2 b o hb (hk1 b o hb e)
  obtain ⟨T,t,u,cp,rfl,hcp,hT⟩:=hP
  rw [escOuts_cons hcp]
  have asg:AsgT X (A.over (escC P L e) [.ret kr none false l (.func (fbK P 78) (envF P 78 L)) pp0 []]) (envF P 78 L) (escΓ x p esc) [] (forAt (fbK P 78)).1 [.int i,.str ⟨#[cp]⟩] _:=asg_tuple hh (an (an asgl_nil)) rfl rfl
  refine wpAny_mono (asg F _ T _ gg2.inv hT (.cons (.int _ _) (.cons (.str _ _) .nil))) (fun zz ss3 hh3 H'=>?_) fun zz zz e=>e
  obtain ⟨gg3,kk3⟩:=gg2.step hh3.1 hh3.2.toS
  have fr:∀ {ss4:Shared},KeptP (envF P 78 L) Pv1 ss3 ss4 -> St (i + 1) ss4.heap:=fun {ss4} hk=>W.frame _ _ _ (W.frame _ _ _ hst2 fun b hb o e=>kk3 b (hsub b hb) (hfp b hb) o e) fun b hb o e=>hk b (hsub b hb) (hfp b hb) o e
  have ag:∀ {Pv' F0' F4 s0' ss4 esc'} {Γ':Loc},GS X (envF P 78 L) Pv' Pv1 F0' s0' F4 Γ' ss4 -> KeptP (envF P 78 L) Pv1 ss3 ss4 -> (∀ y d,(escΓ x i esc').lookup y = some d -> Γ'.lookup y = some d) ->
    GSeg X A (.ok (.ret .none)) (escOuts ((PyProof.Rows.signs x).drop (i + 1)) (i + 1) esc' i) Pv' F0' s0' (escC P L e) (.pure (.again (escC P L e))) [.ret kr none false l (.func (fbK P 78) (envF P 78 L)) pp0 []] ss4:=
   fun g' hk hs=>gseg_again rfl (ih (i + 1) i _ _ Pv1 _ _ _ _ (by omega) (g'.weak hs) hsub (fr hk))
  refine gseg_cons (gs_if gg3 (b:=esc) (evt_val va tru_bool (by rfl)) fun F4 ss4 gg4 kk4=>?_)
  cases esc with
  | true=>
   refine gseg_cons (gs_yield gg4 (ev_tuple (evl_cons va (evl_cons (ev_bin ev_str va (op_adds (Nat.le_trans (show 2 <= 100 by decide) (by decide)))) evl_nil rfl) rfl) (by simp)) fun F5 ss5 gg5 kk5=>?_)
   refine gseg_cons (gs_stmt gg5 (ex_assign ev_bool (by kernel_rfl) ⟨rfl,rfl,rfl⟩ (by rfl)) fun F6 ss6 g6 kk6=>?_)
   exact ag g6 (fun b hb hl o e=>kk6 b hb hl o (kk5 b hb hl o (kk4 b hb hl o e))) (sub_cons rfl (sub_cons rfl (sub_cons rfl sub_nil)))
  | false=>
   refine gseg_cons (gs_if gg4 (b:=(⟨#[cp]⟩:Str) == bsl) (evt_cmp va ev_str op_eqs rfl) fun F5 ss5 gg5 kk5=>?_)
   cases hb:(⟨#[cp]⟩:Str) == bsl with
   | true=>
    refine gseg_cons (gs_stmt gg5 (ex_assign ev_bool (by kernel_rfl) ⟨rfl,rfl,rfl⟩ (by rfl)) fun F6 ss6 g6 kk6=>?_)
    have e1:escOut i false (⟨#[cp]⟩:Str) = []:=by simp [escOut,hb]
    have e2:escNext false (⟨#[cp]⟩:Str) = true:=by simp [escNext,hb]
    rw [e1,e2]
    exact ag g6 (fun b hb hl o e=>kk6 b hb hl o (kk5 b hb hl o (kk4 b hb hl o e))) (sub_cons rfl (sub_cons rfl (sub_cons rfl sub_nil)))
   | false=>
    have e1:escOut i false (⟨#[cp]⟩:Str) = [.tup [.int i,.str ⟨#[cp]⟩]]:=by simp [escOut,hb]
    have e2:escNext false (⟨#[cp]⟩:Str) = false:=by simp [escNext,hb]
    rw [e1,e2]
    refine gseg_cons (gs_yield gg5 (ev_tuple (evl_cons va (evl_cons va evl_nil rfl) rfl) (by simp)) fun F6 ss6 g6 kk6=>?_)
    exact ag g6 (fun b hb hl o e=>kk6 b hb hl o (kk5 b hb hl o (kk4 b hb hl o e))) (sub_cons rfl (sub_cons rfl (sub_cons rfl sub_nil)))
theorem esc_start (hX:XOk X P) (hh:A.handled = none) {x:Str} (hx:x.length <= 100000) {F:FS} {s:Shared} (I:Inv X (envF P 78 L) F [("addr",.str x)] [] s) (hc:(envF P 78 L).cells = []) :
  GSeg X A (.ok (.ret .none)) (escAll x) [L] F s (.func (fbK P 78) (envF P 78 L)) (X.M.den (.func (fbK P 78) (envF P 78 L))) [] s:=by
 have g:GS X (envF P 78 L) [L] [L] F s F [("addr",.str x)] s:=by
  refine ⟨I,⟨fun zz zz e=>e,fun zz=>.inl rfl,fun zz zz zz zz e=>e,fun zz h=>.inl h,fun b hb=>?_,I.base,rfl,.refl _⟩,List.mem_singleton.mpr rfl,hc⟩
  rw [List.mem_singleton.mp hb]
  obtain ⟨m,hn,_⟩:=I.ns
  exact ⟨I.loc.1,I.loc.2.2,ns_there hn⟩
 refine gseg_func fun H'=>?_
 refine gseg_cons (gs_stmt g (ex_assign ev_int (by kernel_rfl) ⟨rfl,rfl,rfl⟩ (by rfl)) fun F1 ss1 gg1 kk1=>?_)
 refine gseg_cons (gs_stmt gg1 (ex_assign ev_bool (by kernel_rfl) ⟨rfl,rfl,rfl⟩ (by rfl)) fun F2 ss2 gg2 kk2=>?_)
 refine gseg_cons (gseg_For (fun zz=>rfl) (wpAny_mono (eval_enum_str (eb (v:=.type "enumerate") hX) va rfl gg2.inv) (fun v ss3 hh3=>wpAny_mono hh3 (fun it ss4 hh4 kr l pp0 hkr=>?_) fun zz zz e=>e) fun zz zz e=>e))
 obtain ⟨F4,e,i0,St,xx4,E⟩:=hh4
 obtain ⟨rfl,hst,hnew,hlive,hturns⟩:=E
 have gg4:=gg2.grow (fp:=[e,i0]) xx4 fun b hb=>⟨(hnew b hb).1,(hnew b hb).2.1,(hnew b hb).2.2,hlive _ _ hst b hb⟩
 have hne:∀ b ∈ [e,i0],b ≠ L:=fun b hb q=>by
  obtain ⟨m,hn,_⟩:=gg2.inv.ns
  obtain ⟨o,ho⟩:=ns_there hn
  have h1:=(hnew b hb).1
  rw [q] at h1
  have ho':ss2.heap.get? L = some o:=ho
  rw [ho'] at h1; cases h1
 exact esc_loop hX hh hx (K:=_) hkr hne hlive (fun A' hA'=>hturns A' hA' _ _ _) (fun p esc Pv Pv1 F0 F ss0 s g=>esc_tail hX g) x.cps.size 0 0 false _ _ _ _ _ _ (by omega) gg4 (fun b hb=>List.mem_append_left _ hb) hst
end
end
section
section
variable {X:Cx} {P:Params} {A:Around} {env:Env} {Γ:Loc} {Ω:Own}
noncomputable def genChk (P:Params) (a:Addr):Bool:=
 let fd:=fdOf P a
 isFunc (KK P) a && (!fd.scope.isCoroutine && (fd.scope.isGenerator && (fd.scope.kind == .function && (fd.closure.isEmpty && (decide (fd.globals = mainGlobals) && (decide (fd.builtins = builtinsNs) && codeOk (KK P) fd))))))
theorem gen_ok (hX:XOk X P) {a:Addr} {body:List Stmt} (h:genChk P a = true) (hb:(fdOf P a).body = .stmts body) (hn:∀ n,cellsFrom n (fdOf P a).scope.names [] = []):(∃ o,X.K.lookup a = some o /\ o.data = .func (fdOf P a)) /\ GenOk X (fdOf P a) body:=by
 have h2:=and_r h
 have h3:=and_r h2
 have h4:=and_r h3
 have h5:=and_r h4
 have h6:=and_r h5
 exact ⟨hX.k.symm ▸ fd_of (and_l h),not_f (and_l h2),and_l h3,eq_of_beq (and_l h4),fun n c e=>e ▸ hn n,hb,List.isEmpty_iff.mp (and_l h5),of_decide_eq_true (and_l h6),of_decide_eq_true (and_l (and_r h6)),hX.k.symm ▸ code_of (and_r (and_r h6))⟩
theorem GensLe.size {a b:Array GenState} (h:GensLe a b):a.size <= b.size:=Nat.le_of_not_lt fun q=>by
 have h1:=h.1 b.size _ (Array.getElem?_eq_getElem q)
 rw [Array.getElem?_eq_none (Nat.le_refl _)] at h1
 cases h1
theorem GenNew.after {Ag:Around} {rr:Result} {outs:List D} {F F1 F2:FS} {s ss1 ss2:Shared} {a g:Nat} {gs:GenState} {Pv:List Addr} {F':FS} {Γ':Loc} (I:Inv X env F Γ' Ω s) (x:Ext X F F1 s ss1) (n:GenNew X Ag rr outs F1 F2 ss1 ss2 a g gs Pv):GenNew X Ag rr outs F F2 s ss2 a g gs Pv:=
 ⟨x.trans n.ext I.glob.tabs_there,n.gen,n.st,Nat.le_trans x.gens.size n.new,n.wait,fun b hb=>⟨x.fresh (n.priv b hb).1,(n.priv b hb).2⟩,n.apart⟩
theorem cells0 {fd:FuncData} {L a:Addr} (h:∀ n,cellsFrom n fd.scope.names [] = []):(fenv fd L a).cells = []:=h (L + 1)
theorem call_genK {fa:Addr} {o:Obj} {fd:FuncData} {body:List Stmt} {K:Frag} {pos:List Value} {kw:List (Str × Value)} {ns:List Str} {vs:List Value} {ds outs:List D} {Ag:Around} {E:Value -> Shared -> Prop} {F:FS} {s:Shared}
  (B:Base X F [] s) (room:A.depth < recursionLimit) (ho:s.heap.get? fa = some o) (hd:o.data = .func fd) (ok:GenOk X fd body) (hK:K.In s.heap) (hb:∀ S,peek K S (bindArgs fd ⟨pos,kw⟩) = some (ns.zip vs)) (r:RdL X F vs ds) (hn:ns.length = vs.length) (hnd:ns.Nodup)
  (hkind:∀ x ∈ ns,fd.scope.names.lookup x = some .local)
  (wait:∀ L F'' s'',Inv X (fenv fd L fa) F'' (ns.zip ds) [] s'' -> L ∉ X.T -> (∃ o,s''.heap.get? L = some o) -> GSeg X Ag (.ok (.ret .none)) outs [L] F'' s'' (.func body (fenv fd L fa)) (X.M.den (.func body (fenv fd L fa))) [] s'') :
  wpAny X.M A (call (.ref fa) pos kw) (GenR X Ag (.ok (.ret .none)) outs F s) E s:=
 call_gen B room ho hd ok (kp_binds hK hb) r hn hnd hkind wait
theorem gen_esc (hX:XOk X P) (hA:Room A 1) {x:Str} (hx:x.length <= 100000) {ex:Expr} {p pos:Pos} (hf:Ev X A env Γ Ω (.Name "_iter_escaped_chars" p) (.val (.ref 78))) (ha:Ev X A env Γ Ω ex (.str x)) (he:starEach [ex] env = [(false,eval ex env)]) :
  EvGen X A A.in1 env Γ Ω (.Call (.Name "_iter_escaped_chars" p) [ex] [] pos) (escAll x) (.ok (.ret .none)):=by
 refine ⟨?_⟩
 intro F s I
 apply call_rule (fe:=ex) I hf (fun F' zz=>kp_k (by rw [hX.k]; kernel_rfl)) (evl_cons ha evl_nil he) he rfl
 intro F1 ss1 vs x1 I1 r
 have hn0:∀ n,cellsFrom n (fdOf P 78).scope.names [] = []:=fun n=>by kernel_rfl
 obtain ⟨⟨o,ho,hd⟩,ok⟩:=gen_ok hX (a:=78) (P:=P) (by kernel_rfl) (body_ok (by kernel_rfl)) hn0
 obtain ⟨v,rfl⟩:=rdl1 r
 have hb:∀ S,peek (KK P) S (bindArgs (fdOf P 78) ⟨[v],[]⟩) = some ((["addr"]:List Str).zip [v]):=fun S=>by kernel_rfl
 have hk:(fdOf P 78).scope.names.lookup ("addr" : Str) = some NameKind.local:=by kernel_rfl
 have hK:(KK P).In ss1.heap:=by rw [<- hX.k]; exact I1.glob.k
 have hkind:∀ x ∈ (["addr"]:List Str),(fdOf P 78).scope.names.lookup x = some .local:=fun x hx=>by rw [List.mem_singleton.mp hx]; exact hk
 refine wpAny_mono (call_genK (Ag:=A.in1) (ns:=["addr"]) (outs:=escAll x) I1.base.nil hA.one (I1.glob.k _ _ ho) hd ok hK hb r rfl (by simp) hkind fun L F'' s'' I'' hL hl=>?_) (fun v ss2 hh2=>?_) fun zz zz e=>e
 ·exact esc_start (A:=A.in1) hX hA.h hx I'' (cells0 hn0)
 ·obtain ⟨F2,a,g,gs,Pv,rfl,n⟩:=hh2
  exact ⟨F2,a,g,gs,Pv,rfl,n.after (F':=F1) I x1⟩
end
end
section
variable {X:Cx} {A:Around} {env:Env} {Γ Γ0:Loc} {Ω:Own} {F F':FS} {s s':Shared}
theorem ev_slice_str {value:Expr} {lower upper:Option Expr} {p pos:Pos} {x:Str} {lo hi:Option Int} (h1:Ev X A env Γ Ω value (.str x)) (hl:EvP X A env Γ Ω lower lo) (hu:EvP X A env Γ Ω upper hi) (hz:x.length <= sizeLine):Ev X A env Γ Ω (.Subscript value (.Slice lower upper none p) pos) (.str (Txt.slice x lo hi)):=
 ev_slice h1 hl hu subT_str (fun F s v sl vl vu I r hsl pl pu=>by
  obtain ⟨l,rfl,rfl⟩:=pl
  obtain ⟨u,rfl,rfl⟩:=pu
  exact r.str_elim fun t=>wpAny_getItem_str_slice (l:=l) (u:=u) (st:=none) hsl rfl (post_val_or_str ⟨Nat.le_trans (Txt.slice_le x _ _) hz,fun t' k=>⟨F,I.stay fun zz zz e=>e,.str _ _⟩⟩))
theorem strsAre_rd {vs:List Value} {ys:List Str} (r:RdL X F vs (ys.map D.str)):StrsAre vs ys:=by
 induction ys generalizing vs with
 | nil=>exact r.nil_elim .nil
 | cons y ys ih=>exact r.cons_elim fun v vs a b=>a.str_elim fun t=>.cons _ t (ih b)
theorem mf_join:MethFacts "str" "join" "str.join" := ⟨PySem.F.plainAttrs_str,PySem.F.slot_str_join,PySem.F.type_str_join⟩
theorem ev_join {o e:Expr} {apos pos:Pos} {x:Str} {ys:List Str} {d:D} (L:LstD X env Γ Ω d (ys.map D.str)) (ho:Ev X A env Γ Ω o (.str x)) (ha:Ev X A env Γ Ω e d) (hz:(ys.map (·.length)).sum + ys.length * x.length <= 16777216)
  (he:starEach [e] env = [(false,eval e env)]) (hbase:attributeBase o "join" env (eval o env) = eval o env) (hline:(apos.endLine == pos.line) = true)
  (hfew:((backTo pos (starEach [e] env)).all (fun x=>!x.1) && (backToKw pos (keywordEach [] env)).all (fun x=>x.1.isSome) && decide ([e].length + ([]:List Keyword).length + (if ([]:List Keyword).isEmpty then 0 else 1) < 30)) = true):Ev X A env Γ Ω (.Call (.Attribute o "join" apos) [e] [] pos) (.str (Txt.join x ys)):=by
 refine ⟨fun F s I=>meth_rule1 I mf_join hbase hline hfew he rfl ho ty_str (evl_cons ha evl_nil he) fun F1 ss1 v vs x1 I1 r r'=>r.str_elim fun t=>r'.one_elim fun u q=>?_⟩
 obtain ⟨l,vs,rfl,hl,rl⟩:=L F1 ss1 u I1 q
 exact join_list hl.isList (strsAre_rd rl) hz fun t' k=>⟨F1,x1.trans (I1.stay (s':={ ss1 with toks:=k }) fun zz zz e=>e) I.glob.tabs_there,.str _ _⟩
theorem ev_join_lst {o e:Expr} {apos pos:Pos} {x:Str} {ys:List Str} (ho:Ev X A env Γ Ω o (.str x)) (ha:Ev X A env Γ Ω e (.lst (ys.map D.str))) (hz:(ys.map (·.length)).sum + ys.length * x.length <= 16777216)
  (he:starEach [e] env = [(false,eval e env)]) (hbase:attributeBase o "join" env (eval o env) = eval o env) (hline:(apos.endLine == pos.line) = true)
  (hfew:((backTo pos (starEach [e] env)).all (fun x=>!x.1) && (backToKw pos (keywordEach [] env)).all (fun x=>x.1.isSome) && decide ([e].length + ([]:List Keyword).length + (if ([]:List Keyword).isEmpty then 0 else 1) < 30)) = true):Ev X A env Γ Ω (.Call (.Attribute o "join" apos) [e] [] pos) (.str (Txt.join x ys)):=ev_join lst_d ho ha hz he hbase hline hfew
theorem ev_join_own {o e:Expr} {apos pos:Pos} {x:Str} {ys:List Str} {a:Addr} (ho:Ev X A env Γ Ω o (.str x)) (ha:Ev X A env Γ Ω e (.val (.ref a))) (hm:(a,OC.lst (ys.map D.str)) ∈ Ω) (hz:(ys.map (·.length)).sum + ys.length * x.length <= 16777216)
  (he:starEach [e] env = [(false,eval e env)]) (hbase:attributeBase o "join" env (eval o env) = eval o env) (hline:(apos.endLine == pos.line) = true)
  (hfew:((backTo pos (starEach [e] env)).all (fun x=>!x.1) && (backToKw pos (keywordEach [] env)).all (fun x=>x.1.isSome) && decide ([e].length + ([]:List Keyword).length + (if ([]:List Keyword).isEmpty then 0 else 1) < 30)) = true):Ev X A env Γ Ω (.Call (.Attribute o "join" apos) [e] [] pos) (.str (Txt.join x ys)):=ev_join (own_d hm) ho ha hz he hbase hline hfew
set_option tactic.hygienic true in
theorem exs_forgen {rr:Result} {ts:List Expr} {tk:Nat} {tp:Pos} {iter:Expr} {body rest:List Stmt} {pos:Pos} {ds:List D} {R:PostP} (hrr:rr = .ok (.ret .none) \/ rr = .ok .next) (hh:A.handled = none) (room:A.depth < recursionLimit)
  (J:Nat -> Loc -> Own -> Prop) (hit:EvGen X A A.in1 env Γ Ω iter ds rr) {Γ0:Loc} (hh0:J 0 Γ0 Ω) (hs0:Sub Γ0 Γ)
  (turn:∀ i d Γ₁ Ω1,ds[i]? = some d -> J i Γ₁ Ω1 -> ForTurn X A env Γ₁ Ω1 (.Tuple ts tk tp) d body (LoopP (SubJ J (i + 1)) (SeqP X A env rest R)))
  (htup:∀ d ∈ ds,∃ es,d = .tup es)
  (done:∀ Γ' Ω',J ds.length Γ' Ω' -> Exs X A env Γ' Ω' rest R) (hs:∀ x,foldedSetIterable iter env x = pure x:=by intro _; rfl):Exs X A env Γ Ω (.For (.Tuple ts tk tp) iter body [] pos :: rest) R:=
 exs_cons (ex_forgen hrr hh room (J:=SubJ J) hit ⟨Γ0,hs0,hh0⟩ (fun i d Γ₁ Ω1 hd ⟨Γ'',s,j⟩=>let ⟨Γ₂,ha,hb⟩:=turn i d Γ'' Ω1 hd j; ⟨Γ₂,ha.weak s,hb⟩) htup (fun Γ' Ω' ⟨Γ'',s,j⟩=>(done Γ'' Ω' j).sub s) hs)
set_option tactic.hygienic true in
theorem exs_forgenF {rr:Result} {ts:List Expr} {tk:Nat} {tp:Pos} {iter:Expr} {body rest:List Stmt} {pos:Pos} {ds:List D} {R:PostP} (hrr:rr = .ok (.ret .none) \/ rr = .ok .next) (hh:A.handled = none) (room:A.depth < recursionLimit)
  (G:Nat -> Loc) (W:Nat -> Own) (hit:EvGen X A A.in1 env Γ Ω iter ds rr) (hh0:Ω = W 0) (hs0:Sub (G 0) Γ)
  (turn:∀ i d,ds[i]? = some d -> ForTurn X A env (G i) (W i) (.Tuple ts tk tp) d body (LoopP (StF G W (i + 1)) (SeqP X A env rest R)))
  (htup:∀ d ∈ ds,∃ es,d = .tup es)
  (done:Exs X A env (G ds.length) (W ds.length) rest R) (hs:∀ x,foldedSetIterable iter env x = pure x:=by intro _; rfl):Exs X A env Γ Ω (.For (.Tuple ts tk tp) iter body [] pos :: rest) R:=
 exs_cons (ex_forgen hrr hh room (J:=StF G W) hit ⟨hs0,hh0⟩ (fun i d Γ₁ Ω1 hd ⟨s,e⟩=>let ⟨Γ₂,ha,hb⟩:=turn i d hd; ⟨Γ₂,e ▸ ha.weak s,e ▸ hb⟩) htup (fun Γ' Ω' ⟨s,e⟩=>e ▸ done.sub s) hs)
end
section
noncomputable def evD (p:Int × Str):D:=.tup [.int p.1,.str p.2]
noncomputable def escEvOut (i:Nat) (esc:Bool) (ch:Str):List (Int × Str):=if esc then [((i:Int),bsl ++ ch)] else if ch == bsl then [] else [((i:Int),ch)]
noncomputable def escEvs:List Str -> Nat -> Bool -> Int -> List (Int × Str)
 | [],_,esc,p=>if esc then [(p,bsl)] else []
 | ch :: r,i,esc,_=>escEvOut i esc ch ++ escEvs r (i + 1) (escNext esc ch) i
noncomputable def evs (x:Str):List (Int × Str):=escEvs (PyProof.Rows.signs x) 0 false 0
theorem escOuts_evs:∀ l i esc p,escOuts l i esc p = (escEvs l i esc p).map evD
 | [],i,esc,p=>by cases esc <;> rfl
 | ch :: r,i,esc,p=>by
  simp only [escOuts,escEvs,List.map_append,escOuts_evs r]
  congr 1
  unfold escOut escEvOut
  split
  ·rfl
  ·split <;> rfl
theorem escAll_evs (x:Str):escAll x = (evs x).map evD:=escOuts_evs ..
theorem escEvs_len:∀ l i esc p,(escEvs l i esc p).length <= l.length + 1
 | [],i,esc,p=>by cases esc <;> simp [escEvs]
 | ch :: r,i,esc,p=>by
  have:=escEvs_len r (i + 1) (escNext esc ch) i
  simp only [escEvs,List.length_append,List.length_cons]
  have h:(escEvOut i esc ch).length <= 1:=by
   unfold escEvOut
   split
   ·simp
   ·split <;> simp
  omega
theorem evs_len (x:Str):(evs x).length <= x.length + 1:=by
 have:=escEvs_len (PyProof.Rows.signs x) 0 false 0
 rw [signs_length] at this; exact this
noncomputable def quo:Str := "\""
abbrev QS:=Int × Option Int × List Str
noncomputable def qStep (x:Str) (st:QS) (ev:Int × Str):QS:=
 if ev.2 == quo then (match st.2.1 with
  | none=>(st.1,some ev.1,st.2.2)
  | some o=>(ev.1 + 1,none,if st.1 != o then st.2.2 ++ [Txt.slice x (some st.1) (some o)] else st.2.2)) else st
noncomputable def qRun (x:Str) (l:List (Int × Str)):QS:=l.foldl (qStep x) (0,none,[])
noncomputable def qEnd (x:Str) (st:QS):List Str:=if st.1 < x.length then st.2.2 ++ [Txt.slice x (some st.1) none] else st.2.2
noncomputable def hasQ (x:Str):Bool:=!(Builtin.Str.occurrences x quo 0 x.length 1).isEmpty
noncomputable def stripQ (x:Str):Str:=if hasQ x then Txt.join Str.empty (qEnd x (qRun x (evs x))) else x
theorem qRun_res (x:Str):∀ (l:List (Int × Str)) (st:QS),(∀ y ∈ st.2.2,y.length <= x.length) -> (∀ y ∈ (l.foldl (qStep x) st).2.2,y.length <= x.length) /\ (l.foldl (qStep x) st).2.2.length <= st.2.2.length + l.length
 | [],st,h=>⟨h,by simp⟩
 | ev :: l,st,h=>by
  have h1:(∀ y ∈ (qStep x st ev).2.2,y.length <= x.length) /\ (qStep x st ev).2.2.length <= st.2.2.length + 1:=by
   unfold qStep
   split
   ·split
    ·exact ⟨h,by simp⟩
    ·dsimp only
     split
     ·refine ⟨fun y hy=>?_,by simp⟩
      rcases List.mem_append.mp hy with hy | hy
      ·exact h y hy
      ·rw [List.mem_singleton.mp hy]; exact Txt.slice_le ..
     ·exact ⟨h,by simp⟩
   ·exact ⟨h,by simp⟩
  obtain ⟨a,b⟩:=qRun_res x l (qStep x st ev) h1.1
  refine ⟨a,?_⟩
  simp only [List.foldl_cons,List.length_cons] at b ⊢
  omega
theorem sum_le {ys:List Str} {B:Nat} (h:∀ y ∈ ys,y.length <= B):(ys.map (·.length)).sum <= ys.length * B:=by
 induction ys with
 | nil=>simp
 | cons y r ih=>
  simp only [List.map_cons,List.sum_cons,List.length_cons]
  have h1:=h y (List.mem_cons_self ..)
  have h2:=ih fun z hz=>h z (List.mem_cons_of_mem _ hz)
  have:(r.length + 1) * B = r.length * B + B:=Nat.succ_mul ..
  omega
noncomputable def optI:Option Int -> D
 | some i=>.int i
 | none=>.none
noncomputable def qG (x:Str) (a:Addr) (s:Int) (o:Option Int):Loc:=[("addr",.str x),("start",.int s),("open_pos",optI o),("result",.val (.ref a))]
noncomputable def qW (a:Addr) (r:List Str):Own:=[(a,OC.lst (r.map D.str))]
theorem qG_sub {x:Str} {a:Addr} {s:Int} {o:Option Int} {Γ:Loc} (h1:Γ.lookup ("addr" : Str) = some (.str x)) (h2:Γ.lookup ("start" : Str) = some (.int s)) (h3:Γ.lookup ("open_pos" : Str) = some (optI o)) (h4:Γ.lookup ("result" : Str) = some (.val (.ref a))):Sub (qG x a s o) Γ:=sub_cons h1 (sub_cons h2 (sub_cons h3 (sub_cons h4 sub_nil)))
section
variable {X:Cx} {P:Params}
theorem c_strip (hX:XOk X P) (x:Str) (hx:x.length <= 1000):CallQ X 2 (.ref 85) [] [D.str x] [] (.str (stripQ x)):=by
 have hlen:=evs_len x
 refine def_q (n:=1) (ns:=["addr"]) (gs:=[D.str x]) hX (by kernel_rfl) (by kernel_rfl) (by kernel_rfl) rfl (fun F s vs us B r rk=>⟨vs,?_,r⟩) fun A L hA=>?_
 ·obtain ⟨a,rfl⟩:=rdl1 r
  rw [rdl0 rk]
  exact fun S=>by kernel_rfl
 have hh:=hA.h
 refine exs_cons (ex_if (b:=!(hasQ x)) (evt_cmp ev_str va notIn_str rfl) (fun hb=>?_) (fun hb=>exs_nil ?_))
 ·exact exs_cons (ex_return va (.inl (by simp at hb; simp [stripQ,hb])))
 have hq:hasQ x = true:=by simpa using hb
 refine exs_cons (ex_assign (d:=.int 0) ev_int (by kernel_rfl) ?_ (by rfl))
 refine exs_cons (ex_assign (d:=.none) ev_none (by kernel_rfl) ?_ (by rfl))
 refine exs_cons (ex_assign_s (evo_s (evo_list evl_nil (by simp)) fun a=>?_) (by kernel_rfl) (by rfl))
 refine exs_forgenF (G:=fun i=>qG x a (qRun x ((evs x).take i)).1 (qRun x ((evs x).take i)).2.1) (W:=fun i=>qW a (qRun x ((evs x).take i)).2.2)
  (.inl rfl) hh (by have:=hA.d; omega) (gen_esc (x:=x) hX hA (by omega) (eg (v:=.ref 78) hX) va rfl) rfl sub_refl ?_ (fun d hd=>by rw [escAll_evs] at hd; obtain ⟨p,_,rfl⟩:=List.mem_map.mp hd; exact ⟨_,rfl⟩) ?_
 ·intro i d hd
  rw [escAll_evs,List.getElem?_map] at hd
  obtain ⟨⟨pos,ch⟩,hev,rfl⟩:=Option.map_eq_some_iff.mp hd
  have hnx:qRun x ((evs x).take (i + 1)) = qStep x (qRun x ((evs x).take i)) (pos,ch):=by rw [List.take_add_one,hev,qRun,List.foldl_append]; rfl
  have hres:=(qRun_res x ((evs x).take i) (0,none,[]) (by simp)).2
  generalize hst:qRun x ((evs x).take i) = st at *
  have hres':st.2.2.length <= 1001:=by
   have h1:st.2.2.length <= ((evs x).take i).length:=by rw [<- hst]; simpa [qRun] using hres
   have h2:((evs x).take i).length <= (evs x).length:=by simp; omega
   omega
  obtain ⟨start,op,res⟩:=st
  have hres'':res.length <= 1001:=hres'
  have fin:∀ {s':Int} {o':Option Int} {r':List Str} {Γ':Loc} {Ω':Own},qStep x (start,op,res) (pos,ch) = (s',o',r') -> Sub (qG x a s' o') Γ' -> Ω' = qW a r' ->
    StF (fun i=>qG x a (qRun x ((evs x).take i)).1 (qRun x ((evs x).take i)).2.1) (fun i=>qW a (qRun x ((evs x).take i)).2.2) (i + 1) Γ' Ω':=by
   intro s' o' r' Γ' Ω' he hs ho
   have e:=hnx.trans he
   exact ⟨by rw [e]; exact hs,by rw [e]; exact ho⟩
  show ForTurn X A _ (qG x a start op) (qW a res) _ _ _ _
  refine ⟨_,asgI_tup hh (an (an asgl_nil)),?_⟩
  refine exs_cons (ex_if (b:=ch == quo) (evt_cmp va ev_str op_eqs rfl) (fun hb=>?_) (fun hb=>exs_nil (exs_nil ?_)))
  ·cases op with
   | none=>
    refine exs_cons (ex_if (b:=true) (evt_cmp va ev_none (op_isNone (d:=.none) (fun v=>by simp)) rfl) (fun zz=>?_) (fun h=>nomatch h))
    refine exs_cons (ex_assign (d:=.int pos) va (by kernel_rfl) (exs_nil (exs_nil (exs_nil ?_))) (by rfl))
    refine fin (s':=start) (o':=some pos) (r':=res) (by simp [qStep,hb]) ?_ rfl
    exact qG_sub rfl rfl rfl rfl
   | some o=>
    refine exs_cons (ex_if (b:=false) (evt_cmp va ev_none (op_isNone (d:=.int o) (fun v=>by simp)) rfl) (fun h=>nomatch h) (fun zz=>?_))
    refine exs_cons (ex_if (b:=start != o) (evt_cmp va va op_nei rfl) (fun hn=>?_) (fun hn=>exs_nil ?_))
    ·refine exs_cons (ex_expr_s (evs_append va (List.mem_singleton.mpr rfl) (ev_slice_str (lo:=some start) (hi:=some o) va va va (Nat.le_trans hx (by decide))) (by rw [List.length_map]; show res.length <= _; omega) ⟨rfl,?_⟩ (by rfl) (by rfl) (by rfl)) (by kernel_rfl) (by rfl))
     refine exs_nil (exs_cons (ex_assign (d:=.int (pos + 1)) (ev_bin va ev_int op_add) (by kernel_rfl) ?_ (by rfl)))
     refine exs_cons (ex_assign (d:=.none) ev_none (by kernel_rfl) (exs_nil (exs_nil (exs_nil ?_))) (by rfl))
     refine fin (s':=pos + 1) (o':=none) (r':=res ++ [Txt.slice x (some start) (some o)]) (by simp [qStep,hb,hn]) ?_ (by rw [qW,oset1,qW,List.map_append]; rfl)
     exact qG_sub rfl rfl rfl rfl
    ·refine exs_cons (ex_assign (d:=.int (pos + 1)) (ev_bin va ev_int op_add) (by kernel_rfl) ?_ (by rfl))
     refine exs_cons (ex_assign (d:=.none) ev_none (by kernel_rfl) (exs_nil (exs_nil (exs_nil ?_))) (by rfl))
     refine fin (s':=pos + 1) (o':=none) (r':=res) (by simp [qStep,hb,hn]) ?_ rfl
     exact qG_sub rfl rfl rfl rfl
  ·refine fin (s':=start) (o':=op) (r':=res) (by simp [qStep,hb]) ?_ rfl
   exact qG_sub rfl rfl rfl rfl
 ·rw [escAll_evs,List.length_map,List.take_length]
  have hr:=qRun_res x (evs x) (0,none,[]) (by simp)
  have e0:(evs x).foldl (qStep x) (0,none,[]) = qRun x (evs x):=rfl
  rw [e0] at hr
  have e1:stripQ x = Txt.join Str.empty (qEnd x (qRun x (evs x))):=by simp [stripQ,hq]
  rw [e1]
  generalize hst:qRun x (evs x) = st at *
  obtain ⟨start,op,res⟩:=st
  obtain ⟨hr1,hr2⟩:=hr
  dsimp only at hr1 hr2 ⊢
  have hr2:res.length <= 1001:=by simp at hr2; omega
  have jn:∀ (ys:List Str),(∀ y ∈ ys,y.length <= x.length) -> ys.length <= 1002 -> (ys.map (·.length)).sum + ys.length * Str.empty.length <= 16777216:=fun ys h1 h2=>by
   have h3:=sum_le h1
   have h4:ys.length * x.length <= 1002 * 1000:=Nat.mul_le_mul h2 hx
   have h5:Str.empty.length = 0:=rfl
   rw [h5]; omega
  refine exs_cons (ex_if (b:=decide (start < (x.length:Int))) (evt_cmp va (ev_call (eb (v:=.builtin "len") hX) (fun zz=>kp_b) (evl_cons va evl_nil rfl) (len_str (by omega)) rfl rfl) op_lt rfl) (fun hn=>?_) (fun hn=>exs_nil ?_))
  ·refine exs_cons (ex_expr_s (evs_append va (List.mem_singleton.mpr rfl) (ev_slice_str (lo:=some start) (hi:=none) va va trivial (Nat.le_trans hx (by decide))) (by simp; omega) ⟨rfl,?_⟩ (by rfl) (by rfl) (by rfl)) (by kernel_rfl) (by rfl))
   refine exs_nil (exs_cons (ex_return (ev_join_own (ys:=res ++ [Txt.slice x (some start) none]) (a:=a) ev_str va (by rw [qW,oset1,List.map_append]; exact List.mem_singleton.mpr rfl) (jn _ (fun y hy=>?_) (by simp; omega)) (by rfl) (by rfl) (by rfl) (by rfl)) (.inl ?_)))
   ·rcases List.mem_append.mp hy with hy | hy
    ·exact hr1 y hy
    ·rw [List.mem_singleton.mp hy]; exact Txt.slice_le ..
   ·have hn':start < (x.length:Int):=by simpa using hn
    simp [qEnd,hn']; rfl
  ·refine exs_cons (ex_return (ev_join_own (ys:=res) (a:=a) ev_str va (List.mem_singleton.mpr rfl) (jn _ hr1 (by omega)) (by rfl) (by rfl) (by rfl) (by rfl)) (.inl ?_))
   have hn':¬start < (x.length:Int):=by simpa using hn
   simp [qEnd,hn']; rfl
end
end
section
noncomputable def lpar:Str := "("
noncomputable def rpar:Str := ")"
noncomputable def cStep (o:Option Int) (ev:Int × Str):Option Int:=match o with
 | none=>none
 | some n=>if ev.2 == lpar then some (n + 1) else if ev.2 == rpar then (if n - 1 < 0 then none else some (n - 1)) else some n
noncomputable def chkE (l:List (Int × Str)):Bool:=match l.foldl cStep (some 0) with
 | none=>false
 | some n=>n == 0
noncomputable def chkP (x:Str):Bool:=chkE (evs (stripQ x))
theorem cStep_none:∀ l,List.foldl cStep none l = none
 | []=>rfl
 | _ :: l=>cStep_none l
inductive OpJ (y:Str) (i:Nat) (Γ:Loc) (Ω:Own):Prop
 | mk (n:Int) (h:((evs y).take i).foldl cStep (some 0) = some n) (e:Γ = ([("addr",.str y),("opens",.int n)]:Loc)) (o:Ω = [])
section
variable {X:Cx} {P:Params}
theorem c_check (hX:XOk X P) (x:Str) (hx:x.length <= 1000) (hs:(stripQ x).length <= 100000):CallQ X 3 (.ref 92) [] [D.str x] [] (.bool (chkP x)):=by
 refine def_q (n:=2) (ns:=["addr"]) (gs:=[D.str x]) hX (by kernel_rfl) (by kernel_rfl) (by kernel_rfl) rfl (fun F s vs us B r rk=>⟨vs,?_,r⟩) fun A L hA=>?_
 ·obtain ⟨a,rfl⟩:=rdl1 r
  rw [rdl0 rk]
  exact fun S=>by kernel_rfl
 have hh:=hA.h
 refine exs_cons (ex_assign (d:=.str (stripQ x)) (ev_call (eg (v:=.ref 85) hX) (fun zz=>kp_k (by rw [hX.k]; kernel_rfl)) (evl_cons va evl_nil rfl) ((c_strip hX x hx).r hA) rfl rfl) (by kernel_rfl) ?_ (by rfl))
 refine exs_cons (ex_assign (d:=.int 0) ev_int (by kernel_rfl) ?_ (by rfl))
 rw [show chkP x = chkE (evs (stripQ x)) from rfl]
 generalize stripQ x = y at *
 refine exs_forgen (J:=OpJ y)
  (.inl rfl) hh (by have:=hA.d; omega) (gen_esc (x:=y) hX (hA.le (by decide)) (by omega) (eg (v:=.ref 78) hX) va rfl) ⟨0,rfl,rfl,rfl⟩ sub_refl ?_ (fun d hd=>by rw [escAll_evs] at hd; obtain ⟨p,_,rfl⟩:=List.mem_map.mp hd; exact ⟨_,rfl⟩) ?_
 ·rintro i d Γ₁ Ω1 hd ⟨n,hn,rfl,rfl⟩
  rw [escAll_evs,List.getElem?_map] at hd
  obtain ⟨⟨pos,ch⟩,hev,rfl⟩:=Option.map_eq_some_iff.mp hd
  have hnx:((evs y).take (i + 1)).foldl cStep (some 0) = cStep (some n) (pos,ch):=by rw [List.take_add_one,hev,List.foldl_append,hn]; rfl
  have hall:(evs y).foldl cStep (some 0) = ((evs y).drop (i + 1)).foldl cStep (cStep (some n) (pos,ch)):=by
   rw [<- hnx,<- List.foldl_append,List.take_append_drop]
  refine ⟨_,asgI_tup hh (an (an asgl_nil)),?_⟩
  have fin:∀ {m:Int} {Γ':Loc},cStep (some n) (pos,ch) = some m -> Sub ([("addr",.str y),("opens",.int m)]:Loc) Γ' ->
    SubJ (OpJ y) (i + 1) Γ' []:=fun {m Γ'} he hs=>⟨_,hs,m,hnx.trans he,rfl,rfl⟩
  refine exs_cons (ex_if (b:=ch == lpar) (evt_cmp va ev_str op_eqs rfl) (fun hb=>?_) (fun hb=>?_))
  ·refine exs_cons (ex_aug (by rfl) (by kernel_rfl) (by kernel_rfl) ev_int op_iadd (by kernel_rfl) (exs_nil (exs_nil ?_)))
   exact fin (m:=n + 1) (by simp [cStep,hb]) (sub_cons rfl (sub_cons rfl sub_nil))
  ·refine exs_cons (ex_if (b:=ch == rpar) (evt_cmp va ev_str op_eqs rfl) (fun hc=>?_) (fun hc=>exs_nil (exs_nil (exs_nil ?_))))
   ·refine exs_cons (ex_aug (by rfl) (by kernel_rfl) (by kernel_rfl) ev_int op_isub (by kernel_rfl) ?_)
    refine exs_cons (ex_if (b:=decide (n - 1 < 0)) (evt_cmp va ev_int op_lt rfl) (fun hd=>?_) (fun hd=>exs_nil (exs_nil (exs_nil (exs_nil ?_)))))
    ·refine exs_cons (ex_return ev_bool (.inl ?_))
     have hd':n - 1 < 0:=by simpa using hd
     have:cStep (some n) (pos,ch) = none:=by simp only [cStep,hb,hc,if_pos hd',if_true]; rfl
     rw [this,cStep_none] at hall
     simp [chkE,hall]
    ·have hd':¬n - 1 < 0:=by simpa using hd
     exact fin (m:=n - 1) (by simp only [cStep,hb,hc,if_neg hd',if_true]; rfl) (sub_cons rfl (sub_cons rfl sub_nil))
   ·exact fin (m:=n) (by simp [cStep,hb,hc]) (sub_cons rfl (sub_cons rfl sub_nil))
 ·rintro Γ' Ω' ⟨n,hn,rfl,rfl⟩
  rw [escAll_evs,List.length_map,List.take_length] at hn
  exact exs_cons (ex_return (ev_cmp va ev_int op_eqi rfl) (.inl (by simp [chkE,hn])))
end
end
section
noncomputable def dflt:Str := "('', '')"
noncomputable def chkV (x:Str):Str:=if chkP x then x else dflt
section
variable {X:Cx} {P:Params}
theorem c_pre (hX:XOk X P) (xs:List Str) (hx:∀ x ∈ xs,x.length <= 1000 /\ (stripQ x).length <= 100000) (hz:xs.length <= 1000000):CallQ X 4 (.ref 99) [] [D.lst (xs.map D.str)] [] (.lst ((xs.map chkV).map D.str)):=by
 refine def_q (n:=3) (ns:=["email_header_fields"]) (gs:=[D.lst (xs.map D.str)]) hX (by kernel_rfl) (by kernel_rfl) (by kernel_rfl) rfl (fun F s vs us B r rk=>⟨vs,?_,r⟩) fun A L hA=>?_
 ·obtain ⟨a,rfl⟩:=rdl1 r
  rw [rdl0 rk]
  exact fun S=>by kernel_rfl
 have hh:=hA.h
 refine exs_cons (ex_assign_s (evo_s (evo_list evl_nil (by simp)) fun a=>?_) (by kernel_rfl) (by rfl))
 refine exs_for (G:=fun i=>([("email_header_fields",.lst (xs.map D.str)),("accepted_values",.val (.ref a))]:Loc)) (W:=fun i=>[(a,OC.lst (((xs.take i).map chkV).map D.str))]) (it_list hh va) rfl sub_refl ?_ ?_
 ·intro i d hd
  rw [List.getElem?_map] at hd
  obtain ⟨x,hxi,rfl⟩:=Option.map_eq_some_iff.mp hd
  have hxm:=hx x (List.mem_of_getElem? hxi)
  have hlt:i < xs.length:=(List.getElem?_eq_some_iff.mp hxi).1
  refine ⟨_,asgI_name,?_⟩
  have hch:∀ {Γ:Loc} {Ω:Own},CallR X A (envF P 99 L) Γ Ω (.ref 92) [.str x] (.bool (chkP x)):=(c_check hX x hxm.1 hxm.2).r (hA.le (by decide))
  have hlen:(((xs.take i).map chkV).map D.str).length <= 1000000:=by simp; omega
  have hnx:((xs.take i).map chkV).map D.str ++ [.str (chkV x)] = ((xs.take (i + 1)).map chkV).map D.str:=by rw [List.take_add_one,hxi]; simp
  refine exs_cons (ex_if (b:=!(chkP x)) (evt_not (evt_val (ev_call (eg (v:=.ref 92) hX) (fun zz=>kp_k (by rw [hX.k]; kernel_rfl)) (evl_cons va evl_nil rfl) hch rfl rfl) tru_bool (by rfl))) (fun hb=>?_) (fun hb=>exs_nil ?_))
  ·refine exs_cons (ex_assign ev_str (by kernel_rfl) (exs_nil ?_) (by rfl))
   refine exs_cons (ex_expr_s (evs_append (d:=.str (chkV x)) va (List.mem_singleton.mpr rfl) (va ?_) hlen ⟨rfl,exs_nil ⟨sub_cons rfl (sub_cons rfl sub_nil),?_⟩⟩ (by rfl) (by rfl) (by rfl)) (by kernel_rfl) (by rfl))
   ·have hb':chkP x = false:=by simpa using hb
    simp only [chkV,hb']; rfl
   ·rw [<- hnx]; simp [oset]
  ·refine exs_cons (ex_expr_s (evs_append (d:=.str (chkV x)) va (List.mem_singleton.mpr rfl) (va ?_) hlen ⟨rfl,exs_nil ⟨sub_cons rfl (sub_cons rfl sub_nil),?_⟩⟩ (by rfl) (by rfl) (by rfl)) (by kernel_rfl) (by rfl))
   ·have hb':chkP x = true:=by simpa using hb
    simp only [chkV,hb']; rfl
   ·rw [<- hnx]; simp [oset]
 ·skip
  rw [List.length_map,List.take_length]
  refine exs_freeze (Γ':=([("accepted_values",.lst ((xs.map chkV).map D.str))]:Loc)) (fun x d h=>?_) (exs_cons (ex_return va (.inl rfl)))
  right
  rw [List.lookup_cons] at h
  cases hb:x == ("accepted_values" : Str) with
  | true=>rw [hb] at h; cases h; rw [beq_iff_eq.mp hb]; exact ⟨rfl,rfl⟩
  | false=>rw [hb] at h; cases h
end
end
section
section
variable {prog:Program} {w:World} {A:Around} {E:Value -> Shared -> Prop} {s:Shared}
theorem nextOf_tuple_item {it t:Addr} {i:Nat} {items:Array Value} {x:Value} {Q:Value -> Shared -> Prop} (hit:s.heap.IsTupleIter it t i) (ht:s.heap.IsTuple t items) (hx:items[i]? = some x)
  (hQ:∀ h',h'.IsTupleIter it t (i + 1) -> Heap.SameBut it s.heap h' -> Q x { s with heap:=h' }):wpAny (model prog w) A (Builtin.SmallTypes.nextOf (.ref it)) Q E s:=by
 obtain ⟨o,ho,hc,hd⟩:=id hit
 obtain ⟨ol,hol,_,nl,hdl⟩:=ht
 unfold Builtin.SmallTypes.nextOf
 refine wpAny_bind (wpAny_callSpecial?_slot (name:=Str.ofString "__next__") hit.typeIs PySem.F.slot_tuple_iterator_next (wpAny_call_entry PySem.F.slot_tuple_iterator_next hit.typeIs PySem.F.entry_tuple_iterator_next ?_ (PySem.F.args_tuple_iterator_next_1 _)))
 refine wpAny_bind (m:=field (.ref it) 0) (wpAny_field ho hd (x:=.ref t) rfl ?_)
 show wpAny _ _ (if (Value.ref t == Value.none) = true then _ else _) _ _ s
 rw [if_neg (show ¬((Value.ref t == Value.none) = true) from Bool.false_ne_true)]
 refine wpAny_bind (m:=field (.ref it) 1) (wpAny_field ho hd (x:=.int i 0) rfl ?_)
 refine wpAny_bind (m:=seqItems? (.ref t)) (wpAny_seqItems hol hdl ?_)
 simp only [Int.toNat_natCast,hx]
 refine wpAny_bind (wpAny_setField ho hd (by simp) (wpAny_pure ⟨x,rfl,wpAny_pure (hQ _ ?_ (Heap.SameBut.update ..))⟩))
 refine ⟨_,Heap.get?_update_self _ ho (Obj.isFreed_of_fields (Obj.data_mapFields hd _)),(Obj.cls_mapFields ..).trans hc,?_⟩
 rw [Obj.data_mapFields hd]; simp [rawInt]
theorem nextOf_tuple_end {it t:Addr} {i:Nat} {items:Array Value} {Q:Value -> Shared -> Prop} (hh:A.handled = none) (hit:s.heap.IsTupleIter it t i) (ht:s.heap.IsTuple t items) (hx:items[i]? = none)
  (hE:∀ h' e,Heap.ExtBut it s.heap h' -> (∃ o,h'.get? e = some o /\ o.cls = .type "StopIteration") -> E (.ref e) { s with heap:=h' }):wpAny (model prog w) A (Builtin.SmallTypes.nextOf (.ref it)) Q E s:=by
 obtain ⟨o,ho,hc,hd⟩:=id hit
 obtain ⟨ol,hol,_,nl,hdl⟩:=ht
 unfold Builtin.SmallTypes.nextOf
 refine wpAny_bind (wpAny_callSpecial?_slot (name:=Str.ofString "__next__") hit.typeIs PySem.F.slot_tuple_iterator_next (wpAny_call_entry PySem.F.slot_tuple_iterator_next hit.typeIs PySem.F.entry_tuple_iterator_next ?_ (PySem.F.args_tuple_iterator_next_1 _)))
 refine wpAny_bind (m:=field (.ref it) 0) (wpAny_field ho hd (x:=.ref t) rfl ?_)
 show wpAny _ _ (if (Value.ref t == Value.none) = true then _ else _) _ _ s
 rw [if_neg (show ¬((Value.ref t == Value.none) = true) from Bool.false_ne_true)]
 refine wpAny_bind (m:=field (.ref it) 1) (wpAny_field ho hd (x:=.int i 0) rfl ?_)
 refine wpAny_bind (m:=seqItems? (.ref t)) (wpAny_seqItems hol hdl ?_)
 simp only [Int.toNat_natCast,hx]
 refine wpAny_bind (wpAny_rule (wpAny_bind (wpAny_setField ho hd (by simp) ?_)))
 refine wpAny_bind (m:=newExc (.type "StopIteration") []) ?_
 simp only [newExc,newTuple]
 refine wpAny_bind (wpAny_newObj_type ?_ (by size_fits))
 refine wpAny_bind (m:=firstArgMember _ _) (wpAny_of_eq (a:=Value.none) (by first | rfl | (simp only [firstArgMember]; rfl)) ?_)
 refine wpAny_newObj_type ?_ (by size_fits)
 simp only [raiseNew]
 refine wpAny_bind (wpAny_handled ?_)
 first | rw [show A.in1.handled = none from hh] | rw [hh]
 refine wpAny_bind (wpAny_pure (wpAny_throw ?_))
 exact hE _ _ (((Heap.SameBut.update ..).extBut.push _).push _) ⟨_,Heap.get?_push_size _ rfl,rfl⟩
theorem drawsTuple (hh:A.handled = none) (it t:Addr) (hne:t ≠ it) (items:Array Value):Draws prog w A it [it,t] items.size (fun i v=>items[i]? = some v) (fun i h=>h.IsTupleIter it t i /\ h.IsTuple t items) where
 live:=fun zz zz st=>let ⟨o,ho,_⟩:=st.1; ⟨o,ho⟩
 frame:=fun zz zz zz st hk=>⟨let ⟨o,ho,r⟩:=st.1; ⟨o,hk it (by simp) o ho,r⟩,let ⟨o,ho,r⟩:=st.2; ⟨o,hk t (by simp) o ho,r⟩⟩
 item:=fun i s Q E hi st hQ=>nextOf_tuple_item st.1 st.2 (x:=items[i]) (by simp [hi]) fun h' hit' hs'=>hQ _ h' s.toks (by simp [hi]) ⟨hit',st.2.extBut hs'.extBut hne⟩ hs'
 done:=fun s Q E st hE=>nextOf_tuple_end hh st.1 st.2 (by simp) hE
structure ZipOff (z TI TO i1 i2:Addr) (f1 f2:List Addr):Prop where
 TIz:TI ≠ z
 TOz:TO ≠ z
 TITO:TI ≠ TO
 TIi1:TI ≠ i1
 TIi2:TI ≠ i2
 TOi1:TO ≠ i1
 TOi2:TO ≠ i2
 i1z:i1 ≠ z
 i2z:i2 ≠ z
 i12:i1 ≠ i2
 z1:z ∉ f1
 z2:z ∉ f2
 TO1:TO ∉ f1
 TO2:TO ∉ f2
 i21:i2 ∉ f1
 i12':i1 ∉ f2
theorem drawFrame {it a:Addr} {fp:List Addr} {n:Nat} {P:Nat -> Value -> Prop} {St:Nat -> Heap -> Prop} {i:Nat} {h h':Heap} (D:Draws prog w A it fp n P St) (st:St i h) (hs:Heap.ExtBut a h h') (ha:a ∉ fp):St i h':=
 D.frame _ _ _ st fun b hb o e=>hs b o (fun q=>ha (q ▸ hb)) e
theorem zipD_item {z TI TO i1 i2:Addr} {f1 f2:List Addr} {n1 n2 k:Nat} {P1 P2:Nat -> Value -> Prop} {S1 S2:Nat -> Heap -> Prop} {a b:Value} {Q:Value -> Shared -> Prop} (O:ZipOff z TI TO i1 i2 f1 f2)
  (D1:Draws prog w A i1 f1 n1 P1 S1) (D2:Draws prog w A i2 f2 n2 P2 S2) (hz:IsZip s.heap z TI TO .none) (hTI:IsPair s.heap TI (.ref i1) (.ref i2)) (hTO:IsPair s.heap TO a b) (h1:S1 k s.heap) (h2:S2 k s.heap) (l1:k < n1) (l2:k < n2)
  (hQ:∀ h' tk x y (T:Addr),P1 k x -> P2 k y -> IsZip h' z TI TO (rawInt T) -> IsPair h' TO x y -> S1 (k + 1) h' -> S2 (k + 1) h' -> IsPair h' T x y -> T ≠ z -> T ≠ TO -> T ≠ i1 -> T ≠ i2 ->
   (∀ c o,c ≠ z -> c ≠ TO -> c ≠ i1 -> c ≠ i2 -> s.heap.get? c = some o -> h'.get? c = some o) -> Q (.ref T) { s with heap:=h',toks:=tk }) :
  wpAny (model prog w) A (Builtin.«zip.__next__» ⟨[.ref z],[]⟩) (fun fin s'=>∃ v,fin = .done (.ret v) /\ Q v s') E s:=by
 refine wpAny_bind (m:=field (.ref z) 2) (wpAny_field hz rfl (x:=.bool false) rfl ?_)
 refine wpAny_bind (m:=field (.ref z) 3) (wpAny_field hz rfl (x:=.ref TI) rfl ?_)
 refine wpAny_bind (wpAny_seqItems hTI rfl ?_)
 refine wpAny_bind (m:=Builtin.SmallTypes.ownedTupleIsFree (.ref z)) ?_
 unfold Builtin.SmallTypes.ownedTupleIsFree
 refine wpAny_bind (wpAny_field hz rfl (x:=.none) rfl (wpAny_pure ?_))
 simp only [if_true]
 refine wpAny_bind (wpAny_rule (wpAny_bind (wpAny_field hz rfl (x:=.ref TO) rfl ?_)))
 refine wpAny_bind (wpAny_setField_rec hz (by simp) fun gg1 hz1 ss1=>wpAny_bind ?_)
 replace hz1:IsZip gg1 z TI TO .ellipsis:=hz1
 simp only [List.zipIdx_cons,List.zipIdx_nil,List.forIn_cons,List.forIn_nil]
 refine wpAny_bind (wpAny_bind (wpAny_onRaise ?_))
 refine wpAny_bind (m:=Builtin.SmallTypes.nextOf (.ref i1)) (D1.item k _ _ _ l1 (drawFrame D1 h1 ss1.extBut O.z1) fun x gg2 tt2 hx q1 ss2=>wpAny_pure ?_)
 have oo2:IsPair gg2 TO a b:=ss2.extBut _ _ O.TOi1 (ss1.extBut _ _ O.TOz hTO)
 refine wpAny_bind (wpAny_seqItems oo2 rfl (wpAny_bind (wpAny_updateSeq_pair oo2 fun gg3 oo3 ss3=>wpAny_bind (wpAny_letGo (wpAny_pure ?_)))))
 replace oo3:IsPair gg3 TO x b:=oo3
 refine wpAny_bind (wpAny_bind (wpAny_onRaise ?_))
 refine wpAny_bind (m:=Builtin.SmallTypes.nextOf (.ref i2)) (D2.item k _ _ _ l2 (drawFrame D2 (drawFrame D2 (drawFrame D2 h2 ss1.extBut O.z2) ss2.extBut O.i12') ss3.extBut O.TO2) fun y gg4 tt4 hy q2 ss4=>wpAny_pure ?_)
 have o4:IsPair gg4 TO x b:=ss4.extBut _ _ O.TOi2 oo3
 refine wpAny_bind (wpAny_seqItems o4 rfl (wpAny_bind (wpAny_updateSeq_pair o4 fun gg5 o5 ss5=>wpAny_bind (wpAny_letGo (wpAny_pure (wpAny_pure ?_))))))
 replace o5:IsPair gg5 TO x y:=o5
 have kk5:∀ c o,c ≠ z -> c ≠ TO -> c ≠ i1 -> c ≠ i2 -> s.heap.get? c = some o -> gg5.get? c = some o:=fun c o c1 c2 c3 c4 e=>
  ss5.extBut _ _ c2 (ss4.extBut _ _ c4 (ss3.extBut _ _ c2 (ss2.extBut _ _ c3 (ss1.extBut _ _ c1 e))))
 have zz5:IsZip gg5 z TI TO .ellipsis:=ss5.extBut _ _ O.TOz.symm (ss4.extBut _ _ O.i2z.symm (ss3.extBut _ _ O.TOz.symm (ss2.extBut _ _ O.i1z.symm hz1)))
 have d1:S1 (k + 1) gg5:=drawFrame D1 (drawFrame D1 (drawFrame D1 q1 ss3.extBut O.TO1) ss4.extBut O.i21) ss5.extBut O.TO1
 have d2:S2 (k + 1) gg5:=drawFrame D2 q2 ss5.extBut O.TO2
 refine wpAny_bind (wpAny_seqItems o5 rfl (wpAny_bind (wpAny_newTuple ?_)))
 refine wpAny_bind (m:=Builtin.SmallTypes.ownedTupleHandOut (.ref z) (.ref gg5.objs.size)) ?_
 unfold Builtin.SmallTypes.ownedTupleHandOut
 have z6:IsZip (gg5.push { cls:=.type "tuple",data:=.seq #[x,y] }) z TI TO .ellipsis:=Heap.get?_push_of_some _ zz5
 refine wpAny_bind (wpAny_setField_rec z6 (by simp) fun g7 z7 ss7=>?_)
 replace z7:IsZip g7 z TI TO (rawInt gg5.objs.size):=z7
 refine wpAny_setField_rec z7 (by simp) fun g8 z8 s8=>wpAny_pure ⟨_,rfl,?_⟩
 replace z8:IsZip g8 z TI TO (rawInt gg5.objs.size):=z8
 have up:∀ c o,c ≠ z -> gg5.get? c = some o -> g8.get? c = some o:=fun c o c1 e=>s8.extBut _ _ c1 (ss7.extBut _ _ c1 (Heap.get?_push_of_some _ e))
 have lt:∀ {c o},gg5.get? c = some o -> gg5.objs.size ≠ c:=fun e=>Nat.ne_of_gt (Heap.lt_size e)
 have n1:gg5.objs.size ≠ i1:=let ⟨_,e⟩:=D1.live _ _ d1; lt e
 have n2:gg5.objs.size ≠ i2:=let ⟨_,e⟩:=D2.live _ _ d2; lt e
 exact hQ g8 _ x y gg5.objs.size hx hy z8 (up _ _ O.TOz o5) (D1.frame _ _ _ d1 fun b hb o e=>up b o (fun q=>O.z1 (q ▸ hb)) e) (D2.frame _ _ _ d2 fun b hb o e=>up b o (fun q=>O.z2 (q ▸ hb)) e)
  (s8.extBut _ _ (lt zz5) (ss7.extBut _ _ (lt zz5) (Heap.get?_push_size _ rfl))) (lt zz5) (lt o5) n1 n2 fun c o c1 c2 c3 c4 e=>up c o c1 (kk5 c o c1 c2 c3 c4 e)
theorem zipD_end {z TI TO i1 i2:Addr} {f1 f2:List Addr} {n k:Nat} {P1 P2:Nat -> Value -> Prop} {S1 S2:Nat -> Heap -> Prop} {a b:Value} {Q:Fin -> Shared -> Prop} (O:ZipOff z TI TO i1 i2 f1 f2)
  (D1:Draws prog w A i1 f1 n P1 S1) (hz:IsZip s.heap z TI TO .none) (hTI:IsPair s.heap TI (.ref i1) (.ref i2)) (hTO:IsPair s.heap TO a b) (h1:S1 n s.heap)
  (hE:∀ h' e,(∀ c o,c ≠ z -> c ≠ TO -> c ≠ i1 -> c ≠ i2 -> s.heap.get? c = some o -> h'.get? c = some o) -> (∃ o,h'.get? e = some o /\ o.cls = .type "StopIteration") -> E (.ref e) { s with heap:=h' }) :
  wpAny (model prog w) A (Builtin.«zip.__next__» ⟨[.ref z],[]⟩) Q E s:=by
 refine wpAny_bind (m:=field (.ref z) 2) (wpAny_field hz rfl (x:=.bool false) rfl ?_)
 refine wpAny_bind (m:=field (.ref z) 3) (wpAny_field hz rfl (x:=.ref TI) rfl ?_)
 refine wpAny_bind (wpAny_seqItems hTI rfl ?_)
 refine wpAny_bind (m:=Builtin.SmallTypes.ownedTupleIsFree (.ref z)) ?_
 unfold Builtin.SmallTypes.ownedTupleIsFree
 refine wpAny_bind (wpAny_field hz rfl (x:=.none) rfl (wpAny_pure ?_))
 simp only [if_true]
 refine wpAny_bind (wpAny_rule (wpAny_bind (wpAny_field hz rfl (x:=.ref TO) rfl ?_)))
 refine wpAny_bind (wpAny_setField_rec hz (by simp) fun gg1 hz1 ss1=>wpAny_bind ?_)
 replace hz1:IsZip gg1 z TI TO .ellipsis:=hz1
 simp only [List.zipIdx_cons,List.zipIdx_nil,List.forIn_cons,List.forIn_nil]
 refine wpAny_bind (wpAny_bind (wpAny_onRaise ?_))
 refine wpAny_bind (m:=Builtin.SmallTypes.nextOf (.ref i1)) (D1.done _ _ _ (drawFrame D1 h1 ss1.extBut O.z1) fun gg2 e ss2 he=>?_)
 obtain ⟨oe,hoe,hce⟩:=he
 have zz2:IsZip gg2 z TI TO .ellipsis:=ss2 _ _ O.i1z.symm hz1
 have ez:e ≠ z:=fun q=>by subst q; rw [zz2] at hoe; cases hoe; simp at hce
 exact wpAny_setField_rec zz2 (by simp) fun gg3 zz ss3=>hE gg3 e (fun c o c1 zz c3 zz q=>ss3.extBut _ _ c1 (ss2 _ _ c3 (ss1.extBut _ _ c1 q))) ⟨oe,ss3.extBut _ _ ez hoe,hce⟩
end
end
section
section
variable {prog:Program} {w:World} {A:Around} {E:Value -> Shared -> Prop} {s:Shared}
theorem pyNext_zipD_item {z TI TO i1 i2:Addr} {f1 f2:List Addr} {n1 n2 k:Nat} {P1 P2:Nat -> Value -> Prop} {S1 S2:Nat -> Heap -> Prop} {a b:Value} {Q:Option Value -> Shared -> Prop} (O:ZipOff z TI TO i1 i2 f1 f2)
  (D1:Draws prog w A.in1 i1 f1 n1 P1 S1) (D2:Draws prog w A.in1 i2 f2 n2 P2 S2) (hz:IsZip s.heap z TI TO .none) (hTI:IsPair s.heap TI (.ref i1) (.ref i2)) (hTO:IsPair s.heap TO a b) (h1:S1 k s.heap) (h2:S2 k s.heap) (l1:k < n1) (l2:k < n2)
  (hQ:∀ h' tk x y (T:Addr),P1 k x -> P2 k y -> IsZip h' z TI TO (rawInt T) -> IsPair h' TO x y -> S1 (k + 1) h' -> S2 (k + 1) h' -> IsPair h' T x y -> T ≠ z -> T ≠ TO -> T ≠ i1 -> T ≠ i2 ->
   (∀ c o,c ≠ z -> c ≠ TO -> c ≠ i1 -> c ≠ i2 -> s.heap.get? c = some o -> h'.get? c = some o) -> Q (some (.ref T)) { s with heap:=h',toks:=tk }):wpAny (model prog w) A (pyNext (.ref z)) Q E s:=by
 have hT:s.TypeIs (.ref z) "zip" := ⟨_,hz,rfl⟩
 unfold pyNext
 exact wpAny_bind (wpAny_attempt (wpAny_callSpecial?_slot (name:=Str.ofString "__next__") hT PySem.F.slot_zip_next (wpAny_call_entry PySem.F.slot_zip_next hT PySem.F.entry_zip_next
  (zipD_item O D1 D2 hz hTI hTO h1 h2 l1 l2 fun h' tk x y T a1 a2 a3 a4 a5 a6 a7 a8 a9 b1 b2 b3=>wpAny_pure (hQ h' tk x y T a1 a2 a3 a4 a5 a6 a7 a8 a9 b1 b2 b3)) (PySem.F.args_zip_next_1 _))))
theorem pyNext_zipD_end {z TI TO i1 i2:Addr} {f1 f2:List Addr} {n:Nat} {P1:Nat -> Value -> Prop} {S1:Nat -> Heap -> Prop} {a b:Value} {Q:Option Value -> Shared -> Prop} (O:ZipOff z TI TO i1 i2 f1 f2)
  (D1:Draws prog w A.in1 i1 f1 n P1 S1) (hz:IsZip s.heap z TI TO .none) (hTI:IsPair s.heap TI (.ref i1) (.ref i2)) (hTO:IsPair s.heap TO a b) (h1:S1 n s.heap)
  (hQ:∀ h',(∀ c o,c ≠ z -> c ≠ TO -> c ≠ i1 -> c ≠ i2 -> s.heap.get? c = some o -> h'.get? c = some o) -> Q none { s with heap:=h' }):wpAny (model prog w) A (pyNext (.ref z)) Q E s:=by
 have hT:s.TypeIs (.ref z) "zip" := ⟨_,hz,rfl⟩
 unfold pyNext
 refine wpAny_bind (wpAny_attempt (wpAny_callSpecial?_slot (name:=Str.ofString "__next__") hT PySem.F.slot_zip_next (wpAny_call_entry PySem.F.slot_zip_next hT PySem.F.entry_zip_next
  (zipD_end (P2:=fun zz zz=>True) (S2:=fun zz zz=>True) (k:=0) O D1 hz hTI hTO h1 fun h' e hk he=>?_) (PySem.F.args_zip_next_1 _))))
 obtain ⟨o,ho,hc⟩:=he
 exact wpAny_bind (wpAny_isInstance (T := "StopIteration") (b:=true) ⟨o,ho,hc⟩ isSubtype_stop (wpAny_pure (hQ _ hk)))
theorem walksZip {z TI TO i1 i2:Addr} {f1 f2:List Addr} {n:Nat} {P1 P2:Nat -> Value -> Prop} {S1 S2:Nat -> Heap -> Prop} (O:ZipOff z TI TO i1 i2 f1 f2) (m1:i1 ∈ f1) (m2:i2 ∈ f2)
  (D1:Draws prog w A.in1 i1 f1 n P1 S1) (D2:Draws prog w A.in1 i2 f2 n P2 S2) :
  WalksU prog w A z ([z,TI,TO] ++ f1 ++ f2) [z,TO,i1,i2] n (fun i vals=>∃ x y,P1 i x /\ P2 i y /\ vals = #[x,y])
   (fun i h=>IsZip h z TI TO .none /\ IsPair h TI (.ref i1) (.ref i2) /\ (∃ a b,IsPair h TO a b) /\ S1 i h /\ S2 i h)
   (fun i T h=>IsZip h z TI TO (rawInt T) /\ IsPair h TI (.ref i1) (.ref i2) /\ (∃ a b,IsPair h TO a b) /\ S1 (i + 1) h /\ S2 (i + 1) h /\ T ≠ z /\ T ≠ TO /\ T ≠ i1 /\ T ≠ i2) where
 sub:=fun c hc=>by simp at hc ⊢; rcases hc with rfl | rfl | rfl | rfl <;> simp [m1,m2]
 frame:=fun i h h' st hk=>by
  obtain ⟨hz,hTI,⟨a,b,hTO⟩,h1,h2⟩:=st
  exact ⟨hk z (by simp) _ hz,hk TI (by simp) _ hTI,⟨a,b,hk TO (by simp) _ hTO⟩,D1.frame _ _ _ h1 fun b hb o e=>hk b (by simp [hb]) o e,D2.frame _ _ _ h2 fun b hb o e=>hk b (by simp [hb]) o e⟩
 item:=fun i s Q E hi st hQ=>by
  obtain ⟨hz,hTI,⟨a,b,hTO⟩,h1,h2⟩:=st
  refine pyNext_zipD_item O D1 D2 hz hTI hTO h1 h2 hi hi fun h' tk x y T px py a3 a4 a5 a6 a7 a8 a9 b1 b2 hk=>?_
  exact hQ T #[x,y] h' tk ⟨x,y,px,py,rfl⟩ ⟨_,a7,rfl,_,rfl⟩ ⟨a3,hk _ _ O.TIz O.TITO O.TIi1 O.TIi2 hTI,⟨_,_,a4⟩,a5,a6,a8,a9,b1,b2⟩
   fun c o hc e=>hk c o (fun q=>hc (by simp [q])) (fun q=>hc (by simp [q])) (fun q=>hc (by simp [q])) (fun q=>hc (by simp [q])) e
 go:=fun elts k pos i T s Q E hm hQ=>by
  obtain ⟨hz,hTI,⟨a,b,hTO⟩,h1,h2,_⟩:=hm
  refine wpAny_letOwnedTupleGo_zip hz fun h' hz' hs'=>hQ h' ⟨hz',hs'.extBut _ _ O.TIz hTI,⟨a,b,hs'.extBut _ _ O.TOz hTO⟩,drawFrame D1 h1 hs'.extBut O.z1,drawFrame D2 h2 hs'.extBut O.z2⟩ fun c o hc e=>hs'.extBut _ _ (fun q=>hc (by simp [q])) e
 apart:=fun i T h hm hT=>by
  obtain ⟨_,_,_,_,_,t1,t2,t3,t4⟩:=hm
  simp at hT
  rcases hT with rfl | rfl | rfl | rfl
  ·exact t1 rfl
  ·exact t2 rfl
  ·exact t3 rfl
  ·exact t4 rfl
 done:=fun s Q E st hQ=>by
  obtain ⟨hz,hTI,⟨a,b,hTO⟩,h1,h2⟩:=st
  exact pyNext_zipD_end O D1 hz hTI hTO h1 fun h' hk=>hQ h' s.toks fun c o hc e=>hk c o (fun q=>hc (by simp [q])) (fun q=>hc (by simp [q])) (fun q=>hc (by simp [q])) (fun q=>hc (by simp [q])) e
 self:=fun i s Q E st hQ=>wpAny_pyIter_zip st.1 hQ
abbrev tzH1 (h:Heap) (l1:Addr):Heap:=h.push { cls:=.type "tuple_iterator",data:=.fields #[.ref l1,.int 0 0] }
abbrev tzH2 (h:Heap) (l1 l2:Addr):Heap:=(tzH1 h l1).push { cls:=.type "tuple_iterator",data:=.fields #[.ref l2,.int 0 0] }
abbrev tzH3 (h:Heap) (l1 l2:Addr):Heap:=(tzH2 h l1 l2).push { cls:=.type "tuple",data:=.seq #[.ref h.objs.size,.ref (tzH1 h l1).objs.size] }
abbrev tzH4 (h:Heap) (l1 l2:Addr):Heap:=(tzH3 h l1 l2).push { cls:=.type "tuple",data:=.seq #[.none,.none] }
abbrev tzH5 (h:Heap) (l1 l2:Addr):Heap:=(tzH4 h l1 l2).push { cls:=.type "zip",data:=.fields #[.none,.bool false,.bool false,.ref (tzH2 h l1 l2).objs.size,.ref (tzH3 h l1 l2).objs.size] }
theorem meets_zipT (l1 l2:Addr) (xs ys:Array Value) :
  Meets (Builtin.«zip.__new__» ⟨[.type "zip",.ref l1,.ref l2],[]⟩) (fun zz R s=>s.heap.IsTuple l1 xs /\ s.heap.IsTuple l2 ys /\ R (.ok (.ret (.ref (tzH4 s.heap l1 l2).objs.size))) { s with heap:=tzH5 s.heap l1 l2 }):=
 .of_wp fun prog w A R s h=>by
  obtain ⟨hp,g,d,tk,os⟩:=s
  obtain ⟨hl1,hl2,h⟩:=h
  have hsub:=sub_zip
  have hL1:Heap.IsTuple (Shared.heap ⟨hp,g,d,tk,os⟩) l1 xs:=hl1
  have hL2:Heap.IsTuple (Shared.heap ⟨hp.push { cls:=.type "tuple_iterator",data:=.fields #[.ref l1,.int 0 0] },g,d,tk,os⟩) l2 ys:=Heap.IsTuple.push hl2 _
  wp_walk using wpAny_pyIter_tuple hL1,wpAny_pyIter_tuple hL2
  exact ⟨_,rfl,h⟩
theorem call_zipT {l1 l2:Addr} {xs ys:Array Value} {Q:Value -> Shared -> Prop} (hl1:s.heap.IsTuple l1 xs) (hl2:s.heap.IsTuple l2 ys)
  (h:∀ h',IsZip h' (s.heap.objs.size + 4) (s.heap.objs.size + 2) (s.heap.objs.size + 3) .none -> IsPair h' (s.heap.objs.size + 2) (.ref s.heap.objs.size) (.ref (s.heap.objs.size + 1)) -> IsPair h' (s.heap.objs.size + 3) .none .none ->
   h'.IsTupleIter s.heap.objs.size l1 0 -> h'.IsTupleIter (s.heap.objs.size + 1) l2 0 -> h'.objs.size = s.heap.objs.size + 5 -> (∀ c o,s.heap.get? c = some o -> h'.get? c = some o) -> Q (.ref (s.heap.objs.size + 4)) { s with heap:=h' }) :
  wpAny (model prog w) A (call (.type "zip") [.ref l1,.ref l2]) Q E s:=by
 refine callType_new PySem.F.called_zip (by decide) (PySem.F.typeCall_zip_2 _ _) (PySem.F.newCall_zip_2 _ _) (fun obj=>PySem.F.args_object_init_3 obj _ _) PySem.F.entry_zip_new (meets_zipT l1 l2 xs ys) ⟨hl1,hl2,?_⟩
 have z1:(tzH1 s.heap l1).objs.size = s.heap.objs.size + 1:=Heap.size_push ..
 have z2:(tzH2 s.heap l1 l2).objs.size = s.heap.objs.size + 2:=by rw [Heap.size_push,z1]
 have z3:(tzH3 s.heap l1 l2).objs.size = s.heap.objs.size + 3:=by rw [Heap.size_push,z2]
 have z4:(tzH4 s.heap l1 l2).objs.size = s.heap.objs.size + 4:=by rw [Heap.size_push,z3]
 have z5:(tzH5 s.heap l1 l2).objs.size = s.heap.objs.size + 5:=by rw [Heap.size_push,z4]
 have g5:(tzH5 s.heap l1 l2).get? (tzH4 s.heap l1 l2).objs.size = some _:=Heap.get?_push_size _ rfl
 have g4:(tzH5 s.heap l1 l2).get? (tzH3 s.heap l1 l2).objs.size = some _:=Heap.get?_push_of_some _ (Heap.get?_push_size _ rfl)
 have g3:(tzH5 s.heap l1 l2).get? (tzH2 s.heap l1 l2).objs.size = some _:=Heap.get?_push_of_some _ (Heap.get?_push_of_some _ (Heap.get?_push_size _ rfl))
 have g2:(tzH5 s.heap l1 l2).get? (tzH1 s.heap l1).objs.size = some _:=Heap.get?_push_of_some _ (Heap.get?_push_of_some _ (Heap.get?_push_of_some _ (Heap.get?_push_size _ rfl)))
 have g1:(tzH5 s.heap l1 l2).get? s.heap.objs.size = some _:=Heap.get?_push_of_some _ (Heap.get?_push_of_some _ (Heap.get?_push_of_some _ (Heap.get?_push_of_some _ (Heap.get?_push_size _ rfl))))
 show _ /\ _
 rw [z2,z3,z4] at g5
 rw [z1,z2] at g3
 rw [z3] at g4
 rw [z1] at g2
 rw [z4]
 exact ⟨⟨_,g5,rfl⟩,h _ g5 g3 g4 ⟨_,g1,rfl,rfl⟩ ⟨_,g2,rfl,rfl⟩ z5 fun c o x=>Heap.get?_push_of_some _ (Heap.get?_push_of_some _ (Heap.get?_push_of_some _ (Heap.get?_push_of_some _ (Heap.get?_push_of_some _ x))))⟩
end
end
section
variable {X:Cx} {A:Around} {env:Env} {Γ Γ0:Loc} {Ω:Own} {F F':FS} {s s':Shared}
theorem ext_genexprCode {scope:Scope} {pos:Pos} {c Pt:Addr} (hcode:env.code = .ref c) (hm:(c,Pt) ∈ X.tabs) (hq:env.qual ++ "<genexpr>" = X.qn Pt) (I:Inv X env F Γ Ω s) :
  wpAny X.M A (genexprCode env pos (env.qual ++ "<genexpr>") scope) (fun zz s'=>∃ F',Ext X F F' s s') NoE s:=by
 have hPT:Pt ∈ X.T:=List.mem_map_of_mem (f:=(·.2)) hm
 obtain ⟨ps,hP,ht⟩:=I.glob.tabs_ok Pt hPT
 obtain ⟨o,vs,file,tf,flags,tg,inF,text,tt,ho,hcl,hd,_,h11,h18,h7,h9,h10,hne⟩:=I.glob.codeHd hm
 have hpd:(tabObj ps).data = .fields ps:=rfl
 unfold genexprCode codeAt
 rw [hcode,if_neg (show ¬((Value.ref c == Value.none) = true) from Bool.false_ne_true)]
 refine wpAny_bind (wpAny_fieldsOf ho hd ?_)
 rw [h11]
 refine wpAny_bind (wpAny_fieldsOf hP hpd ?_)
 cases hnf:codeAmong pos ps.toList with
 | some cv=>exact wpAny_pure ⟨F,I.stay fun zz zz e=>e⟩
 | none=>
  rw [h18,h7,h9,h10]
  refine wpAny_bind (wpAny_newCode fun c' P' h' tk hk hc' hP' hcode' hrec'=>?_)
  have hop':=hk _ _ hP
  refine wpAny_bind (wpAny_updateFieldsOfTheText hop' hpd ?_)
  have hnew:Obj.mapFields (fun vs=>if (codeAmong pos vs.toList).isSome = true then vs else vs ++ #[rawInt pos.line,rawInt pos.col,.ref c']) (tabObj ps) = tabObj (ps ++ #[rawInt pos.line,rawInt pos.col,.ref c']):=by
   simp [Obj.mapFields,tabObj,hnf]
  have hget:=Heap.get?_update_self (h:=h') (fun o=>Obj.mapFields (fun vs=>if (codeAmong pos vs.toList).isSome = true then vs else vs ++ #[rawInt pos.line,rawInt pos.col,.ref c']) o) hop' (by rw [hnew]; rfl)
  rw [hnew] at hget
  refine wpAny_bind (wpAny_fieldsOf hget rfl ?_)
  have hl:(ps ++ #[rawInt pos.line,rawInt pos.col,Value.ref c']).toList = ps.toList ++ [rawInt pos.line,rawInt pos.col,.ref c']:=by simp
  rw [hl,codeAmong_snoc _ ht hnf]
  obtain ⟨cc2,oc,vs',t',e2,hoc,hd',hv'⟩:=hrec'
  cases e2
  have hcP:c' ≠ Pt:=fun q=>clash (fresh_le hc') (q ▸ hP)
  refine wpAny_pure ⟨_,I.addCode hPT hP ht (fun b o hb e=>(Heap.SameBut.update ..).extBut b o hb (hk b o e)) (fresh_le hc') hget ((Heap.SameBut.update ..).extBut _ _ hcP hoc) hd' (hq ▸ hv')⟩
end
section
variable {X:Cx} {A:Around} {env:Env} {Γ Γ0:Loc} {Ω:Own} {F F':FS} {s s':Shared}
theorem rd_tupI {v:Value} {ds:List D} (I:Inv X env F Γ Ω s) (r:Rd X F v (.tup ds)):∃ a vs,v = .ref a /\ s.heap.IsTuple a (List.toArray vs) /\ RdL X F vs ds /\ ∃ o,F a = some o:=by
 obtain ⟨a,e,o,vs,n,q1,q2,q3,q4⟩:=r.inv
 exact ⟨a,vs,e,⟨o,I.fz _ _ q1,q2,n,q3⟩,q4,o,q1⟩
theorem Ext.there (x:Ext X F F' s s') {a:Addr} {o:Obj} (e:s.heap.get? a = some o):There s'.heap a:=by
 by_cases hT:a ∈ X.T
 ·exact x.glob.tabs_there a hT
 ·exact ⟨o,x.keep a o hT e⟩
theorem ext_around {F1:FS} {ss1 ss2 ss3:Shared} {M:Addr -> Prop} {o:Obj} (I:Inv X env F Γ Ω s) (x:Ext X F F1 ss1 ss2) (h01:Ext X F F s ss1) (hM:∀ a,M a -> s.heap.get? a = none /\ F1 a = none)
  (hk:∀ b o,¬M b -> ss2.heap.get? b = some o -> ss3.heap.get? b = some o) {t:Addr} (ht:s.heap.get? t = none) (hF:F1 t = none) (hto:ss3.heap.get? t = some o) (hos:ss3.os = ss2.os) (hg:GensLe s.gens ss3.gens):Ext X F (F1.put t o) s ss3 where
 le:=fun a q e=>put_le hF a q (x.le a q e)
 fz:=put_fz (fun a q e=>hk a q (fun m=>oclash (hM a m).2 e) (x.fz a q e)) hto
 new:=fun a=>by
  by_cases h:a = t
  ·exact .inr (h ▸ ht)
  ·exact (x.new a).imp (fun e=>(FS.put_ne h).trans e) h01.fresh
 keep:=fun b q hb e=>hk b q (fun m=>clash (hM b m).1 e) (x.keep b q hb (h01.keep b q hb e))
 glob:=(x.glob.but (M:=M) (fun a m=>⟨I.new0 (I.nF (hM a m).1) (I.nT (hM a m).1),I.nT (hM a m).1⟩) hk).mono (put_le hF)
 os:=hos.trans (x.os.trans h01.os)
 gens:=hg
end
section
variable {X:Cx} {A:Around} {env:Env} {Γ Γ0:Loc} {Ω:Own} {F F':FS} {s s':Shared}
theorem quiet_add {cenv:Env} {fp wr:List Addr} {xs ys:List Int} {pi pj pb:Pos} {href:Heap} {prog:Program} {w:World} {vs us:List Value} (hk:cenv.scope.kind = .function) (hi:cenv.kindOf "i" = some .local) (hj:cenv.kindOf "j" = some .local)
  (hv:∀ (k:Nat) v,vs[k]? = some v -> ∃ x t,xs[k]? = some x /\ v = Value.int x t) (hu:∀ (k:Nat) v,us[k]? = some v -> ∃ x t,ys[k]? = some x /\ v = Value.int x t) :
  QuietGenT prog w cenv "i" "j" [] (.BinOp (.Name "i" pi) .Add (.Name "j" pj) pb) fp wr (fun i vals=>∃ x y,vs[i]? = some x /\ us[i]? = some y /\ vals = #[x,y]) (fun zz=>true) (fun i v=>∃ x y t,xs[i]? = some x /\ ys[i]? = some y /\ v = Value.int (x + y) t) href where
 tests:=fun A' E' i va vb ss2 mm2 hh hP hn ha hb hkp=>wpAny_pure ⟨rfl,ss2.heap,ss2.toks,rfl,fun zz zz e=>e⟩
 elt:=fun A' E' i va vb ss2 mm2 hh hP zz hn ha hb hkp=>by
  obtain ⟨x,y,hx,hy,e⟩:=hP
  obtain ⟨rfl,e'⟩:=List.cons.inj (Array.mk.inj e)
  obtain ⟨rfl,_⟩:=List.cons.inj e'
  obtain ⟨x,t,hx',rfl⟩:=hv i _ hx
  obtain ⟨y,u,hy',rfl⟩:=hu i _ hy
  refine PySem.wpAny_BinOp (PySem.wpAny_Name (wpAny_loadName_local hk hi hn ha (PySem.wpAny_Name (wpAny_loadName_local hk hj hn hb ?_) (by decide +kernel))) (by decide +kernel))
  exact PyProof.Rows.add_int ⟨⟨x,y,_,hx',hy',rfl⟩,ss2.heap,_,rfl,fun zz zz e=>e⟩
end
section
variable {X:Cx} {A:Around} {env:Env} {Γ Γ0:Loc} {Ω:Own} {F F':FS} {s s':Shared}
theorem rdl_ints {vs:List Value} {xs:List Int} (r:RdL X F vs (xs.map D.int)):∀ (k:Nat) v,vs[k]? = some v -> ∃ x t,xs[k]? = some x /\ v = Value.int x t:=fun k v e=>by
 obtain ⟨d,hd,rd⟩:=r.at e
 rw [List.getElem?_map] at hd
 obtain ⟨x,hx,rfl⟩:=Option.map_eq_some_iff.mp hd
 obtain ⟨t,e⟩:=rd.int_inv
 exact ⟨x,t,hx,e⟩
theorem drawsL {prog:Program} {w:World} {A:Around} (hh:A.handled = none) (it t:Addr) (hne:t ≠ it) (vs:List Value):Draws prog w A it [it,t] vs.length (fun i v=>vs[i]? = some v) (fun i h=>h.IsTupleIter it t i /\ h.IsTuple t vs.toArray):=by
 simpa using drawsTuple (prog:=prog) (w:=w) hh it t hne vs.toArray
theorem zipOff (N a b:Nat) (h1:a < N) (h2:b < N):ZipOff (N + 4) (N + 2) (N + 3) N (N + 1) [N,a] [N + 1,b]:=by
 have ne:∀ {x y:Nat},x < y -> x ≠ y /\ y ≠ x:=fun h=>⟨Nat.ne_of_lt h,Nat.ne_of_gt h⟩
 have nm:∀ {x y z:Nat},x ≠ y -> x ≠ z -> x ∉ [y,z]:=fun h1 h2 h=>by
  rcases List.mem_cons.mp h with e | h
  ·exact h1 e
  ·exact h2 (List.mem_singleton.mp h)
 have l:∀ {i j:Nat},i < j -> N + i < N + j:=fun h=>Nat.add_lt_add_left h N
 have l0:∀ {j:Nat},0 < j -> N < N + j:=fun h=>Nat.lt_add_of_pos_right h
 have la:∀ j:Nat,a < N + j:=fun j=>Nat.lt_of_lt_of_le h1 (Nat.le_add_right ..)
 have lb:∀ j:Nat,b < N + j:=fun j=>Nat.lt_of_lt_of_le h2 (Nat.le_add_right ..)
 exact {
  TIz:=(ne (l (by decide))).1,TOz:=(ne (l (by decide))).1,TITO:=(ne (l (by decide))).1,TIi1:=(ne (l0 (by decide))).2,TIi2:=(ne (l (by decide))).2
  TOi1:=(ne (l0 (by decide))).2,TOi2:=(ne (l (by decide))).2,i1z:=(ne (l0 (by decide))).1,i2z:=(ne (l (by decide))).1,i12:=(ne (l0 (by decide))).1
  z1:=nm (ne (l0 (by decide))).2 (ne (la 4)).2,z2:=nm (ne (l (by decide))).2 (ne (lb 4)).2,TO1:=nm (ne (l0 (by decide))).2 (ne (la 3)).2,TO2:=nm (ne (l (by decide))).2 (ne (lb 3)).2
  i21:=nm (ne (l0 (by decide))).2 (ne (la 1)).2,i12':=nm (ne (l0 (by decide))).1 (ne h2).2 }
theorem rdl_add (xs:List Int):∀ (ys:List Int) (vs:List Value),ys.length = xs.length -> vs.length = xs.length -> (∀ (j:Nat) v,vs[j]? = some v -> ∃ x y t,xs[j]? = some x /\ ys[j]? = some y /\ v = Value.int (x + y) t) -> RdL X F vs ((List.zipWith (· + ·) xs ys).map D.int):=by
 induction xs with
 | nil=>exact fun ys vs zz h2 zz=>List.eq_nil_of_length_eq_zero h2 ▸ .nil
 | cons x xs ih=>
  intro ys vs h1 h2 h
  obtain ⟨y,ys,rfl⟩:=List.exists_cons_of_length_eq_add_one h1
  obtain ⟨v,vs,rfl⟩:=List.exists_cons_of_length_eq_add_one h2
  obtain ⟨a,b,t,e1,e2,rfl⟩:=h 0 v rfl
  cases e1; cases e2
  exact .cons (.int _ _) (ih ys vs (Nat.succ.inj h1) (Nat.succ.inj h2) fun j v e=>h (j + 1) v e)
theorem gens_grow {a b c:Array GenState} {gs:GenState} (h:GensLe a b) (hg:gs.bare = true) (h1:∀ i x,i < b.size -> (b.push gs)[i]? = some x -> c[i]? = some x) (h2:(∀ z ∈ b.push gs,z.bare = true) -> AllBare c):GensLe a c:=by
 refine ⟨fun i x e=>?_,fun hb'=>h2 fun z hz=>(Array.mem_push.mp hz).elim (h.2 hb' z) fun e=>e ▸ hg⟩
 have e4:=h.1 i x e
 have hi:i < b.size:=(Array.getElem?_eq_some_iff.mp e4).1
 exact h1 i x hi ((Array.getElem?_push_lt hi).trans ((Array.getElem?_eq_getElem hi).symm.trans e4))
theorem ev_tupadd {p pz pi pj pb pa pc pt pos gpos zpos:Pos} {kt:Nat} {scope:Scope} {xs ys:List Int} {e1 e2:Expr} {c Pt:Addr} (hh:A.handled = none) (room:A.depth < recursionLimit) (hcode:env.code = .ref c) (hm:(c,Pt) ∈ X.tabs) (hq:env.qual ++ "<genexpr>" = X.qn Pt)
  (hco:scope.isCoroutine = false) (hclos:closureFor scope env = pure []) (hcell:∀ y ∈ scope.names,y.2 ≠ .cell) (h0:scope.names.lookup (".0" : Str) = some NameKind.local) (hi:scope.names.lookup ("i" : Str) = some NameKind.local) (hj:scope.names.lookup ("j" : Str) = some NameKind.local) (hkind:scope.kind = .function)
  (hf:Ev X A env Γ Ω (.Name "tuple" p) (.val (.type "tuple"))) (hz:Ev X A env Γ Ω (.Name "zip" pz) (.val (.type "zip"))) (h1:Ev X A env Γ Ω e1 (.tup (xs.map D.int))) (h2:Ev X A env Γ Ω e2 (.tup (ys.map D.int))) (hlen:ys.length = xs.length) (hsz:xs.length <= 1000)
  (he:starEach [e1,e2] env = (false,eval e1 env) :: starEach [e2] env) (he2:starEach [e2] env = (false,eval e2 env) :: starEach [] env)
  (heg:starEach [Expr.GeneratorExp (.BinOp (.Name "i" pi) .Add (.Name "j" pj) pb) [⟨.Tuple [.Name "i" pa,.Name "j" pc] kt pt,.Call (.Name "zip" pz) [e1,e2] [] zpos,[],0⟩] scope gpos] env = (false,eval (.GeneratorExp (.BinOp (.Name "i" pi) .Add (.Name "j" pj) pb) [⟨.Tuple [.Name "i" pa,.Name "j" pc] kt pt,.Call (.Name "zip" pz) [e1,e2] [] zpos,[],0⟩] scope gpos) env) :: starEach [] env)
  (hgf:∀ x,genFold (.Call (.Name "zip" pz) [e1,e2] [] zpos) env x = pure x) :
  Ev X A env Γ Ω (.Call (.Name "tuple" p) [.GeneratorExp (.BinOp (.Name "i" pi) .Add (.Name "j" pj) pb) [⟨.Tuple [.Name "i" pa,.Name "j" pc] kt pt,.Call (.Name "zip" pz) [e1,e2] [] zpos,[],0⟩] scope gpos] [] pos) (.tup ((List.zipWith (· + ·) xs ys).map D.int)):=by
 refine ⟨fun F s I=>wpAny_Call_Name_kw (res_then I (hf F s I) fun v F1 ss1 x1 I1 r=>r.val_elim ?_)⟩
 refine callWith_of (P:=fun zz=>True) (by rw [heg]; rfl) (fun h zz=>⟨.machine,.inr (.inl rfl),.now⟩) (args_plain heg (wpAny_items_cons ?_ heg))
 refine wpAny_GeneratorExp_walksQT (cl:=[]) hh hco hclos hcell h0 hi hj (by decide) hkind room ?_ hgf
 refine call_rule (fe:=e1) I1 hz (fun zz zz=>kp_t) (evl_cons h1 (evl_cons h2 evl_nil he2) he) he (by rw [he2]; rfl) fun F2 ss2 ws xx2 I2 rr2=>rr2.two_elim fun v1 v2 q1 q2=>?_
 obtain ⟨a1,us,rfl,t1,ru,⟨o1,f1⟩⟩:=rd_tupI I2 q1
 obtain ⟨a2,vs,rfl,t2,rv,⟨o2,f2⟩⟩:=rd_tupI I2 q2
 refine call_zipT t1 t2 fun h' hZ hTI hTO g1 g2 hsz' hk=>?_
 have la1:a1 < ss2.heap.objs.size:=t1.elim fun o e=>Heap.lt_size e.1
 have la2:a2 < ss2.heap.objs.size:=t2.elim fun o e=>Heap.lt_size e.1
 have n:∀ k,ss2.heap.get? (ss2.heap.objs.size + k) = none:=fun k=>fresh_le (Nat.le_add_right _ k)
 have O:=zipOff ss2.heap.objs.size a1 a2 la1 la2
 have fr:∀ b ∈ [ss2.heap.objs.size + 4,ss2.heap.objs.size + 3,ss2.heap.objs.size,ss2.heap.objs.size + 1],ss2.heap.get? b = none /\ There h' b:=Each.mem ⟨⟨n 4,_,hZ⟩,⟨n 3,_,hTO⟩,⟨n 0,g1.imp fun zz e=>e.1⟩,⟨n 1,g2.imp fun zz e=>e.1⟩,trivial⟩
 have yy2:Ext X F2 F2 ss2 { ss2 with heap:=h' }:=I2.stay (s':={ ss2 with heap:=h' }) hk
 have I3:=I2.ext yy2
 refine wpAny_pyIter_zip hZ ⟨I3.glob.nolimit,wpAny_mono (ext_genexprCode hcode hm hq I3) (fun code ss4 hh4=>?_) fun zz zz e=>e⟩
 obtain ⟨F4,xx4⟩:=hh4
 have I4:=I3.ext xx4
 obtain ⟨bm,ob,b1,b2,b3,b4,b5,b6⟩:=I4.glob.bm
 refine wpAny_builtinsFor (I4.eo.gl.symm ▸ I4.glob.g) b1 b2 b3 b4 b5 b6 ?_
 have lu:us.length = xs.length:=ru.length.trans (List.length_map _)
 have lv:vs.length = xs.length:=rv.length.trans ((List.length_map _).trans hlen)
 have upn:∀ b o,ss2.heap.get? b = none -> h'.get? b = some o -> ss4.heap.get? b = some o:=fun b o hb e=>xx4.keep b o (I2.nT hb) e
 have upf:∀ b q o,F2 b = some q -> ss2.heap.get? b = some o -> ss4.heap.get? b = some o:=fun b q o hb e=>xx4.keep b o (fun hT=>oclash (I2.tF b hT) hb) (hk _ _ e)
 have st0:IsZip ss4.heap (ss2.heap.objs.size + 4) (ss2.heap.objs.size + 2) (ss2.heap.objs.size + 3) .none /\ IsPair ss4.heap (ss2.heap.objs.size + 2) (.ref ss2.heap.objs.size) (.ref (ss2.heap.objs.size + 1)) /\ (∃ a b,IsPair ss4.heap (ss2.heap.objs.size + 3) a b) /\
   (ss4.heap.IsTupleIter ss2.heap.objs.size a1 0 /\ ss4.heap.IsTuple a1 us.toArray) /\ (ss4.heap.IsTupleIter (ss2.heap.objs.size + 1) a2 0 /\ ss4.heap.IsTuple a2 vs.toArray):=
  ⟨upn _ _ (n 4) hZ,upn _ _ (n 2) hTI,⟨_,_,upn _ _ (n 3) hTO⟩,⟨g1.imp fun o e=>⟨upn _ _ (n 0) e.1,e.2⟩,t1.imp fun o e=>⟨upf _ _ _ f1 e.1,e.2⟩⟩,⟨g2.imp fun o e=>⟨upn _ _ (n 1) e.1,e.2⟩,t2.imp fun o e=>⟨upf _ _ _ f2 e.1,e.2⟩⟩⟩
 refine ⟨_,_,_,_,_,_,_,fun zz=>true,fun i v=>∃ x y t,xs[i]? = some x /\ ys[i]? = some y /\ v = Value.int (x + y) t,rfl,fun A' hA'=>
  walksZip O (List.mem_cons_self ..) (List.mem_cons_self ..) (lu ▸ drawsL (A:=A'.in1) hA' ss2.heap.objs.size a1 (Nat.ne_of_lt la1) us) (lv ▸ drawsL (A:=A'.in1) hA' (ss2.heap.objs.size + 1) a2 (Nat.ne_of_lt (Nat.lt_succ_of_lt la2)) vs),fun i vals ⟨x,y,_,_,e⟩=>⟨x,y,e⟩,st0,?_,I4.glob.nolimit,?_,fun href hr=>quiet_add hkind hi hj (rdl_ints ru) (rdl_ints rv),fun a hh5 tk gs hb hlt hsz5 hk5 WS hst5=>?_⟩
 ·obtain ⟨s1,s2,⟨_,_,s3⟩,⟨⟨_,s4,_⟩,⟨_,s5,_⟩⟩,⟨⟨_,s6,_⟩,⟨_,s7,_⟩⟩⟩:=st0
  exact Each.mem (P:=fun b=>b < ss4.heap.objs.size) (l:=[ss2.heap.objs.size + 4,ss2.heap.objs.size + 2,ss2.heap.objs.size + 3,ss2.heap.objs.size,a1,ss2.heap.objs.size + 1,a2]) ⟨Heap.lt_size s1,Heap.lt_size s2,Heap.lt_size s3,Heap.lt_size s4,Heap.lt_size s5,Heap.lt_size s6,Heap.lt_size s7,trivial⟩
 ·intro h
  obtain ⟨_,hn,_⟩:=I2.glob.nolimit
  obtain ⟨o,ho⟩:=ns_there hn
  exact clash (fr _ h).1 ho
 ·refine wpAny_items_nil ?_
  have hp:passing (fun zz=>true) xs.length 0 = List.range xs.length:=List.filter_eq_self.mpr fun zz zz=>rfl
  have hpl:(passing (fun zz=>true) xs.length 0).length = xs.length:=hp ▸ List.length_range
  refine ⟨trivial,call_tuple_gen (WalksS.in4_3 WS) (fun i s st=>st.1.typeIs) hst5 (fun b hb=>?_) (List.mem_cons_self ..) (fun s' acc M hacc=>?_) (by rw [hpl]; exact Nat.le_trans hsz (by decide))⟩
  ·rw [hsz5]
   rcases List.mem_cons.mp hb with rfl | hb
   ·exact Nat.lt_succ_self _
   ·rcases List.mem_cons.mp hb with rfl | hb
    ·exact Nat.lt_succ_of_lt hlt
    ·exact Nat.lt_succ_of_lt (Nat.lt_trans (List.mem_range.mp hb) hlt)
  ·have y:Ext X F2 F4 ss2 ss4:=yy2.trans xx4 I2.glob.tabs_there
   have hM:∀ b ∈ ss4.heap.objs.size :: [ss2.heap.objs.size + 4,ss2.heap.objs.size + 3,ss2.heap.objs.size,ss2.heap.objs.size + 1],ss2.heap.get? b = none /\ F4 b = none:=fun b hb=>(List.mem_cons.mp hb).elim (fun e=>e ▸ ⟨y.fresh (get_size _),I4.nF (get_size _)⟩) fun hb=>
    ⟨(fr b hb).1,(xx4.new b).elim (fun e=>e.trans (I2.nF (fr b hb).1)) fun e=>(fr b hb).2.elim fun o ho=>clash e ho⟩
   have hkk:∀ b o,b ∉ ss4.heap.objs.size :: [ss2.heap.objs.size + 4,ss2.heap.objs.size + 3,ss2.heap.objs.size,ss2.heap.objs.size + 1] -> ss4.heap.get? b = some o -> s'.heap.get? b = some o:=fun b o hb e=>M.heap b o hb (hk5 b o e)
   have htn:s'.heap.get? s'.heap.objs.size = none:=get_size _
   have z:=ext_around (ss3:={ s' with heap:=s'.heap.push { cls:=.type "tuple",data:=.seq acc } }) (M:=fun b=>b ∈ ss4.heap.objs.size :: [ss2.heap.objs.size + 4,ss2.heap.objs.size + 3,ss2.heap.objs.size,ss2.heap.objs.size + 1]) (t:=s'.heap.objs.size) I2 xx4 yy2 hM (fun b o hb e=>Heap.get?_push_of_some _ (hkk b o hb e))
    (get_none fun o e=>(y.there e).elim fun q e1=>clash htn (hkk _ _ (fun m=>clash (hM _ m).1 e) e1)) (Option.eq_none_iff_forall_ne_some.mpr fun o e=>clash htn (hkk _ _ (fun m=>oclash (hM _ m).2 e) (I4.fz _ _ e))) (Heap.get?_push_size _ rfl) M.os
    (gens_grow xx4.gens hb (fun i x hi e=>M.gens.elim (fun h=>h ▸ e) fun h=>(h.1.2 i (Nat.ne_of_lt hi)).trans e) M.gens.bare)
   refine ⟨_,(x1.trans xx2 I.glob.tabs_there).trans z I.glob.tabs_there,.tup (vs:=acc.toList) (n:=0) (FS.put_self ..) rfl rfl (rdl_add xs ys acc.toList hlen (Array.length_toList.trans (hacc.1.trans hpl)) fun j v e=>?_)⟩
   obtain ⟨i,e1,e2⟩:=hacc.2 j v (Array.getElem?_toList.symm.trans e)
   rw [hp] at e1
   obtain ⟨_,h2⟩:=List.getElem?_eq_some_iff.mp e1
   rw [List.getElem_range] at h2
   exact h2 ▸ e2
end
section
variable {X:Cx} {A:Around} {env:Env} {Γ Γ0:Loc} {Ω:Own} {F F':FS} {s s':Shared}
theorem ty_tupT:typeOf (.type "tuple") = pure (.type "type"):=by kernel_rfl
theorem sub_tt:isSubtype (.type "tuple") (.type "tuple") = pure true:=by rw [isSubtype_type]; kernel_rfl
theorem sub_it:isSubtype (.type "int") (.type "tuple") = pure false:=by rw [isSubtype_type]; kernel_rfl
theorem isinst_tup {ds:List D}:CallR X A env Γ Ω (.builtin "isinstance") [.tup ds,.val (.type "tuple")] (.bool true):=by
 intro F s vs I r
 obtain ⟨v,w,rfl,r1,r2⟩:=rdl2 r
 cases r2
 obtain ⟨a,us,rfl,ht,_,_⟩:=rd_tupI I r1
 have hT:s.TypeIs (.ref a) "tuple" := ht.typeIs
 exact call_isinstance_yes hT ty_tupT sub_tt (I.res (.bool true))
set_option tactic.hygienic true in
theorem isinst_int {i:Int}:CallR X A env Γ Ω (.builtin "isinstance") [.int i,.val (.type "tuple")] (.bool false):=by
 intro F s vs I r
 obtain ⟨v,w,rfl,r1,r2⟩:=rdl2 r
 cases r2
 cases r1
 rename_i t
 exact call_isinstance (isinstance_false_int (by decide) ty_tupT sub_it) ⟨F,I.stay (s':={ s with toks:=s.toks + 1 }) (fun zz zz e=>e),.bool false⟩
end
section
inductive Mk where
 | i (n:Int)
 | t (ns:List Int)
noncomputable def Mk.d:Mk -> D
 | .i n=>.int n
 | .t ns=>.tup (ns.map D.int)
noncomputable def Mk.add:Mk -> Mk -> Mk
 | .i a,.i b=>.i (b + a)
 | .t a,.t b=>.t (List.zipWith (· + ·) a b)
 | a,_=>a
noncomputable def Mk.like:Mk -> Mk -> Prop
 | .i _,.i _=>True
 | .t a,.t b=>b.length = a.length /\ a.length <= 1000
 | _,_=>False
abbrev Cal:=List (Str × Mk)
noncomputable def cd (c:Cal):List (Str × D):=c.map fun p=>(p.1,p.2.d)
noncomputable def addStep (c:Cal) (p:Str × Mk):Cal:=dst c p.1 (match c.lookup p.1 with
 | some old=>p.2.add old
 | none=>p.2)
noncomputable def addCal (a b:Cal):Cal:=b.foldl addStep (a.foldl (fun c p=>dst c p.1 p.2) [])
structure XOk3 (X:Cx) (P:Params):Prop extends XOk X P where
 addc:((27:Addr),(23:Addr)) ∈ X.tabs /\ X.qn 23 = "add_callers.<locals>.<genexpr>"
theorem cd_dst (c:Cal) (k:Str) (m:Mk):dst (cd c) k m.d = cd (dst c k m):=by
 have h:(cd c).any (fun kv=>kv.1 = k) = c.any (fun kv=>kv.1 = k):=by simp [cd,List.any_map]; rfl
 unfold dst
 rw [h]
 split
 ·simp only [cd,List.map_map]
  congr 1
  funext p
  simp only [Function.comp]
  split <;> rfl
 ·simp [cd]
theorem cd_lookup (c:Cal) (k:Str):(cd c).lookup k = (c.lookup k).map Mk.d:=by
 induction c with
 | nil=>rfl
 | cons p r ih=>
  obtain ⟨y,m⟩:=p
  simp only [cd,List.map_cons,List.lookup_cons] at ih ⊢
  cases k == y <;> simp [ih]
section
variable {X:Cx} {P:Params}
noncomputable def itD (p:Str × Mk):D:=.tup [.str p.1,p.2.d]
theorem items_cd (c:Cal):itemsD (cd c) = c.map itD:=by simp [itemsD,cd,itD]
noncomputable def addG (a b:Cal) (l:Addr):Loc:=[("target",.dct (cd a)),("source",.dct (cd b)),("new_callers",.val (.ref l))]
noncomputable def addO (l:Addr) (c:Cal):Own:=[(l,OC.dct (cd c))]
noncomputable def cpy (a:Cal):Cal:=a.foldl (fun c p=>dst c p.1 p.2) []
theorem addG_sub {a b:Cal} {l:Addr} {Γ:Loc} (h1:Γ.lookup ("target" : Str) = some (.dct (cd a))) (h2:Γ.lookup ("source" : Str) = some (.dct (cd b))) (h3:Γ.lookup ("new_callers" : Str) = some (.val (.ref l))):Sub (addG a b l) Γ:=sub_cons h1 (sub_cons h2 (sub_cons h3 sub_nil))
theorem addO_mem {l:Addr} {c:Cal}:(l,OC.dct (cd c)) ∈ addO l c:=List.mem_singleton.mpr rfl
theorem addO_set {l:Addr} {c c':Cal} {k:Str} {m:Mk} (e:c' = dst c k m):oset (addO l c) l (OC.dct (dst (cd c) k m.d)) = addO l c':=by rw [addO,oset1,cd_dst,e]; rfl
theorem cd_length (c:Cal):(cd c).length = c.length:=List.length_map ..
theorem cpy_snoc {a:Cal} {i:Nat} {p:Str × Mk} (h:a[i]? = some p):cpy (a.take (i + 1)) = dst (cpy (a.take i)) p.1 p.2:=by rw [List.take_add_one,h,cpy,List.foldl_append]; rfl
theorem add_snoc {a b:Cal} {i:Nat} {p:Str × Mk} (h:b[i]? = some p):addCal a (b.take (i + 1)) = addStep (addCal a (b.take i)) p:=by rw [addCal,List.take_add_one,h,List.foldl_append]; rfl
set_option tactic.hygienic true in
theorem add_held (hX:XOk3 X P) {A:Around} {L:Addr} (hA:Room A 1) {a b c:Cal} {l:Addr} {k:Str} {m old:Mk} {R:PostP} (hc:c.lookup k = some old) (hz:c.length <= 1000) (hl:m.like old)
  (fin:∀ {Γ' Ω'},Sub (addG a b l) Γ' -> Ω' = addO l (addStep c (k,m)) -> R .next Γ' Ω'):Exs X A (envF P 28 L) (upd (upd (addG a b l) "func" (.str k)) "caller" m.d) (addO l c) (forB ((fbK P 28).drop 2)) R:=by
 have hh:=hA.h
 have hs:addStep c (k,m) = dst c k (m.add old):=by simp only [addStep,hc]
 have hold:(cd c).lookup k = some old.d:=by rw [cd_lookup,hc]; rfl
 have hzc:(cd c).length <= 1000000:=by rw [cd_length]; exact Nat.le_trans hz (by decide)
 refine exs_cons (ex_if (b:=true) (evt_cmp va va (op_b (in_owndct addO_mem) (by rw [hold]; rfl)) rfl) (fun zz=>?_) (fun h=>nomatch h))
 cases m with
 | i n=>
  cases old with
  | t ns=>exact hl.elim
  | i o=>
   refine exs_cons (ex_if (b:=false) (evt_val (ev_call (eb (v:=.builtin "isinstance") hX.toXOk) (fun zz=>kp_b) (evl_cons va (evl_cons (eb (v:=.type "tuple") hX.toXOk) evl_nil rfl) rfl) isinst_int rfl rfl) tru_bool (by rfl)) (fun h=>nomatch h) (fun zz=>?_))
   exact exs_cons (ex_aug_dct (k:=k) (d0:=.int o) (d:=.int (o + n)) va addO_mem va hold va op_iadd hzc (exs_nil (exs_nil (exs_nil (fin (addG_sub rfl rfl rfl) (addO_set hs))))))
 | t ms=>
  cases old with
  | i o=>exact hl.elim
  | t os=>
   refine exs_cons (ex_if (b:=true) (evt_val (ev_call (eb (v:=.builtin "isinstance") hX.toXOk) (fun zz=>kp_b) (evl_cons va (evl_cons (eb (v:=.type "tuple") hX.toXOk) evl_nil rfl) rfl) isinst_tup rfl rfl) tru_bool (by rfl)) (fun zz=>?_) (fun h=>nomatch h))
   refine exs_cons (ex_store_dct (k:=k) (d:=.tup ((List.zipWith (· + ·) ms os).map D.int)) ?_ va addO_mem va hzc (exs_nil (exs_nil (exs_nil (fin (addG_sub rfl rfl rfl) (addO_set (m:=.t _) hs))))) (by rfl))
   exact ev_tupadd (c:=27) (Pt:=23) hh (by have:=hA.d; omega) (by kernel_rfl) hX.addc.1 (by rw [hX.addc.2]; kernel_rfl) rfl rfl (by decide) (by kernel_rfl) (by kernel_rfl) (by kernel_rfl) rfl (eb (v:=.type "tuple") hX.toXOk) (eb (v:=.type "zip") hX.toXOk) va (ev_sub va va (subT_owndct addO_mem) (get_owndct addO_mem hold)) hl.1 hl.2 rfl rfl rfl (fun zz=>rfl)
theorem c_addc (hX:XOk3 X P) (a b:Cal) (ha:a.length <= 1000) (hb:b.length <= 1000) (hlen:∀ i,(addCal a (b.take i)).length <= 1000)
  (hl:∀ (i:Nat) p old,b[i]? = some p -> (addCal a (b.take i)).lookup p.1 = some old -> p.2.like old):CallQ X 2 (.ref 28) [] [D.dct (cd a),D.dct (cd b)] [] (.dct (cd (addCal a b))):=by
 refine def_q (n:=1) (ns:=["target", "source"]) (gs:=[D.dct (cd a),D.dct (cd b)]) hX.toXOk (by kernel_rfl) (by kernel_rfl) (by kernel_rfl) rfl (fun F s vs us B r rk=>⟨vs,?_,r⟩) fun A L hA=>?_
 ·obtain ⟨v,w,rfl,_,_⟩:=rdl2 r
  rw [rdl0 rk]
  exact fun S=>by kernel_rfl
 have hh:=hA.h
 refine exs_cons (ex_assign_s (evo_s evo_dict0 fun l=>?_) (by kernel_rfl) (by rfl))
 refine exs_for (G:=fun i=>addG a b l) (W:=fun i=>addO l (cpy (a.take i))) (it_items hh va (by rfl) (by rfl)) rfl sub_refl (fun i d hd=>?_) ?_
 ·rw [items_cd,List.getElem?_map] at hd
  obtain ⟨⟨k,m⟩,hp,rfl⟩:=Option.map_eq_some_iff.mp hd
  refine ⟨_,asgI_tup hh (an (an asgl_nil)),exs_cons (ex_store_dct (k:=k) (d:=m.d) va va addO_mem va ?_ (exs_nil ⟨addG_sub rfl rfl rfl,addO_set (cpy_snoc hp)⟩) (by rfl))⟩
  rw [cd_length]
  exact Nat.le_trans (dst_fold _ []) (by simp; omega)
 rw [items_cd,List.length_map,List.take_length]
 refine exs_for (G:=fun i=>addG a b l) (W:=fun i=>addO l (addCal a (b.take i))) (it_items hh va (by rfl) (by rfl)) rfl sub_refl (fun i d hd=>?_) ?_
 ·rw [items_cd,List.getElem?_map] at hd
  obtain ⟨⟨k,m⟩,hp,rfl⟩:=Option.map_eq_some_iff.mp hd
  have fin:∀ {Γ' Ω'},Sub (addG a b l) Γ' -> Ω' = addO l (addStep (addCal a (b.take i)) (k,m)) -> StF (fun i=>addG a b l) (fun i=>addO l (addCal a (b.take i))) (i + 1) Γ' Ω':=fun s e=>⟨s,e.trans (congrArg (addO l) (add_snoc hp).symm)⟩
  have hz:=hlen i
  refine ⟨_,asgI_tup hh (an (an asgl_nil)),?_⟩
  cases hc:(addCal a (b.take i)).lookup k with
  | some old=>exact add_held hX hA hc hz (hl i (k,m) old hp hc) fin
  | none=>
   refine exs_cons (ex_if (b:=false) (evt_cmp va va (op_b (in_owndct addO_mem) (by rw [cd_lookup,hc]; rfl)) rfl) (fun h=>nomatch h) (fun zz=>?_))
   exact exs_cons (ex_store_dct (k:=k) (d:=m.d) va va addO_mem va (by rw [cd_length]; exact Nat.le_trans hz (by decide)) (exs_nil (exs_nil (fin (addG_sub rfl rfl rfl) (addO_set (by simp only [addStep,hc]))))) (by rfl))
 rw [items_cd,List.length_map,List.take_length]
 refine exs_freeze (Γ':=([("new_callers",.dct (cd (addCal a b)))]:Loc)) (fun x d h=>.inr ?_) (exs_cons (ex_return va (.inl rfl)))
 rcases lookup_cases h with ⟨rfl,rfl⟩ | ⟨_,h⟩
 ·exact ⟨rfl,rfl⟩
 ·cases h
end
end
section
structure Ent where
 cc:Int
 nc:Int
 tt:Int
 ct:Int
 cal:Cal
noncomputable def Ent.d (e:Ent):D:=.tup [.int e.cc,.int e.nc,.int e.tt,.int e.ct,.dct (cd e.cal)]
noncomputable def Ent.add (t s:Ent):Ent:=⟨s.cc + t.cc,s.nc + t.nc,s.tt + t.tt,s.ct + t.ct,addCal t.cal s.cal⟩
structure CalOk (a b:Cal):Prop where
 ha:a.length <= 1000
 hb:b.length <= 1000
 hlen:∀ i,(addCal a (b.take i)).length <= 1000
 hl:∀ (i:Nat) p old,b[i]? = some p -> (addCal a (b.take i)).lookup p.1 = some old -> p.2.like old
section
variable {X:Cx} {P:Params}
theorem c_adds (hX:XOk3 X P) (t s:Ent) (ok:CalOk t.cal s.cal):CallQ X 3 (.ref 21) [] [t.d,s.d] [] (t.add s).d:=by
 refine def_q (n:=2) (ns:=["target", "source"]) (gs:=[t.d,s.d]) hX.toXOk (by kernel_rfl) (by kernel_rfl) (by kernel_rfl) rfl (fun F s vs us B r rk=>⟨vs,?_,r⟩) fun A L hA=>?_
 ·obtain ⟨v,w,rfl,_,_⟩:=rdl2 r
  rw [rdl0 rk]
  exact fun S=>by kernel_rfl
 have hh:=hA.h
 refine exs_cons (ex_assign_t va (asg_tuple hh (an (an (an (an (an asgl_nil))))) rfl rfl) ?_ (by rfl) (by rfl))
 refine exs_cons (ex_assign_t va (asg_tuple hh (an (an (an (an (an asgl_nil))))) rfl rfl) ?_ (by rfl) (by rfl))
 refine exs_cons (ex_return (ev_tuple (evl_cons (ev_bin va va op_add) (evl_cons (ev_bin va va op_add) (evl_cons (ev_bin va va op_add) (evl_cons (ev_bin va va op_add) (evl_cons
  (ev_call (eg (v:=.ref 28) hX.toXOk) (fun zz=>kp_k (by rw [hX.k]; kernel_rfl)) (evl_cons va (evl_cons va evl_nil rfl) rfl) ((c_addc hX t.cal s.cal ok.ha ok.hb ok.hlen ok.hl).r hA) rfl rfl) evl_nil rfl) rfl) rfl) rfl) rfl) (by simp)) (.inl rfl))
end
end
section
section
variable {prog:Program} {w:World} {A:Around} {E:Value -> Shared -> Prop} {s:Shared}
theorem slicePart_none {Q:Option Int -> Shared -> Prop} (h:Q none s):wpAny (model prog w) A (Builtin.Slice.slicePartIndex .none) Q E s:=wpAny_pure h
theorem slicePart_int {i:Int} {t:Tok} {Q:Option Int -> Shared -> Prop} (h:Q (some i) s):wpAny (model prog w) A (Builtin.Slice.slicePartIndex (.int i t)) Q E s:=by
 unfold Builtin.Slice.slicePartIndex
 rw [if_neg (show ¬((Value.int i t == Value.none) = true) from Bool.false_ne_true)]
 refine wpAny_bind (wpAny_specialOf (T := "int") (typeIs_int s i t) int_index ?_)
 simp only [Option.isNone_some,Bool.false_eq_true,if_false]
 exact wpAny_bind (wpAny_of_eq (a:=i) rfl (wpAny_pure h))
theorem tup_slice {t sl:Addr} {vs:List Value} {n:Nat} {u:Tok} {Q:Value -> Shared -> Prop} (ht:s.heap.IsTuple t vs.toArray) (hs:s.heap.IsSliceOf sl .none (.int n u) .none) (hz:vs.length <= 1000)
  (hwhole:vs.length <= n -> Q (.ref t) s) (hpart:n < vs.length -> Q (.ref s.heap.objs.size) { s with heap:=s.heap.push { cls:=.type "tuple",data:=.seq (vs.take n).toArray } }) :
  wpAny (model prog w) A (getItem (.ref t) (.ref sl)) Q E s:=by
 obtain ⟨o,ho,hc,ne,hd⟩:=id ht
 obtain ⟨os,hos,hcs,hds⟩:=id hs
 have hTs:s.TypeIs (.ref sl) "slice" := ⟨os,hos,hcs⟩
 have hT:s.TypeIs (.ref t) "tuple" := ht.typeIs
 refine wpAny_getItem_slot hT (by decide) PySem.F.slot_tuple_getitem (wpAny_call_entry PySem.F.slot_tuple_getitem hT PySem.F.entry_tuple_getitem ?_ (PySem.F.args_tuple_getitem_2 _ _))
 refine wpAny_bind (m:=Builtin.Tuple.tupleItemsOf (.ref t)) ?_
 unfold Builtin.Tuple.tupleItemsOf
 refine wpAny_bind (wpAny_seqItems ho hd (wpAny_pure ?_))
 refine wpAny_bind (m:=typeOf (.ref sl)) (wpAny_typeOf hTs ?_)
 show wpAny _ _ (if (Value.type "slice" == Value.type "slice") = true then _ else _) _ _ s
 rw [if_pos (by decide)]
 have hm:min (n:Int) (vs.length:Int) = ((min n vs.length:Nat):Int):=by omega
 have hadj:Builtin.Slice.sliceAdjust none (some (n:Int)) 1 (vs.toArray.size:Int) = (0,((min n vs.length:Nat):Int)):=by
  have h1:¬((n:Int) < 0):=by omega
  simp [Builtin.Slice.sliceAdjust,h1,hm]
 have hpl:Builtin.Slice.slicePlaces 0 ((min n vs.length:Nat):Int) 1 = min n vs.length:=by
  unfold Builtin.Slice.slicePlaces
  rw [if_pos (by decide)]
  by_cases h:(0:Int) < ((min n vs.length:Nat):Int)
  ·rw [if_pos h,Int.ediv_one]; omega
  ·rw [if_neg h]; omega
 refine wpAny_bind (m:=Builtin.Slice.sliceApplied (.ref sl) (pure (vs.toArray.size:Int))) ?_
 unfold Builtin.Slice.sliceApplied Builtin.Slice.sliceFields
 refine wpAny_bind (wpAny_bind (wpAny_field hos hds (x:=.none) rfl (wpAny_bind (wpAny_field hos hds (x:=.int n u) rfl (wpAny_bind (wpAny_field hos hds (x:=.none) rfl (wpAny_pure ?_)))))))
 refine wpAny_bind (slicePart_none ?_)
 rw [if_neg (by decide)]
 refine wpAny_bind (slicePart_none (wpAny_bind (slicePart_int (wpAny_bind (wpAny_pure ?_)))))
 simp only [Option.getD_none,hadj,hpl]
 refine wpAny_pure ?_
 by_cases hle:vs.length <= n
 ·rw [if_pos (by simp; omega)]
  refine wpAny_bind (m:=Builtin.Tuple.tupleIsExact (.ref t)) ?_
  unfold Builtin.Tuple.tupleIsExact
  refine wpAny_bind (wpAny_typeOf hT (wpAny_pure ?_))
  rw [if_pos (by decide)]
  exact wpAny_bind (wpAny_rule (wpAny_bind (wpAny_pure (wpAny_pure ⟨_,rfl,hwhole hle⟩))))
 ·rw [if_neg (by simp; omega)]
  have hlt:n < vs.length:=by omega
  have hmn:min n vs.length = n:=by omega
  have hl:(List.range (min n vs.length)).filterMap (fun (k:Nat)=>vs.toArray[((0:Int) + (k:Int) * 1).toNat]?) = vs.take n:=by
   rw [hmn]
   have:(fun (k:Nat)=>vs.toArray[((0:Int) + (k:Int) * 1).toNat]?) = fun k=>vs[k]?:=by
    funext k
    have:((0:Int) + (k:Int) * 1).toNat = k:=by omega
    rw [this]; simp
   rw [this]
   have key:∀ (m:Nat) (l:List Value),m <= l.length -> (List.range m).filterMap (fun k=>l[k]?) = l.take m:=by
    intro m
    induction m with
    | zero=>intro l _; simp
    | succ m ih=>
     intro l h
     rw [List.range_succ,List.filterMap_append,ih l (by omega),List.take_add_one]
     have:l[m]? = some l[m]:=List.getElem?_eq_getElem (by omega)
     simp [this]
   exact key n vs (by omega)
  rw [hl]
  refine wpAny_bind (m:=Builtin.Tuple.tupleExact _) (wpAny_newObj_type (wpAny_pure ⟨_,rfl,hpart hlt⟩) ?_)
  show (vs.take n).toArray.size <= sizeLine
  rw [List.size_toArray,List.length_take]
  exact Nat.le_trans (Nat.min_le_right ..) (Nat.le_trans hz (by decide))
end
variable {X:Cx} {A:Around} {env:Env} {Γ Γ0:Loc} {Ω:Own} {F F':FS} {s s':Shared}
theorem ev_upto_tup {value e:Expr} {p pos:Pos} {ds:List D} {n:Nat} (h1:Ev X A env Γ Ω value (.tup ds)) (h2:Ev X A env Γ Ω e (.int n)) (hz:ds.length <= 1000):Ev X A env Γ Ω (.Subscript value (.Slice none (some e) none p) pos) (.tup (ds.take n)):=
 ev_slice (lo:=none) (hi:=some (n:Int)) h1 trivial h2 subT_tup (fun F s v sl vl vu I r hsl pl pu=>by
  obtain ⟨a,vs,rfl,ht,rv,o,hF⟩:=rd_tupI I r
  obtain ⟨l,rfl,hl⟩:=pl
  obtain ⟨u,rfl,hu⟩:=pu
  cases l with
  | some q=>cases hl
  | none=>
   cases u with
   | none=>cases hu
   | some q=>
    obtain ⟨i,t⟩:=q
    cases hu
    refine tup_slice ht hsl (by rw [rv.length]; exact hz) (fun hw=>?_) (fun hw=>?_)
    ·rw [List.take_of_length_le (by rw [<- rv.length]; exact hw)]
     exact ⟨F,I.stay fun zz zz e=>e,r⟩
    ·have y:=I.frozen (s':={ s with heap:=s.heap.push { cls:=.type "tuple",data:=.seq (vs.take n).toArray } }) (get_size s.heap) (Heap.get?_push_size _ rfl) (fun b o e=>Heap.get?_push_of_some _ e)
     exact ⟨_,y,.tup (FS.put_self ..) rfl rfl ((rv.take n).mono y.le)⟩)
end
section
section
variable {prog:Program} {w:World} {A:Around} {E:Value -> Shared -> Prop} {s:Shared}
theorem tup_len {t:Addr} {vs:List Value} {Q:Value -> Shared -> Prop} (ht:s.heap.IsTuple t vs.toArray) (hz:vs.length <= 1000) (h:∀ u tk,Q (.int vs.length u) { s with toks:=tk }) :
  wpAny (model prog w) A (Builtin.«len» ⟨[.ref t],[]⟩) (fun fin s'=>∃ r,fin = .done (.ret r) /\ Q r s') E s:=by
 have hT:s.TypeIs (.ref t) "tuple" := ht.typeIs
 obtain ⟨o,ho,hc,ne,hd⟩:=id ht
 unfold Builtin.«len»
 refine wpAny_bind (m:=oneArg "len" _) (wpAny_pure ?_)
 refine wpAny_bind (m:=callSpecial? (.ref t) (Str.ofString "__len__")) (wpAny_callSpecial?_slot (name:=Str.ofString "__len__") hT PySem.F.slot_tuple_len
  (wpAny_call_entry PySem.F.slot_tuple_len hT PySem.F.entry_tuple_len ?_ (PySem.F.args_tuple_len_1 _)))
 refine wpAny_bind (m:=Builtin.Tuple.tupleItemsOf (.ref t)) ?_
 unfold Builtin.Tuple.tupleItemsOf
 refine wpAny_bind (wpAny_seqItems ho hd (wpAny_pure ?_))
 refine wpAny_bind (wpAny_mkInt (wpAny_pure ⟨_,rfl,?_⟩))
 refine wpAny_bind (wpAny_holding (wpAny_pure (wpAny_bind (wpAny_letGo ?_))))
 have e:vs.toArray.size = vs.length:=by simp
 show wpAny _ _ (if ((vs.toArray.size:Nat):Int) < 0 then _ else _) _ _ _
 rw [if_neg (by omega)]
 show wpAny _ _ (if ((vs.toArray.size:Nat):Int) >= 2 ^ 63 then _ else _) _ _ _
 rw [if_neg (by rw [e]; omega)]
 refine wpAny_bind (wpAny_mkInt (wpAny_pure ⟨_,rfl,?_⟩))
 rw [e]; exact h _ _
theorem tup_truthy {t:Addr} {vs:List Value} {Q:Bool -> Shared -> Prop} (ht:s.heap.IsTuple t vs.toArray) (hz:vs.length <= 1000) (h:∀ tk,Q (!vs.isEmpty) { s with toks:=tk }):wpAny (model prog w) A (truthy (.ref t)) Q E s:=by
 have hT:s.TypeIs (.ref t) "tuple" := ht.typeIs
 have hne:((vs.length:Int) != 0) = !vs.isEmpty:=by
  cases vs with
  | nil=>rfl
  | cons v r=>simp; omega
 have key:wpAny (model prog w) A (runValue (.builtin "len" ⟨[.ref t],[]⟩)) (fun r s'=>∃ u,r = .int vs.length u /\ Q (!vs.isEmpty) s') E s:=by
  refine wpAny_runValue (codeAny_builtin entry_len ?_)
  rw [Around.under_plainId plain_len _]
  exact wpAny_mono (tup_len (Q:=fun r s'=>∃ u,r = .int vs.length u /\ Q (!vs.isEmpty) s') ht hz fun u tk=>⟨u,rfl,h tk⟩) (fun fin s' h'=>by obtain ⟨r,rfl,hq⟩:=h'; exact hq) fun zz zz e=>e
 unfold truthy
 first
  | refine wpAny_bind (wpAny_callSpecial?_none (name:=Str.ofString "__bool__") hT ktl_noBool ?_)
  | refine wpAny_bind (wpAny_pure (wpAny_bind (wpAny_callSpecial?_none (name:=Str.ofString "__bool__") hT ktl_noBool ?_)))
 first
  | refine wpAny_bind (wpAny_specialOf (name:=Str.ofString "__len__") hT PySem.F.slot_tuple_len.lookup ?_)
  | refine wpAny_bind (wpAny_pure (wpAny_bind (wpAny_specialOf (name:=Str.ofString "__len__") hT PySem.F.slot_tuple_len.lookup ?_)))
 first
  | exact wpAny_bind (wpAny_mono key (fun r s' h'=>by obtain ⟨u,rfl,hq⟩:=h'; exact wpAny_pure (hne ▸ hq)) fun zz zz e=>e)
  | exact wpAny_bind (wpAny_pure (wpAny_bind (wpAny_mono key (fun r s' h'=>by obtain ⟨u,rfl,hq⟩:=h'; exact wpAny_pure (hne ▸ hq)) fun zz zz e=>e)))
end
variable {X:Cx} {A:Around} {env:Env} {Γ Γ0:Loc} {Ω:Own} {F F':FS} {s s':Shared}
theorem tru_tup {ds:List D} (hz:ds.length <= 1000):Tru X A env Γ Ω (.tup ds) (!ds.isEmpty):=by
 intro F s v I r
 obtain ⟨a,vs,rfl,ht,rv,o,hF⟩:=rd_tupI I r
 have e:vs.isEmpty = ds.isEmpty:=by
  have:=rv.length
  cases vs <;> cases ds <;> simp_all
 exact tup_truthy ht (by rw [rv.length]; exact hz) fun tk=>⟨by rw [e],F,I.stay (s':={ s with toks:=tk }) fun zz zz e=>e⟩
end
section
variable {X:Cx} {A:Around} {env:Env} {Γ Γ0:Loc} {Ω:Own} {F F':FS} {s s':Shared}
inductive PrR (X:Cx) (F:FS) (s:Shared) (es:List (Str × D)) (ps:List (Value × Value)) (s':Shared):Prop
 | mk (F':FS) (kvs:List (Str × Value)) (x:Ext X F F' s s') (c:Carries (PySem.strKind X.prog X.w) ps kvs) (k:kvs.map (·.1) = es.map (·.1)) (r:RdL X F' (kvs.map (·.2)) (es.map (·.2)))
structure EvPr (X:Cx) (A:Around) (env:Env) (Γ:Loc) (Ω:Own) (ks:List (Option Expr)) (vs:List Expr) (es:List (Str × D)):Prop where
 run:∀ (pos:Pos) F s,Inv X env F Γ Ω s -> wpAny X.M A (evalPairs (pairTrees ks vs env pos)) (PrR X F s es) NoE s
theorem evpr_nil:EvPr X A env Γ Ω [] [] []:=⟨fun pos F s I=>pairTrees_nil_walk ⟨F,[],I.stay fun zz zz e=>e,trivial,rfl,.nil⟩⟩
theorem evpr_cons {k v:Expr} {ks:List (Option Expr)} {vs:List Expr} {x:Str} {d:D} {es:List (Str × D)} (hk:Ev X A env Γ Ω k (.str x)) (hv:Ev X A env Γ Ω v d) (hr:EvPr X A env Γ Ω ks vs es):EvPr X A env Γ Ω (some k :: ks) (v :: vs) ((x,d) :: es):=by
 refine ⟨fun pos F s I=>pairTrees_cons_walk (res_then I (hk F s I) fun kv F1 ss1 x1 I1 rr1=>res_then I1 (hv F1 ss1 I1) fun vv F2 ss2 xx2 I2 rr2=>wpAny_mono (hr.run pos F2 ss2 I2) (fun ps ss3 h=>?_) fun zz zz e=>e)⟩
 obtain ⟨F3,kvs,xx3,hc,hm,rl⟩:=h
 exact ⟨F3,(x,vv) :: kvs,(x1.trans xx2 I.glob.tabs_there).trans xx3 I.glob.tabs_there,⟨is_str rr1,rfl,hc⟩,congrArg (x :: ·) hm,.cons (rr2.mono xx3.le) rl⟩
noncomputable def mrg (es:List (Str × D)):List (Str × D):=es.foldl (fun acc p=>dst acc p.1 p.2) []
theorem mrg_rd (kvs:List (Str × Value)):∀ (es:List (Str × D)) (a:List (Str × Value)) (b:List (Str × D)),a.map (·.1) = b.map (·.1) -> RdL X F (a.map (·.2)) (b.map (·.2)) -> kvs.map (·.1) = es.map (·.1) -> RdL X F (kvs.map (·.2)) (es.map (·.2)) ->
  (merged a kvs).map (·.1) = (es.foldl (fun acc p=>dst acc p.1 p.2) b).map (·.1) /\ RdL X F ((merged a kvs).map (·.2)) ((es.foldl (fun acc p=>dst acc p.1 p.2) b).map (·.2)):=by
 induction kvs with
 | nil=>intro es a b h1 h2 h3 _; rw [List.map_eq_nil_iff.mp h3.symm]; exact ⟨h1,h2⟩
 | cons p kvs ih=>
  intro es a b h1 h2 h3 h4
  cases es with
  | nil=>cases h3
  | cons q es=>
   obtain ⟨k,v⟩:=p
   obtain ⟨k',d⟩:=q
   obtain ⟨e,h3'⟩:=List.cons.inj h3
   obtain rfl:k = k':=e
   have z:=dst_rd (k:=k) h1 h2 h4.uncons.1
   exact ih es _ _ z.1 z.2 h3' h4.uncons.2
theorem evo_dict {ks:List (Option Expr)} {vs:List Expr} {pos:Pos} {es:List (Str × D)} (hp:∀ D,EvPr X A env Γ ((D,.dct []) :: Ω) ks vs es) (chk:(ks.all (·.isSome) && (ks.length == vs.length && (!ks.isEmpty && decide (ks.length <= 15)))) = true:=by kernel_rfl) {es':List (Str × D)} (hm:mrg es = es':=by kernel_rfl) :
  EvO X A env Γ Ω (.Dict ks vs pos) (.dct es'):=by
 subst hm
 obtain ⟨hall,chk⟩:=(Bool.and_eq_true ..).mp chk
 obtain ⟨hl,chk⟩:=(Bool.and_eq_true ..).mp chk
 obtain ⟨h0,hlen⟩:=(Bool.and_eq_true ..).mp chk
 refine ⟨fun F s I=>wpAny_Dict_walk (knd:=PySem.strKind X.prog X.w) hall (beq_iff_eq.mp hl) (List.isEmpty_eq_false_iff.mp ((Bool.not_eq_true' ..).mp h0)) (of_decide_eq_true hlen) ?_⟩
 have fr:=get_size s.heap
 have N:Own1 X env Γ Ω (.dct []) F s (.ref s.heap.objs.size) { s with heap:=s.heap.push { cls:=.type "dict",data:=.dict #[] } }:=I.fresh1 (I.stay fun zz zz e=>e) fr (I.stay (s':={ s with heap:=s.heap.push { cls:=.type "dict",data:=.dict #[] } }) (fun b o e=>Heap.get?_push_of_some _ e)) (own_dict0 I.glob.low (Heap.get?_push_size _ rfl))
 obtain ⟨a,F0,e,y,_,I0⟩:=N
 obtain rfl:=Value.ref.inj e
 refine wpAny_mono ((hp s.heap.objs.size).run pos F0 _ I0) (fun ps ss1 h=>?_) fun zz zz e=>e
 obtain ⟨F1,kvs,x1,hc,hm,rl⟩:=h
 have I1:=I0.ext x1
 obtain ⟨kvs0,hsm,hke,_,hdo⟩:=own_dct I1 (List.mem_cons_self ..)
 obtain rfl:kvs0 = []:=List.map_eq_nil_iff.mp hke
 refine ⟨kvs,hc,hdo,fun h' hd' hs=>?_⟩
 obtain ⟨o',ho',hdo'⟩:=Heap.dictOf_iff.mp hd'
 have q:=mrg_rd kvs es [] [] rfl .nil hm rl
 have I2:=I1.setHd (tk:=ss1.toks + ps.length) (c':=.dct (mrg es)) hs ⟨hsm,o',_,ho',hdo',q.1,q.2⟩
 have z:=y.trans x1 I.glob.tabs_there
 exact ⟨_,F1,rfl,⟨z.le,I2.fz,z.new,fun b o hb eo=>(hs.2 b fun q=>clash fr (q ▸ eo)).trans (z.keep b o hb eo),I2.glob,z.os,z.gens⟩,fr,I2⟩
end
section
noncomputable def mkOf (x c:Nat) (n:Int):Mk:=match x with
 | 0=>.i n
 | 1=>.t [n,n * (if x = c then 0 else 1)]
 | _=>.t [n,n * (if x = c then 0 else 1),2 * n,-n]
section
variable {X:Cx} {P:Params}
theorem lt_ne (i j:Nat) (hi:i < 4) (hj:j < 4):(if (lt i != lt j) = true then (1:Int) else 0) = if i = j then 0 else 1:=by
 have:(lt i != lt j) = !(decide (i = j)):=by rw [bne,lt_eq i j hi hj]
 rw [this]
 by_cases h:i = j <;> simp [h]
theorem c_mark (hX:XOk X P) (x c:Nat) (n:Int) (hx:x < 3) (hc:c < 4):CallQ X 1 (.ref 116) [] [.str (lt x),.str (lt c),.int n] [] (mkOf x c n).d:=by
 refine def_q (n:=0) (ns:=["letter", "caller", "n"]) (gs:=[.str (lt x),.str (lt c),.int n]) hX (by kernel_rfl) (by kernel_rfl) (by kernel_rfl) rfl (fun F s vs us B r rk=>⟨vs,?_,r⟩) fun A L hA=>?_
 ·obtain ⟨v,w,u,rfl,_⟩:=rdl3 r
  rw [rdl0 rk]
  exact fun S=>by kernel_rfl
 have hh:=hA.h
 have hne:=lt_ne x c (by omega) hc
 have hb:Builtin.Int.intBits (if (lt x != lt c) = true then (1:Int) else 0) <= 64:=by cases (lt x != lt c) <;> decide
 have key:∀ (k:Nat) (hk:([("a",D.int 0),("b",D.int 2),("c",D.int 4)]:List (Str × D)).lookup (lt x) = some (D.int k)) (d:D),(d = if (!([D.int n,D.int (n * (if (lt x != lt c) = true then (1:Int) else 0)),D.int (2 * n),D.int (-n)].take k).isEmpty) then D.tup ([D.int n,D.int (n * (if (lt x != lt c) = true then (1:Int) else 0)),D.int (2 * n),D.int (-n)].take k) else .int n) ->
   Exs X A (envF P 116 L) ([("letter",D.str (lt x)),("caller",D.str (lt c)),("n",D.int n)]:Loc) [] (fbK P 116) (RetP d):=by
  intro k hk d hd
  refine exs_cons (ex_return (d:=d) ?_ (.inl rfl))
  refine ev_or2 (dd1:=.tup ([D.int n,D.int (n * (if (lt x != lt c) = true then (1:Int) else 0)),D.int (2 * n),D.int (-n)].take k)) (dd2:=.int n) ?_ (tru_tup (by simp; omega)) (fun zz=>va) hd
  refine ev_upto_tup ?_ ?_ (by simp)
  ·exact ev_tuple (evl_cons va (evl_cons (ev_bin va (ev_call (eb (v:=.type "int") hX) (fun zz=>kp_t) (evl_cons (ev_cmp va va op_nes rfl) evl_nil rfl) int_bool rfl rfl) (op_mul (.of_right hb))) (evl_cons (ev_bin ev_int va (op_mul (.of_left (by decide)))) (evl_cons (ev_una va op_neg) evl_nil rfl) rfl) rfl) rfl) (by simp)
  ·refine ev_sub (dd1:=.dct [("a",D.int 0),("b",D.int 2),("c",D.int 4)]) (dd2:=.str (lt x)) ?_ va subT_dct (get_dct hk)
   refine EvO.ev (c:=.dct [("a",D.int 0),("b",D.int 2),("c",D.int 4)]) ?_
   refine evo_dict (es:=[("a",D.int 0),("b",D.int 2),("c",D.int 4)]) (fun D=>?_)
   exact evpr_cons ev_str ev_int (evpr_cons ev_str ev_int (evpr_cons ev_str ev_int evpr_nil))
 match x,hx with
 | 0,_=>exact key 0 (by kernel_rfl) _ rfl
 | 1,_=>exact key 2 (by kernel_rfl) _ (by rw [hne]; rfl)
 | 2,_=>exact key 4 (by kernel_rfl) _ (by rw [hne]; rfl)
end
end
section
variable {X:Cx} {A:Around} {env:Env} {Γ Γ0:Loc} {Ω:Own} {F F':FS} {s s':Shared}
noncomputable def mrgK {K V:Type} [DecidableEq K] (es:List (K × V)):List (K × V):=es.foldl (fun acc p=>dst acc p.1 p.2) []
theorem mrgK_snoc {K V:Type} [DecidableEq K] (es:List (K × V)) (p:K × V):mrgK (es ++ [p]) = dst (mrgK es) p.1 p.2:=by simp [mrgK,List.foldl_append]
theorem mrgK_le {K:Type} [DecidableEq K] {ds:List D} {f:D -> Option (K × D)} {i:Nat} (hz:ds.length <= 1000):(mrgK ((ds.take i).filterMap f)).length <= 1000:=
 Nat.le_trans (dst_fold _ []) (Nat.le_trans (Nat.le_of_eq (Nat.zero_add _)) (Nat.le_trans (List.length_filterMap_le _ _) (Nat.le_trans (List.length_take_le' ..) hz)))
inductive EmD {K:Type} (X:Cx) (A:Around) (ce:Env) (Γ:Loc) (c:OC) (Ω:Own) (kx vx:Expr) (kd:K -> D) (o:Option (K × D)):Prop
 | mk (k:K) (d:D) (e:o = some (k,d)) (hk:∀ D,Ev X A ce Γ ((D,c) :: Ω) kx (kd k)) (hv:∀ D,Ev X A ce Γ ((D,c) :: Ω) vx d)
inductive DcT {K:Type} (X:Cx) (A:Around) (ce:Env) (Γ:Loc) (c:OC) (Ω:Own) (t:Expr) (d:D) (ifs:List Expr) (kx vx:Expr) (kd:K -> D) (o:Option (K × D)):Prop
 | mk (Γ₁:Loc) (ha:∀ D,AsgI X A ce Γ ((D,c) :: Ω) t d Γ₁) (hs:Sub Γ Γ₁) (b:Bool) (ht:∀ D,TestsD X A ce Γ₁ ((D,c) :: Ω) ifs b) (h1:b = true -> EmD X A ce Γ₁ c Ω kx vx kd o) (h0:b = false -> o = none)
theorem dc_fm {kx vx t iter:Expr} {ifs:List Expr} {scope:Scope} {pos:Pos} {ds:List D} {al:List Addr} (f:D -> Option (Str × D)) (sc:ScopeOk env scope) (hns:∀ x ∈ tgtNames t,(x,NameKind.free) ∉ scope.names) (hit:EvIt X A env Γ Ω t iter ds al) (hz:ds.length <= 1000)
  (turn:∀ C (d:D) (acc:List (Str × D)),d ∈ ds -> DcT X A (cenvOf scope env C) (capt scope.names Γ) (.dct acc) Ω t d ifs kx vx .str (f d)) (hf:∀ x,foldedSetIterable iter env x = pure x:=by intro _; rfl) :
  CompD X A env Γ Ω (.DictComp kx vx [⟨t,iter,ifs,0⟩] scope pos) iter scope (emitD kx vx) t ifs [] (.dct []) (.dct (mrgK (ds.filterMap f))):=
 comp_one (fun i=>.dct (mrgK ((ds.take i).filterMap f))) isComp_dict sc hf hns hit rfl (by rw [List.take_length]) fun C i d hd=>by
  obtain ⟨Γ₁,h1,h2,b,h3,h4,h5⟩:=turn C d (mrgK ((ds.take i).filterMap f)) (List.mem_of_getElem? hd)
  refine ⟨Γ₁,h1,?_⟩
  rw [fm_take hd]
  cases b with
  | true=>
   obtain ⟨k,d',hd',hk,hv⟩:=h4 rfl
   rw [hd',Option.toList,mrgK_snoc]
   exact turn_dict_emit rfl h3 (fun zz D=>⟨hk D,hv D⟩) h2 ⟨rfl,rfl⟩ (mrgK_le hz)
  | false=>
   rw [h5 rfl,Option.toList,List.append_nil]
   exact turn_dict_emit (k:=Str.empty) (d:=.none) rfl h3 (fun q=>nomatch q) h2 ⟨rfl,rfl⟩ (mrgK_le hz)
inductive FlD {K:Type} (X:Cx) (A:Around) (ce:Env) (Γ:Loc) (c:OC) (Ω:Own) (t:Expr) (d:D) (ifs:List Expr) (kx vx:Expr) (kd:K -> D) (b:Bool) (o:K × D):Prop
 | mk (Γ₁:Loc) (ha:∀ D,AsgI X A ce Γ ((D,c) :: Ω) t d Γ₁) (hs:Sub Γ Γ₁) (ht:∀ D,TestsD X A ce Γ₁ ((D,c) :: Ω) ifs b) (hk:b = true -> ∀ D,Ev X A ce Γ₁ ((D,c) :: Ω) kx (kd o.1)) (hv:b = true -> ∀ D,Ev X A ce Γ₁ ((D,c) :: Ω) vx o.2)
theorem mk_snoc {α K V:Type} [DecidableEq K] {xs:List α} {p:α -> Bool} {f:α -> K × V} {i:Nat} {x:α} (h:xs[i]? = some x):mrgK (((xs.take (i + 1)).filter p).map f) = if p x then dst (mrgK (((xs.take i).filter p).map f)) (f x).1 (f x).2 else mrgK (((xs.take i).filter p).map f):=by
 rw [fl_snoc h]
 cases p x
 ·rfl
 ·exact mrgK_snoc ..
theorem mk_len {α K V:Type} [DecidableEq K] {xs:List α} {p:α -> Bool} {f:α -> K × V} {i n:Nat} (hz:xs.length <= n):(mrgK (((xs.take i).filter p).map f)).length <= n:=
 Nat.le_trans (dst_fold _ []) (Nat.le_trans (Nat.le_of_eq (Nat.zero_add _)) (fl_len hz))
theorem dc_filt {α:Type} {xs:List α} {h:α -> D} (p:α -> Bool) (f:α -> Str × D) {kx vx t iter:Expr} {ifs:List Expr} {scope:Scope} {pos:Pos} {al:List Addr} (hit:EvIt X A env Γ Ω t iter (xs.map h) al) (hz:xs.length <= 1000)
  (turn:∀ C (x:α) acc,x ∈ xs -> FlD X A (cenvOf scope env C) (capt scope.names Γ) (.dct acc) Ω t (h x) ifs kx vx .str (p x) (f x)) (hc:compOk env scope t = true:=by kernel_rfl) (hf:∀ x,foldedSetIterable iter env x = pure x:=by intro _; rfl) :
  CompD X A env Γ Ω (.DictComp kx vx [⟨t,iter,ifs,0⟩] scope pos) iter scope (emitD kx vx) t ifs [] (.dct []) (.dct (mrgK ((xs.filter p).map f))):=
 comp_of (fun i=>.dct (mrgK (((xs.take i).filter p).map f))) isComp_dict hc hf hit rfl (by rw [List.take_length]) fun C i x hx=>
  let ⟨Γ₁,ha,hs,ht,hk,hv⟩:=turn C x _ (List.mem_of_getElem? hx)
  ⟨Γ₁,ha,turn_dict_emit rfl ht (fun hb D=>⟨hk hb D,hv hb D⟩) hs ⟨congrArg OC.dct (mk_snoc hx).symm,rfl⟩ (mk_len hz)⟩
theorem dci_filt {α:Type} {xs:List α} {h:α -> D} (p:α -> Bool) (f:α -> Int × D) {kx vx t iter:Expr} {ifs:List Expr} {scope:Scope} {pos:Pos} {al:List Addr} (hit:EvIt X A env Γ Ω t iter (xs.map h) al) (hz:xs.length <= 1000)
  (turn:∀ C (x:α) acc,x ∈ xs -> FlD X A (cenvOf scope env C) (capt scope.names Γ) (.dci acc) Ω t (h x) ifs kx vx .int (p x) (f x)) (hc:compOk env scope t = true:=by kernel_rfl) (hf:∀ x,foldedSetIterable iter env x = pure x:=by intro _; rfl) :
  CompD X A env Γ Ω (.DictComp kx vx [⟨t,iter,ifs,0⟩] scope pos) iter scope (emitD kx vx) t ifs [] (.dci []) (.dci (mrgK ((xs.filter p).map f))):=
 comp_of (fun i=>.dci (mrgK (((xs.take i).filter p).map f))) isComp_dict hc hf hit rfl (by rw [List.take_length]) fun C i x hx=>
  let ⟨Γ₁,ha,hs,ht,hk,hv⟩:=turn C x _ (List.mem_of_getElem? hx)
  ⟨Γ₁,ha,turn_dicti_emit rfl ht (fun hb D=>⟨hk hb D,hv hb D⟩) hs ⟨congrArg OC.dci (mk_snoc hx).symm,rfl⟩ (mk_len hz)⟩
inductive MapD {K:Type} (X:Cx) (A:Around) (ce:Env) (Γ:Loc) (c:OC) (Ω:Own) (t:Expr) (d:D) (kx vx:Expr) (kd:K -> D) (o:K × D):Prop
 | mk (Γ₁:Loc) (ha:∀ D,AsgI X A ce Γ ((D,c) :: Ω) t d Γ₁) (hs:Sub Γ Γ₁) (hk:∀ D,Ev X A ce Γ₁ ((D,c) :: Ω) kx (kd o.1)) (hv:∀ D,Ev X A ce Γ₁ ((D,c) :: Ω) vx o.2)
theorem MapD.fl {K:Type} {ce:Env} {c:OC} {t kx vx:Expr} {d:D} {kd:K -> D} {o:K × D} (m:MapD X A ce Γ c Ω t d kx vx kd o):FlD X A ce Γ c Ω t d [] kx vx kd true o:=
 let ⟨Γ₁,ha,hs,hk,hv⟩:=m; ⟨Γ₁,ha,hs,fun zz=>tests_nil,fun zz=>hk,fun zz=>hv⟩
theorem dc_map {α:Type} {xs:List α} {h:α -> D} (f:α -> Str × D) {kx vx t iter:Expr} {scope:Scope} {pos:Pos} {al:List Addr} (hit:EvIt X A env Γ Ω t iter (xs.map h) al) (hz:xs.length <= 1000)
  (turn:∀ C (x:α) acc,x ∈ xs -> MapD X A (cenvOf scope env C) (capt scope.names Γ) (.dct acc) Ω t (h x) kx vx .str (f x)) (hc:compOk env scope t = true:=by kernel_rfl) (hf:∀ x,foldedSetIterable iter env x = pure x:=by intro _; rfl) :
  CompD X A env Γ Ω (.DictComp kx vx [⟨t,iter,[],0⟩] scope pos) iter scope (emitD kx vx) t [] [] (.dct []) (.dct (mrgK (xs.map f))):=by
 have k:=dc_filt (fun zz=>true) f (pos:=pos) hit hz (fun C x acc hx=>(turn C x acc hx).fl) hc hf
 rwa [List.filter_eq_self.mpr fun zz zz=>rfl] at k
theorem dci_map {α:Type} {xs:List α} {h:α -> D} (f:α -> Int × D) {kx vx t iter:Expr} {scope:Scope} {pos:Pos} {al:List Addr} (hit:EvIt X A env Γ Ω t iter (xs.map h) al) (hz:xs.length <= 1000)
  (turn:∀ C (x:α) acc,x ∈ xs -> MapD X A (cenvOf scope env C) (capt scope.names Γ) (.dci acc) Ω t (h x) kx vx .int (f x)) (hc:compOk env scope t = true:=by kernel_rfl) (hf:∀ x,foldedSetIterable iter env x = pure x:=by intro _; rfl) :
  CompD X A env Γ Ω (.DictComp kx vx [⟨t,iter,[],0⟩] scope pos) iter scope (emitD kx vx) t [] [] (.dci []) (.dci (mrgK (xs.map f))):=by
 have k:=dci_filt (fun zz=>true) f (pos:=pos) hit hz (fun C x acc hx=>(turn C x acc hx).fl) hc hf
 rwa [List.filter_eq_self.mpr fun zz zz=>rfl] at k
end
section
abbrev Book:=List (Nat × Ent)
noncomputable def bkD (b:Book):List (Str × D):=b.map fun p=>(lt p.1,p.2.d)
noncomputable def ent0:Ent:=⟨0,0,0,0,[]⟩
noncomputable def sumB (one two:Book):Book:=[0,1,2].filterMap fun x=>if (one.lookup x).isSome || (two.lookup x).isSome then some (x,((one.lookup x).getD ent0).add ((two.lookup x).getD ent0)) else none
theorem bk_lookup:∀ (b:Book) (x:Nat),(∀ p ∈ b,p.1 < 4) -> x < 4 -> (bkD b).lookup (lt x) = (b.lookup x).map Ent.d
 | [],x,_,_=>rfl
 | (y,e) :: r,x,h,hx=>by
  have ih:=bk_lookup r x (fun p hp=>h p (List.mem_cons_of_mem _ hp)) hx
  have hy:=h (y,e) (List.mem_cons_self ..)
  simp only [bkD,List.map_cons,List.lookup_cons] at ih ⊢
  rw [lt_eq x y hx hy,ih]
  by_cases q:x = y
  ·subst q; simp
  ·have:(x == y) = false:=by simpa using q
   simp [q,this]
theorem any_notin {K V:Type} [DecidableEq K] {k:K} {es:List (K × V)} (h:k ∉ es.map (·.1)):es.any (fun kv=>kv.1 = k) = false:=by
 rw [List.any_eq_false]
 intro p hp q
 exact h (List.mem_map.mpr ⟨p,hp,by simpa using q⟩)
theorem mrgK_nodup {K V:Type} [DecidableEq K]:∀ (es acc:List (K × V)),((acc ++ es).map (·.1)).Nodup -> es.foldl (fun acc p=>dst acc p.1 p.2) acc = acc ++ es
 | [],acc,_=>by simp
 | (k,v) :: r,acc,h=>by
  have hk:k ∉ acc.map (·.1):=by
   rw [List.map_append,List.map_cons,List.nodup_append] at h
   exact fun q=>h.2.2 k q k (List.mem_cons_self ..) rfl
  have e:dst acc k v = acc ++ [(k,v)]:=by
   unfold dst
   rw [any_notin hk]; rfl
  rw [List.foldl_cons,e,mrgK_nodup r (acc ++ [(k,v)]) (by simpa using h)]
  simp
theorem mrgK_id {K V:Type} [DecidableEq K] {es:List (K × V)} (h:(es.map (·.1)).Nodup):mrgK es = es:=by
 have:=mrgK_nodup es [] (by simpa using h)
 simpa [mrgK] using this
theorem dc_mapN {X:Cx} {A:Around} {env:Env} {Γ:Loc} {Ω:Own} {α:Type} {xs:List α} {h:α -> D} (f:α -> Str × D) {kx vx t iter:Expr} {scope:Scope} {pos:Pos} {al:List Addr} (hn:((xs.map f).map (·.1)).Nodup) (hit:EvIt X A env Γ Ω t iter (xs.map h) al) (hz:xs.length <= 1000)
  (turn:∀ C (x:α) acc,x ∈ xs -> MapD X A (cenvOf scope env C) (capt scope.names Γ) (.dct acc) Ω t (h x) kx vx .str (f x)) (hc:compOk env scope t = true:=by kernel_rfl) (hf:∀ x,foldedSetIterable iter env x = pure x:=by intro _; rfl) :
  CompD X A env Γ Ω (.DictComp kx vx [⟨t,iter,[],0⟩] scope pos) iter scope (emitD kx vx) t [] [] (.dct []) (.dct (xs.map f)):=by
 have h:=dc_map f hit hz turn hc hf (pos:=pos)
 rwa [mrgK_id hn] at h
theorem lt_inj {i j:Nat} (hi:i < 4) (hj:j < 4) (h:lt i = lt j):i = j:=by
 have:=lt_eq i j hi hj
 rw [h] at this
 simpa using this
theorem bk_nodup {b:Book} (h:(b.map (·.1)).Nodup) (h4:∀ p ∈ b,p.1 < 4):((bkD b).map (·.1)).Nodup:=by
 induction b with
 | nil=>simp [bkD]
 | cons p r ih=>
  rw [List.map_cons,List.nodup_cons] at h
  have ih:=ih h.2 fun q hq=>h4 q (List.mem_cons_of_mem _ hq)
  simp only [bkD,List.map_cons,List.map_map,List.nodup_cons] at ih ⊢
  refine ⟨fun hm=>?_,ih⟩
  obtain ⟨q,hq,e⟩:=List.mem_map.mp hm
  have:=lt_inj (h4 q (List.mem_cons_of_mem _ hq)) (h4 p (List.mem_cons_self ..)) e
  exact h.1 (List.mem_map.mpr ⟨q,hq,this⟩)
theorem sumB_keys (one two:Book):((sumB one two).map (·.1)).Nodup /\ ∀ p ∈ sumB one two,p.1 < 3:=by
 simp only [sumB,List.filterMap_cons,List.filterMap_nil]
 generalize ((one.lookup 0).isSome || (two.lookup 0).isSome) = b0
 generalize ((one.lookup 1).isSome || (two.lookup 1).isSome) = b1
 generalize ((one.lookup 2).isSome || (two.lookup 2).isSome) = b2
 cases b0 <;> cases b1 <;> cases b2 <;> simp
theorem signs_abc:signs (Str.ofString "abc") = [D.str (lt 0),D.str (lt 1),D.str (lt 2)]:=by kernel_rfl
section
variable {X:Cx} {P:Params} {A:Around} {env:Env} {Γ:Loc} {Ω:Own}
theorem in_dct_eq {es:List (Str × D)} {k:Str} {b:Bool} (h:(es.lookup k).isSome = b):Op2 X A env Γ Ω (compareOp .In) (.str k) (.dct es) (.bool b):=h ▸ in_dct
theorem ev_ent0 {p p1 p2 p3 p4 p5:Pos} {k k1 k2 k3 k4:Nat}:Ev X A env Γ Ω (.Tuple [.Constant (.int 0) k1 p1,.Constant (.int 0) k2 p2,.Constant (.int 0) k3 p3,.Constant (.int 0) k4 p4,.Dict [] [] p5] k p) ent0.d:=
 ev_tuple (evl_cons ev_int (evl_cons ev_int (evl_cons ev_int (evl_cons ev_int (evl_cons evo_dict0.ev evl_nil rfl) rfl) rfl) rfl) rfl) (by simp)
theorem c_sum (hX:XOk3 X P) (one two:Book) (h1:∀ p ∈ one,p.1 < 4) (h2:∀ p ∈ two,p.1 < 4) (ok:∀ x,CalOk ((one.lookup x).getD ent0).cal ((two.lookup x).getD ent0).cal) :
  CallQ X 4 (.ref 126) [] [.dct (bkD one),.dct (bkD two)] [] (.dct (bkD (sumB one two))):=by
 refine def_q (n:=3) (ns:=["one", "two"]) (gs:=[.dct (bkD one),.dct (bkD two)]) hX.toXOk (by kernel_rfl) (by kernel_rfl) (by kernel_rfl) rfl (fun F s vs us B r rk=>⟨vs,?_,r⟩) fun A L hA=>?_
 ·obtain ⟨v,w,rfl,_⟩:=rdl2 r
  rw [rdl0 rk]
  exact fun S=>by kernel_rfl
 have hh:=hA.h
 let f:D -> Option (Str × D):=fun d=>match d with
  | .str x=>(match [0,1,2].find? fun i=>lt i == x with
   | some i=>if (one.lookup i).isSome || (two.lookup i).isSome then some (lt i,(((one.lookup i).getD ent0).add ((two.lookup i).getD ent0)).d) else none
   | none=>none)
  | _=>none
 have hf:∀ i,i < 3 -> f (.str (lt i)) = if (one.lookup i).isSome || (two.lookup i).isSome then some (lt i,(((one.lookup i).getD ent0).add ((two.lookup i).getD ent0)).d) else none:=by
  intro i hi
  have:[0,1,2].find? (fun j=>lt j == lt i) = some i:=by
   match i,hi with
   | 0,_=>kernel_rfl
   | 1,_=>kernel_rfl
   | 2,_=>kernel_rfl
  simp only [f,this]
 have hds:[D.str (lt 0),D.str (lt 1),D.str (lt 2)].filterMap f = bkD (sumB one two):=by
  simp only [List.filterMap_cons,List.filterMap_nil,hf 0 (by decide),hf 1 (by decide),hf 2 (by decide),sumB,bkD]
  cases (one.lookup 0).isSome || (two.lookup 0).isSome <;> cases (one.lookup 1).isSome || (two.lookup 1).isSome <;> cases (one.lookup 2).isSome || (two.lookup 2).isSome <;> rfl
 have hmr:mrgK ([D.str (lt 0),D.str (lt 1),D.str (lt 2)].filterMap f) = bkD (sumB one two):=by
  rw [hds]
  obtain ⟨q1,q2⟩:=sumB_keys one two
  exact mrgK_id (bk_nodup q1 fun p hp=>Nat.lt_of_lt_of_le (q2 p hp) (by decide))
 refine exs_cons (ex_return (d:=.dct (bkD (sumB one two))) ?_ (.inl rfl))
 rw [<- hmr]
 refine EvO.ev (c:=.dct (mrgK ([D.str (lt 0),D.str (lt 1),D.str (lt 2)].filterMap f))) (evo_dc (dc_fm f (scopeOk (by kernel_rfl)) (ns_ok (by kernel_rfl)) (signs_abc ▸ it_str hh (by kernel_rfl) ev_str) (by simp) ?_))
 intro C d acc hd
 obtain ⟨i,hi,rfl⟩:∃ i,i < 3 /\ d = .str (lt i):=by
  simp only [List.mem_cons,List.not_mem_nil,or_false] at hd
  rcases hd with rfl | rfl | rfl
  ·exact ⟨0,by decide,rfl⟩
  ·exact ⟨1,by decide,rfl⟩
  ·exact ⟨2,by decide,rfl⟩
 have l1:=bk_lookup one i h1 (by omega)
 have l2:=bk_lookup two i h2 (by omega)
 refine ⟨_,fun D=>asgI_name,?_,(one.lookup i).isSome || (two.lookup i).isSome,fun D=>tests_one (evt_or2 (b:=(one.lookup i).isSome) (c:=(two.lookup i).isSome) (evt_cmp va va (in_dct_eq (by rw [l1]; cases one.lookup i <;> rfl)) rfl) (fun zz=>evt_cmp va va (in_dct_eq (by rw [l2]; cases two.lookup i <;> rfl)) rfl)),fun hb=>⟨lt i,(((one.lookup i).getD ent0).add ((two.lookup i).getD ent0)).d,by rw [hf i hi,hb]; rfl,fun D=>va,fun D=>?_⟩,fun hb=>by rw [hf i hi,hb]; rfl⟩
 ·exact capt_sub (by rfl)
 ·have he1:((bkD one).lookup (lt i)).getD ent0.d = ((one.lookup i).getD ent0).d:=by rw [l1]; cases one.lookup i <;> rfl
  have he2:((bkD two).lookup (lt i)).getD ent0.d = ((two.lookup i).getD ent0).d:=by rw [l2]; cases two.lookup i <;> rfl
  refine ev_call (eg (v:=.ref 21) hX.toXOk) (fun zz=>kp_k (by rw [hX.k]; kernel_rfl)) (evl_cons (d:=((one.lookup i).getD ent0).d) ?_ (evl_cons (d:=((two.lookup i).getD ent0).d) ?_ evl_nil rfl) rfl) ((c_adds hX _ _ (ok i)).r hA) rfl rfl
  ·rw [<- he1]; exact ev_get2 va va ev_ent0 rfl rfl rfl rfl
  ·rw [<- he2]; exact ev_get2 va va ev_ent0 rfl rfl rfl rfl
end
end
section
section
variable {prog:Program} {w:World} {A:Around} {s:Shared}
noncomputable def EqW (prog:Program) (w:World) (A:Around) (s:Shared) (v u:Value):Prop:=∀ (E:Value -> Shared -> Prop) (Q:Bool -> Shared -> Prop),Q true s -> wpAny (model prog w) A (eqBool v u) Q E s
noncomputable def RcW (prog:Program) (w:World) (A:Around) (s:Shared) (v u:Value):Prop:=
 (∀ (E:Value -> Shared -> Prop) (Q:Value -> Shared -> Prop),Q (.bool true) s -> wpAny (model prog w) A (richCompare .Eq v u) Q E s) /\
 (∀ (E:Value -> Shared -> Prop) (Q:Value -> Shared -> Prop),Q (.bool false) s -> wpAny (model prog w) A (richCompare .NotEq v u) Q E s)
theorem EqW.ofAt {v u:Value} (h:SeqAt.EqAt A s v u true):EqW prog w A s v u:=fun E Q hq=>h prog w E Q hq
theorem EqW.refs {a b:Addr} (hne:a ≠ b) (h:RcW prog w A s (.ref a) (.ref b)):EqW prog w A s (.ref a) (.ref b):=fun E Q hq=>by
 unfold eqBool
 exact wpAny_holding (wpAny_ite_split (fun e=>absurd (Value.ref.inj (eq_of_beq e)) hne) fun zz=>wpAny_bind (h.1 E _ (wpAny_truthy_bool hq)))
theorem tup_cmp {a b:Addr} {vs us:List Value} (ha:s.heap.IsTuple a vs.toArray) (hb:s.heap.IsTuple b us.toArray) (hl:vs.length = us.length) (hu:A.units < cLine)
  (H:∀ p ∈ vs.zip us,EqW prog w A.in1 s p.1 p.2):RcW prog w A s (.ref a) (.ref b):=by
 obtain ⟨⟨c1,d1,t1,l1⟩,ho,hc,n1,hd⟩:=id ha
 obtain ⟨⟨c2,d2,t2,l2⟩,ho2,hc2,n2,hd2⟩:=id hb
 simp only at hc hd hc2 hd2
 subst hc hd hc2 hd2
 have f2:=AutoSeq1.sub_tuple_tuple
 obtain ⟨hp,g,d,tk,os⟩:=s
 constructor
 ·intro E Q hq
  refine wpAny_richCompare_same_room (op:=.Eq) ha.typeIs hb.typeIs F.slot_tuple_eq (wpAny_call_entry F.slot_tuple_eq ha.typeIs F.entry_tuple_eq ?_ (F.args_tuple_eq_2 _ _)) hu
  wp_walk using AutoSeq1.wpAny_loadPart' ho,AutoSeq1.wpAny_loadPart' ho2,wpAny_forIn_list _ (fun rest b s'=>b.1 = none /\ s' = ⟨hp,g,d,tk,os⟩ /\ ∀ p ∈ rest,EqW prog w A.in1 ⟨hp,g,d,tk,os⟩ p.1 p.2) _
  case turn=>
   rintro ⟨y,x⟩ rest b s' ⟨hb',rfl,hz⟩
   refine wpAny_bind (hz (y,x) (List.mem_cons_self ..) _ _ ?_)
   wp_walk
   exact ⟨rfl,rfl,fun p hp=>hz p (List.mem_cons_of_mem _ hp)⟩
  case fin=>
   rintro ⟨b1,b2⟩ s' ⟨hb',rfl,hz⟩
   simp only at hb'
   subst hb'
   wp_walk
   refine ⟨_,rfl,(fun x=>nomatch x),?_⟩
   simpa [Builtin.Tuple.tupleCompareSizes,hl] using hq
  case h=>
   exact ⟨rfl,rfl,by simpa using H⟩
 ·intro E Q hq
  refine wpAny_richCompare_same_room (op:=.NotEq) ha.typeIs hb.typeIs F.slot_tuple_ne (wpAny_call_entry F.slot_tuple_ne ha.typeIs F.entry_tuple_ne ?_ (F.args_tuple_ne_2 _ _)) hu
  wp_walk using AutoSeq1.wpAny_loadPart' ho,AutoSeq1.wpAny_loadPart' ho2,wpAny_forIn_list _ (fun rest b s'=>b.1 = none /\ s' = ⟨hp,g,d,tk,os⟩ /\ ∀ p ∈ rest,EqW prog w A.in1 ⟨hp,g,d,tk,os⟩ p.1 p.2) _
  case turn=>
   rintro ⟨y,x⟩ rest b s' ⟨hb',rfl,hz⟩
   refine wpAny_bind (hz (y,x) (List.mem_cons_self ..) _ _ ?_)
   wp_walk
   exact ⟨rfl,rfl,fun p hp=>hz p (List.mem_cons_of_mem _ hp)⟩
  case fin=>
   rintro ⟨b1,b2⟩ s' ⟨hb',rfl,hz⟩
   simp only at hb'
   subst hb'
   wp_walk
   refine ⟨_,rfl,(fun x=>nomatch x),?_⟩
   simpa [Builtin.Tuple.tupleCompareSizes,hl,bne] using hq
  case h=>
   exact ⟨rfl,rfl,by simpa using H⟩
end
end
section
section
variable {prog:Program} {w:World} {A:Around} {s:Shared} {K:Type} [DecidableEq K] {knd:PySem.KeyKind prog w K}
theorem dict_entry {es:Array DictEntry} {ka:List (K × Value)} (hp:Pairs knd es.toList ka) (hk:KeysOf knd es) {i:Nat} (hi:i < es.size):∃ k v,(k,v) ∈ ka /\ knd.is k es[i].key = true /\ es[i].val = v /\ es[i].hash = knd.hash k:=by
 have hl:ka.length = es.size:=by rw [<- hp.length]; exact Array.length_toList
 have hi':i < ka.length:=by omega
 have e1:es.toList[i]? = some es[i]:=by rw [Array.getElem?_toList]; exact Array.getElem?_eq_getElem hi
 have e2:ka[i]? = some (ka[i].1,ka[i].2):=List.getElem?_eq_getElem hi'
 obtain ⟨q1,q2⟩:=hp.get? e1 e2
 obtain ⟨k',q3,q4⟩:=hk es[i] (Array.getElem_mem hi)
 exact ⟨_,_,List.getElem_mem hi',q1,q2.symm ▸ rfl,q4.trans (by rw [knd.inj _ _ _ q3 q1]; rfl)⟩
theorem dicts_same {nm:String} {a b:Addr} {ka kb:List (K × Value)} {Q:Bool -> Shared -> Prop} {E:Value -> Shared -> Prop} (ha:(a == sysModules) = false) (hb:(b == sysModules) = false)
  (da:s.heap.DictOf knd a ka) (db:s.heap.DictOf knd b kb) (hl:ka.length = kb.length) (hv:∀ k v,(k,v) ∈ ka -> ∃ y,valueAt kb k = some y /\ EqW prog w A s v y) (h:Q true s) :
  wpAny (model prog w) A (Builtin.Dict.samePairs nm a b) Q E s:=by
 obtain ⟨oa,es,ep,hoa,_,hda,hka,hpa,_⟩:=da
 obtain ⟨ob,fs,ep',hob,_,hdb,hkb,hpb,_⟩:=db
 have hsz:es.size = fs.size:=by
  have q1:ka.length = es.size:=by rw [<- hpa.length]; exact Array.length_toList
  have q2:kb.length = fs.size:=by rw [<- hpb.length]; exact Array.length_toList
  omega
 have look:∀ k,findBy knd.is fs k = valueAt kb k:=fun k=>by
  rw [<- hpb.find k]
  cases fs with
  | mk l=>simp [findBy]
 unfold Builtin.Dict.samePairs Builtin.Dict.showsAll
 rw [ha,hb,if_neg Bool.false_ne_true]
 refine wpAny_bind (wpAny_pure (wpAny_bind (wpAny_pure (wpAny_bind (wpAny_dictEntries hoa hda ?_)))))
 dsimp only
 refine wpAny_bind (wpAny_dictEntries hob hdb ?_)
 rw [if_neg (show ¬(es.size != fs.size) = true by simp [hsz])]
 refine wpAny_bind (wpAny_dictEpoch hoa hda (wpAny_bind ?_))
 rw [Std.Legacy.Range.forIn_eq_forIn_range']
 refine wpAny_forIn_list _ (fun rest q s'=>s' = s /\ q = (none,()) /\ ∀ i ∈ rest,i < es.size) _ ?_ ?_ _ _ ⟨rfl,rfl,fun i hi=>?_⟩
 ·rintro i rest q s' ⟨rfl,rfl,hr⟩
  have hi:=hr i (List.mem_cons_self ..)
  obtain ⟨k,v,hm,hk,hval,hh⟩:=dict_entry hpa hka hi
  obtain ⟨y,hy,he⟩:=hv k v hm
  refine wpAny_bind (wpAny_dictEntries hoa hda ?_)
  rw [Array.getElem?_eq_getElem hi]
  show wpAny _ _ (holding [es[i].key,es[i].val] _ >>= _) _ _ _
  rw [hh]
  refine wpAny_bind (wpAny_holding (wpAny_bind (wpAny_dictFind_of hk hob hdb hkb ?_)))
  have hy':=hy
  rw [<- look k,findBy_of_findIdx?] at hy'
  cases hj:fs.findIdx? fun e=>knd.is k e.key with
  | none=>rw [hj] at hy'; exact nomatch hy'
  | some j=>
   obtain ⟨hjl,_,_⟩:=Array.findIdx?_eq_some_iff_getElem.mp hj
   rw [hj] at hy'
   have hfy:fs[j].val = y:=by simpa [Array.getElem?_eq_getElem hjl] using hy'
   refine wpAny_bind (wpAny_dictEntries hob hdb ?_)
   rw [Array.getElem?_eq_getElem hjl]
   rw [<- hval,<- hfy] at he
   refine wpAny_holding (he _ _ ?_)
   show wpAny _ _ (if (!true) = true then _ else _) _ _ _
   rw [if_neg (by decide)]
   refine wpAny_bind (wpAny_dictEpoch hoa hda ?_)
   rw [if_neg (by simp)]
   exact wpAny_pure ⟨rfl,rfl,fun i hi=>hr i (List.mem_cons_of_mem _ hi)⟩
 ·rintro q s' ⟨rfl,rfl,_⟩
  exact wpAny_pure h
 ·have:=List.mem_range'.mp hi
  obtain ⟨j,hj,e⟩:=this
  simp [Std.Legacy.Range.size] at hj e
  omega
theorem dict_cmp {a b:Addr} {ka kb:List (K × Value)} (ha:(a == sysModules) = false) (hb:(b == sysModules) = false)
  (da:s.heap.DictOf knd a ka) (db:s.heap.DictOf knd b kb) (hu:A.units < cLine) (hl:ka.length = kb.length) (hv:∀ k v,(k,v) ∈ ka -> ∃ y,valueAt kb k = some y /\ EqW prog w A.in1 s v y):RcW prog w A s (.ref a) (.ref b):=by
 constructor
 ·intro E Q hq
  refine wpAny_richCompare_same_room (op:=.Eq) da.typeIs db.typeIs PySem.F.slot_dict_eq (wpAny_call_entry PySem.F.slot_dict_eq da.typeIs PySem.F.entry_dict_eq ?_ (PySem.F.args_dict_eq_2 _ _)) hu
  show wpAny _ _ (Builtin.Dict.dictSlotArgs "__eq__" ⟨[.ref a,.ref b],[]⟩ >>= _) _ _ s
  unfold Builtin.Dict.dictSlotArgs
  refine wpAny_bind (wpAny_bind (wpAny_notOrdered_dict da.typeIs (wpAny_pure (wpAny_bind (wpAny_isInstance (T := "dict") db.typeIs PySem.F.sub_dict_dict ?_)))))
  simp only [Bool.not_true,Bool.false_eq_true,if_false]
  refine wpAny_bind (wpAny_pure (wpAny_bind (wpAny_pure (wpAny_bind (dicts_same ha hb da db hl hv (wpAny_pure ⟨_,rfl,(fun x=>nomatch x),?_⟩))))))
  simpa using hq
 ·intro E Q hq
  refine wpAny_richCompare_same_room (op:=.NotEq) da.typeIs db.typeIs PySem.F.slot_dict_ne (wpAny_call_entry PySem.F.slot_dict_ne da.typeIs PySem.F.entry_dict_ne ?_ (PySem.F.args_dict_ne_2 _ _)) hu
  show wpAny _ _ (Builtin.Dict.dictSlotArgs "__ne__" ⟨[.ref a,.ref b],[]⟩ >>= _) _ _ s
  unfold Builtin.Dict.dictSlotArgs
  refine wpAny_bind (wpAny_bind (wpAny_notOrdered_dict da.typeIs (wpAny_pure (wpAny_bind (wpAny_isInstance (T := "dict") db.typeIs PySem.F.sub_dict_dict ?_)))))
  simp only [Bool.not_true,Bool.false_eq_true,if_false]
  refine wpAny_bind (wpAny_pure (wpAny_bind (wpAny_pure (wpAny_bind (dicts_same ha hb da db hl hv (wpAny_pure ⟨_,rfl,(fun x=>nomatch x),?_⟩))))))
  simpa using hq
end
section
variable {X:Cx} {A:Around} {env:Env} {Γ Γ0:Loc} {Ω:Own} {F F':FS} {s s':Shared}
noncomputable def Same (X:Cx) (n:Nat) (d e:D):Prop:=∀ {A:Around} {F:FS} {s:Shared} {v u:Value},(∀ a o,F a = some o -> s.heap.get? a = some o) -> A.units + n < cLine -> Rd X F v d -> Rd X F u e -> EqW X.prog X.w A s v u
theorem Same.of {n:Nat} {d:D} (h:Eqs X n d):Same X n d d:=fun hf hu r r'=>.ofAt (h hf hu r r')
structure SameR (X:Cx) (n:Nat) (d e:D):Prop where
 r1:∀ {F v},Rd X F v d -> ∃ a,v = .ref a
 r2:∀ {F v},Rd X F v e -> ∃ a,v = .ref a
 rc:∀ {A:Around} {F:FS} {s:Shared} {a b:Addr},(∀ a o,F a = some o -> s.heap.get? a = some o) -> A.units + n < cLine -> Rd X F (.ref a) d -> Rd X F (.ref b) e -> RcW X.prog X.w A s (.ref a) (.ref b)
theorem SameR.same {n:Nat} {d e:D} (h:SameR X n d e):Same X n d e:=fun hf hu r r'=>by
 obtain ⟨a,rfl⟩:=h.r1 r
 obtain ⟨b,rfl⟩:=h.r2 r'
 by_cases hab:a = b
 ·subst hab; exact .ofAt (SeqAt.EqAt.same _)
 ·exact .refs hab (h.rc hf hu r r')
noncomputable def SameL (X:Cx) (n:Nat):List D -> List D -> Prop
 | [],[]=>True
 | d :: ds,e :: es=>Same X n d e /\ SameL X n ds es
 | _,_=>False
theorem SameL.length {n:Nat} {ds es:List D} (h:SameL X n ds es):ds.length = es.length:=by
 induction ds generalizing es with
 | nil=>cases es with
  | nil=>rfl
  | cons=>exact h.elim
 | cons d ds ih=>cases es with
  | nil=>exact h.elim
  | cons e es=>exact congrArg Nat.succ (ih h.2)
theorem SameL.items {n:Nat} {vs us:List Value} {ds es:List D} (hf:∀ a o,F a = some o -> s.heap.get? a = some o) (hu:A.units + n < cLine) (r:RdL X F vs ds) (r':RdL X F us es) (h:SameL X n ds es):∀ p ∈ vs.zip us,EqW X.prog X.w A s p.1 p.2:=by
 induction ds generalizing vs us es with
 | nil=>exact r.nil_elim fun p hp=>nomatch hp
 | cons d ds ih=>cases es with
  | nil=>exact h.elim
  | cons e es=>exact r.cons_elim fun v vs a b=>r'.cons_elim fun u us a' b' p hp=>(List.mem_cons.mp hp).elim (fun q=>q ▸ h.1 hf hu a a') (ih b b' h.2 p)
theorem units_in {n:Nat} (h:A.units + (n + 1) < cLine):A.in1.units + n < cLine:=Nat.add_right_comm A.units 1 n ▸ h
theorem SameR.tup {n:Nat} {ds es:List D} (h:SameL X n ds es):SameR X (n + 1) (.tup ds) (.tup es) where
 r1:=fun r=>r.inv.imp fun zz h=>h.1
 r2:=fun r=>r.inv.imp fun zz h=>h.1
 rc:=fun hf hu r r'=>by
  obtain ⟨a,e,o,vs,m,h1,h2,h3,h4⟩:=r.inv
  cases e
  obtain ⟨b,e,o',us,m',g1,g2,g3,g4⟩:=r'.inv
  cases e
  exact tup_cmp ⟨o,hf _ _ h1,h2,m,h3⟩ ⟨o',hf _ _ g1,g2,m',g3⟩ (by rw [h4.length,g4.length,h.length]) (Nat.lt_of_le_of_lt (Nat.le_add_right ..) hu) (h.items hf (units_in hu) h4 g4)
theorem kvs_mem {kvs:List (Str × Value)} {es:List (Str × D)} (hk:kvs.map (·.1) = es.map (·.1)) (r:RdL X F (kvs.map (·.2)) (es.map (·.2))) {k:Str} {v:Value} (h:(k,v) ∈ kvs):∃ d,(k,d) ∈ es /\ Rd X F v d:=by
 obtain ⟨i,hi⟩:=List.getElem?_of_mem h
 obtain ⟨d,h1,h2⟩:=kvs_get hk r hi
 exact ⟨d,List.mem_of_getElem? h1,h2⟩
theorem SameR.dct {n:Nat} {es fs:List (Str × D)} (hl:es.length = fs.length) (h:∀ p ∈ es,∃ e,fs.lookup p.1 = some e /\ Same X n p.2 e):SameR X (n + 1) (.dct es) (.dct fs) where
 r1:=fun r=>r.inv.imp fun zz h=>h.1
 r2:=fun r=>r.inv.imp fun zz h=>h.1
 rc:=fun hf hu r r'=>by
  obtain ⟨a,e,h0,o,ka,h1,h2,h4,h5⟩:=r.inv
  cases e
  obtain ⟨b,e,g0,o',kb,g1,g2,g4,g5⟩:=r'.inv
  cases e
  refine dict_cmp (knd:=PySem.strKind X.prog X.w) (beq_eq_false_iff_ne.mpr h0) (beq_eq_false_iff_ne.mpr g0) (Heap.dictOf_iff.mpr ⟨_,hf _ _ h1,h2⟩) (Heap.dictOf_iff.mpr ⟨_,hf _ _ g1,g2⟩) (Nat.lt_of_le_of_lt (Nat.le_add_right ..) hu) (by rw [keys_length h4,keys_length g4,hl]) fun k v hkv=>?_
  obtain ⟨d,q1,q2⟩:=kvs_mem h4 h5 hkv
  obtain ⟨e,q3,q4⟩:=h (k,d) q1
  obtain ⟨y,q5,q6⟩:=(valueAt_get g4 g5 k).get q3
  exact ⟨y,q5,q4 hf (units_in hu) q2 q6⟩
theorem op_ne_same {n:Nat} {d e:D} (hu:A.units + n < cLine) (h:SameR X n d e):Op2 X A env Γ Ω (compareOp .NotEq) d e (.bool false):=fun F s v u I r r'=>by
 obtain ⟨a,rfl⟩:=h.r1 r
 obtain ⟨b,rfl⟩:=h.r2 r'
 exact (h.rc I.fz hu r r').2 _ _ (I.res (.bool _))
end
end
section
variable {X:Cx} {A:Around} {env:Env} {Γ Γ0:Loc} {Ω:Own} {F F':FS} {s s':Shared}
theorem rdl_of_get {vs:List Value} {ds:List D} (hl:vs.length = ds.length) (k:∀ (j:Nat) v d,vs[j]? = some v -> ds[j]? = some d -> Rd X F v d):RdL X F vs ds:=by
 induction vs generalizing ds with
 | nil=>exact List.eq_nil_of_length_eq_zero hl.symm ▸ .nil
 | cons v vs ih=>
  obtain ⟨d,ds,rfl⟩:=List.exists_cons_of_length_eq_add_one hl.symm
  exact .cons (k 0 v d rfl rfl) (ih (Nat.succ.inj hl) fun j v d a b=>k (j + 1) v d a b)
theorem list_dct {es:List (Str × D)} (hh:A.handled = none) (hz:es.length <= 1000000):CallR X A env Γ Ω (.type "list") [.dct es] (.lst (es.map fun p=>.str p.1)):=fun F s vs I r=>r.one_elim fun v r=>by
 obtain ⟨a,kvs,rfl,hsm,hke,rl,hdo⟩:=dct_d F s v I r
 obtain ⟨ep,hat⟩:=hdo.dictAt
 have hn:=keys_length hke
 refine kdl_call (kdl_dict (knd:=PySem.strKind X.prog X.w) hsm) hh hat (by rw [hn]; exact Nat.le_trans hz (by decide)) fun h' tk acc c' hk hg hacc=>?_
 have y:=I.frozen (s':={ s with heap:=h',toks:=tk }) (get_size s.heap) hg hk
 refine ⟨_,y,.lst (vs:=acc.toList) (n:=c') (FS.put_self ..) (rdl_of_get (Array.length_toList.trans (hacc.1.trans (hn.trans (List.length_map _).symm))) fun j v d hv hd=>?_)⟩
 obtain ⟨k,x,hkv,hkis⟩:=hacc.2 j v (Array.getElem?_toList.symm.trans hv)
 obtain ⟨d',hd',_⟩:=kvs_get hke rl hkv
 rw [List.getElem?_map,hd'] at hd
 cases hd
 obtain ⟨t,rfl⟩:=Value.isStrOf_shape hkis
 exact .str _ _
theorem get_own_neg {a:Addr} {ds:List D} {i:Int} {d:D} (ha:(a,OC.lst ds) ∈ Ω) (h0:i < 0) (h1:-(ds.length:Int) <= i) (h:ds[(i + ds.length).toNat]? = some d) (hz:ds.length <= 1000000):Op2 X A env Γ Ω getItem (.val (.ref a)) (.int i) d:=get_seq_neg (own_d ha) h0 h1 h hz
theorem list_own {a:Addr} {ds:List D} (ha:(a,OC.lst ds) ∈ Ω) (hz:ds.length <= 1000000):CallR X A env Γ Ω (.type "list") [.val (.ref a)] (.lst ds):=fun F s vs I r=>r.one_elim fun v r=>r.val_elim (by
 obtain ⟨⟨vs,⟨n,h1⟩,rl⟩,_⟩:=I.own _ ha
 refine call_list_seq a (.inl rfl) h1 rfl rfl (fun h' c' hk hg=>?_) (by rw [<- Array.length_toList,rl.length]; exact Nat.le_trans hz (by decide))
 have y:=I.frozen (s':={ s with heap:=h' }) (get_size s.heap) hg hk
 exact ⟨_,y,.lst (vs:=vs.toList) (FS.put_self ..) (rl.mono y.le)⟩)
noncomputable def sumIs (l:List Int):Int:=l.foldl (· + ·) 0
theorem preSum_eq (ns:List Int):∀ i,i <= ns.length -> preSum (fun i=>ns.getD i 0) i = sumIs (ns.take i)
 | 0,_=>by simp [preSum,sumIs]
 | i + 1,h=>by
  have ih:=preSum_eq ns i (by omega)
  have hi:i < ns.length:=by omega
  rw [preSum,ih]
  unfold sumIs
  rw [List.take_add_one,List.getElem?_eq_getElem hi,List.foldl_append]
  simp [List.getD_eq_getElem?_getD,List.getElem?_eq_getElem hi]
theorem sumIs_bound:∀ (ns:List Int) (c:Int),0 <= c -> (∀ n ∈ ns,-c <= n /\ n <= c) -> ∀ a:Int,a - c * ns.length <= ns.foldl (· + ·) a /\ ns.foldl (· + ·) a <= a + c * ns.length
 | [],c,_,_,a=>by simp
 | n :: r,c,hc,h,a=>by
  have ih:=sumIs_bound r c hc (fun m hm=>h m (List.mem_cons_of_mem _ hm)) (a + n)
  have hn:=h n (List.mem_cons_self ..)
  simp only [List.foldl_cons,List.length_cons,Int.natCast_add,Int.mul_add]
  omega
theorem sum_lst {ns:List Int} (hh:A.handled = none) (hz:ns.length <= 1000) (hb:∀ n ∈ ns,-1000000 <= n /\ n <= 1000000):CallR X A env Γ Ω (.builtin "sum") [.lst (ns.map .int)] (.int (sumIs ns)):=by
 refine fun F s vs I r=>r.one_elim fun v r=>?_
 obtain ⟨a,vs,rfl,hl,rl⟩:=lst_d F s v I r
 have hlen:vs.toArray.size = ns.length:=(List.size_toArray ..).trans (rl.length.trans (List.length_map _))
 have hne:a ≠ s.heap.objs.size:=fun q=>hl.elim fun n e=>clash (get_size _) (q ▸ e)
 refine call_sum_walk (wpAny_pyIter_list hl.isList ⟨_,_,_,_,_,_,fun i=>ns.getD i 0,rfl,Walks.list (A:=A.in1) hh s.heap.objs.size a hne vs.toArray,⟨⟨_,Heap.get?_push_size _ rfl,rfl,rfl⟩,hl.isList.push _⟩,?_,fun i v hv=>?_,fun j hj=>?_,fun h' tk t' hk=>?_⟩)
 ·have hs:(s.heap.push ({ cls:=.type "list_iterator",data:=.fields #[.ref a,rawInt 0] }:Obj)).objs.size = s.heap.objs.size + 1:=size_push' ..
  exact Each.mem ⟨hs ▸ Nat.lt_succ_self _,hs ▸ Nat.lt_succ_of_lt (hl.elim fun n e=>Heap.lt_size e),trivial⟩
 ·obtain ⟨d,hd,rd⟩:=rl.at ((List.getElem?_toArray ..).symm.trans hv)
  rw [List.getElem?_map] at hd
  obtain ⟨n,hn,rfl⟩:=Option.map_eq_some_iff.mp hd
  obtain ⟨t,rfl⟩:=rd.int_inv
  exact ⟨t,by show _ = Value.int (ns.getD i 0) t; rw [List.getD_eq_getElem?_getD,hn]; rfl⟩
 ·rw [hlen] at hj
  have hm:ns.getD j 0 ∈ ns:=by rw [List.getD_eq_getElem?_getD,List.getElem?_eq_getElem hj]; exact List.getElem_mem hj
  have h1:=hb _ hm
  rw [preSum_eq ns (j + 1) (by omega)]
  have h2:=sumIs_bound (ns.take (j + 1)) 1000000 (by decide) (fun n hn=>hb n (List.mem_of_mem_take hn)) 0
  have h3:((ns.take (j + 1)).length:Int) <= 1000:=by simp; omega
  show InLong (ns.getD j 0) /\ _
  unfold InLong sumIs
  omega
 ·rw [hlen,preSum_eq ns ns.length (Nat.le_refl _),List.take_length]
  exact ⟨F,.same I.glob I.fz (fun b o e=>hk b o (fun q=>by rw [List.mem_singleton.mp q,get_size] at e; cases e) (Heap.get?_push_of_some _ e)) rfl (.refl _),.int _ _⟩
end
section
noncomputable def sums:List Nat -> List Nat
 | []=>[]
 | n :: r=>n :: (sums r).map (n + ·)
noncomputable def place:List Nat -> Nat -> Nat
 | [],_=>0
 | n :: r,k=>if k < n then 0 else place r (k - n) + 1
theorem sums_length:∀ ns,(sums ns).length = ns.length
 | []=>rfl
 | n :: r=>by simp [sums,sums_length r]
theorem sums_get:∀ (ns:List Nat) (j:Nat),j < ns.length -> (sums ns)[j]? = some ((ns.take (j + 1)).sum)
 | [],j,h=>by simp at h
 | n :: r,0,h=>by simp [sums]
 | n :: r,j + 1,h=>by
  simp only [List.length_cons,Nat.add_lt_add_iff_right] at h
  simp [sums,sums_get r j h]
theorem place_count:∀ (ns:List Nat) (k:Nat),(sums ns).countP (fun s=>decide (s <= k)) = place ns k
 | [],k=>rfl
 | n :: r,k=>by
  simp only [sums,place,List.countP_cons,List.countP_map,decide_eq_true_eq]
  by_cases h:k < n
  ·rw [if_pos h,if_neg (by omega)]
   have:(sums r).countP ((fun s=>decide (s <= k)) ∘ fun x=>n + x) = 0:=by
    rw [List.countP_eq_zero]
    intro s _
    simp; omega
   rw [this]
  ·rw [if_neg h,if_pos (by omega),<- place_count r (k - n)]
   congr 1
   refine List.countP_congr fun s zz=>?_
   simp; omega
theorem place_thr:∀ (ns:List Nat) (k i:Nat),i < ns.length -> ((sums ns).getD i 0 <= k <-> i < place ns k)
 | [],k,i,h=>by simp at h
 | n :: r,k,0,h=>by
  simp only [sums,place,List.getD_cons_zero]
  split <;> omega
 | n :: r,k,i + 1,h=>by
  simp only [List.length_cons,Nat.add_lt_add_iff_right] at h
  have ih:=place_thr r (k - n) i h
  have hl:i < (sums r).length:=by rw [sums_length]; exact h
  simp only [sums,place,List.getD_cons_succ]
  have e:((sums r).map (n + ·)).getD i 0 = n + (sums r).getD i 0:=by simp [List.getD_eq_getElem?_getD,List.getElem?_eq_getElem hl]
  rw [e]
  by_cases q:k < n
  ·rw [if_pos q]; omega
  ·rw [if_neg q]; omega
theorem place_lt:∀ (ns:List Nat) (k:Nat),k < ns.sum -> place ns k < ns.length
 | [],k,h=>by simp at h
 | n :: r,k,h=>by
  simp only [List.sum_cons] at h
  simp only [place,List.length_cons]
  split
  ·omega
  ·have:=place_lt r (k - n) (by omega); omega
noncomputable def expand {α:Type} (cs:List (α × Nat)):List α:=cs.flatMap fun p=>List.replicate p.2 p.1
theorem expand_get {α:Type}:∀ (cs:List (α × Nat)) (k:Nat),k < (cs.map (·.2)).sum -> (expand cs)[k]? = (cs.map (·.1))[place (cs.map (·.2)) k]?
 | [],k,h=>by simp at h
 | (c,n) :: r,k,h=>by
  simp only [List.map_cons,List.sum_cons] at h
  simp only [expand,List.flatMap_cons,List.map_cons,place]
  by_cases q:k < n
  ·rw [if_pos q,List.getElem?_append_left (by simpa using q)]
   simp [q]
  ·rw [if_neg q,List.getElem?_append_right (by simp; omega)]
   have ih:=expand_get r (k - n) (by omega)
   simp only [expand] at ih
   simp [ih]
theorem expand_length {α:Type}:∀ (cs:List (α × Nat)),(expand cs).length = (cs.map (·.2)).sum
 | []=>rfl
 | (c,n) :: r=>by
  have ih:=expand_length r
  simp only [expand,List.flatMap_cons,List.length_append,List.length_replicate,List.map_cons,List.sum_cons] at ih ⊢
  rw [ih]
end
section
noncomputable def calOf (x:Nat) (cs:List (Nat × Nat)):Cal:=cs.map fun p=>(lt p.1,mkOf x p.1 p.2)
theorem cal_lookup (x:Nat):∀ (cs:List (Nat × Nat)) (c:Nat),(∀ p ∈ cs,p.1 < 4) -> c < 4 -> (calOf x cs).lookup (lt c) = (cs.lookup c).map fun (n:Nat)=>mkOf x c (n:Int)
 | [],c,_,_=>rfl
 | (y,n) :: r,c,h,hc=>by
  have ih:=cal_lookup x r c (fun p hp=>h p (List.mem_cons_of_mem _ hp)) hc
  have hy:=h (y,n) (List.mem_cons_self ..)
  simp only [calOf,List.map_cons,List.lookup_cons] at ih ⊢
  rw [lt_eq c y hc hy,ih]
  by_cases q:c = y
  ·subst q; simp
  ·have:(c == y) = false:=by simpa using q
   simp [q,this]
noncomputable def intD (ns:List Nat):List D:=ns.map fun (n:Nat)=>D.int (n:Int)
theorem sumI_nat:∀ (ns:List Nat) (a:Int),(ns.map fun (n:Nat)=>(n:Int)).foldl (· + ·) a = a + ((ns.sum:Nat):Int)
 | [],a=>(Int.add_zero a).symm
 | n :: r,a=>by
  rw [List.map_cons,List.foldl_cons,sumI_nat r,List.sum_cons,Int.natCast_add,Int.add_assoc]
theorem enum_int (l:List Nat):enumD (intD l) = l.zipIdx.map fun p=>D.tup [.int (p.2:Nat),.int (p.1:Nat)]:=by
 rw [enumD,intD,List.zipIdx_map,List.map_map]; rfl
theorem sums_eq (ns:List Nat):sums ns = (List.range ns.length).map fun j=>(ns.take (j + 1)).sum:=by
 refine List.ext_getElem? fun j=>?_
 rw [List.getElem?_map]
 by_cases h:j < ns.length
 ·rw [sums_get ns j h,List.getElem?_range h]; rfl
 ·rw [List.getElem?_eq_none (by rw [sums_length]; exact Nat.not_lt.mp h),List.getElem?_eq_none (by rw [List.length_range]; exact Nat.not_lt.mp h)]; rfl
noncomputable def calD (x:Nat) (cs:List (Nat × Nat)):List (Str × D):=cs.map fun p=>(lt p.1,(mkOf x p.1 p.2).d)
theorem cd_cal (x:Nat) (cs:List (Nat × Nat)):cd (calOf x cs) = calD x cs:=List.map_map ..
theorem mk_head {x c n:Nat} (hx:x ≠ 0):∃ r,(mkOf x c n).d = .tup (.int (n:Int) :: r) /\ r.length <= 3:=by
 unfold mkOf
 split
 ·exact absurd rfl hx
 ·exact ⟨_,rfl,nle rfl⟩
 ·exact ⟨_,rfl,nle rfl⟩
theorem cut_max {p:Nat -> Bool} {n t k:Nat} (h:∀ j,j < n -> p j = decide (t <= j)) (ht:t <= n) (hk:k <= n):Cut p k n (max k t):=
 ⟨Nat.le_max_left ..,Nat.max_le.mpr ⟨hk,ht⟩,fun m h1 h2=>(h m h2).trans (decide_eq_decide.mpr ⟨fun q=>Nat.max_le.mpr ⟨h1,q⟩,fun q=>(Nat.max_le.mp q).2⟩)⟩
theorem cut_min {p:Nat -> Bool} {n t k:Nat} (h:∀ j,j < n -> p j = decide (t <= j)) (hk:k <= n):Cut p 0 k (min k t):=
 ⟨Nat.zero_le _,Nat.min_le_left ..,fun m zz h2=>(h m (Nat.lt_of_lt_of_le h2 hk)).trans (decide_eq_decide.mpr ⟨fun q=>Nat.le_trans (Nat.min_le_right ..) q,fun q=>by
  rcases Nat.le_total k t with e | e
  ·rw [Nat.min_eq_left e] at q; exact absurd h2 (Nat.not_lt.mpr q)
  ·rwa [Nat.min_eq_right e] at q⟩)⟩
theorem max_nat (k t:Nat):((max k t:Nat):Int) = if (t:Int) > k then (t:Int) else k:=by split <;> omega
theorem min_nat (k t:Nat):((min k t:Nat):Int) = if (t:Int) < k then (t:Int) else k:=by split <;> omega
section
variable {X:Cx} {P:Params} {A:Around} {env:Env} {Γ:Loc} {Ω:Own}
theorem ev_icast {e:Expr} {i j:Int} (h:Ev X A env Γ Ω e (.int i)) (q:i = j):Ev X A env Γ Ω e (.int j):=q ▸ h
theorem op_nei' {i j:Int} {b:Bool} (h:(i != j) = b):Op2 X A env Γ Ω (compareOp .NotEq) (.int i) (.int j) (.bool b):=h ▸ op_nei
theorem tops_sum (hX:XOk3 X P) (l:List Nat):CallQ X 1 (.ref 35) [] [D.dci (mrgK (l.zipIdx.map fun p=>(((p.2:Nat):Int),D.int (p.1:Nat))))] [] (.int ((l.sum:Nat):Int)):=by
 have h:=c_count_calls hX.toXOk (l.zipIdx.map fun p=>(((p.2:Nat):Int),((p.1:Nat):Int)))
 rw [List.map_map,List.map_map] at h
 rw [mrgK_id]
 ·have e:sumI (l.zipIdx.map ((fun p:Int × Int=>p.2) ∘ fun p:Nat × Nat=>(((p.2:Nat):Int),((p.1:Nat):Int)))) = ((l.sum:Nat):Int):=by
   have:=(sumI_nat l 0).trans (Int.zero_add _)
   rw [<- List.zipIdx_map_fst 0 l,List.map_map] at this
   rw [List.zipIdx_map_fst] at this
   exact this
  exact e ▸ h
 ·rw [List.map_map,show ((fun x:Int × D=>x.1) ∘ fun p:Nat × Nat=>(((p.2:Nat):Int),D.int (p.1:Nat))) = (fun n:Nat=>(n:Int)) ∘ Prod.snd from rfl,<- List.map_map,List.zipIdx_map_snd]
  exact List.Pairwise.map _ (fun a b h q=>h (Int.ofNat_inj.mp q)) (List.nodup_range' (s:=0) (n:=l.length))
noncomputable def topG (x:Nat) (e cd:D) (a:Addr):Loc:=[("letter",.str (lt x)),("entry",e),("callers",cd),("out",.val (.ref a))]
theorem tops_often (hh:A.handled = none) {L a:Addr} {x:Nat} {cs:List (Nat × Nat)} {e:D} {R:PostP} (hx:x < 4) (hz:cs.length <= 1000) (hcl:∀ p ∈ cs,(calD x cs).lookup (lt p.1) = some (mkOf x p.1 p.2).d)
  (k:Exs X A (envF P 131 L) (upd (topG x e (.dct (calD x cs)) a) "often" (.lst (intD (cs.map (·.2))))) Ω ((fbK P 131).drop 2) R):Exs X A (envF P 131 L) (topG x e (.dct (calD x cs)) a) Ω ((fbK P 131).drop 1) R:=by
 refine exs_cons (ex_assign (d:=.lst (intD (cs.map (·.2)))) ?_ (by kernel_rfl) k rfl)
 rw [show intD (cs.map (·.2)) = cs.map fun p=>D.int (p.2:Nat) from List.map_map ..]
 refine EvO.ev (c:=.lst (cs.map fun p=>D.int (p.2:Nat))) ?_
 refine (evo_lc (lc_mapA (fun p=>D.int (p.2:Nat)) (it_keysM (f:=fun p=>(lt p.1,(mkOf x p.1 p.2).d)) hh va) hz fun C p acc hp=>⟨_,fun Da=>asgI_name,capt_sub (by rfl),fun Da=>?_⟩))
 by_cases h0:x = 0
 ·subst h0
  exact ev_ife (b:=true) (dd1:=.int p.2) (dd2:=.none) (evt_cmp va ev_str op_eqs rfl) (fun zz=>ev_sub va va subT_dct (get_dct (hcl p hp))) (fun q=>nomatch q) rfl
 ·obtain ⟨r,hr,hrl⟩:=mk_head (c:=p.1) (n:=p.2) h0
  have hc:=hcl p hp
  rw [hr] at hc
  exact ev_ife (b:=false) (dd1:=.none) (dd2:=.int p.2) (evt_cmp va ev_str (op_b op_eqs ((lt_eq x 0 hx (by decide)).trans (decide_eq_false h0))) rfl) (fun q=>nomatch q) (fun zz=>ev_at (i:=0) (ev_sub va va subT_dct (get_dct hc)) ev_int rfl (Nat.le_trans (Nat.succ_le_succ hrl) (by decide))) rfl
theorem tops_sums (hX:XOk3 X P) (hA:Room A 2) {L a:Addr} {x:Nat} {e cD:D} {ns:List Nat} {R:PostP} (hz:ns.length <= 900)
  (k:Exs X A (envF P 131 L) (upd (upd (topG x e cD a) "often" (.lst (intD ns))) "sums" (.lst (intD (sums ns)))) Ω ((fbK P 131).drop 3) R):Exs X A (envF P 131 L) (upd (topG x e cD a) "often" (.lst (intD ns))) Ω ((fbK P 131).drop 2) R:=by
 have hh:=hA.h
 have hz':ns.length <= 1000:=Nat.le_trans hz (by decide)
 refine exs_cons (ex_assign (d:=.lst (intD (sums ns))) ?_ (by kernel_rfl) k rfl)
 rw [sums_eq,show intD ((List.range ns.length).map fun j=>(ns.take (j + 1)).sum) = (List.range ns.length).map fun j=>D.int ((ns.take (j + 1)).sum:Nat) from List.map_map ..]
 refine EvO.ev (c:=.lst ((List.range ns.length).map fun j=>D.int ((ns.take (j + 1)).sum:Nat))) ?_
 refine (evo_lc (lc_mapA (fun j=>D.int ((ns.take (j + 1)).sum:Nat)) (it_nat hh (eb hX.toXOk) (ev_call (eb (v:=.builtin "len") hX.toXOk) (fun zz=>kp_b) (evl_cons va evl_nil rfl) (len_map hz') rfl rfl) hz' rfl) (by rwa [List.length_range]) fun C j acc hj=>⟨_,fun Da=>asgI_name,capt_sub (by rfl),fun Da=>?_⟩))
 have ht:(intD ns).take (j + 1) = intD (ns.take (j + 1)):=List.map_take.symm
 have hl:(ns.take (j + 1)).zipIdx.length <= 1000:=by rw [List.length_zipIdx]; exact Nat.le_trans (List.length_take_le' ..) hz'
 refine ev_call (eg (v:=.ref 35) hX.toXOk) (fun zz=>kp_k (by rw [hX.k]; kernel_rfl)) (evl_cons (EvO.ev (c:=.dci (mrgK ((ns.take (j + 1)).zipIdx.map fun p=>(((p.2:Nat):Int),D.int (p.1:Nat))))) (evo_dci (dci_map _ (enum_int _ ▸ it_enum hh (eb hX.toXOk) (ht ▸ ev_upto (n:=j + 1) va (ev_bin va ev_int op_add) (by rw [intD,List.length_map]; exact Nat.le_trans hz (by decide))) rfl) hl fun C p acc hp=>?_))) evl_nil rfl) ((tops_sum hX (ns.take (j + 1))).r (hA.le (by decide))) rfl rfl
 exact ⟨_,fun Da=>asgI_tup hh (an (an asgl_nil)),(capt_sub (by rfl)).trans (capt_sub (by rfl)),fun Da=>va,fun Da=>va⟩
noncomputable def pickG (cD:D) (sm:List Nat) (a:Addr):Loc:=[("callers",cD),("sums",.lst (intD sm)),("out",.val (.ref a))]
set_option tactic.hygienic true in
theorem tops_pick (hX:XOk3 X P) (hA:Room A 2) {L a:Addr} {es:List (Str × D)} {sm:List Nat} {i t:Nat} {nm:D} {out:List D} {R:PostP} (ht:(sm.filter fun s=>decide (s <= i)).length = t) (htl:t <= sm.length) (hthr:∀ j,j < sm.length -> decide ((i:Int) < (sm.map fun (n:Nat)=>(n:Int)).getD j 0) = decide (t <= j)) (hz:sm.length <= 900) (hze:es.length <= 1000) (hzo:out.length <= 1000) (hg:(es.map fun p=>D.str p.1)[t]? = some nm)
  (fin:∀ {Γ'},Sub (pickG (.dct es) sm a) Γ' -> R .next Γ' [(a,.lst (out ++ [nm]))]):Exs X A (envF P 131 L) (upd (pickG (.dct es) sm a) "pick" (.int (i:Nat))) [(a,.lst out)] (forB ((fbK P 131).drop 4)) R:=by
 have hh:=hA.h
 have hu:=hA.u
 have hz':sm.length <= 1000:=Nat.le_trans hz (by decide)
 have hxs:intD sm = (sm.map fun (n:Nat)=>(n:Int)).map D.int:=by rw [List.map_map]; rfl
 have hL:(sm.map fun (n:Nat)=>(n:Int)).length = sm.length:=List.length_map ..
 have hzx:(sm.map fun (n:Nat)=>(n:Int)).length <= 1000000:=by rw [hL]; exact Nat.le_trans hz (by decide)
 have hr:(List.range (sm.length + 1)).length <= 1000:=by rw [List.length_range]; exact Nat.le_trans (Nat.succ_le_succ hz) (by decide)
 let g:Nat -> D:=fun k=>.tup [.int (if (t:Int) > k then (t:Int) else k),.int (if (t:Int) < k then (t:Int) else k)]
 refine exs_cons (ex_assign (d:=.int (t:Nat)) (ht ▸ ev_call (eb (v:=.builtin "len") hX.toXOk) (fun zz=>kp_b) (evl_cons (EvO.ev (c:=.lst ((sm.filter fun s=>decide (s <= i)).map fun s=>D.int (s:Nat))) (evo_lc (lc_filt (fun s=>decide (s <= i)) (fun s=>D.int (s:Nat)) (it_list hh va) hz' fun C s acc hs=>⟨_,fun Da=>asgI_name,capt_sub (by rfl),fun Da=>tests_one (evt_cmp va va (op_b op_le (decide_eq_decide.mpr Int.ofNat_le)) rfl),fun zz Da=>va⟩))) evl_nil rfl) (len_map (Nat.le_trans (List.length_filter_le ..) hz')) rfl rfl) (by kernel_rfl) ?_ rfl)
 clear ht
 refine exs_cons (ex_assign_lc (c:=.lst ((List.range (sm.length + 1)).map g)) (lc_mapA g (it_nat hh (eb hX.toXOk) (ev_bin (ev_call (eb (v:=.builtin "len") hX.toXOk) (fun zz=>kp_b) (evl_cons va evl_nil rfl) (len_map hz') rfl rfl) ev_int op_add) (by rwa [List.length_range] at hr) rfl) hr fun C k acc hk=>⟨_,fun Da=>asgI_name,capt_sub (by rfl),fun Da=>?_⟩) rfl (by kernel_rfl) ?_)
 ·have hk':k <= sm.length:=Nat.le_of_lt_succ (List.mem_range.mp hk)
  have c3:=c_bisr3 hX.toXOk (xs:=sm.map fun (n:Nat)=>(n:Int)) (by rw [hL]; exact cut_max hthr htl hk') hzx
  have c4:=c_bisr4 hX.toXOk (xs:=sm.map fun (n:Nat)=>(n:Int)) (cut_min hthr hk') (by rw [hL]; exact hk') hzx
  rw [<- hxs,max_nat] at c3
  rw [<- hxs,min_nat] at c4
  exact ev_tuple (evl_cons (ev_call (eg (v:=.ref 53) hX.toXOk) (fun zz=>kp_k (by rw [hX.k]; kernel_rfl)) (evl_cons va (evl_cons va (evl_cons va evl_nil rfl) rfl) rfl) (c3.r (hA.le (by decide))) rfl rfl)
   (evl_cons (ev_call (eg (v:=.ref 53) hX.toXOk) (fun zz=>kp_k (by rw [hX.k]; kernel_rfl)) (evl_cons va (evl_cons va (evl_cons ev_int (evl_cons va evl_nil rfl) rfl) rfl) rfl) (c4.r (hA.le (by decide))) rfl rfl) evl_nil rfl) rfl) (nle rfl)
 refine exs_cons (ex_if (b:=false) (evt_cmp (dd2:=.lst ((List.range (sm.length + 1)).map g)) va (EvO.ev (c:=.lst ((List.range (sm.length + 1)).map g)) (evo_lc (lc_mapA g (it_nat hh (eb hX.toXOk) (ev_bin (ev_call (eb (v:=.builtin "len") hX.toXOk) (fun zz=>kp_b) (evl_cons va evl_nil rfl) (len_map hz') rfl rfl) ev_int op_add) (by rwa [List.length_range] at hr) rfl) hr fun C k acc hk=>⟨_,fun Da=>asgI_name,capt_sub (by rfl),fun Da=>ev_tuple (evl_cons (ev_call (eb (v:=.builtin "max") hX.toXOk) (fun zz=>kp_b) (evl_cons va (evl_cons va evl_nil rfl) rfl) (max_int hh) rfl rfl) (evl_cons (ev_call (eb (v:=.builtin "min") hX.toXOk) (fun zz=>kp_b) (evl_cons va (evl_cons va evl_nil rfl) rfl) (min_int hh) rfl rfl) evl_nil rfl) rfl) (nle rfl)⟩))) (op_nel' (n:=1) lst_d lst_d (by omega) (all_map fun k=>Eqs.tup (ds:=[.int _,.int _]) (Each.mem ⟨Eqs.int,Eqs.int,trivial⟩))) rfl) (fun h=>nomatch h) (fun zz=>exs_nil ?_))
 refine exs_cons (ex_expr_s (evs_append va mem_o (ev_sub (dd1:=.lst (es.map fun p=>D.str p.1)) (ev_call (eb (v:=.type "list") hX.toXOk) (fun zz=>kp_t) (evl_cons va evl_nil rfl) (list_dct hh (Nat.le_trans hze (by decide))) rfl rfl) va subT_lst (get_lst (Int.natCast_nonneg t) hg (by rw [List.length_map]; exact Nat.le_trans hze (by decide)))) (Nat.le_trans hzo (by decide)) ⟨rfl,?_⟩ (by rfl) (by rfl) (by rfl)) (by kernel_rfl) (by rfl))
 rw [oset1]
 exact exs_nil (fin (sub_pre 3 rfl))
theorem c_tops (hX:XOk3 X P) (x:Nat) (hx:x < 3) (cs:List (Nat × Nat)) (e:Ent) (h4:∀ p ∈ cs,p.1 < 4) (hnd:(cs.map (·.1)).Nodup) (hne:cs ≠ []) (hlen:cs.length <= 900) (hcal:e.cal = calOf x cs) (hnc:e.nc = (((cs.map (·.2)).sum:Nat):Int)) (hsum:(cs.map (·.2)).sum <= 900) :
  CallQ X 3 (.ref 131) [] [.str (lt x),e.d] [] (.lst ((expand cs).map fun c=>.str (lt c))):=by
 have hE:e.d = .tup [.int e.cc,.int (((cs.map (·.2)).sum:Nat):Int),.int e.tt,.int e.ct,.dct (calD x cs)]:=by rw [<- cd_cal,<- hcal,<- hnc]; rfl
 rw [hE]
 refine def_q (n:=2) (ns:=["letter", "entry"]) (gs:=[.str (lt x),.tup [.int e.cc,.int (((cs.map (·.2)).sum:Nat):Int),.int e.tt,.int e.ct,.dct (calD x cs)]]) hX.toXOk (by kernel_rfl) (by kernel_rfl) (by kernel_rfl) rfl (fun F s vs us B r rk=>⟨vs,?_,r⟩) fun A L hA=>?_
 ·obtain ⟨v,w,rfl,_⟩:=rdl2 r
  rw [rdl0 rk]
  exact fun S=>by kernel_rfl
 clear hE hcal hnc
 have hh:=hA.h
 refine exs_cons (ex_assign_ts (evs_tuple (evsl_cons (evs_of (ev_at (i:=4) va ev_int rfl (nle rfl)) (evsl_cons (evo_s (evo_list evl_nil (nle rfl)) fun a=>evsl_nil ⟨nle rfl,_,_,rfl,asg_tuple hh (an (an asgl_nil)) rfl rfl,?_⟩) rfl)) rfl)) rfl rfl)
 have hcl:∀ p ∈ cs,(calD x cs).lookup (lt p.1) = some (mkOf x p.1 p.2).d:=fun p hp=>by
  rw [<- cd_cal,cd_lookup,cal_lookup x cs p.1 h4 (h4 p hp),lookup_nd hnd hp]; rfl
 have hl9:(cs.map (·.2)).length <= 900:=by rwa [List.length_map]
 refine tops_often hh (Nat.lt_succ_of_lt hx) (Nat.le_trans hlen (by decide)) hcl (tops_sums hX hA hl9 ?_)
 have hcp:0 < (cs.map (·.2)).length:=by rw [List.length_map]; exact List.length_pos_iff.mpr hne
 have hexp:(expand cs).length = (cs.map (·.2)).sum:=expand_length cs
 have hget:∀ i,i < (cs.map (·.2)).sum -> ((calD x cs).map fun p=>D.str p.1)[place (cs.map (·.2)) i]? = ((expand cs).map fun c=>D.str (lt c))[i]?:=fun i hi=>by
  rw [List.getElem?_map (l:=expand cs),expand_get cs i hi,calD,List.map_map,List.getElem?_map,List.getElem?_map]
  cases cs[place (cs.map (·.2)) i]? <;> rfl
 have hcdl:(calD x cs).length <= 1000:=by rw [calD,List.length_map]; exact Nat.le_trans hlen (by decide)
 generalize cs.map (·.2) = ns at *
 have hsl:=sums_length ns
 have hlast:(intD (sums ns))[((-1:Int) + ((intD (sums ns)).length:Int)).toNat]? = some (D.int ((ns.sum:Nat):Int)):=by
  rw [intD,List.length_map,hsl,show ((-1:Int) + (ns.length:Int)).toNat = ns.length - 1 by omega,List.getElem?_map,sums_get ns _ (Nat.sub_lt hcp Nat.one_pos),Nat.sub_add_cancel hcp,List.take_length]; rfl
 have hzs:(intD (sums ns)).length <= 1000000:=by rw [intD,List.length_map,hsl]; exact Nat.le_trans hl9 (by decide)
 refine exs_cons (ex_if (b:=false) (evt_cmp (ev_sub va (ev_una ev_int op_neg) subT_lst (get_lst_neg (by decide) (by rw [intD,List.length_map,hsl]; omega) hlast hzs)) (ev_at (i:=1) va ev_int rfl (nle rfl)) (op_nei' (bne_self_eq_false _)) rfl) (fun h=>nomatch h) (fun zz=>exs_nil ?_))
 refine exs_for (G:=fun i=>pickG (.dct (calD x cs)) (sums ns) a) (W:=fun i=>[(a,OC.lst (((expand cs).map fun c=>D.str (lt c)).take i))]) (it_nat hh (eb hX.toXOk) (ev_at (i:=1) va ev_int rfl (nle rfl)) (Nat.le_trans hsum (by decide)) rfl) rfl (sub_cons rfl (sub_cons rfl (sub_cons rfl sub_nil))) (fun i d hd=>?_) ?_
 ·obtain ⟨j,hj,rfl⟩:=Option.map_eq_some_iff.mp (List.getElem?_map ▸ hd)
  have hi:i < ns.sum:=List.length_range (n:=ns.sum) ▸ (List.getElem?_eq_some_iff.mp hj).1
  rw [List.getElem?_range hi] at hj
  cases hj
  have hi':i < ((expand cs).map fun c=>D.str (lt c)).length:=by rw [List.length_map,hexp]; exact hi
  refine ⟨_,asgI_name,tops_pick hX hA (t:=place ns i) ?_ ?_ ?_ (by rwa [hsl]) hcdl (Nat.le_trans (List.length_take_le ..) (Nat.le_of_lt (Nat.lt_of_lt_of_le hi (Nat.le_trans hsum (by decide))))) ((hget i hi).trans (List.getElem?_eq_getElem hi')) fun s=>⟨s,?_⟩⟩
  ·rw [<- List.countP_eq_length_filter]; exact place_count ns i
  ·rw [hsl]; exact Nat.le_of_lt (place_lt ns i hi)
  ·intro j hj
   rw [List.getD_eq_getElem?_getD,List.getElem?_map,List.getElem?_eq_getElem hj]
   have h1:=place_thr ns i j (by rwa [<- hsl])
   rw [List.getD_eq_getElem?_getD,List.getElem?_eq_getElem hj] at h1
   exact decide_eq_decide.mpr (Int.ofNat_lt.trans (Nat.not_le.symm.trans ((not_congr h1).trans Nat.not_lt)))
  ·rw [List.take_add_one,List.getElem?_eq_getElem hi']; rfl
 rw [List.length_map,List.length_range,List.take_of_length_le (by rw [List.length_map,hexp]; exact Nat.le_refl _)]
 refine exs_freeze (Γ':=([("out",.lst ((expand cs).map fun c=>D.str (lt c)))]:Loc)) (fun y d h=>.inr ?_) (exs_cons (ex_return va (.inl rfl)))
 rcases lookup_cases h with ⟨rfl,rfl⟩ | ⟨_,h⟩
 ·exact ⟨rfl,rfl⟩
 ·cases h
end
end
section
noncomputable def firsts (cs:List Nat):List Nat:=cs.foldl (fun acc c=>if c ∈ acc then acc else acc ++ [c]) []
theorem firsts_snoc (cs:List Nat) (c:Nat):firsts (cs ++ [c]) = if c ∈ firsts cs then firsts cs else firsts cs ++ [c]:=by
 unfold firsts; rw [List.foldl_append]; rfl
theorem mem_firsts (cs:List Nat):∀ c,c ∈ firsts cs <-> c ∈ cs:=by
 intro c
 suffices h:∀ (l acc:List Nat),c ∈ l.foldl (fun acc c=>if c ∈ acc then acc else acc ++ [c]) acc <-> c ∈ acc \/ c ∈ l by simpa [firsts] using h cs []
 intro l
 induction l with
 | nil=>intro acc; simp
 | cons d r ih=>
  intro acc
  rw [List.foldl_cons,ih]
  by_cases h:d ∈ acc
  ·rw [if_pos h,List.mem_cons]
   constructor
   ·rintro (q | q)
    ·exact .inl q
    ·exact .inr (.inr q)
   ·rintro (q | q | q)
    ·exact .inl q
    ·exact .inl (q ▸ h)
    ·exact .inr q
  ·rw [if_neg h,List.mem_append,List.mem_singleton,List.mem_cons,or_assoc]
set_option tactic.hygienic true in
theorem firsts_nodup (cs:List Nat):(firsts cs).Nodup:=by
 suffices h:∀ (l acc:List Nat),acc.Nodup -> (l.foldl (fun acc c=>if c ∈ acc then acc else acc ++ [c]) acc).Nodup by simpa [firsts] using h cs [] List.nodup_nil
 intro l
 induction l with
 | nil=>intro acc h; exact h
 | cons d r ih=>
  intro acc h
  rw [List.foldl_cons]
  refine ih _ ?_
  split
  ·exact h
  ·rename_i hd
   rw [List.nodup_append]
   exact ⟨h,by simp,fun a ha b hb=>by rw [List.mem_singleton.mp hb]; exact fun q=>hd (q ▸ ha)⟩
noncomputable def tally (cs:List Nat):List (Nat × Nat):=(firsts cs).map fun c=>(c,cs.count c)
theorem tally_keys (cs:List Nat):(tally cs).map (·.1) = firsts cs:=by simp [tally,Function.comp_def]
theorem lookup_map_self {β:Type} (f:Nat -> β):∀ (l:List Nat) (c:Nat),(l.map fun x=>(x,f x)).lookup c = if c ∈ l then some (f c) else none
 | [],c=>by simp
 | x :: r,c=>by
  rw [List.map_cons,List.lookup_cons,lookup_map_self f r c]
  by_cases h:c = x
  ·subst h; simp
  ·have:(c == x) = false:=by simpa using h
   simp [this,h]
theorem tally_lookup (cs:List Nat) (c:Nat):(tally cs).lookup c = if c ∈ cs then some (cs.count c) else none:=by
 rw [tally,lookup_map_self]
 simp only [mem_firsts]
theorem dst_in {K V:Type} [DecidableEq K] {es:List (K × V)} {k:K} {v:V} (h:k ∈ es.map (·.1)):dst es k v = es.map (fun kv=>if kv.1 = k then (kv.1,v) else kv):=by
 unfold dst
 rw [if_pos]
 obtain ⟨p,hp,rfl⟩:=List.mem_map.mp h
 exact List.any_eq_true.mpr ⟨p,hp,by simp⟩
theorem dst_out {K V:Type} [DecidableEq K] {es:List (K × V)} {k:K} {v:V} (h:k ∉ es.map (·.1)):dst es k v = es ++ [(k,v)]:=by
 unfold dst
 rw [any_notin h]; rfl
theorem tally_snoc (cs:List Nat) (c:Nat):tally (cs ++ [c]) = dst (tally cs) c (((tally cs).lookup c).getD 0 + 1):=by
 rw [tally_lookup]
 by_cases h:c ∈ cs
 ·have hf:c ∈ firsts cs:=(mem_firsts cs c).mpr h
  rw [dst_in (by rw [tally_keys]; exact hf),if_pos h,tally,firsts_snoc,if_pos hf,tally,List.map_map]
  refine List.map_congr_left fun d hd=>?_
  by_cases q:d = c
  ·subst q; simp
  ·simp [q,List.count_append,List.count_singleton,Ne.symm q]
 ·have hf:c ∉ firsts cs:=fun q=>h ((mem_firsts cs c).mp q)
  rw [dst_out (by rw [tally_keys]; exact hf),if_neg h,tally,firsts_snoc,if_neg hf,tally,List.map_append]
  congr 1
  ·refine List.map_congr_left fun d hd=>?_
   have:d ≠ c:=fun q=>hf (q ▸ hd)
   simp [List.count_append,List.count_singleton,Ne.symm this]
  ·simp [List.count_append,List.count_eq_zero_of_not_mem h]
noncomputable def bump (t:List (Nat × Nat)) (p:Nat × Nat):List (Nat × Nat):=dst t p.1 ((t.lookup p.1).getD 0 + p.2)
noncomputable def addT (t u:List (Nat × Nat)):List (Nat × Nat):=u.foldl bump t
theorem dst_keys {K V:Type} [DecidableEq K] (es:List (K × V)) (k:K) (v:V):(dst es k v).map (·.1) = if k ∈ es.map (·.1) then es.map (·.1) else es.map (·.1) ++ [k]:=by
 by_cases h:k ∈ es.map (·.1)
 ·rw [dst_in h,if_pos h,List.map_map]
  refine List.map_congr_left fun p zz=>?_
  simp only [Function.comp]; split <;> rfl
 ·rw [dst_out h,if_neg h]; simp
set_option tactic.hygienic true in
theorem dst_nodup {K V:Type} [DecidableEq K] {es:List (K × V)} (h:(es.map (·.1)).Nodup) (k:K) (v:V):((dst es k v).map (·.1)).Nodup:=by
 rw [dst_keys]
 split
 ·exact h
 ·rename_i hk
  rw [List.nodup_append]
  exact ⟨h,by simp,fun a ha b hb=>by rw [List.mem_singleton.mp hb]; exact fun q=>hk (q ▸ ha)⟩
theorem dst_lookup {V:Type} (k:Nat) (v:V) (z:Nat):∀ es:List (Nat × V),(es.map (·.1)).Nodup -> (dst es k v).lookup z = if z = k then some v else es.lookup z:=by
 intro es hn
 have hd:=dst_nodup hn k v
 by_cases hz:z = k
 ·subst hz
  rw [if_pos rfl]
  refine lookup_nd hd ?_
  by_cases h:z ∈ es.map (·.1)
  ·rw [dst_in h]
   obtain ⟨p,hp,e⟩:=List.mem_map.mp h
   exact List.mem_map.mpr ⟨p,hp,by simp [e]⟩
  ·rw [dst_out h]; simp
 ·rw [if_neg hz]
  by_cases h:k ∈ es.map (·.1)
  ·rw [dst_in h]
   clear hd h hn
   induction es with
   | nil=>rfl
   | cons p r ih=>
    rw [List.map_cons,List.lookup_cons,List.lookup_cons]
    by_cases q:p.1 = k
    ·have e:(z == p.1) = false:=by rw [q]; simpa using hz
     simp [q,e,ih]
     have:(z == k) = false:=by simpa using hz
     simp [this]
    ·simp [q,ih]
  ·rw [dst_out h,List.lookup_append]
   have:(z == k) = false:=by simpa using hz
   simp [List.lookup_cons,this]
theorem bump_nodup {t:List (Nat × Nat)} (h:(t.map (·.1)).Nodup) (p:Nat × Nat):((bump t p).map (·.1)).Nodup:=dst_nodup h _ _
theorem addT_nodup:∀ (u t:List (Nat × Nat)),(t.map (·.1)).Nodup -> ((addT t u).map (·.1)).Nodup
 | [],t,h=>h
 | p :: r,t,h=>addT_nodup r (bump t p) (bump_nodup h p)
theorem dst_keyin {K V:Type} [DecidableEq K] {es:List (K × V)} {k:K} {v:V} {p:K × V} (h:p ∈ dst es k v):p.1 ∈ es.map (·.1) \/ p.1 = k:=by
 have:p.1 ∈ (dst es k v).map (·.1):=List.mem_map.mpr ⟨p,h,rfl⟩
 rw [dst_keys] at this
 split at this
 ·exact .inl this
 ·rcases List.mem_append.mp this with h | h
  ·exact .inl h
  ·exact .inr (List.mem_singleton.mp h)
theorem addT_keys4:∀ (u t:List (Nat × Nat)),(∀ p ∈ t,p.1 < 4) -> (∀ p ∈ u,p.1 < 4) -> ∀ p ∈ addT t u,p.1 < 4
 | [],t,h,_=>h
 | q :: r,t,h,hu=>addT_keys4 r (bump t q) (fun p hp=>by
   rcases dst_keyin hp with h' | h'
   ·obtain ⟨p',hp',e⟩:=List.mem_map.mp h'
    rw [<- e]; exact h p' hp'
   ·rw [h']; exact hu q (List.mem_cons_self ..)) fun p hp=>hu p (List.mem_cons_of_mem _ hp)
theorem mk_add (x c:Nat) (a b:Nat):(mkOf x c a).add (mkOf x c b) = mkOf x c ((b + a:Nat):Int):=by
 unfold mkOf
 split
 ·simp [Mk.add]
 ·simp only [Mk.add,List.zipWith_cons_cons,List.zipWith_nil_left,Mk.t.injEq,List.cons.injEq,and_true]
  split <;> constructor <;> push_cast <;> omega
 ·simp only [Mk.add,List.zipWith_cons_cons,List.zipWith_nil_left,Mk.t.injEq,List.cons.injEq,and_true]
  split <;> refine ⟨?_,?_,?_,?_⟩ <;> push_cast <;> omega
theorem mk_like (x c:Nat) (a b:Int):(mkOf x c a).like (mkOf x c b):=by
 unfold mkOf
 split <;> simp [Mk.like]
theorem cal_dst (x:Nat) {t:List (Nat × Nat)} {c:Nat} (h4:∀ p ∈ t,p.1 < 4) (hc:c < 4) (n:Nat):dst (calOf x t) (lt c) (mkOf x c n) = calOf x (dst t c n):=by
 have hk:lt c ∈ (calOf x t).map (·.1) <-> c ∈ t.map (·.1):=by
  simp only [calOf,List.map_map,List.mem_map,Function.comp]
  constructor
  ·rintro ⟨p,hp,e⟩; exact ⟨p,hp,lt_inj (h4 p hp) hc e⟩
  ·rintro ⟨p,hp,e⟩; exact ⟨p,hp,by rw [e]⟩
 by_cases h:c ∈ t.map (·.1)
 ·rw [dst_in (hk.mpr h),dst_in h]
  simp only [calOf,List.map_map]
  refine List.map_congr_left fun p hp=>?_
  simp only [Function.comp]
  by_cases q:p.1 = c
  ·subst q; simp
  ·have:¬lt p.1 = lt c:=fun e=>q (lt_inj (h4 p hp) hc e)
   simp [q,this]
 ·rw [dst_out (fun q=>h (hk.mp q)),dst_out h]
  simp [calOf]
theorem cal_step (x:Nat) {t:List (Nat × Nat)} {p:Nat × Nat} (h4:∀ p ∈ t,p.1 < 4) (hp:p.1 < 4):addStep (calOf x t) (lt p.1,mkOf x p.1 p.2) = calOf x (bump t p):=by
 unfold addStep bump
 rw [cal_lookup x t p.1 h4 hp]
 cases h:t.lookup p.1 with
 | none=>
  simp only [Option.map_none,Option.getD_none,Nat.zero_add]
  exact cal_dst x h4 hp _
 | some m=>
  simp only [Option.map_some,Option.getD_some,mk_add]
  exact cal_dst x h4 hp _
theorem calOf_keys (x:Nat) (t:List (Nat × Nat)):(calOf x t).map (·.1) = (t.map (·.1)).map lt:=by simp [calOf,Function.comp_def]
theorem calOf_nodup (x:Nat) {t:List (Nat × Nat)} (h:(t.map (·.1)).Nodup) (h4:∀ p ∈ t,p.1 < 4):((calOf x t).map (·.1)).Nodup:=by
 rw [calOf_keys]
 induction t with
 | nil=>simp
 | cons p r ih=>
  rw [List.map_cons,List.nodup_cons] at h
  rw [List.map_cons,List.map_cons,List.nodup_cons]
  refine ⟨fun hm=>?_,ih h.2 fun q hq=>h4 q (List.mem_cons_of_mem _ hq)⟩
  obtain ⟨c,hc,e⟩:=List.mem_map.mp hm
  obtain ⟨q,hq,rfl⟩:=List.mem_map.mp hc
  exact h.1 (lt_inj (h4 q (List.mem_cons_of_mem _ hq)) (h4 p (List.mem_cons_self ..)) e ▸ List.mem_map.mpr ⟨q,hq,rfl⟩)
theorem cal_add (x:Nat):∀ (u t:List (Nat × Nat)),(t.map (·.1)).Nodup -> (∀ p ∈ t,p.1 < 4) -> (∀ p ∈ u,p.1 < 4) -> addCal (calOf x t) (calOf x u) = calOf x (addT t u):=by
 intro u t hn ht hu
 have h0:(calOf x t).foldl (fun c p=>dst c p.1 p.2) [] = calOf x t:=mrgK_id (calOf_nodup x hn ht)
 unfold addCal
 rw [h0]
 clear h0 hn
 induction u generalizing t with
 | nil=>rfl
 | cons p r ih=>
  have hp:=hu p (List.mem_cons_self ..)
  show ((calOf x r).foldl addStep (addStep (calOf x t) (lt p.1,mkOf x p.1 p.2))) = _
  rw [cal_step x ht hp]
  refine ih (bump t p) (fun q hq=>?_) fun q hq=>hu q (List.mem_cons_of_mem _ hq)
  rcases dst_keyin hq with h' | h'
  ·obtain ⟨p',hp',e⟩:=List.mem_map.mp h'
   rw [<- e]; exact ht p' hp'
  ·rw [h']; exact hp
theorem nodup_len:∀ (n:Nat) (l:List Nat),l.Nodup -> (∀ x ∈ l,x < n) -> l.length <= n
 | 0,l,_,h=>by
  cases l with
  | nil=>simp
  | cons a r=>exact absurd (h a (List.mem_cons_self ..)) (Nat.not_lt_zero _)
 | n + 1,l,hn,h=>by
  have ih:=nodup_len n (l.erase n) (hn.erase n) fun x hx=>by
   have:=(List.Nodup.mem_erase_iff hn).mp hx
   have:=h x this.2
   omega
  have:=List.length_erase (a:=n) (l:=l)
  split at this <;> omega
theorem keys4_len {t:List (Nat × Nat)} (hn:(t.map (·.1)).Nodup) (h4:∀ p ∈ t,p.1 < 4):t.length <= 4:=by
 have:=nodup_len 4 (t.map (·.1)) hn fun c hc=>by
  obtain ⟨p,hp,rfl⟩:=List.mem_map.mp hc
  exact h4 p hp
 simpa using this
theorem cal_take (x:Nat) (u:List (Nat × Nat)) (i:Nat):(calOf x u).take i = calOf x (u.take i):=by simp [calOf,List.map_take]
theorem cal_ok (x:Nat) {t u:List (Nat × Nat)} (hn:(t.map (·.1)).Nodup) (hu:(u.map (·.1)).Nodup) (h4:∀ p ∈ t,p.1 < 4) (h4':∀ p ∈ u,p.1 < 4):CalOk (calOf x t) (calOf x u) where
 ha:=by have:=keys4_len hn h4; simp [calOf]; omega
 hb:=by have:=keys4_len hu h4'; simp [calOf]; omega
 hlen:=fun i=>by
  rw [cal_take,cal_add x _ t hn h4 fun p hp=>h4' p (List.mem_of_mem_take hp)]
  have:=keys4_len (addT_nodup (u.take i) t hn) (addT_keys4 _ t h4 fun p hp=>h4' p (List.mem_of_mem_take hp))
  simp [calOf]; omega
 hl:=fun i p old hp ho=>by
  rw [cal_take,cal_add x _ t hn h4 fun p hp=>h4' p (List.mem_of_mem_take hp)] at ho
  have hm:=List.mem_of_getElem? hp
  obtain ⟨q,hq,rfl⟩:=List.mem_map.mp hm
  have hq4:=h4' q hq
  rw [cal_lookup x _ q.1 (addT_keys4 _ t h4 fun p hp=>h4' p (List.mem_of_mem_take hp)) hq4] at ho
  obtain ⟨m,_,rfl⟩:=Option.map_eq_some_iff.mp ho
  exact mk_like _ _ _ _
end
section
abbrev T3:=Nat × Nat × Nat
noncomputable def entOf (ow:List Int) (ls:List (List Nat)) (x:Nat) (m:List T3):Ent:=
 ⟨((m.countP fun t=>decide (t.2.1 ≠ x):Nat):Int),(m.length:Int),sumIs (m.map fun t=>ow.getD t.2.2 0),sumIs (m.map fun t=>((ls.getD t.2.2 []).length:Int)),calOf x (tally (m.map fun t=>t.2.1))⟩
noncomputable def callEnt (ow:List Int) (ls:List (List Nat)) (t:T3):Ent:=⟨if t.1 = t.2.1 then 0 else 1,1,ow.getD t.2.2 0,((ls.getD t.2.2 []).length:Int),calOf t.1 [(t.2.1,1)]⟩
noncomputable def mineOf (cs:List T3) (x:Nat):List T3:=cs.filter fun t=>decide (t.1 = x)
noncomputable def bookOf (ow:List Int) (ls:List (List Nat)) (cs:List T3):Book:=(firsts (cs.map (·.1))).map fun x=>(x,entOf ow ls x (mineOf cs x))
variable {ow:List Int} {ls:List (List Nat)}
theorem tally_nodup (cs:List Nat):((tally cs).map (·.1)).Nodup:=by rw [tally_keys]; exact firsts_nodup cs
theorem tally_4 {cs:List Nat} (h:∀ c ∈ cs,c < 4):∀ p ∈ tally cs,p.1 < 4:=fun p hp=>by
 obtain ⟨c,hc,rfl⟩:=List.mem_map.mp hp
 exact h c ((mem_firsts cs c).mp hc)
theorem tally_add1 (cs:List Nat) (c:Nat):addT (tally cs) [(c,1)] = tally (cs ++ [c]):=(tally_snoc cs c).symm
theorem ent_snoc {x:Nat} {m:List T3} {t:T3} (hx:t.1 = x) (h4:∀ u ∈ m,u.2.1 < 4) (ht:t.2.1 < 4):(entOf ow ls x m).add (callEnt ow ls t) = entOf ow ls x (m ++ [t]):=by
 subst hx
 have h1:=cal_add t.1 [(t.2.1,1)] (tally (m.map fun t=>t.2.1)) (tally_nodup _) (tally_4 fun c hc=>by obtain ⟨u,hu,rfl⟩:=List.mem_map.mp hc; exact h4 u hu) (fun p hp=>by rw [List.mem_singleton.mp hp]; exact ht)
 rw [tally_add1] at h1
 unfold Ent.add entOf callEnt
 simp only [h1,List.map_append,List.map_cons,List.map_nil,List.countP_append,List.length_append,List.countP_cons,List.countP_nil,sumIs,List.foldl_append,List.foldl_cons,List.foldl_nil,List.length_singleton]
 have e:(if t.1 = t.2.1 then (0:Int) else 1) + ((m.countP fun u=>decide (u.2.1 ≠ t.1):Nat):Int) = (((m.countP fun u=>decide (u.2.1 ≠ t.1)) + (0 + if decide (t.2.1 ≠ t.1) = true then 1 else 0):Nat):Int):=by
  by_cases q:t.1 = t.2.1
  ·have:¬t.2.1 ≠ t.1:=fun r=>r q.symm
   simp [q,this]
  ·have:t.2.1 ≠ t.1:=fun r=>q r.symm
   simp [q,this]; omega
 rw [e]
 congr 1
 ·push_cast; omega
 ·exact Int.add_comm _ _
 ·exact Int.add_comm _ _
theorem mine_snoc (cs:List T3) (t:T3) (x:Nat):mineOf (cs ++ [t]) x = if t.1 = x then mineOf cs x ++ [t] else mineOf cs x:=by
 unfold mineOf
 rw [List.filter_append]
 by_cases h:t.1 = x
 ·simp [h]
 ·simp [h]
theorem mine_nil {cs:List T3} {x:Nat} (h:x ∉ cs.map (·.1)):mineOf cs x = []:=by
 unfold mineOf
 rw [List.filter_eq_nil_iff]
 intro t ht
 simp only [decide_eq_true_eq]
 exact fun q=>h (q ▸ List.mem_map.mpr ⟨t,ht,rfl⟩)
theorem book_lookup (cs:List T3) (x:Nat):(bookOf ow ls cs).lookup x = if x ∈ cs.map (·.1) then some (entOf ow ls x (mineOf cs x)) else none:=by
 rw [bookOf,lookup_map_self (fun x=>entOf ow ls x (mineOf cs x))]
 simp only [mem_firsts]
set_option tactic.hygienic true in
theorem book_getD (cs:List T3) (x:Nat):((bookOf ow ls cs).lookup x).getD ent0 = entOf ow ls x (mineOf cs x):=by
 rw [book_lookup]
 split
 ·rfl
 ·rename_i h
  rw [mine_nil h]; rfl
theorem book_keys (cs:List T3):(bookOf ow ls cs).map (·.1) = firsts (cs.map (·.1)):=by simp [bookOf,Function.comp_def]
theorem book_snoc (cs:List T3) (t:T3) (h4:∀ u ∈ cs,u.2.1 < 4) (ht:t.2.1 < 4):dst (bookOf ow ls cs) t.1 ((((bookOf ow ls cs).lookup t.1).getD ent0).add (callEnt ow ls t)) = bookOf ow ls (cs ++ [t]):=by
 rw [book_getD,ent_snoc (m:=mineOf cs t.1) rfl (fun u hu=>h4 u (List.mem_filter.mp hu).1) ht]
 have hm:mineOf cs t.1 ++ [t] = mineOf (cs ++ [t]) t.1:=by rw [mine_snoc,if_pos rfl]
 rw [hm]
 have hmo:∀ x,x ≠ t.1 -> mineOf (cs ++ [t]) x = mineOf cs x:=fun x hx=>by rw [mine_snoc,if_neg (Ne.symm hx)]
 by_cases h:t.1 ∈ cs.map (·.1)
 ·have hf:=(mem_firsts _ _).mpr h
  rw [dst_in (by rw [book_keys]; exact hf)]
  unfold bookOf
  rw [List.map_append,List.map_cons,List.map_nil,firsts_snoc,if_pos hf,List.map_map]
  refine List.map_congr_left fun x zz=>?_
  simp only [Function.comp]
  by_cases q:x = t.1
  ·subst q; simp
  ·simp [q,hmo x q]
 ·have hf:t.1 ∉ firsts (cs.map (·.1)):=fun q=>h ((mem_firsts _ _).mp q)
  rw [dst_out (by rw [book_keys]; exact hf)]
  unfold bookOf
  rw [List.map_append,List.map_cons,List.map_nil,firsts_snoc,if_neg hf,List.map_append]
  congr 1
  refine List.map_congr_left fun x hx=>?_
  rw [hmo x fun q=>hf (q ▸ hx)]
theorem nodup_sub_len {α:Type} [DecidableEq α]:∀ (l m:List α),l.Nodup -> (∀ x ∈ l,x ∈ m) -> l.length <= m.length
 | [],m,_,_=>Nat.zero_le _
 | x :: r,m,hn,h=>by
  rw [List.nodup_cons] at hn
  have hx:=h x (List.mem_cons_self ..)
  have ih:=nodup_sub_len r (m.erase x) hn.2 fun y hy=>(List.mem_erase_of_ne (fun q:y = x=>hn.1 (q ▸ hy))).mpr (h y (List.mem_cons_of_mem _ hy))
  have hl:=List.length_erase_of_mem hx
  have hp:=List.length_pos_of_mem hx
  simp only [List.length_cons]; omega
theorem lookup_key {α:Type} [BEq α] [LawfulBEq α] {β:Type}:∀ {l:List (α × β)} {a:α},(l.lookup a).isSome = true <-> a ∈ l.map (·.1)
 | [],a=>by simp
 | (x,y) :: r,a=>by
  rw [List.lookup_cons,List.map_cons,List.mem_cons]
  cases h:a == x with
  | true=>simp [beq_iff_eq.mp h]
  | false=>
   rw [lookup_key]
   have:a ≠ x:=fun q=>by rw [q] at h; simp at h
   simp [this]
theorem look_len {β:Type} {t u:List (Nat × β)} {γ:Type} (ht:(t.map (·.1)).Nodup) {u':List (Nat × γ)} (h:∀ c,(t.lookup c).isSome = true -> (u'.lookup c).isSome = true):t.length <= u'.length:=by
 have:=nodup_sub_len (t.map (·.1)) (u'.map (·.1)) ht fun c hc=>lookup_key.mp (h c (lookup_key.mpr hc))
 simpa using this
theorem same_mk {X:Cx} (m:Mk):Same X 1 m.d m.d:=by
 cases m with
 | i n=>exact Same.of Eqs.int
 | t l=>exact Same.of (Eqs.tup (all_map fun zz=>Eqs.int))
theorem same_cal {X:Cx} (x:Nat) {t u:List (Nat × Nat)} (ht:(t.map (·.1)).Nodup) (hu:(u.map (·.1)).Nodup) (h4:∀ p ∈ t,p.1 < 4) (h4':∀ p ∈ u,p.1 < 4) (h:∀ c,t.lookup c = u.lookup c):SameR X 2 (.dct (cd (calOf x t))) (.dct (cd (calOf x u))):=by
 have l1:=look_len (u:=u) ht (u':=u) fun c hc=>h c ▸ hc
 have l2:=look_len (u:=t) hu (u':=t) fun c hc=>(h c).symm ▸ hc
 refine SameR.dct (by rw [cd,cd,calOf,calOf,List.length_map,List.length_map,List.length_map,List.length_map]; exact Nat.le_antisymm l1 l2) fun p hp=>?_
 obtain ⟨q,hq,rfl⟩:=List.mem_map.mp hp
 obtain ⟨r,hr,rfl⟩:=List.mem_map.mp hq
 refine ⟨(mkOf x r.1 r.2).d,?_,same_mk _⟩
 show (cd (calOf x u)).lookup (lt r.1) = _
 rw [cd_lookup,cal_lookup x u r.1 h4' (h4 r hr),<- h,lookup_nd ht hr]; rfl
theorem same_ent {X:Cx} {e e':Ent} (h1:e.cc = e'.cc) (h2:e.nc = e'.nc) (h3:e.tt = e'.tt) (h4:e.ct = e'.ct) (h5:SameR X 2 (.dct (cd e.cal)) (.dct (cd e'.cal))):SameR X 3 e.d e'.d:=
 have k:∀ {a b:Int},a = b -> Same X 2 (.int a) (.int b):=fun h=>h ▸ Same.of Eqs.int
 SameR.tup (ds:=[_,_,_,_,_]) (es:=[_,_,_,_,_]) ⟨k h1,k h2,k h3,k h4,h5.same,trivial⟩
theorem same_book {X:Cx} {b b':Book} (hb:(b.map (·.1)).Nodup) (hb':(b'.map (·.1)).Nodup) (h4:∀ p ∈ b,p.1 < 4) (h4':∀ p ∈ b',p.1 < 4) (h:∀ x e,b.lookup x = some e -> ∃ e',b'.lookup x = some e' /\ SameR X 3 e.d e'.d) (h':∀ x,(b'.lookup x).isSome = true -> (b.lookup x).isSome = true):SameR X 4 (.dct (bkD b)) (.dct (bkD b')):=by
 have l1:=look_len (u:=b') hb (u':=b') fun c hc=>by
  obtain ⟨e,he⟩:=Option.isSome_iff_exists.mp hc
  obtain ⟨e',he',_⟩:=h c e he
  rw [he']; rfl
 have l2:=look_len (u:=b) hb' (u':=b) h'
 refine SameR.dct (by rw [bkD,bkD,List.length_map,List.length_map]; exact Nat.le_antisymm l1 l2) fun p hp=>?_
 obtain ⟨q,hq,rfl⟩:=List.mem_map.mp hp
 obtain ⟨e',he',hs⟩:=h q.1 q.2 (lookup_nd hb hq)
 refine ⟨e'.d,?_,hs.same⟩
 show (bkD b').lookup (lt q.1) = _
 rw [bk_lookup b' q.1 h4' (h4 q hq),he']; rfl
theorem snoc_ind {α:Type} {Q:List α -> Prop} (h0:Q []) (h1:∀ l a,Q l -> Q (l ++ [a])) (l:List α):Q l:=by
 have:∀ r:List α,Q r.reverse:=fun r=>by
  induction r with
  | nil=>exact h0
  | cons a r ih=>rw [List.reverse_cons]; exact h1 _ _ ih
 have:=this l.reverse
 rwa [List.reverse_reverse] at this
set_option tactic.hygienic true in
theorem mrg_firsts (f:Nat -> Str) (v:Nat -> D) (h:∀ a b,a < 4 -> b < 4 -> f a = f b -> a = b):∀ (cs:List Nat),(∀ c ∈ cs,c < 4) -> mrgK (cs.map fun c=>(f c,v c)) = (firsts cs).map fun c=>(f c,v c):=by
 intro cs
 refine snoc_ind (Q:=fun cs=>(∀ c ∈ cs,c < 4) -> mrgK (cs.map fun c=>(f c,v c)) = (firsts cs).map fun c=>(f c,v c)) (fun zz=>rfl) (fun cs c ih=>?_) cs
 ·intro h4
  have hc:=h4 c (by simp)
  have ih:=ih fun d hd=>h4 d (by simp [hd])
  rw [List.map_append,List.map_cons,List.map_nil,mrgK_snoc,ih,firsts_snoc]
  have hk:f c ∈ ((firsts cs).map fun c=>(f c,v c)).map (·.1) <-> c ∈ firsts cs:=by
   rw [List.map_map]
   constructor
   ·intro q
    obtain ⟨d,hd,e⟩:=List.mem_map.mp q
    exact h d c (h4 d (by simp [(mem_firsts cs d).mp hd])) hc e ▸ hd
   ·intro q; exact List.mem_map.mpr ⟨c,q,rfl⟩
  by_cases q:c ∈ firsts cs
  ·rw [if_pos q,dst_in (hk.mpr q),List.map_map]
   refine List.map_congr_left fun d hd=>?_
   simp only [Function.comp]
   split
   ·rename_i e
    rw [h d c (h4 d (by simp [(mem_firsts cs d).mp hd])) hc e]
   ·rfl
  ·rw [if_neg q,dst_out (fun r=>q (hk.mp r))]
   simp
end
section
noncomputable def callD (t:T3):D:=.tup [.str (lt t.1),.str (lt t.2.1),.int (t.2.2:Nat)]
noncomputable def owD (ow:List Int):D:=.lst (ow.map .int)
noncomputable def rowD (l:List Nat):D:=.lst (l.map fun j=>.str (lt j))
noncomputable def lsD (ls:List (List Nat)):D:=.lst (ls.map rowD)
structure CallsOk (ow:List Int) (ls:List (List Nat)) (cs:List T3):Prop where
 each:∀ t ∈ cs,t.1 < 3 /\ t.2.1 < 4 /\ t.2.2 < ow.length /\ t.2.2 < ls.length
 len:cs.length <= 500
 ol:ow.length <= 500
 ll:ls.length <= 500
 ob:∀ n ∈ ow,-1000 <= n /\ n <= 1000
 lb:∀ l ∈ ls,l.length <= 500
theorem bk_dst {b:Book} {x:Nat} (h4:∀ p ∈ b,p.1 < 4) (hx:x < 4) (e:Ent):dst (bkD b) (lt x) e.d = bkD (dst b x e):=by
 have hk:lt x ∈ (bkD b).map (·.1) <-> x ∈ b.map (·.1):=by
  simp only [bkD,List.map_map,List.mem_map,Function.comp]
  constructor
  ·rintro ⟨p,hp,q⟩; exact ⟨p,hp,lt_inj (h4 p hp) hx q⟩
  ·rintro ⟨p,hp,q⟩; exact ⟨p,hp,by rw [q]⟩
 by_cases h:x ∈ b.map (·.1)
 ·rw [dst_in (hk.mpr h),dst_in h]
  simp only [bkD,List.map_map]
  refine List.map_congr_left fun p hp=>?_
  simp only [Function.comp]
  by_cases q:p.1 = x
  ·subst q; simp
  ·have:¬lt p.1 = lt x:=fun e=>q (lt_inj (h4 p hp) hx e)
   simp [q,this]
 ·rw [dst_out (fun q=>h (hk.mp q)),dst_out h]
  simp [bkD]
section
variable {X:Cx} {P:Params} {A:Around} {env:Env} {Γ:Loc} {Ω:Own} {ow:List Int} {ls:List (List Nat)} {cs:List T3}
theorem len_row {l:List Nat} (h:l.length <= 1000000):CallR X A env Γ Ω (.builtin "len") [rowD l] (.int l.length):=by
 have:=len_lst (X:=X) (A:=A) (env:=env) (Γ:=Γ) (Ω:=Ω) (ds:=l.map fun j=>D.str (lt j)) (by rw [List.length_map]; exact h)
 rwa [List.length_map] at this
theorem same_refl {X:Cx} {x:Nat} {t:List (Nat × Nat)} (hn:(t.map (·.1)).Nodup) (h4:∀ p ∈ t,p.1 < 4):SameR X 2 (.dct (cd (calOf x t))) (.dct (cd (calOf x t))):=same_cal x hn hn h4 h4 fun zz=>rfl
theorem CallsOk.keys (ok:CallsOk ow ls cs) (i:Nat):(∀ p ∈ bookOf ow ls (cs.take i),p.1 < 3) /\ ((bookOf ow ls (cs.take i)).map (·.1)).Nodup:=by
 refine ⟨fun p hp=>?_,by rw [book_keys]; exact firsts_nodup _⟩
 obtain ⟨x,hx,rfl⟩:=List.mem_map.mp hp
 obtain ⟨t,ht,e⟩:=List.mem_map.mp ((mem_firsts _ _).mp hx)
 rw [<- e]; exact (ok.each t (List.mem_of_mem_take ht)).1
theorem CallsOk.mine4 (ok:CallsOk ow ls cs) (i x:Nat):∀ c ∈ (mineOf (cs.take i) x).map (fun t=>t.2.1),c < 4:=fun c hc=>by
 obtain ⟨t,ht,rfl⟩:=List.mem_map.mp hc
 exact (ok.each t (List.mem_of_mem_take (List.mem_filter.mp ht).1)).2.1
theorem str_ne {i j:Nat} (hi:i < 4) (hj:j < 4):(lt i != lt j) = decide (i ≠ j):=by rw [bne,lt_eq i j hi hj,decide_not]
theorem cnt_mid (m:List T3) (c:Nat):(m.filter fun u=>decide (u.2.1 = c)).length = (m.map fun t=>t.2.1).count c:=by
 rw [List.count,List.countP_map,List.countP_eq_length_filter]; rfl
theorem sum_map {α:Type} {m:List α} {f:α -> Int} (hh:A.handled = none) (hz:m.length <= 1000) (hb:∀ t ∈ m,-1000000 <= f t /\ f t <= 1000000):CallR X A env Γ Ω (.builtin "sum") [.lst (m.map fun t=>.int (f t))] (.int (sumIs (m.map f))):=by
 have h:=sum_lst (X:=X) (env:=env) (Γ:=Γ) (Ω:=Ω) (ns:=m.map f) hh (by rwa [List.length_map]) fun n hn=>by obtain ⟨t,ht,rfl⟩:=List.mem_map.mp hn; exact hb t ht
 rwa [List.map_map] at h
theorem ow_get {k:Nat} (h:k < ow.length):(ow.map D.int)[((k:Nat):Int).toNat]? = some (.int (ow.getD k 0)):=by
 rw [Int.toNat_natCast,List.getElem?_map,List.getD_eq_getElem?_getD,List.getElem?_eq_getElem h]; rfl
theorem ls_get {k:Nat} (h:k < ls.length):(ls.map rowD)[((k:Nat):Int).toNat]? = some (rowD (ls.getD k [])):=by
 rw [Int.toNat_natCast,List.getElem?_map,List.getD_eq_getElem?_getD,List.getElem?_eq_getElem h]; rfl
noncomputable def bookG (cd:D) (ow:List Int) (ls:List (List Nat)) (bd:D):Loc:=[("calls",cd),("owns",owD ow),("lists",lsD ls),("book",bd)]
noncomputable abbrev bookA (P:Params):List Stmt:=forB ((fbK P 121).drop 1)
noncomputable abbrev bookB (P:Params):List Stmt:=forB ((fbK P 121).drop 2)
structure LsOk (ow:List Int) (ls:List (List Nat)):Prop where
 ol:ow.length <= 500
 ll:ls.length <= 500
 ob:∀ k,-1000000 <= ow.getD k 0 /\ ow.getD k 0 <= 1000000
 lb:∀ k,(ls.getD k []).length <= 500
theorem CallsOk.lo (ok:CallsOk ow ls cs):LsOk ow ls:=⟨ok.ol,ok.ll,fun k=>by
  rw [List.getD_eq_getElem?_getD]
  cases h:ow[k]? with
  | none=>decide
  | some n=>exact ⟨Int.le_trans (by decide) (ok.ob n (List.mem_of_getElem? h)).1,Int.le_trans (ok.ob n (List.mem_of_getElem? h)).2 (by decide)⟩,fun k=>by
  rw [List.getD_eq_getElem?_getD]
  cases h:ls[k]? with
  | none=>exact Nat.zero_le _
  | some l=>exact ok.lb l (List.mem_of_getElem? h)⟩
theorem ev_own (lo:LsOk ow ls) {k:Nat} (hk:k < ow.length) {e v:Expr} {pos:Pos} (h1:Ev X A env Γ Ω v (owD ow)) (h2:Ev X A env Γ Ω e (.int (k:Nat))):Ev X A env Γ Ω (.Subscript v e pos) (.int (ow.getD k 0)):=
 ev_sub h1 h2 subT_lst (get_lst (Int.natCast_nonneg k) (ow_get hk) (by rw [List.length_map]; exact Nat.le_trans lo.ol (by decide)))
theorem ev_lsk (lo:LsOk ow ls) {k:Nat} (hk:k < ls.length) {e v:Expr} {pos:Pos} (h1:Ev X A env Γ Ω v (lsD ls)) (h2:Ev X A env Γ Ω e (.int (k:Nat))):Ev X A env Γ Ω (.Subscript v e pos) (rowD (ls.getD k [])):=
 ev_sub h1 h2 subT_lst (get_lst (Int.natCast_nonneg k) (ls_get hk) (by rw [List.length_map]; exact Nat.le_trans lo.ll (by decide)))
theorem len_lsk (lo:LsOk ow ls) (k:Nat):CallR X A env Γ Ω (.builtin "len") [rowD (ls.getD k [])] (.int ((ls.getD k []).length:Nat)):=len_row (Nat.le_trans (lo.lb k) (by decide))
theorem cd_len1 (t:List (Nat × Nat)) (x:Nat):(cd (calOf x t)).length = t.length:=by rw [cd_length,calOf,List.length_map]
set_option tactic.hygienic true in
theorem book_one (hX:XOk3 X P) (hA:Room A 3) {L a:Addr} {cD:D} {es:List (Str × D)} {x c k:Nat} {e:Ent} {t:List (Nat × Nat)} {R:PostP} (lo:LsOk ow ls) (hx:x < 3) (hc:c < 4) (hko:k < ow.length) (hkl:k < ls.length)
  (he:(es.lookup (lt x)).getD ent0.d = e.d) (hcal:e.cal = calOf x t) (hn:(t.map (·.1)).Nodup) (h4:∀ p ∈ t,p.1 < 4) (hz:es.length <= 1000)
  (fin:∀ {Γ'},Sub (bookG cD ow ls (.val (.ref a))) Γ' -> R .next Γ' (oset [(a,.dct es)] a (.dct (dst es (lt x) (e.add (callEnt ow ls (x,c,k))).d)))) :
  Exs X A (envF P 121 L) (upd (upd (upd (bookG cD ow ls (.val (.ref a))) "letter" (.str (lt x))) "caller" (.str (lt c))) "k" (.int (k:Nat))) [(a,.dct es)] (bookA P) R:=by
 have hh:=hA.h
 have hu:=hA.u
 have hmk:CallQ X 1 (.ref 116) [] [.str (lt x),.str (lt c),.int 1] [] (mkOf x c 1).d:=c_mark hX.toXOk x c 1 hx hc
 have h1:∀ p ∈ [(c,1)],p.1 < 4:=fun p hp=>by rw [List.mem_singleton.mp hp]; exact hc
 have n1:([(c,1)].map (·.1)).Nodup:=List.pairwise_singleton _ _
 have hd4:e.d = .tup [.int e.cc,.int e.nc,.int e.tt,.int e.ct,.dct (cd (calOf x t))]:=by rw [<- hcal]; rfl
 have hcok:CalOk e.cal (callEnt ow ls (x,c,k)).cal:=by rw [hcal]; exact cal_ok x hn n1 h4 h1
 have hadd:=c_adds hX e _ hcok
 generalize hed:e.d = ed at *
 generalize (e.add (callEnt ow ls (x,c,k))).d = nd at *
 have hlt:(cd (calOf x t)).length <= 1000000:=by rw [cd_len1]; exact Nat.le_trans (keys4_len hn h4) (by decide)
 have hl1:(cd (calOf x [(c,1)])).length <= 1000000:=by rw [cd_len1]; exact nle rfl
 refine exs_cons (ex_assign_w (names:=["old", "mark"]) (ds:=[ed,.dct (cd (calOf x [(c,1)]))]) hh (ev_tuple (evl_cons (he ▸ ev_get2_own va (List.mem_singleton.mpr rfl) va ev_ent0 rfl rfl rfl rfl) (evl_cons ?_ evl_nil rfl) rfl) (nle rfl)) (binds_cons (by kernel_rfl) (binds_cons (by kernel_rfl) binds_nil)) ?_ rfl (by rfl) (by rfl))
 ·exact EvO.ev (c:=.dct [(lt c,(mkOf x c 1).d)]) (evo_dict (es:=[(lt c,(mkOf x c 1).d)]) fun zz=>evpr_cons va (ev_call (eg (v:=.ref 116) hX.toXOk) (fun zz=>kp_k (by rw [hX.k]; kernel_rfl)) (evl_cons va (evl_cons va (evl_cons ev_int evl_nil rfl) rfl) rfl) (hmk.r (hA.le (by decide))) rfl rfl) evpr_nil)
 refine exs_cons (ex_assign_w (names:=["new", "stood"]) (ds:=[(callEnt ow ls (x,c,k)).d,.dct (cd (calOf x t))]) hh (ev_tuple (evl_cons (ev_tuple (ds:=[.int (if x = c then 0 else 1),.int 1,.int (ow.getD k 0),.int (ls.getD k []).length,.dct (cd (calOf x [(c,1)]))]) (evl_cons (lt_ne x c (Nat.lt_succ_of_lt hx) hc ▸ ev_call (eb (v:=.type "int") hX.toXOk) (fun zz=>kp_t) (evl_cons (ev_cmp va va op_nes rfl) evl_nil rfl) int_bool rfl rfl) (evl_cons ev_int (evl_cons (ev_own lo hko va va) (evl_cons (ev_call (eb (v:=.builtin "len") hX.toXOk) (fun zz=>kp_b) (evl_cons (ev_lsk lo hkl va va) evl_nil rfl) (len_lsk lo k) rfl rfl) (evl_cons (ev_call (eb (v:=.type "dict") hX.toXOk) (fun zz=>kp_t) (evl_cons va evl_nil rfl) (dict_of hl1) rfl rfl) evl_nil rfl) rfl) rfl) rfl) rfl) (nle rfl))
  (evl_cons (ev_call (eb (v:=.type "dict") hX.toXOk) (fun zz=>kp_t) (evl_cons (ev_at (i:=4) (ev_eq hd4 va) ev_int rfl (nle rfl)) evl_nil rfl) (dict_of hlt) rfl rfl) evl_nil rfl) rfl) (nle rfl)) (binds_cons (by kernel_rfl) (binds_cons (by kernel_rfl) binds_nil)) ?_ rfl (by rfl) (by rfl))
 refine exs_cons (ex_store_dct (k:=lt x) (d:=nd) (ev_call (eg (v:=.ref 21) hX.toXOk) (fun zz=>kp_k (by rw [hX.k]; kernel_rfl)) (evl_cons va (evl_cons va evl_nil rfl) rfl) (hadd.r hA) rfl rfl) va (List.mem_singleton.mpr rfl) va (Nat.le_trans hz (by decide)) ?_ (by rfl))
 exact exs_cons (ex_if (b:=false) (evt_or2 (b:=false) (c:=false) (evt_cmp (ev_at (i:=4) (ev_eq hd4 va) ev_int rfl (nle rfl)) va (op_ne_same (n:=2) (by omega) (same_refl hn h4)) rfl) (fun zz=>evt_cmp (ev_at (i:=4) va ev_int rfl (nle rfl)) va (op_ne_same (n:=2) (by omega) (same_refl (x:=x) n1 h1)) rfl)) (fun h=>nomatch h) (fun zz=>exs_nil (exs_nil (fin (sub_pre 4 rfl)))))
noncomputable def bookM (cD:D) (ow:List Int) (ls:List (List Nat)) (bd:D) (x:Nat) (m:List T3):Loc:=upd (upd (bookG cD ow ls bd) "letter" (.str (lt x))) "mine" (.lst (m.map callD))
theorem book_mine (hh:A.handled = none) {L:Addr} {bd:D} {x:Nat} {R:PostP} (hx:x < 4) (h:∀ t ∈ cs,t.1 < 4) (hz:cs.length <= 1000)
  (k:Exs X A (envF P 121 L) (bookM (.lst (cs.map callD)) ow ls bd x (mineOf cs x)) [] ((bookB P).drop 1) R):Exs X A (envF P 121 L) (upd (bookG (.lst (cs.map callD)) ow ls bd) "letter" (.str (lt x))) [] (bookB P) R:=
 exs_cons (ex_assign (d:=.lst ((mineOf cs x).map callD)) (EvO.ev (c:=.lst ((mineOf cs x).map callD)) (evo_lc (lc_filt (fun t=>decide (t.1 = x)) callD (it_list hh va) hz fun C t acc ht=>
  ⟨_,fun Da=>asgI_name,capt_sub (by rfl),fun Da=>tests_one (evt_cmp (ev_at (i:=0) (ds:=[.str (lt t.1),.str (lt t.2.1),.int (t.2.2:Nat)]) va ev_int rfl (nle rfl)) va (op_b op_eqs (lt_eq t.1 x (h t ht) hx)) rfl),fun zz Da=>va⟩))) (by kernel_rfl) k rfl)
theorem book_often (hX:XOk3 X P) (hA:Room A 3) {L:Addr} {cD bd:D} {x:Nat} {m:List T3} {R:PostP} (hx:x < 3) (h4:∀ t ∈ m,t.2.1 < 4) (hz:m.length <= 1000)
  (k:Exs X A (envF P 121 L) (upd (bookM cD ow ls bd x m) "often" (.dct (cd (calOf x (tally (m.map fun t=>t.2.1)))))) [] ((bookB P).drop 2) R):Exs X A (envF P 121 L) (bookM cD ow ls bd x m) [] ((bookB P).drop 1) R:=by
 have hh:=hA.h
 let mc:=m.map fun t=>t.2.1
 have hf:mrgK (m.map fun t=>(lt t.2.1,(mkOf x t.2.1 (mc.count t.2.1:Nat)).d)) = cd (calOf x (tally mc)):=by
  have e:=mrg_firsts lt (fun c=>(mkOf x c (mc.count c:Nat)).d) (fun a b ha hb e=>lt_inj ha hb e) mc fun c hc=>by obtain ⟨t,ht,rfl⟩:=List.mem_map.mp hc; exact h4 t ht
  rw [List.map_map] at e
  refine e.trans ?_
  rw [cd,calOf,tally,List.map_map,List.map_map]; rfl
 refine exs_cons (ex_assign_dc (c:=.dct (cd (calOf x (tally mc)))) (hf ▸ dc_map _ (it_list hh va) hz fun C t acc ht=>?_) rfl (by kernel_rfl) k)
 refine ⟨_,fun Da=>asgI_name,capt_sub (by rfl),fun Da=>ev_at (i:=1) (ds:=[.str (lt t.1),.str (lt t.2.1),.int (t.2.2:Nat)]) va ev_int rfl (nle rfl),fun Da=>?_⟩
 refine ev_call (eg (v:=.ref 116) hX.toXOk) (fun zz=>kp_k (by rw [hX.k]; kernel_rfl)) (evl_cons va (evl_cons (ev_at (i:=1) (ds:=[.str (lt t.1),.str (lt t.2.1),.int (t.2.2:Nat)]) va ev_int rfl (nle rfl)) (evl_cons ?_ evl_nil rfl) rfl) rfl) ((c_mark hX.toXOk x t.2.1 (mc.count t.2.1:Nat) hx (h4 t ht)).r (hA.le (by decide))) rfl rfl
 rw [<- cnt_mid]
 exact ev_call (eb (v:=.builtin "len") hX.toXOk) (fun zz=>kp_b) (evl_cons (EvO.ev (c:=.lst ((m.filter fun u=>decide (u.2.1 = t.2.1)).map callD)) (evo_lc (lc_filt (fun u=>decide (u.2.1 = t.2.1)) callD (it_list hh va) hz fun C u acc hu=>
  ⟨_,fun Da=>asgI_name,capt_sub (by rfl),fun Da=>tests_one (evt_cmp (ev_at (i:=1) (ds:=[.str (lt u.1),.str (lt u.2.1),.int (u.2.2:Nat)]) va ev_int rfl (nle rfl)) (ev_at (i:=1) (ds:=[.str (lt t.1),.str (lt t.2.1),.int (t.2.2:Nat)]) va ev_int rfl (nle rfl)) (op_b op_eqs (lt_eq _ _ (h4 u hu) (h4 t ht))) rfl),fun zz Da=>va⟩))) evl_nil rfl) (len_map (Nat.le_trans (List.length_filter_le ..) hz)) rfl rfl
theorem book_sums (hX:XOk3 X P) (hh:A.handled = none) {L:Addr} {cD bd od:D} {x:Nat} {m:List T3} {R:PostP} (lo:LsOk ow ls) (hk:∀ t ∈ m,t.2.2 < ow.length /\ t.2.2 < ls.length) (hz:m.length <= 1000)
  (k:Exs X A (envF P 121 L) (upd (upd (upd (bookM cD ow ls bd x m) "often" od) "more" (.int (sumIs (m.map fun t=>((ls.getD t.2.2 []).length:Int))))) "own" (.int (sumIs (m.map fun t=>ow.getD t.2.2 0)))) [] ((bookB P).drop 3) R):Exs X A (envF P 121 L) (upd (bookM cD ow ls bd x m) "often" od) [] ((bookB P).drop 2) R:=by
 refine exs_cons (ex_assign_w (names:=["own", "more"]) (ds:=[.int (sumIs (m.map fun t=>ow.getD t.2.2 0)),.int (sumIs (m.map fun t=>((ls.getD t.2.2 []).length:Int)))]) hh (ev_tuple (evl_cons (ev_call (eb (v:=.builtin "sum") hX.toXOk) (fun zz=>kp_b) (evl_cons ?_ evl_nil rfl) (sum_map hh hz fun t ht=>lo.ob _) rfl rfl) (evl_cons (ev_call (eb (v:=.builtin "sum") hX.toXOk) (fun zz=>kp_b) (evl_cons ?_ evl_nil rfl) (sum_map hh hz fun t ht=>⟨Int.le_trans (by decide) (Int.natCast_nonneg _),Int.le_trans (Int.ofNat_le.mpr (lo.lb _)) (by decide)⟩) rfl rfl) evl_nil rfl) rfl) (nle rfl)) (binds_cons (by kernel_rfl) (binds_cons (by kernel_rfl) binds_nil)) k rfl (by rfl) (by rfl))
 ·exact EvO.ev (evo_lc (lc_mapA _ (it_list hh va) hz fun C t acc ht=>⟨_,fun Da=>asgI_name,capt_sub (by rfl),fun Da=>ev_own lo (hk t ht).1 va (ev_at (i:=2) (ds:=[.str (lt t.1),.str (lt t.2.1),.int (t.2.2:Nat)]) va ev_int rfl (nle rfl))⟩))
 ·exact EvO.ev (evo_lc (lc_mapA _ (it_list hh va) hz fun C t acc ht=>⟨_,fun Da=>asgI_name,capt_sub (by rfl),fun Da=>ev_call (eb (v:=.builtin "len") hX.toXOk) (fun zz=>kp_b) (evl_cons (ev_lsk lo (hk t ht).2 va (ev_at (i:=2) (ds:=[.str (lt t.1),.str (lt t.2.1),.int (t.2.2:Nat)]) va ev_int rfl (nle rfl))) evl_nil rfl) (len_lsk lo _) rfl rfl⟩))
theorem book_due (hX:XOk3 X P) (hh:A.handled = none) {L:Addr} {cD bd od:D} {n1 n2:Int} {x:Nat} {m:List T3} {R:PostP} (hx:x < 4) (h4:∀ t ∈ m,t.2.1 < 4) (hz:m.length <= 1000)
  (k:Exs X A (envF P 121 L) (upd (upd (upd (upd (bookM cD ow ls bd x m) "often" od) "more" (.int n1)) "own" (.int n2)) "due" (.tup [.int (m.countP fun t=>decide (t.2.1 ≠ x):Nat),.int (m.length:Nat),.int n2,.int n1,od])) [] ((bookB P).drop 4) R):Exs X A (envF P 121 L) (upd (upd (upd (bookM cD ow ls bd x m) "often" od) "more" (.int n1)) "own" (.int n2)) [] ((bookB P).drop 3) R:=by
 rw [List.countP_eq_length_filter] at k
 exact exs_cons (ex_assign (ev_tuple (evl_cons (ev_call (eb (v:=.builtin "len") hX.toXOk) (fun zz=>kp_b) (evl_cons (EvO.ev (c:=.lst ((m.filter fun t=>decide (t.2.1 ≠ x)).map callD)) (evo_lc (lc_filt (fun t=>decide (t.2.1 ≠ x)) callD (it_list hh va) hz fun C t acc ht=>
  ⟨_,fun Da=>asgI_name,capt_sub (by rfl),fun Da=>tests_one (evt_cmp (ev_at (i:=1) (ds:=[.str (lt t.1),.str (lt t.2.1),.int (t.2.2:Nat)]) va ev_int rfl (nle rfl)) va (op_b op_nes (str_ne (h4 t ht) hx)) rfl),fun zz Da=>va⟩))) evl_nil rfl) (len_map (Nat.le_trans (List.length_filter_le ..) hz)) rfl rfl) (evl_cons (ev_call (eb (v:=.builtin "len") hX.toXOk) (fun zz=>kp_b) (evl_cons va evl_nil rfl) (len_map hz) rfl rfl) (evl_cons va (evl_cons va (evl_cons va evl_nil rfl) rfl) rfl) rfl) rfl) (nle rfl)) (by kernel_rfl) k rfl)
set_option tactic.hygienic true in
theorem book_cmp (hX:XOk3 X P) (hA:Room A 3) {L:Addr} {cD o1 o2:D} {x:Nat} {es:List (Str × D)} {m:List T3} {cal:List (Str × D)} {n1 n2 n3 n4:D} {R:PostP} (hb:es.lookup (lt x) = some (.tup [n1,n2,n3,n4,.dct cal])) (hz:cal.length <= 1000000) (hs:SameR X 3 (.tup [n1,n2,n3,n4,.dct cal]) (.tup [n1,n2,n3,n4,.dct cal]))
  (fin:∀ {Γ'},Sub (bookG cD ow ls (.dct es)) Γ' -> R .next Γ' []):Exs X A (envF P 121 L) (upd (upd (upd (upd (bookM cD ow ls (.dct es) x m) "often" (.dct cal)) "more" o1) "own" o2) "due" (.tup [n1,n2,n3,n4,.dct cal])) [] ((bookB P).drop 4) R:=by
 have hh:=hA.h
 have hu:=hA.u
 exact exs_cons (ex_if (b:=false) (evt_or2 (b:=false) (c:=false) (evt_cmp (ev_sub va va subT_dct (get_dct hb)) va (op_ne_same (n:=3) (by omega) hs) rfl) (fun zz=>evt_cmp (dd1:=.lst (cal.map fun p=>.str p.1)) (dd2:=.lst (cal.map fun p=>.str p.1)) (ev_call (eb (v:=.type "list") hX.toXOk) (fun zz=>kp_t) (evl_cons (ev_at (i:=4) (ev_sub va va subT_dct (get_dct hb)) ev_int rfl (nle rfl)) evl_nil rfl) (list_dct hh hz) rfl rfl) (ev_call (eb (v:=.type "list") hX.toXOk) (fun zz=>kp_t) (evl_cons va evl_nil rfl) (list_dct hh hz) rfl rfl) (op_nel' (n:=0) lst_d lst_d (by omega) (all_map fun zz=>Eqs.str)) rfl)) (fun h=>nomatch h) (fun zz=>exs_nil (exs_nil (fin (sub_pre 4 rfl)))))
theorem book_walk (hX:XOk3 X P) {L:Addr} (hA:Room A 3) (ok:CallsOk ow ls cs):Exs X A (envF P 121 L) [("calls",.lst (cs.map callD)),("owns",owD ow),("lists",lsD ls)] [] (fbK P 121) (RetP (.dct (bkD (bookOf ow ls cs)))):=by
 have hh:=hA.h
 have hz:cs.length <= 1000:=Nat.le_trans ok.len (by decide)
 refine exs_cons (ex_assign_s (evo_s evo_dict0 fun a=>?_) (by kernel_rfl) (by rfl))
 refine exs_for (G:=fun i=>bookG (.lst (cs.map callD)) ow ls (.val (.ref a))) (W:=fun i=>[(a,OC.dct (bkD (bookOf ow ls (cs.take i))))]) (it_tups hh va (all_map fun t=>⟨_,rfl⟩)) rfl sub_refl (fun i d hd=>?_) ?_
 ·rw [List.getElem?_map] at hd
  obtain ⟨⟨x,c,k⟩,ht,rfl⟩:=Option.map_eq_some_iff.mp hd
  have hk:=ok.each _ (List.mem_of_getElem? ht)
  have bk:=ok.keys i
  have bk4:∀ p ∈ bookOf ow ls (cs.take i),p.1 < 4:=fun p hp=>Nat.lt_succ_of_lt (bk.1 p hp)
  refine ⟨_,asgI_tup hh (an (an (an asgl_nil))),book_one hX hA ok.lo hk.1 hk.2.1 hk.2.2.1 hk.2.2.2 (e:=entOf ow ls x (mineOf (cs.take i) x)) ?_ rfl (tally_nodup _) (tally_4 (ok.mine4 i x)) ?_ fun s=>⟨s,?_⟩⟩
  ·rw [bk_lookup _ x bk4 (Nat.lt_succ_of_lt hk.1),<- book_getD]
   cases (bookOf ow ls (cs.take i)).lookup x <;> rfl
  ·have:=nodup_len 4 _ bk.2 fun c hc=>by obtain ⟨p,hp,rfl⟩:=List.mem_map.mp hc; exact bk4 p hp
   rw [List.length_map] at this
   rw [bkD,List.length_map]; exact Nat.le_trans this (by decide)
  ·have e:=book_snoc (ow:=ow) (ls:=ls) (cs.take i) (x,c,k) (fun u hu=>(ok.each u (List.mem_of_mem_take hu)).2.1) hk.2.1
   rw [book_getD] at e
   rw [oset1,bk_dst bk4 (Nat.lt_succ_of_lt hk.1),e,List.take_add_one,ht]; rfl
 rw [List.length_map,List.take_length]
 have bk:=ok.keys cs.length
 rw [List.take_length] at bk
 have bk4:∀ p ∈ bookOf ow ls cs,p.1 < 4:=fun p hp=>Nat.lt_succ_of_lt (bk.1 p hp)
 refine exs_freeze (Γ':=bookG (.lst (cs.map callD)) ow ls (.dct (bkD (bookOf ow ls cs)))) (fun y d h=>?_) ?_
 ·rcases lookup_cases h with ⟨rfl,rfl⟩ | ⟨h1,h⟩
  ·exact .inl rfl
  rcases lookup_cases h with ⟨rfl,rfl⟩ | ⟨h2,h⟩
  ·exact .inl rfl
  rcases lookup_cases h with ⟨rfl,rfl⟩ | ⟨h3,h⟩
  ·exact .inl rfl
  rcases lookup_cases h with ⟨rfl,rfl⟩ | ⟨_,h⟩
  ·exact .inr ⟨rfl,rfl⟩
  ·cases h
 refine exs_for (G:=fun i=>bookG (.lst (cs.map callD)) ow ls (.dct (bkD (bookOf ow ls cs)))) (W:=fun i=>[]) (it_keys hh va) rfl sub_refl (fun i d hd=>?_) (exs_cons (ex_return va (.inl rfl)))
 obtain ⟨q,hq,rfl⟩:=List.mem_map.mp (List.mem_of_getElem? hd)
 obtain ⟨p,hp,rfl⟩:=List.mem_map.mp hq
 obtain ⟨x,hxf,rfl⟩:=List.mem_map.mp hp
 have hx:x < 3:=bk.1 _ hp
 have hm:∀ t ∈ mineOf cs x,_:=fun t ht=>ok.each t (List.mem_filter.mp ht).1
 have hml:(mineOf cs x).length <= 1000:=Nat.le_trans (List.length_filter_le _ _) hz
 have hm4:∀ c ∈ (mineOf cs x).map (fun t=>t.2.1),c < 4:=fun c hc=>by obtain ⟨t,ht,rfl⟩:=List.mem_map.mp hc; exact (hm t ht).2.1
 have hn:=tally_nodup ((mineOf cs x).map fun t=>t.2.1)
 refine ⟨_,asgI_name,book_mine hh (Nat.lt_succ_of_lt hx) (fun t ht=>Nat.lt_succ_of_lt (ok.each t ht).1) hz (book_often hX hA hx (fun t ht=>(hm t ht).2.1) hml (book_sums hX hh ok.lo (fun t ht=>(hm t ht).2.2) hml (book_due hX hh (Nat.lt_succ_of_lt hx) (fun t ht=>(hm t ht).2.1) hml (book_cmp hX hA ?_ ?_ (same_ent (e:=entOf ow ls x (mineOf cs x)) (e':=entOf ow ls x (mineOf cs x)) rfl rfl rfl rfl (same_refl hn (tally_4 hm4))) fun s=>⟨s,rfl⟩))))⟩
 ·rw [bk_lookup _ x bk4 (Nat.lt_succ_of_lt hx),book_lookup,if_pos ((mem_firsts _ _).mp hxf)]; rfl
 ·rw [cd_len1]; exact Nat.le_trans (keys4_len hn (tally_4 hm4)) (by decide)
theorem c_book (hX:XOk3 X P) (ok:CallsOk ow ls cs):CallQ X 4 (.ref 121) [] [.lst (cs.map callD),owD ow,lsD ls] [] (.dct (bkD (bookOf ow ls cs))):=by
 refine def_q (n:=3) (ns:=["calls", "owns", "lists"]) (gs:=[.lst (cs.map callD),owD ow,lsD ls]) hX.toXOk (by kernel_rfl) (by kernel_rfl) (by kernel_rfl) rfl (fun F s vs us B r rk=>⟨vs,?_,r⟩) fun A L hA=>book_walk hX hA ok
 obtain ⟨v,w,u,rfl,_⟩:=rdl3 r
 rw [rdl0 rk]
 exact fun S=>by kernel_rfl
end
end
section
structure RS where
 ws:List (Nat × Nat)
 tk:List T3
 text:Str
structure RP where
 ls:List (List Nat)
 parts:List Str
 ring:Nat -> List Nat
 b:Nat -> Nat
 w:Nat
noncomputable def RP.kOf (p:RP) (s:RS) (x:Nat):Nat:=(p.ring x).getD ((p.b x + (mineOf s.tk x).length) % (p.ring x).length) 0
noncomputable def RP.step (p:RP) (s:RS):RS:=match s.ws.reverse with
 | []=>s
 | (x,c) :: r=>⟨layAll p.w r.reverse (p.ls.getD (p.kOf s x) []) x,s.tk ++ [(x,c,p.kOf s x)],s.text ++ p.parts.getD (p.kOf s x) Str.empty⟩
noncomputable def RP.st0 (p:RP):RS:=⟨layAll p.w [] (p.ls.getD 0 []) 3,[],p.parts.getD 0 Str.empty⟩
noncomputable def RP.st (p:RP):Nat -> RS
 | 0=>p.st0
 | n + 1=>p.step (p.st n)
structure StOk (p:RP) (s:RS):Prop where
 ws4:∀ q ∈ s.ws,q.1 < 3 /\ q.2 < 4
 srt:Sorted p.w s.ws
 wl:s.ws.length <= 50
 tl:s.tk.length <= 50
 t4:∀ t ∈ s.tk,t.1 < 3 /\ t.2.1 < 4
 txt:s.text.length <= 900
 str:(stripQ s.text).length <= 100000
 chk:chkP s.text = s.ws.isEmpty
 ring:∀ r x c,s.ws = r ++ [(x,c)] -> p.ring x ≠ [] /\ p.kOf s x < 6
structure RunOk (p:RP):Prop where
 hw:p.w < 4
 l6:p.ls.length = 6
 p6:p.parts.length = 6
 l3:∀ l ∈ p.ls,l.length <= 5 /\ ∀ j ∈ l,j < 3
 pl:∀ x ∈ p.parts,x.length <= 50
 rl:∀ x,(p.ring x).length <= 5
 st:∀ i,StOk p (p.st i)
 fin:(p.st 5).ws = []
theorem step_nil {p:RP} {s:RS} (h:s.ws = []):p.step s = s:=by unfold RP.step; rw [h]; rfl
theorem step_snoc {p:RP} {s:RS} {r:List (Nat × Nat)} {x c:Nat} (h:s.ws = r ++ [(x,c)]):p.step s = ⟨layAll p.w r (p.ls.getD (p.kOf s x) []) x,s.tk ++ [(x,c,p.kOf s x)],s.text ++ p.parts.getD (p.kOf s x) Str.empty⟩:=by
 unfold RP.step; rw [h,List.reverse_append]; simp
theorem st_done {p:RP} {i:Nat} (h:(p.st i).ws = []):∀ j,p.st (i + j) = p.st i
 | 0=>rfl
 | j + 1=>by
  show p.step (p.st (i + j)) = _
  rw [st_done h j,step_nil h]
theorem st_five {p:RP} (h:(p.st 5).ws = []) {i:Nat} (hi:i <= 6) (hw:(p.st i).ws = []):p.st i = p.st 5:=by
 rcases Nat.lt_or_ge i 6 with q | q
 ·have:=st_done hw (5 - i)
  rw [<- this]; congr 1; omega
 ·have e:i = 6:=by omega
  subst e
  exact st_done h 1
noncomputable def ringD (ring:Nat -> List Nat):D:=.dct ([0,1,2].map fun x=>(lt x,.lst ((ring x).map fun k=>D.int (k:Nat))))
noncomputable def begD (b:Nat -> Nat):D:=.dct ([0,1,2].map fun x=>(lt x,.int (b x:Nat)))
theorem tri_lookup (g:Nat -> D):∀ x,x < 3 -> ([0,1,2].map fun x=>(lt x,g x)).lookup (lt x) = some (g x)
 | 0,_=>by simp [List.lookup_cons]
 | 1,_=>by
  have:(lt 1 == lt 0) = false:=by decide +kernel
  simp [List.lookup_cons,this]
 | 2,_=>by
  have h1:(lt 2 == lt 0) = false:=by decide +kernel
  have h2:(lt 2 == lt 1) = false:=by decide +kernel
  simp [List.lookup_cons,h1,h2]
section
variable {X:Cx} {P:Params} {A:Around} {env:Env} {Γ:Loc} {Ω:Own}
theorem exs_nd {st:List Stmt} {R:PostP} (h:(Ω.map (·.1)).Nodup -> Exs X A env Γ Ω st R):Exs X A env Γ Ω st R:=⟨fun F s I=>(h I.nd).run F s I⟩
noncomputable def runG (p:RP) (a b:Addr) (x:Str):Loc:=[("rings",ringD p.ring),("begin",begD p.b),("lists",lsD p.ls),("parts",.lst (p.parts.map .str)),("way",.int p.w),("waiting",.val (.ref b)),("taken",.val (.ref a)),("text",.str x),("fine",.bool true)]
noncomputable def runW (a b:Addr) (tk:List T3) (ws:List (Nat × Nat)):Own:=[(a,.lst (tk.map callD)),(b,.lst (ws.map pr))]
noncomputable abbrev runB (P:Params):List Stmt:=forB ((fbK P 109).drop 2)
structure RpOk (p:RP):Prop where
 hw:p.w < 4
 part:∀ k,k < 6 -> (p.parts.map D.str)[((k:Nat):Int).toNat]? = some (.str (p.parts.getD k Str.empty)) /\ (p.parts.getD k Str.empty).length <= 50
 plen:(p.parts.map D.str).length <= 1000000
 row:∀ k,k < 6 -> (p.ls.map rowD)[((k:Nat):Int).toNat]? = some (rowD (p.ls.getD k [])) /\ (p.ls.getD k []).length <= 5 /\ ∀ j ∈ p.ls.getD k [],j < 4
 rlen:(p.ls.map rowD).length <= 1000000
 rl:∀ x,(p.ring x).length <= 5
theorem RunOk.rp {p:RP} (ok:RunOk p):RpOk p where
 hw:=ok.hw
 part:=fun k hk=>by
  rw [<- ok.p6] at hk
  rw [Int.toNat_natCast,List.getElem?_map,List.getD_eq_getElem?_getD,List.getElem?_eq_getElem hk]
  exact ⟨rfl,ok.pl _ (List.getElem_mem hk)⟩
 plen:=by rw [List.length_map,ok.p6]; decide
 row:=fun k hk=>by
  rw [<- ok.l6] at hk
  rw [Int.toNat_natCast,List.getElem?_map,List.getD_eq_getElem?_getD,List.getElem?_eq_getElem hk]
  exact ⟨rfl,(ok.l3 _ (List.getElem_mem hk)).1,fun j hj=>Nat.lt_succ_of_lt ((ok.l3 _ (List.getElem_mem hk)).2 j hj)⟩
 rlen:=by rw [List.length_map,ok.l6]; decide
 rl:=ok.rl
theorem oset_b {a b:Addr} (hab:a ≠ b) {c1 c2 c3:OC}:oset [(a,c1),(b,c2)] b c3 = [(a,c1),(b,c3)]:=by rw [oset,if_neg hab,oset1]
theorem oset_a {a:Addr} {c1 c3:OC} {Ω:Own}:oset ((a,c1) :: Ω) a c3 = (a,c3) :: Ω:=if_pos rfl
theorem mem_b {a b:Addr} {c1 c2:OC}:(b,c2) ∈ [(a,c1),(b,c2)]:=List.mem_cons_of_mem _ (List.mem_singleton.mpr rfl)
theorem mem_a {a:Addr} {c1:OC} {Ω:Own}:(a,c1) ∈ (a,c1) :: Ω:=List.mem_cons_self ..
theorem ev_part {p:RP} (ok:RpOk p) {k:Nat} (hk:k < 6) {v e:Expr} {pos:Pos} (h1:Ev X A env Γ Ω v (.lst (p.parts.map .str))) (h2:Ev X A env Γ Ω e (.int (k:Nat))):Ev X A env Γ Ω (.Subscript v e pos) (.str (p.parts.getD k Str.empty)):=
 ev_sub h1 h2 subT_lst (get_lst (Int.natCast_nonneg k) (ok.part k hk).1 ok.plen)
theorem ev_row {p:RP} (ok:RpOk p) {k:Nat} (hk:k < 6) {v e:Expr} {pos:Pos} (h1:Ev X A env Γ Ω v (lsD p.ls)) (h2:Ev X A env Γ Ω e (.int (k:Nat))):Ev X A env Γ Ω (.Subscript v e pos) (rowD (p.ls.getD k [])):=
 ev_sub h1 h2 subT_lst (get_lst (Int.natCast_nonneg k) (ok.row k hk).1 ok.rlen)
theorem ev_tri {g:Nat -> D} {x:Nat} (hx:x < 3) {v e:Expr} {pos:Pos} (h1:Ev X A env Γ Ω v (.dct ([0,1,2].map fun x=>(lt x,g x)))) (h2:Ev X A env Γ Ω e (.str (lt x))):Ev X A env Γ Ω (.Subscript v e pos) (g x):=
 ev_sub h1 h2 subT_dct (get_dct (tri_lookup g x hx))
theorem run_told (hX:XOk2 X P) (hA:Room A 11) {L a b:Addr} {p:RP} {i:D} {x:Str} {tk:List T3} {ws:List (Nat × Nat)} {R:PostP} (hx:x.length <= 900) (hs:(stripQ x).length <= 100000) (hk:chkP x = ws.isEmpty)
  (k:Exs X A (envF P 109 L) (upd (upd (runG p a b x) "turn" i) "told" (.bool ws.isEmpty)) (runW a b tk ws) ((runB P).drop 2) R):Exs X A (envF P 109 L) (upd (runG p a b x) "turn" i) (runW a b tk ws) (runB P) R:=by
 have hu:=hA.u
 have hE:(ws.map pr).isEmpty = (ws.isEmpty == true):=by cases ws <;> rfl
 have hE':(!(ws.map pr).isEmpty) = (ws.isEmpty == false):=by cases ws <;> rfl
 refine exs_cons (ex_assign (d:=.bool ws.isEmpty) (ev_call (eg (v:=.ref 92) hX.toXOk) (fun zz=>kp_k (by rw [hX.k]; kernel_rfl)) (evl_cons va evl_nil rfl) ((hk ▸ c_check hX.toXOk x (Nat.le_trans hx (by decide)) hs).r (hA.le (by decide))) rfl rfl) (by kernel_rfl) ?_ (by rfl))
 exact exs_cons (ex_if (b:=false) (evt_or2 (b:=!true) (c:=!true) (evt_not (evt_val va tru_bool (by rfl))) (fun zz=>evt_cmp (ev_list (evl_cons (ev_cmp va ev_bool op_isBool rfl) (evl_cons (ev_cmp va ev_bool op_isBool rfl) evl_nil rfl) rfl) (nle rfl)) (ev_list (evl_cons (ev_cmp va (ev_list evl_nil (nle rfl)) (op_b (op_eq0 (own_d mem_b) (by omega)) hE) rfl) (evl_cons (ev_cmp va (ev_list evl_nil (nle rfl)) (op_b (op_ne0 (own_d mem_b) (by omega)) hE') rfl) evl_nil rfl) rfl) (nle rfl)) (op_nel' (n:=0) lst_d lst_d (by omega) (Each.mem ⟨Eqs.bool,Eqs.bool,trivial⟩)) rfl)) (fun h=>nomatch h) (fun zz=>exs_nil k))
noncomputable def runT (p:RP) (a b:Addr) (t:Str) (i o:D) (x c:Nat):Loc:=upd (upd (upd (upd (runG p a b t) "turn" i) "told" o) "letter" (.str (lt x))) "caller" (.str (lt c))
theorem run_k (hX:XOk2 X P) (hh:A.handled = none) {L a b:Addr} {p:RP} {t:Str} {i o:D} {x c:Nat} {tk:List T3} {o2:Addr × OC} {R:PostP} (hx:x < 3) (hr:p.ring x ≠ []) (hrl:(p.ring x).length <= 5) (htl:tk.length <= 1000) (t4:∀ t ∈ tk,t.1 < 4)
  (k:Exs X A (envF P 109 L) (upd (runT p a b t i o x c) "k" (.int ((p.ring x).getD ((p.b x + (mineOf tk x).length) % (p.ring x).length) 0:Nat))) [(a,.lst (tk.map callD)),o2] ((runB P).drop 5) R):Exs X A (envF P 109 L) (runT p a b t i o x c) [(a,.lst (tk.map callD)),o2] ((runB P).drop 4) R:=by
 have hlp:0 < (p.ring x).length:=List.length_pos_iff.mpr hr
 have hm:((p.b x:Int) + ((mineOf tk x).length:Nat)).fmod ((p.ring x).length:Int) = (((p.b x + (mineOf tk x).length) % (p.ring x).length:Nat):Int):=by
  rw [Int.fmod_eq_emod_of_nonneg _ (Int.natCast_nonneg _)]; rfl
 have hml:=Nat.mod_lt (p.b x + (mineOf tk x).length) hlp
 have hz:((p.ring x).map fun k=>D.int (k:Nat)).length <= 1000000:=by rw [List.length_map]; exact Nat.le_trans hrl (by decide)
 have hl:CallR X A (envF P 109 L) (runT p a b t i o x c) [(a,.lst (tk.map callD)),o2] (.builtin "len") [.lst ((mineOf tk x).map callD)] (.int ((mineOf tk x).length:Nat)):=len_map (Nat.le_trans (List.length_filter_le ..) htl)
 have hg:((p.ring x).map fun k=>D.int (k:Nat))[(((p.b x + (mineOf tk x).length) % (p.ring x).length:Nat):Int).toNat]? = some (.int ((p.ring x).getD ((p.b x + (mineOf tk x).length) % (p.ring x).length) 0:Nat)):=by
  rw [Int.toNat_natCast,List.getElem?_map,List.getD_eq_getElem?_getD,List.getElem?_eq_getElem hml]; rfl
 generalize (p.ring x).getD ((p.b x + (mineOf tk x).length) % (p.ring x).length) 0 = k' at *
 generalize (p.b x + (mineOf tk x).length) % (p.ring x).length = q at *
 exact exs_cons (ex_assign (d:=.int (k':Nat)) (ev_sub (ev_tri (g:=fun x=>.lst ((p.ring x).map fun k=>D.int (k:Nat))) hx va va) (ev_icast (ev_bin (ev_bin (ev_tri (g:=fun x=>.int (p.b x:Nat)) hx va va) (ev_call (eb (v:=.builtin "len") hX.toXOk) (fun zz=>kp_b) (evl_cons (EvO.ev (c:=.lst ((mineOf tk x).map callD)) (evo_lc (lc_filt (fun t=>decide (t.1 = x)) callD (it_own hh va mem_a) htl fun C t acc ht=>
  ⟨_,fun Da=>asgI_name,capt_sub (by rfl),fun Da=>tests_one (evt_cmp (ev_at (i:=0) (ds:=[.str (lt t.1),.str (lt t.2.1),.int (t.2.2:Nat)]) va ev_int rfl (nle rfl)) va (op_b op_eqs (lt_eq t.1 x (t4 t ht) (Nat.lt_succ_of_lt hx))) rfl),fun zz Da=>va⟩))) evl_nil rfl) hl rfl rfl) op_add) (ev_call (eb (v:=.builtin "len") hX.toXOk) (fun zz=>kp_b) (evl_cons (ev_tri (g:=fun x=>.lst ((p.ring x).map fun k=>D.int (k:Nat))) hx va va) evl_nil rfl) (len_map (Nat.le_trans hrl (by decide))) rfl rfl) (op_mod (Int.ne_of_gt (Int.natCast_pos.mpr hlp)))) hm) subT_lst (get_lst (Int.natCast_nonneg q) hg hz)) (by kernel_rfl) k (by rfl))
theorem run_take (hh:A.handled = none) {L a b:Addr} {p:RP} (ok:RpOk p) {t:Str} {i o:D} {x c k:Nat} {tk:List T3} {o2:Addr × OC} {R:PostP} (hk:k < 6) (htl:tk.length <= 1000) (ht:t.length <= 900)
  (h:Exs X A (envF P 109 L) (upd (upd (runT p a b t i o x c) "k" (.int (k:Nat))) "text" (.str (t ++ p.parts.getD k Str.empty))) [(a,.lst ((tk ++ [(x,c,k)]).map callD)),o2] ((runB P).drop 7) R):Exs X A (envF P 109 L) (upd (runT p a b t i o x c) "k" (.int (k:Nat))) [(a,.lst (tk.map callD)),o2] ((runB P).drop 5) R:=by
 rw [List.map_append] at h
 refine exs_cons (ex_expr_s (evs_append (d:=callD (x,c,k)) va mem_a (ev_tuple (evl_cons va (evl_cons va (evl_cons va evl_nil rfl) rfl) rfl) (nle rfl)) (by rw [List.length_map]; exact Nat.le_trans htl (by decide)) ⟨rfl,?_⟩ (by rfl) (by rfl) (by rfl)) (by kernel_rfl) (by rfl))
 rw [oset_a]
 exact exs_cons (ex_assign (ev_bin va (ev_part ok hk va va) (op_adds (Nat.le_trans (Nat.add_le_add ht (ok.part k hk).2) (by decide)))) (by kernel_rfl) h (by rfl))
set_option tactic.hygienic true in
theorem run_lay (hX:XOk2 X P) (hA:Room A 11) {L a b:Addr} (hab:a ≠ b) {p:RP} (ok:RpOk p) {t t':Str} {i o:D} {x c k:Nat} {c1:OC} {r:List (Nat × Nat)} {R:PostP} (hk:k < 6) (hx:x < 4) (hr4:∀ q ∈ r,q.1 < 4 /\ q.2 < 4) (hsr:Sorted p.w r) (hrl:r.length <= 50)
  (fin:∀ {Γ'},Sub (runG p a b t') Γ' -> R .next Γ' [(a,c1),(b,.lst ((layAll p.w r (p.ls.getD k []) x).map pr))]):Exs X A (envF P 109 L) (upd (upd (runT p a b t i o x c) "k" (.int (k:Nat))) "text" (.str t')) [(a,c1),(b,.lst (r.map pr))] ((runB P).drop 7) R:=by
 have hl:=c_lay hX (b:=b) r (p.ls.getD k []) x p.w ok.hw hx (ok.row k hk).2.2 hr4 hsr (Nat.le_trans (Nat.add_le_add hrl (ok.row k hk).2.1) (by decide))
 refine exs_cons (ex_assign_s (evs_call (n:=11) (fv:=.ref 104) hA (eg hX.toXOk) (fun zz=>kp_k (by rw [hX.k]; kernel_rfl)) (evl_cons va (evl_cons (ev_row ok hk va va) (evl_cons va (evl_cons va evl_nil rfl) rfl) rfl) rfl) mem_b hl ?_ rfl rfl) (by kernel_rfl) (by rfl))
 rw [oset_b hab]
 exact exs_nil (fin (sub_pre 9 rfl))
theorem run_end {L a:Addr} {tk:List T3} {t:Str} {c2:Addr × OC} (h1:Γ.lookup ("taken" : Str) = some (.val (.ref a))) (h2:Γ.lookup ("text" : Str) = some (.str t)):Exs X A (envF P 109 L) Γ [(a,.lst (tk.map callD)),c2] ((fbK P 109).drop 3) (RetP (.tup [.lst (tk.map callD),.str t])):=by
 refine Exs.sub (Γ0:=([("taken",.val (.ref a)),("text",.str t)]:Loc)) ?_ (sub_cons h1 (sub_cons h2 sub_nil))
 refine exs_freeze (Γ':=([("taken",.lst (tk.map callD)),("text",.str t)]:Loc)) (fun y d h=>?_) (exs_cons (ex_return (ev_tuple (evl_cons va (evl_cons va evl_nil rfl) rfl) (nle rfl)) (.inl rfl)))
 rcases lookup_cases h with ⟨rfl,rfl⟩ | ⟨h1,h⟩
 ·exact .inr ⟨rfl,rfl⟩
 rcases lookup_cases h with ⟨rfl,rfl⟩ | ⟨_,h⟩
 ·exact .inl rfl
 ·cases h
theorem run_walk (hX:XOk2 X P) {p:RP} (ok:RunOk p) {L:Addr} (hA:Room A 11):Exs X A (envF P 109 L) [("rings",ringD p.ring),("begin",begD p.b),("lists",lsD p.ls),("parts",.lst (p.parts.map .str)),("way",.int p.w)] [] (fbK P 109) (RetP (.tup [.lst ((p.st 5).tk.map callD),.str (p.st 5).text])):=by
 have hh:=hA.h
 have rp:=ok.rp
 have r0:=rp.row 0 (by decide)
 refine exs_cons (ex_assign_ws (names:=["waiting", "taken", "text"]) hh (evs_tuple (evsl_cons (evo_s (evo_list evl_nil (nle rfl)) fun b=>?_) rfl)) (by rfl) (by rfl))
 refine evsl_cons (evo_s (evo_list evl_nil (nle rfl)) fun a=>?_) rfl
 refine evsl_cons (evs_of (ev_part rp (k:=0) (by decide) va ev_int) ?_) rfl
 refine evsl_nil ⟨nle rfl,_,_,rfl,rfl,binds_cons (by kernel_rfl) (binds_cons (by kernel_rfl) (binds_cons (by kernel_rfl) binds_nil)),exs_nd fun hnd=>?_⟩
 have hab:a ≠ b:=fun q=>(List.nodup_cons.mp hnd).1 (q ▸ List.mem_singleton.mpr rfl)
 have hl:=c_lay hX (b:=b) [] (p.ls.getD 0 []) 3 p.w rp.hw (by decide) r0.2.2 (fun zz h=>nomatch h) .nil (Nat.le_trans (Nat.add_le_add (Nat.le_refl 0) r0.2.1) (by decide))
 refine exs_cons (ex_assign_s (evs_call (n:=11) (fv:=.ref 104) hA (eg hX.toXOk) (fun zz=>kp_k (by rw [hX.k]; kernel_rfl)) (evl_cons va (evl_cons (ev_row rp (k:=0) (by decide) va ev_int) (evl_cons (d:=.str (lt 3)) ev_str (evl_cons va evl_nil rfl) rfl) rfl) rfl) mem_b hl ?_ rfl rfl) (by kernel_rfl) (by rfl))
 rw [oset_b hab]
 refine exs_for (G:=fun i=>runG p a b (p.st i).text) (W:=fun i=>runW a b (p.st i).tk (p.st i).ws) (it_range1 hh (eb hX.toXOk) ev_int (by decide) (by decide) rfl) rfl (sub_cons rfl (sub_cons rfl (sub_cons rfl (sub_cons rfl (sub_cons rfl (sub_cons rfl (sub_cons rfl (sub_cons rfl (sub_cons rfl sub_nil))))))))) (fun i d hd=>?_) ?_
 ·have hi:=(List.getElem?_eq_some_iff.mp hd).1
  rw [intsD_length] at hi
  have hs:=ok.st i
  refine ⟨_,asgI_name,run_told hX hA hs.txt hs.str hs.chk ?_⟩
  refine exs_cons (ex_if (b:=(p.st i).ws.isEmpty) (evt_val va tru_bool (by rfl)) (fun hb=>exs_cons (ex_break ?_)) (fun hb=>exs_nil ?_))
  ·rw [st_five ok.fin (Nat.le_of_lt hi) (List.isEmpty_iff.mp hb)]
   exact run_end rfl rfl
  ·have hne:(p.st i).ws ≠ []:=fun q=>by rw [q] at hb; cases hb
   obtain ⟨r,⟨x,c⟩,hws⟩:∃ r q,(p.st i).ws = r ++ [q]:=⟨_,_,(List.dropLast_concat_getLast hne).symm⟩
   obtain ⟨hring,hk6⟩:=hs.ring r x c hws
   have hx4:=hs.ws4
   have hsr:=hs.srt
   have hwl:=hs.wl
   rw [hws] at hx4 hsr hwl
   rw [List.length_append] at hwl
   have hx3:x < 3:=(hx4 (x,c) (List.mem_append_right _ (List.mem_singleton.mpr rfl))).1
   have hfin:∀ {Γ'},Sub (runG p a b (p.step (p.st i)).text) Γ' -> StF (fun i=>runG p a b (p.st i).text) (fun i=>runW a b (p.st i).tk (p.st i).ws) (i + 1) Γ' (runW a b (p.step (p.st i)).tk (p.step (p.st i)).ws):=fun s=>⟨s,rfl⟩
   rw [step_snoc hws] at hfin
   rw [runW,hws,List.map_append]
   refine exs_cons (ex_assign_ts (evs_pop (ds:=r.map pr) (d:=pr (x,c)) va mem_b (by rw [List.length_map]; omega) ⟨_,_,rfl,asg_tuple hh (an (an asgl_nil)) rfl rfl,?_⟩ (by rfl) (by rfl)) (by rfl) (by rfl))
   rw [oset_b hab]
   exact run_k hX hh hx3 hring (rp.rl x) (Nat.le_trans hs.tl (by decide)) (fun t ht=>Nat.lt_succ_of_lt (hs.t4 t ht).1) (run_take hh rp hk6 (Nat.le_trans hs.tl (by decide)) hs.txt (run_lay hX hA hab rp hk6 (Nat.lt_succ_of_lt hx3) (fun q hq=>⟨Nat.lt_succ_of_lt (hx4 q (List.mem_append_left _ hq)).1,(hx4 q (List.mem_append_left _ hq)).2⟩) (List.pairwise_append.mp hsr).1 (by omega) hfin))
 ·have e6:p.st 6 = p.st 5:=st_done ok.fin 1
  rw [intsD_length,show ((6:Int)).toNat = 6 from rfl,e6]
  exact run_end rfl rfl
theorem c_run (hX:XOk2 X P) {p:RP} (ok:RunOk p):CallQ X 12 (.ref 109) [] [ringD p.ring,begD p.b,lsD p.ls,.lst (p.parts.map .str),.int p.w] [] (.tup [.lst ((p.st 5).tk.map callD),.str (p.st 5).text]):=by
 refine def_q (n:=11) (ns:=["rings", "begin", "lists", "parts", "way"]) (gs:=[ringD p.ring,begD p.b,lsD p.ls,.lst (p.parts.map .str),.int p.w]) hX.toXOk (by kernel_rfl) (by kernel_rfl) (by kernel_rfl) rfl (fun F s vs us B r rk=>⟨vs,?_,r⟩) fun A L hA=>run_walk hX ok hA
 rw [rdl0 rk]
 obtain ⟨v,w,u,x,y,rfl⟩:=rdl5 r
 exact fun S=>by kernel_rfl
end
end
section
noncomputable def krun {α:Type} (lt:Nat -> Nat -> Bool):KasT α -> α
 | .ret a=>a
 | .ask i j k=>krun lt (k (lt i j))
noncomputable def kok {α:Type} (n:Nat) (lt:Nat -> Nat -> Bool):KasT α -> Bool
 | .ret _=>true
 | .ask i j k=>decide (i < n) && decide (j < n) && kok n lt (k (lt i j))
theorem kas_eval {α:Type} {n:Nat} {lt:Nat -> Nat -> Bool} {cmp:Nat -> Nat -> (Bool -> Shared -> Prop) -> Shared -> Prop} {s:Shared} {Q:α -> Shared -> Prop} (h:∀ i j C,i < n -> j < n -> C (lt i j) s -> cmp i j C s):∀ (t:KasT α),kok n lt t = true -> Q (krun lt t) s -> t.kasWp cmp Q s
 | .ret a,_,hq=>hq
 | .ask i j k,ho,hq=>by
  simp only [kok,Bool.and_eq_true,decide_eq_true_eq] at ho
  exact h i j _ ho.1.1 ho.1.2 (kas_eval h (k (lt i j)) ho.2 hq)
theorem krun_congr {α:Type} {n:Nat} {lt lt':Nat -> Nat -> Bool} (h:∀ i j,i < n -> j < n -> lt i j = lt' i j):∀ (t:KasT α),kok n lt t = true -> krun lt t = krun lt' t /\ kok n lt' t = true
 | .ret a,_=>⟨rfl,rfl⟩
 | .ask i j k,ho=>by
  simp only [kok,Bool.and_eq_true,decide_eq_true_eq] at ho
  have e:=h i j ho.1.1 ho.1.2
  obtain ⟨a,b⟩:=krun_congr h (k (lt i j)) ho.2
  rw [e] at a b
  refine ⟨?_,?_⟩
  ·show krun lt (k (lt i j)) = krun lt' (k (lt' i j))
   rw [e,a]
  ·simp only [kok,Bool.and_eq_true,decide_eq_true_eq]
   exact ⟨ho.1,b⟩
noncomputable def ltOf (rk:List Nat) (i j:Nat):Bool:=decide (rk.getD i 0 < rk.getD j 0)
noncomputable def sortP (rk:List Nat):List Nat:=if rk.length < 2 then List.range rk.length else (krun (ltOf rk) (kas_sort rk.length)).toList
noncomputable def vecs (m:Nat):Nat -> List (List Nat)
 | 0=>[[]]
 | n + 1=>(vecs m n).flatMap fun r=>(List.range m).map fun x=>x :: r
noncomputable def rankOf (rk:List Nat):List Nat:=rk.map fun x=>rk.countP fun y=>decide (y < x)
noncomputable def sortedB (l:List Nat):Bool:=match l with
 | a :: b :: r=>decide (a <= b) && sortedB (b :: r)
 | _=>true
noncomputable def chkSort (rk:List Nat):Bool:=kok rk.length (ltOf rk) (kas_sort rk.length) && (sortP rk).isPerm (List.range rk.length) && sortedB ((sortP rk).map fun i=>rk.getD i 0)
noncomputable def chkAll (n:Nat):Bool:=(vecs n n).all fun rk=>!(rankOf rk == rk) || chkSort rk
theorem chk2:chkAll 2 = true:=by decide +kernel
theorem chk3:chkAll 3 = true:=by decide +kernel
theorem chk4:chkAll 4 = true:=by decide +kernel
theorem mem_vecs (m:Nat):∀ (l:List Nat),(∀ x ∈ l,x < m) -> l ∈ vecs m l.length
 | [],_=>by simp [vecs]
 | x :: r,h=>by
  simp only [vecs,List.length_cons,List.mem_flatMap,List.mem_map,List.mem_range]
  exact ⟨r,mem_vecs m r fun y hy=>h y (List.mem_cons_of_mem _ hy),x,h x (List.mem_cons_self ..),rfl⟩
theorem countP_lt_mono {l:List Nat} {a b:Nat} (hab:a <= b):l.countP (fun y=>decide (y < a)) <= l.countP (fun y=>decide (y < b)):=
 List.countP_mono_left fun y zz h=>by simp only [decide_eq_true_eq] at h ⊢; omega
theorem countP_lt_strict:∀ {l:List Nat} {a b:Nat},a < b -> a ∈ l -> l.countP (fun y=>decide (y < a)) < l.countP (fun y=>decide (y < b))
 | x :: r,a,b,hab,hm=>by
  rw [List.countP_cons,List.countP_cons]
  rcases List.mem_cons.mp hm with rfl | hm
  ·have h1:¬a < a:=Nat.lt_irrefl _
   have:=countP_lt_mono (l:=r) (Nat.le_of_lt hab)
   simp [hab]; omega
  ·have:=countP_lt_strict hab hm
   have h2:x < a -> x < b:=fun q=>Nat.lt_trans q hab
   by_cases q:x < a
   ·simp [q,h2 q]; omega
   ·by_cases q':x < b <;> simp [q,q'] <;> omega
theorem rank_lt {rk:List Nat} {x y:Nat} (hx:x ∈ rk) (hy:y ∈ rk):(rk.countP (fun z=>decide (z < x)) < rk.countP (fun z=>decide (z < y))) <-> x < y:=by
 constructor
 ·intro h
  rcases Nat.lt_or_ge x y with q | q
  ·exact q
  ·have:=countP_lt_mono (l:=rk) q
   omega
 ·intro h; exact countP_lt_strict h hx
theorem rankOf_length (rk:List Nat):(rankOf rk).length = rk.length:=by simp [rankOf]
theorem rankOf_get {rk:List Nat} {i:Nat} (hi:i < rk.length):(rankOf rk).getD i 0 = rk.countP fun y=>decide (y < rk.getD i 0):=by
 simp [rankOf,List.getD_eq_getElem?_getD,List.getElem?_eq_getElem hi]
theorem getD_mem {rk:List Nat} {i:Nat} (hi:i < rk.length):rk.getD i 0 ∈ rk:=by
 rw [List.getD_eq_getElem?_getD,List.getElem?_eq_getElem hi]; exact List.getElem_mem hi
theorem rank_ltOf {rk:List Nat} {i j:Nat} (hi:i < rk.length) (hj:j < rk.length):ltOf (rankOf rk) i j = ltOf rk i j:=by
 unfold ltOf
 rw [rankOf_get hi,rankOf_get hj]
 have:=rank_lt (getD_mem hi) (getD_mem hj)
 simp only [this]
theorem rank_idem (rk:List Nat):rankOf (rankOf rk) = rankOf rk:=by
 conv=>lhs; unfold rankOf
 unfold rankOf
 rw [List.map_map]
 refine List.map_congr_left fun x hx=>?_
 simp only [Function.comp]
 rw [List.countP_map]
 refine List.countP_congr fun y hy=>?_
 simp only [Function.comp,decide_eq_true_eq]
 exact rank_lt hy hx
theorem rank_bound {rk:List Nat}:∀ x ∈ rankOf rk,x < rk.length:=fun x hx=>by
 obtain ⟨y,hy,rfl⟩:=List.mem_map.mp hx
 have h1:rk.countP (fun z=>decide (z < y)) < rk.countP (fun z=>decide (z < y + 1)):=countP_lt_strict (by omega) hy
 have h2:=List.countP_le_length (p:=fun z=>decide (z < y + 1)) (l:=rk)
 omega
theorem sortedB_pairwise:∀ {l:List Nat},sortedB l = true -> l.Pairwise (· <= ·)
 | [],_=>.nil
 | [a],_=>by simp
 | a :: b :: r,h=>by
  simp only [sortedB,Bool.and_eq_true,decide_eq_true_eq] at h
  have ih:=sortedB_pairwise h.2
  refine List.pairwise_cons.mpr ⟨fun x hx=>?_,ih⟩
  rcases List.mem_cons.mp hx with rfl | hx
  ·exact h.1
  ·exact Nat.le_trans h.1 ((List.pairwise_cons.mp ih).1 x hx)
structure SortFact (rk:List Nat):Prop where
 ok:2 <= rk.length -> kok rk.length (ltOf rk) (kas_sort rk.length) = true
 perm:(sortP rk).Perm (List.range rk.length)
 srt:((sortP rk).map fun i=>rk.getD i 0).Pairwise (· <= ·)
theorem sort_fact {rk:List Nat} (h:rk.length <= 4):SortFact rk:=by
 by_cases h2:rk.length < 2
 ·have e:sortP rk = List.range rk.length:=by unfold sortP; rw [if_pos h2]
  refine ⟨fun q=>by omega,by rw [e],?_⟩
  rw [e]
  match rk,h2 with
  | [],_=>simp
  | [a],_=>simp [List.range_succ]
 ·have hc:chkAll rk.length = true:=by
   have:rk.length = 2 \/ rk.length = 3 \/ rk.length = 4:=by omega
   rcases this with q | q | q <;> rw [q]
   ·exact chk2
   ·exact chk3
   ·exact chk4
  have hm:=mem_vecs rk.length (rankOf rk) rank_bound
  rw [rankOf_length] at hm
  have h1:=List.all_eq_true.mp hc _ hm
  rw [rank_idem] at h1
  simp only [beq_self_eq_true,Bool.not_true,Bool.false_or] at h1
  simp only [chkSort,Bool.and_eq_true,rankOf_length] at h1
  obtain ⟨⟨a1,a2⟩,a4⟩:=h1
  obtain ⟨e1,e2⟩:=krun_congr (fun i j hi hj=>rank_ltOf (rk:=rk) hi hj) (kas_sort rk.length) a1
  have e:sortP (rankOf rk) = sortP rk:=by
   unfold sortP
   rw [rankOf_length,if_neg h2,if_neg h2,e1]
  rw [e] at a2 a4
  have hperm:(sortP rk).Perm (List.range rk.length):=List.isPerm_iff.mp a2
  refine ⟨fun zz=>e2,hperm,?_⟩
  have:=sortedB_pairwise a4
  rw [List.pairwise_map] at this ⊢
  refine this.imp_of_mem fun {i j} hi hj hij=>?_
  have hi':i < rk.length:=by simpa using hperm.mem_iff.mp hi
  have hj':j < rk.length:=by simpa using hperm.mem_iff.mp hj
  rw [rankOf_get hi',rankOf_get hj'] at hij
  rcases Nat.lt_or_ge (rk.getD j 0) (rk.getD i 0) with q | q
  ·have:=(rank_lt (getD_mem hj') (getD_mem hi')).mpr q
   omega
  ·exact q
end
section
section
variable {prog:Program} {w:World} {A:Around} {E:Value -> Shared -> Prop} {s:Shared}
noncomputable def sortQ (n:Nat) (lt:Nat -> Nat -> Bool):List Nat:=if n < 2 then List.range n else (krun lt (kas_sort n)).toList
theorem range_getD (vs:List Value):((List.range vs.length).map fun i=>vs.getD i Value.none) = vs:=by
 refine List.ext_getElem? fun i=>?_
 rw [List.getElem?_map]
 by_cases h:i < vs.length
 ·rw [List.getElem?_range h]; simp [List.getD_eq_getElem?_getD,List.getElem?_eq_getElem h]
 ·rw [List.getElem?_eq_none (by simpa using h),List.getElem?_eq_none (by simpa using h)]; rfl
noncomputable def Kept (s:Shared) (a:Addr) (h1:Heap):Prop:=∀ b o,b ≠ a -> s.heap.get? b = some o -> h1.get? b = some o
theorem sort_tree {a:Addr} {vs:List Value} {n:Nat} {κ:SortKind} {lt:Nat -> Nat -> Bool} {P:PySem.Fin -> Shared -> Prop} (ho:s.heap.get? a = some (seqObj "list" vs.toArray n)) (h64:vs.length < 64) (hk:2 <= vs.length -> kok vs.length lt (kas_sort vs.length) = true)
  (hkind:∀ h1,Kept s a h1 -> 2 <= vs.length -> ∀ (Q:SortKind -> Shared -> Prop),Q κ { s with heap:=h1 } -> wpAny (model prog w) A (keyKind' vs.toArray) Q (fun zz zz=>False) { s with heap:=h1 })
  (hlt:∀ h1,Kept s a h1 -> ∀ i j,i < vs.length -> j < vs.length -> ∀ (C:Bool -> Shared -> Prop),C (lt i j) { s with heap:=h1 } -> wpAny (model prog w) A (keyLt' κ (vs.getD i Value.none) (vs.getD j Value.none)) C (fun zz zz=>False) { s with heap:=h1 })
  (h:P (.done (.ret .none)) { s with heap:=sortedHeap s.heap a vs (List.toArray ((sortQ vs.length lt).map fun i=>vs.getD i Value.none)) }):wpAny (model prog w) A (Builtin.«list.sort» ⟨[.ref a],[]⟩) P E s:=by
 have ha:a < s.heap.objs.size:=Heap.lt_size ho
 obtain ⟨e1,ho1⟩:∃ e1,(s.heap.update a (Obj.mapSeq fun zz=>(#[]:Array Value))).get? a = some (seqObj "list" #[] e1):=⟨_,get?_update_seq ho fun zz=>#[]⟩
 let h6:=((s.heap.update a (Obj.mapSeq fun zz=>(#[]:Array Value))).push (seqObj "tuple" vs.toArray 0)).push (seqObj "list" #[] 0)
 have ho6:h6.get? a = some (seqObj "list" #[] e1):=Heap.get?_push_of_some _ (Heap.get?_push_of_some _ ho1)
 have hkept:Kept s a h6:=fun b o hb e=>Heap.get?_push_of_some _ (Heap.get?_push_of_some _ ((Heap.get?_update_other _ _ (Ne.symm hb)).trans e))
 rw [list_sort_plain]
 refine wpAny_bind (listItems_at ho rfl (wpAny_bind (listUpdate_at ho rfl ?_ (by rw [List.size_toArray,sizeLine_eq]; omega) (Nat.zero_le _))))
 refine wpAny_bind (seqEpoch_at ho1 rfl (wpAny_bind (wpAny_newTuple ?_ (by show vs.length <= _; rw [sizeLine_eq]; omega))))
 refine wpAny_bind (wpAny_newList ?_ (Nat.zero_le _))
 refine wpAny_holding ?_
 show wpAny (model prog w) A _ P E { s with heap:=h6 }
 dsimp only
 have hsz:vs.toArray.size = vs.length:=by simp
 have fin:∀ (st:SortSt),(arrOf st).map (·.2) = List.toArray ((sortQ vs.length lt).map fun i=>vs.getD i Value.none) -> P (.done (.ret .none)) { s with heap:=h6.update a (Obj.mapSeq fun zz=>(arrOf st).map (·.2)) }:=fun st e=>by
  rw [e]; exact h
 by_cases h2:vs.toArray.size < 2
 ·rw [if_pos h2,if_pos h2]
  refine wpAny_bind (wpAny_pure ?_)
  rw [StateT.run_pure]
  refine wpAny_bind (wpAny_pure ?_)
  dsimp only
  have e:(arrOf (SortSt.mk' general' (vs.toArray.zip vs.toArray) #[] 7 none)).map (·.2) = List.toArray ((sortQ vs.length lt).map fun i=>vs.getD i Value.none):=by
   have h2':vs.length < 2:=by omega
   unfold sortQ
   rw [if_pos h2',range_getD]
   show (vs.toArray.zip vs.toArray).map (·.2) = _
   apply Array.toList_inj.mp
   rw [Array.toList_map]
   show ((vs.toArray.zip vs.toArray).toList).map (·.2) = vs
   rw [ksk_zip]
   exact List.map_snd_zip (Nat.le_refl _)
  refine wpAny_bind (seqEpoch_at ho6 rfl (wpAny_bind (listUpdate_at ho6 rfl ?_ (hsz2:=by rw [e,List.size_toArray,sizeLine_eq]; unfold sortQ; rw [if_pos (by omega)]; simp; omega))))
  simp only [bne_self_eq_false,Bool.false_eq_true,if_false]
  exact wpAny_pure (fin (SortSt.mk' general' (vs.toArray.zip vs.toArray) #[] 7 none) e)
 ·rw [if_neg h2,if_neg h2]
  have h2':2 <= vs.length:=by omega
  refine wpAny_bind (wpAny_mono (hkind h6 hkept h2' (fun κ' s'=>κ' = κ /\ s' = { s with heap:=h6 }) ⟨rfl,rfl⟩) (fun κ' s' hκ=>?_) fun zz zz x=>x.elim)
  obtain ⟨rfl,rfl⟩:=hκ
  have hask:(kas_sort vs.length).kasWp (kas_ask prog w A κ' vs) (fun p s'=>p = krun lt (kas_sort vs.length) /\ s' = { s with heap:=h6 }) { s with heap:=h6 }:=
   kas_eval (n:=vs.length) (lt:=lt) (fun i j C hi hj hC=>hlt h6 hkept i j hi hj C hC) _ (hk h2') ⟨rfl,rfl⟩
  refine wpAny_bind (wpAny_mono (kat_run (Q:=fun st' s'=>(krun lt (kas_sort vs.length)).size = vs.length /\ arrOf st' = (krun lt (kas_sort vs.length)).map (kas_item (vs.toArray.zip vs.toArray)) /\ failedOf st' = none /\ s' = { s with heap:=h6 }) rfl h2' h64
   (fun p st' s' a1 a2 a3 a4=>by obtain ⟨rfl,rfl⟩:=a4; exact ⟨a1,a2,a3,rfl⟩) hask) ?_ fun zz zz e=>e)
  rintro ⟨⟨⟩,st'⟩ s' ⟨hp,har,hf,rfl⟩
  dsimp only
  have hout:(arrOf st').map (·.2) = List.toArray ((sortQ vs.length lt).map fun i=>vs.getD i Value.none):=by
   unfold sortQ
   rw [if_neg (by omega)]
   exact kat_snds rfl har
  have hlo:((sortQ vs.length lt).map fun i=>vs.getD i Value.none).length = vs.length:=by
   unfold sortQ
   rw [if_neg (by omega),List.length_map,Array.length_toList,hp]
  refine wpAny_bind (seqEpoch_at ho6 rfl (wpAny_bind (listUpdate_at ho6 rfl ?_ (Nat.zero_le _) (by rw [hout,List.size_toArray,hlo,sizeLine_eq]; omega))))
  rw [hf]
  simp only [bne_self_eq_false,Bool.false_eq_true,if_false]
  exact wpAny_pure (fin st' hout)
theorem sorted_tree {l:Addr} {vs:List Value} {κ:SortKind} {lt:Nat -> Nat -> Bool} {Q:Value -> Shared -> Prop} (hl:s.heap.IsList l vs.toArray) (h64:vs.length < 64) (hk:2 <= vs.length -> kok vs.length lt (kas_sort vs.length) = true)
  (hkind:∀ (A:Around) h1,(∀ b o,s.heap.get? b = some o -> h1.get? b = some o) -> 2 <= vs.length -> ∀ (Q:SortKind -> Shared -> Prop),Q κ { s with heap:=h1 } -> wpAny (model prog w) A (keyKind' vs.toArray) Q (fun zz zz=>False) { s with heap:=h1 })
  (hlt:∀ h1,(∀ b o,s.heap.get? b = some o -> h1.get? b = some o) -> ∀ i j,i < vs.length -> j < vs.length -> ∀ (C:Bool -> Shared -> Prop),C (lt i j) { s with heap:=h1 } -> wpAny (model prog w) A.in1.in1 (keyLt' κ (vs.getD i Value.none) (vs.getD j Value.none)) C (fun zz zz=>False) { s with heap:=h1 })
  (h:Q (.ref (s.heap.objs.size + 1)) { s with heap:=sortedAll s.heap vs (List.toArray ((sortQ vs.length lt).map fun i=>vs.getD i Value.none)) }):wpAny (model prog w) A (call (.builtin "sorted") [.ref l]) Q E s:=by
 refine Calls.call_function_entry kind_sorted plain_sorted entry_sorted (args_sorted1 _) ?_
 unfold Builtin.«sorted»
 refine wpAny_bind (m:=checkCount "sorted" 1 1 _) (wpAny_pure ?_)
 refine wpAny_bind (collect_list hl ?_ (by rw [sizeLine_eq]; omega))
 refine wpAny_bind (wpAny_newList ?_ (by rw [sizeLine_eq]; omega))
 have hsz:((s.heap.push (seqObj "list" #[] 0)).update s.heap.objs.size (Obj.mapSeq (· ++ vs.toArray))).objs.size = s.heap.objs.size + 1:=by
  rw [Heap.size_update,size_push']
 have hoL:(((s.heap.push (seqObj "list" #[] 0)).update s.heap.objs.size (Obj.mapSeq (· ++ vs.toArray))).push (seqObj "list" vs.toArray 0)).get? (s.heap.objs.size + 1) = some (seqObj "list" vs.toArray 0):=by
  rw [<- hsz]; exact Heap.get?_push_size _ rfl
 have keep:∀ b o,s.heap.get? b = some o -> b ≠ s.heap.objs.size + 1 /\ (((s.heap.push (seqObj "list" #[] 0)).update s.heap.objs.size (Obj.mapSeq (· ++ vs.toArray))).push (seqObj "list" vs.toArray 0)).get? b = some o:=fun b o e=>by
  have hlt:=Heap.lt_size e
  exact ⟨Nat.ne_of_lt (Nat.lt_succ_of_lt hlt),Heap.get?_push_of_some _ ((Heap.get?_update_other _ _ (Nat.ne_of_gt hlt)).trans (Heap.get?_push_of_some _ e))⟩
 show wpAny _ _ _ _ _ { s with heap:=((s.heap.push (seqObj "list" #[] 0)).update s.heap.objs.size (Obj.mapSeq (· ++ vs.toArray))).push (seqObj "list" vs.toArray 0) }
 rw [hsz]
 refine wpAny_bind (wpAny_holding (wpAny_call_entry slot_list_sort ⟨_,hoL,rfl⟩ entry_list_sort ?_ (args_list_sort _)))
 refine sort_tree (κ:=κ) (lt:=lt) hoL h64 hk (fun h1 hK h2 Q' hQ=>hkind _ h1 (fun b o e=>hK b o (keep b o e).1 (keep b o e).2) h2 Q' hQ) (fun h1 hK i j hi hj C hC=>hlt h1 (fun b o e=>hK b o (keep b o e).1 (keep b o e).2) i j hi hj C hC) ⟨_,rfl,?_⟩
 exact wpAny_pure ⟨_,rfl,h⟩
end
section
variable {X:Cx} {A:Around} {env:Env} {Γ Γ0:Loc} {Ω:Own} {F F':FS} {s s':Shared}
theorem RdL.pick {vs:List Value} {ds:List D} (r:RdL X F vs ds):∀ (ix:List Nat),(∀ i ∈ ix,i < vs.length) -> RdL X F (ix.map fun i=>vs.getD i Value.none) (ix.map fun i=>ds.getD i .none)
 | [],_=>.nil
 | i :: ix,h=>by
  have hi:=h i (List.mem_cons_self ..)
  have hi':i < ds.length:=by rw [<- r.length]; exact hi
  obtain ⟨v,hv,rv⟩:=r.get (List.getElem?_eq_getElem hi')
  refine .cons ?_ (r.pick ix fun j hj=>h j (List.mem_cons_of_mem _ hj))
  show Rd X F (vs.getD i Value.none) (ds.getD i .none)
  rw [List.getD_eq_getElem?_getD,hv,List.getD_eq_getElem?_getD,List.getElem?_eq_getElem hi']
  exact rv
noncomputable def prKey (p:Nat × Nat):Nat:=p.1 * 4 + p.2
noncomputable def sortPrs (ps:List (Nat × Nat)):List (Nat × Nat):=(sortP (ps.map prKey)).map fun i=>ps.getD i (0,0)
theorem rd_pr {v:Value} {p:Nat × Nat} (r:Rd X F v (pr p)):∃ a o n t u,v = .ref a /\ F a = some o /\ o.cls = .type "tuple" /\ o.data = .seq #[.str (lt p.1) t,.str (lt p.2) u] n:=by
 obtain ⟨a,e,o,vs,n,h1,h2,h3,h4⟩:=Rd.inv (d:=.tup [.str (lt p.1),.str (lt p.2)]) r
 obtain ⟨v,w,rfl,r1,r2⟩:=rdl2 h4
 obtain ⟨t,rfl⟩:=r1.str_inv
 obtain ⟨u,rfl⟩:=r2.str_inv
 exact ⟨a,o,n,t,u,e,h1,h2,h3⟩
theorem rd_at {vs:List Value} {ds:List D} (r:RdL X F vs ds) {i:Nat} (hi:i < ds.length):Rd X F (vs.getD i Value.none) ds[i]:=by
 obtain ⟨v,hv,rv⟩:=r.get (List.getElem?_eq_getElem hi)
 rw [List.getD_eq_getElem?_getD,hv]; exact rv
theorem frozen_sorted (I:Inv X env F Γ Ω s) {vs:List Value} {out:List Value} {ds:List D} (r:RdL X F out ds):Res X F s (.lst ds) (.ref (s.heap.objs.size + 1)) { s with heap:=sortedAll s.heap vs (List.toArray out) }:=by
 obtain ⟨e,he⟩:=sortedAll_at s.heap vs (List.toArray out)
 have y:=I.frozen (s':={ s with heap:=sortedAll s.heap vs (List.toArray out) }) (a:=s.heap.objs.size + 1) (Heap.get?_none_of_le (Nat.le_succ _)) he (fun b o q=>sortedAll_old q)
 exact ⟨_,y,.lst (vs:=out) (n:=e) (FS.put_self ..) (r.mono y.le)⟩
theorem sorted_prs {ps:List (Nat × Nat)} (h4:∀ p ∈ ps,p.1 < 4 /\ p.2 < 4) (hl:ps.length <= 4):CallR X A env Γ Ω (.builtin "sorted") [.lst (ps.map pr)] (.lst ((sortPrs ps).map pr)):=by
 refine fun F s vs I r=>r.one_elim fun v r=>?_
 ·obtain ⟨a,vs,rfl,hl',rl⟩:=lst_d F s v I r
  have hlist:=hl'.isList
  have hn:vs.length = ps.length:=rl.length.trans (List.length_map _)
  have hk:(ps.map prKey).length = ps.length:=by simp
  have sf:=sort_fact (rk:=ps.map prKey) (by omega)
  have at':∀ i,i < ps.length -> ∃ a o n t u,vs.getD i Value.none = .ref a /\ F a = some o /\ o.cls = .type "tuple" /\ o.data = .seq #[.str (lt (ps.getD i (0,0)).1) t,.str (lt (ps.getD i (0,0)).2) u] n:=fun i hi=>by
   have h:=rd_at rl (i:=i) (by simpa using hi)
   have e:(ps.map pr)[i]'(by simpa using hi) = pr (ps.getD i (0,0)):=by simp [List.getD_eq_getElem?_getD,List.getElem?_eq_getElem hi]
   rw [e] at h
   exact rd_pr h
  have hlt4:∀ i,i < ps.length -> (ps.getD i (0,0)).1 < 4 /\ (ps.getD i (0,0)).2 < 4:=fun i hi=>by
   rw [List.getD_eq_getElem?_getD,List.getElem?_eq_getElem hi]; exact h4 _ (List.getElem_mem hi)
  refine sorted_tree (κ:=tuples' (Value.type "str" != Value.type "tuple")) (lt:=ltOf (ps.map prKey)) hlist (by omega) (fun q=>by rw [hn]; have:=sf.ok (by omega); rwa [hk] at this) (fun A' h1 hK h2 Q hQ=>?_) (fun h1 hK i j hi hj C hC=>?_) ?_
  ·have tups:KatTups h1 vs (vs.map fun v=>match v with | .ref a=>(match F a with | some o=>(match o.data with | .seq xs _=>xs.getD 0 Value.none | _=>.none) | none=>.none) | _=>.none):=by
    have:∀ (us:List Value) (qs:List (Nat × Nat)),RdL X F us (qs.map pr) -> KatTups h1 us (us.map fun v=>match v with | .ref a=>(match F a with | some o=>(match o.data with | .seq xs _=>xs.getD 0 Value.none | _=>.none) | none=>.none) | _=>.none):=by
     intro us qs rr
     induction qs generalizing us with
     | nil=>exact rr.nil_elim KatTups.nil
     | cons q qs ih=>
      exact rr.cons_elim fun v us r1 r2=>by
       obtain ⟨a,o,n,t,u,rfl,g1,g2,g3⟩:=rd_pr r1
       refine KatTups.cons (hK a o (I.fz _ _ g1)) g2 g3 (f:=_) ?_ (ih _ r2)
       simp only [g1,g3]; rfl
    exact this vs ps rl
   have hT:∀ v ∈ (vs.map fun v=>match v with | .ref a=>(match F a with | some o=>(match o.data with | .seq xs _=>xs.getD 0 Value.none | _=>.none) | none=>.none) | _=>.none),Looks X.M ({ s with heap:=h1 }:Shared).heap (typeOf v) (.type "str"):=by
    intro v hv
    obtain ⟨u,hu,rfl⟩:=List.mem_map.mp hv
    obtain ⟨i,hi⟩:=List.getElem?_of_mem hu
    have hil:=(List.getElem?_eq_some_iff.mp hi).1
    obtain ⟨a,o,n,t,w,e,g1,g2,g3⟩:=at' i (by omega)
    rw [List.getD_eq_getElem?_getD,hi] at e
    simp only [Option.getD_some] at e
    subst e
    simp only [g1,g3]
    exact .now
   exact kat_kind (s:={ s with heap:=h1 }) tups (by rw [List.length_map]; omega) hT (by simp) hQ
  ·obtain ⟨x,ox,nx,tx,ux,ex,gx,cx,dx⟩:=at' i (by omega)
   obtain ⟨y,oy,ny,ty,uy,ey,gy,cy,dy⟩:=at' j (by omega)
   rw [ex,ey]
   refine kat_lt (hK x ox (I.fz _ _ gx)) dx (hK y oy (I.fz _ _ gy)) dy ?_
   obtain ⟨i1,i2⟩:=hlt4 i (by omega)
   obtain ⟨j1,j2⟩:=hlt4 j (by omega)
   have hltv:ltOf (ps.map prKey) i j = decide (prKey (ps.getD i (0,0)) < prKey (ps.getD j (0,0))):=by
    unfold ltOf
    have e1:∀ k,k < ps.length -> (ps.map prKey).getD k 0 = prKey (ps.getD k (0,0)):=fun k hk=>by simp [List.getD_eq_getElem?_getD,List.getElem?_eq_getElem hk]
    rw [e1 i (by omega),e1 j (by omega)]
   rw [hltv] at hC
   generalize ps.getD i (0,0) = p at *
   generalize ps.getD j (0,0) = q at *
   have c1:=lt_eq p.1 q.1 i1 j1
   have c2:=lt_eq p.2 q.2 i2 j2
   have l1:=lt_lt p.1 q.1 i1 j1
   have l2:=lt_lt p.2 q.2 i2 j2
   unfold prKey at hC
   refine kat_cons (SeqAt.EqAt.str_str (lt p.1) tx (lt q.1) ty X.prog X.w _ _ ?_)
   rw [c1]
   by_cases h1e:p.1 = q.1
   ·rw [decide_eq_true h1e]
    refine kat_yes (kat_cons (SeqAt.EqAt.str_str (lt p.2) ux (lt q.2) uy X.prog X.w _ _ ?_))
    rw [c2]
    by_cases h2e:p.2 = q.2
    ·rw [decide_eq_true h2e]
     refine kat_yes (kat_nil ?_)
     have:decide (p.1 * 4 + p.2 < q.1 * 4 + q.2) = false:=by simp [h1e,h2e]
     rw [this] at hC
     exact hC
    ·rw [decide_eq_false h2e]
     refine kat_no (kat_one _ _ (PyProof.Rows.lt_str ?_))
     have:decide (p.1 * 4 + p.2 < q.1 * 4 + q.2) = decide (p.2 < q.2):=by rw [h1e]; simp
     rw [this,<- l2] at hC
     exact hC
   ·rw [decide_eq_false h1e]
    refine kat_no (oneLt_str ?_)
    have:decide (p.1 * 4 + p.2 < q.1 * 4 + q.2) = decide (p.1 < q.1):=by
     rw [decide_eq_decide]; omega
    rw [this,<- l1] at hC
    exact hC
  ·have hp:=sf.perm
   rw [hk] at hp
   have hmem:∀ i ∈ sortP (ps.map prKey),i < ps.length:=fun i hi=>by simpa using hp.mem_iff.mp hi
   have e:sortQ vs.length (ltOf (ps.map prKey)) = sortP (ps.map prKey):=by
    unfold sortQ sortP
    rw [hn,hk]
   rw [e]
   have rr:=rl.pick (sortP (ps.map prKey)) fun i hi=>by rw [hn]; exact hmem i hi
   have e2:((sortP (ps.map prKey)).map fun i=>(ps.map pr).getD i .none) = (sortPrs ps).map pr:=by
    unfold sortPrs
    rw [List.map_map]
    refine List.map_congr_left fun i hi=>?_
    have:=hmem i hi
    simp [List.getD_eq_getElem?_getD,List.getElem?_eq_getElem this]
   rw [e2] at rr
   exact frozen_sorted I rr
end
end
section
section
variable {X:Cx} {A:Around} {env:Env} {Γ Γ0:Loc} {Ω:Own} {F F':FS} {s s':Shared} {E:Value -> Shared -> Prop}
theorem Base.ext (B:Base X F [] s) (x:Ext X F F' s s'):Base X F' [] s' where
 glob:=x.glob
 fb:=fun b o hb e=>x.le b o (B.fb b o hb e)
 fz:=x.fz
 own:=fun p hp=>nomatch hp
 nd:=List.nodup_nil
 tF:=fun P hP=>by
  rcases x.new P with e | e
  ·rw [e]; exact B.tF P hP
  ·obtain ⟨o,ho⟩:=B.glob.tabs_there P hP; rw [ho] at e; cases e
theorem Ext.upd (B:Base X F [] s) (x:Ext X F F' s s') {b:Addr} (hn:s.heap.get? b = none) (hF:F' b = none) {h':Heap} {tk:Nat} (hs:Heap.SameBut b s'.heap h'):Ext X F F' s { s' with heap:=h',toks:=tk } where
 le:=x.le
 fz:=fun a o e=>(hs.2 a (fun q=>by rw [q,hF] at e; cases e)).trans (x.fz a o e)
 new:=x.new
 keep:=fun c o hc e=>(hs.2 c (fun q=>by rw [q,hn] at e; cases e)).trans (x.keep c o hc e)
 glob:=x.glob.but (M:=fun a=>a = b) (fun a ha=>by
  subst ha
  refine ⟨?_,fun hT=>?_⟩
  ·cases e:X.h0.get? a with
   | none=>rfl
   | some o=>
    by_cases hT:a ∈ X.T
    ·obtain ⟨o',ho'⟩:=B.glob.tabs_there a hT; rw [hn] at ho'; cases ho'
    ·have:=B.fz a o (B.fb a o hT e); rw [hn] at this; cases this
  ·obtain ⟨o',ho'⟩:=B.glob.tabs_there a hT; rw [hn] at ho'; cases ho') fun c o hc e=>(hs.2 c hc).trans e
 os:=x.os
 gens:=x.gens
theorem Base.stay (B:Base X F [] s) (hk:∀ b o,s.heap.get? b = some o -> s'.heap.get? b = some o) (ho:s'.os = s.os:=by rfl) (hn:s'.gens = s.gens:=by rfl):Ext X F F s s':=.same B.glob B.fz hk ho (hn ▸ .refl _)
structure KeySt (X:Cx) (F:FS) (s:Shared) (a kS:Addr) (e1:Nat) (ks:List Str) (s':Shared):Prop where
 x:∃ F',Ext X F F' s s' /\ F' a = none /\ F' kS = none
 la:s'.heap.get? a = some (seqObj "list" #[] e1)
 lk:∃ vs c,s'.heap.get? kS = some (seqObj "list" (List.toArray vs) c) /\ StrsAre vs ks
theorem strs_snoc {vs:List Value} {ss:List Str} (h:StrsAre vs ss) (x:Str) (t:Tok):StrsAre (vs ++ [.str x t]) (ss ++ [x]):=by
 induction h with
 | nil=>exact .cons x t .nil
 | cons y u h ih=>exact .cons y u ih
theorem strs_get:∀ {vs:List Value} {ss:List Str},StrsAre vs ss -> ∀ i,i < ss.length -> ∃ t,vs.getD i Value.none = .str (ss.getD i Str.empty) t
 | _,_,.nil,i,h=>by simp at h
 | _,_,.cons x t r,0,_=>⟨t,rfl⟩
 | _,_,.cons x t r,i + 1,h=>by
  obtain ⟨u,e⟩:=strs_get r i (by simpa using h)
  exact ⟨u,by simpa using e⟩
theorem strs_len {vs:List Value} {ss:List Str} (h:StrsAre vs ss):vs.length = ss.length:=by
 induction h with
 | nil=>rfl
 | cons _ _ _ ih=>simp [ih]
set_option tactic.hygienic true in
theorem keys_loop {n:Nat} {fa:Addr} {fd:FuncData} {cs:List Addr} {es:List D} {kf:Nat -> Str} {ds:List D} {vs:List Value} {a kS:Addr} {e1:Nat} {body:Value -> PUnit -> Sem (ForInStep PUnit)} {Q:PUnit -> Shared -> Prop} (B:Base X F [] s) (hR:Room A n) (hf:Rd X F (.ref fa) (.fn fd cs es)) (r:RdL X F vs ds) (K:KeyOn X n fd cs es ds kf)
  (hna:s.heap.get? a = none) (hnk:s.heap.get? kS = none) (hak:a ≠ kS)
  (hb:∀ x (s':Shared),body x ⟨⟩ = (do match <- (call (.ref fa) [x]).attempt with
   | .ok k=>do Builtin.List.listUpdate (.ref kS) (·.push k); pure (.yield ⟨⟩)
   | .error e=>do
    rule "list.sort.key-raised"
    let made <- Builtin.List.listItems (.ref kS)
    Builtin.List.listUpdate (.ref kS) fun zz=>#[]
    letGo made.toList.reverse [e]
    Builtin.List.listUpdate (.ref a) fun zz=>vs.toArray; throw e))
  (hlen:vs.length < 64) {ss1:Shared} (h0:KeySt X F s a kS e1 [] ss1) (done:∀ ss2,KeySt X F s a kS e1 ((List.range vs.length).map kf) ss2 -> Q ⟨⟩ ss2):wpAny X.M A (forIn vs PUnit.unit body) Q E ss1:=by
 refine ksk_fold (fun i s'=>KeySt X F s a kS e1 ((List.range i).map kf) s') vs 0 ss1 h0 (fun j x s' hx hI=>?_) (fun s' hI=>done s' (by simpa using hI))
 rw [Nat.zero_add] at hI ⊢
 have hj:j < vs.length:=(List.getElem?_eq_some_iff.mp hx).1
 obtain ⟨⟨F',xe,fa',fk'⟩,hla,us,ck,hlk,hss⟩:=hI
 obtain ⟨d,hd,rd⟩:=r.at hx
 have B':=B.ext xe
 rw [hb x s']
 refine wpAny_bind (wpAny_attempt (wpAny_mono (K.at_ j d hd A F' s' fa [x] hR B' (hf.mono xe.le) (.one (rd.mono xe.le))) (fun v s'' hv=>?_) fun zz zz e=>e.elim))
 obtain ⟨F'',xe',rv⟩:=hv
 cases rv
 rename_i t
 have hla':=xe'.keep a _ (fun hT=>by obtain ⟨o',ho'⟩:=B.glob.tabs_there a hT; rw [hna] at ho'; cases ho') hla
 have hlk':=xe'.keep kS _ (fun hT=>by obtain ⟨o',ho'⟩:=B.glob.tabs_there kS hT; rw [hnk] at ho'; cases ho') hlk
 have fa2:F'' a = none:=by
  rcases xe'.new a with e | e
  ·rw [e]; exact fa'
  ·rw [hla] at e; cases e
 have fk2:F'' kS = none:=by
  rcases xe'.new kS with e | e
  ·rw [e]; exact fk'
  ·rw [hlk] at e; cases e
 have hul:us.length = j:=by rw [strs_len hss]; simp
 dsimp only
 refine wpAny_bind (listUpdate_at hlk' rfl ?_ (by rw [List.size_toArray,sizeLine_eq]; omega) (Nat.le_trans (Nat.le_of_eq (Array.size_push ..)) (by rw [List.size_toArray,sizeLine_eq]; omega)))
 refine wpAny_pure ⟨rfl,⟨F'',?_,fa2,fk2⟩,?_,us ++ [.str (kf j) t],_,(get?_update_seq hlk' (·.push (.str (kf j) t))).trans (by rw [List.push_toArray]),?_⟩
 ·exact (xe.trans xe' B.glob.tabs_there).upd B hnk fk2 (tk:=s''.toks) (Heap.SameBut.update _ _ _)
 ·exact (Heap.get?_update_other _ _ (Ne.symm hak)).trans hla'
 ·rw [List.range_succ,List.map_append]
  exact strs_snoc hss _ _
theorem keys_end {n:Nat} {kf:Nat -> Str} {rk:List Nat} {vs us:List Value} {a kS:Addr} {e1 ck:Nat} {P:PySem.Fin -> Shared -> Prop} (hla:s.heap.get? a = some (seqObj "list" #[] e1)) (hlk:s.heap.get? kS = some (seqObj "list" (List.toArray us) ck)) (hak:a ≠ kS)
  (hss:StrsAre us ((List.range vs.length).map kf)) (hlen:vs.length < 64) (hrk:rk.length = vs.length) (hok:2 <= rk.length -> kok rk.length (ltOf rk) (kas_sort rk.length) = true)
  (hlt:∀ i j,i < vs.length -> j < vs.length -> ltOf rk i j = decide ((kf i).cps.toList < (kf j).cps.toList))
  (h:∀ h' c,(∀ b,b ≠ a -> b ≠ kS -> h'.get? b = s.heap.get? b) -> h'.get? a = some (seqObj "list" (List.toArray ((sortP rk).map fun i=>vs.getD i Value.none)) c) -> P (.done (.ret .none)) { s with heap:=h' }) :
  wpAny X.M A (ksk_end a false vs.toArray e1 (.ref kS) (List.toArray us)) P E s:=by
 have hul:us.length = vs.length:=by rw [strs_len hss]; simp
 have tail:∀ (st:SortSt),(arrOf st).map (·.2) = List.toArray ((sortP rk).map fun i=>vs.getD i Value.none) -> (sortP rk).length = vs.length -> failedOf st = none -> wpAny X.M A (ksk_tail a false e1 (.ref kS) st) P E s:=fun st hout hsl hf=>by
  obtain ⟨c1,hc1⟩:∃ c,(s.heap.update kS (Obj.mapSeq fun zz=>(#[]:Array Value))).get? kS = some (seqObj "list" #[] c):=⟨_,get?_update_seq hlk fun zz=>#[]⟩
  have hla1:(s.heap.update kS (Obj.mapSeq fun zz=>(#[]:Array Value))).get? a = some (seqObj "list" #[] e1):=(Heap.get?_update_other _ _ (Ne.symm hak)).trans hla
  unfold ksk_tail
  dsimp only
  rw [hout]
  refine wpAny_bind (listUpdate_at hlk rfl ?_ (by rw [List.size_toArray,sizeLine_eq]; omega) (Nat.zero_le _))
  refine wpAny_bind (wpAny_letGo (wpAny_bind (seqEpoch_at hla1 rfl ?_)))
  refine wpAny_bind (listUpdate_at hla1 rfl ?_ (Nat.zero_le _) (by simp only [Bool.false_eq_true,if_false]; rw [List.size_toArray,List.length_map,hsl,sizeLine_eq]; omega))
  rw [hf]
  simp only [bne_self_eq_false,Bool.false_eq_true,if_false]
  refine wpAny_pure (h _ _ (fun b hb hk=>?_) (get?_update_seq hla1 fun zz=>List.toArray ((sortP rk).map fun i=>vs.getD i Value.none)))
  exact (Heap.get?_update_other _ _ (Ne.symm hb)).trans (Heap.get?_update_other _ _ (Ne.symm hk))
 unfold ksk_end
 dsimp only
 simp only [Bool.false_eq_true,if_false]
 by_cases h2:vs.toArray.size < 2
 ·have h2':vs.length < 2:=by simpa using h2
  rw [if_pos h2,if_pos h2]
  refine wpAny_bind (wpAny_pure ?_)
  refine wpAny_bind (wpAny_pure ?_)
  dsimp only
  have e:sortP rk = List.range vs.length:=by unfold sortP; rw [hrk,if_pos h2']
  refine tail _ ?_ (by rw [e]; simp) rfl
  rw [e,range_getD]
  show ((List.toArray us).zip vs.toArray).map (·.2) = _
  apply Array.toList_inj.mp
  rw [Array.toList_map,ksk_zip]
  exact List.map_snd_zip (by simp [hul])
 ·have h2':2 <= vs.length:=by simpa using h2
  rw [if_neg h2,if_neg h2]
  have hT:∀ v ∈ us,Looks X.M s.heap (typeOf v) (.type "str"):=fun v hv=>by
   obtain ⟨x,t,rfl⟩:=hss.all v hv
   exact .now
  refine wpAny_bind (kas_kind (vs:=us) (by omega) hT (by decide) (by decide) ?_)
  have hask:(kas_sort vs.length).kasWp (kas_ask X.prog X.w A oneType' us) (fun p s'=>p = krun (ltOf rk) (kas_sort vs.length) /\ s' = s) s:=by
   refine kas_eval (n:=vs.length) (lt:=ltOf rk) (fun i j C hi hj hC=>?_) _ (by rw [<- hrk]; exact hok (by omega)) ⟨rfl,rfl⟩
   obtain ⟨ti,ei⟩:=strs_get hss i (by simpa using hi)
   obtain ⟨tj,ej⟩:=strs_get hss j (by simpa using hj)
   have g1:((List.range vs.length).map kf).getD i Str.empty = kf i:=by simp [List.getD_eq_getElem?_getD,hi]
   have g2:((List.range vs.length).map kf).getD j Str.empty = kf j:=by simp [List.getD_eq_getElem?_getD,hj]
   unfold kas_ask
   rw [ei,ej,g1,g2]
   rw [hlt i j hi hj] at hC
   exact kas_lt_str hC
  refine wpAny_bind (wpAny_mono (kat_run (Q:=fun st' s'=>(krun (ltOf rk) (kas_sort vs.length)).size = vs.length /\ arrOf st' = (krun (ltOf rk) (kas_sort vs.length)).map (kas_item ((List.toArray us).zip vs.toArray)) /\ failedOf st' = none /\ s' = s) hul h2' hlen
   (fun p st' s' a1 a2 a3 a4=>by obtain ⟨rfl,rfl⟩:=a4; exact ⟨a1,a2,a3,rfl⟩) hask) ?_ fun zz zz e=>e)
  rintro ⟨⟨⟩,st'⟩ s' ⟨hp,har,hf,rfl⟩
  have e:sortP rk = (krun (ltOf rk) (kas_sort vs.length)).toList:=by unfold sortP; rw [hrk,if_neg (by omega)]
  exact tail st' (by rw [e]; exact kat_snds hul har) (by rw [e,Array.length_toList,hp]) hf
theorem sorted_key {n:Nat} {fd:FuncData} {cs:List Addr} {es ds:List D} {kf:Nat -> Str} {rk:List Nat} (K:KeyOn X n fd cs es ds kf) (hlen:ds.length < 64) (hrk:rk.length = ds.length) (hok:2 <= rk.length -> kok rk.length (ltOf rk) (kas_sort rk.length) = true) (hp:∀ i ∈ sortP rk,i < ds.length)
  (hlt:∀ i j,i < ds.length -> j < ds.length -> ltOf rk i j = decide ((kf i).cps.toList < (kf j).cps.toList)):CallQ X (n + 2) (.builtin "sorted") ["key"] [.lst ds] [.fn fd cs es] (.lst ((sortP rk).map fun i=>ds.getD i .none)):=by
 intro A F s vs us hR B r rk'
 refine r.one_elim fun v r=>rk'.one_elim fun u rf=>?_
 obtain ⟨l,rfl,ws,m,hFl,rl⟩:=r.inv
 obtain ⟨fa,rfl,fo,cs',_,hFf,_⟩:=rf.inv
 have hwl:ws.length = ds.length:=rl.length
 have hl:s.heap.IsList l ws.toArray:=⟨_,B.fz _ _ hFl,rfl,m,rfl⟩
 show wpAny X.M A (call (.builtin "sorted") [.ref l] [(Str.ofString "key",.ref fa)]) _ _ s
 refine call_function_entry_kw kind_sorted plain_sorted entry_sorted (ksk_s1 _ _) ?_
 unfold Builtin.«sorted»
 refine wpAny_bind (m:=checkCount "sorted" 1 1 _) (wpAny_pure ?_)
 refine wpAny_bind (collect_list hl ?_ (by rw [sizeLine_eq]; omega))
 refine wpAny_bind (wpAny_newList ?_ (by rw [sizeLine_eq]; omega))
 have hsz:((s.heap.push (seqObj "list" #[] 0)).update s.heap.objs.size (Obj.mapSeq (· ++ ws.toArray))).objs.size = s.heap.objs.size + 1:=by
  rw [Heap.size_update,size_push']
 let h2:=((s.heap.push (seqObj "list" #[] 0)).update s.heap.objs.size (Obj.mapSeq (· ++ ws.toArray))).push (seqObj "list" ws.toArray 0)
 have hsz2:h2.objs.size = s.heap.objs.size + 2:=by show (Heap.push _ _).objs.size = _; rw [size_push',hsz]
 have hoL:h2.get? (s.heap.objs.size + 1) = some (seqObj "list" ws.toArray 0):=by
  rw [<- hsz]; exact Heap.get?_push_size _ rfl
 have keep:∀ b o,s.heap.get? b = some o -> h2.get? b = some o:=fun b o e=>
  Heap.get?_push_of_some _ ((Heap.get?_update_other _ _ (Nat.ne_of_gt (Heap.lt_size e))).trans (Heap.get?_push_of_some _ e))
 show wpAny _ _ _ _ _ { s with heap:=h2 }
 rw [hsz]
 refine wpAny_bind (wpAny_holding (wpAny_call_entry_kw slot_list_sort ⟨_,hoL,rfl⟩ entry_list_sort ?_ (ksk_l1 _ _)))
 rw [ksk_t1]
 unfold ksk_tree
 obtain ⟨e1,ho1⟩:∃ e1,(h2.update (s.heap.objs.size + 1) (Obj.mapSeq fun zz=>(#[]:Array Value))).get? (s.heap.objs.size + 1) = some (seqObj "list" #[] e1):=⟨_,get?_update_seq hoL fun zz=>#[]⟩
 let h3:=((h2.update (s.heap.objs.size + 1) (Obj.mapSeq fun zz=>(#[]:Array Value))).push (seqObj "tuple" ws.toArray 0)).push (seqObj "list" #[] 0)
 have hz3:((h2.update (s.heap.objs.size + 1) (Obj.mapSeq fun zz=>(#[]:Array Value))).push (seqObj "tuple" ws.toArray 0)).objs.size = s.heap.objs.size + 3:=by rw [size_push',Heap.size_update,hsz2]
 have ho3:h3.get? (s.heap.objs.size + 1) = some (seqObj "list" #[] e1):=Heap.get?_push_of_some _ (Heap.get?_push_of_some _ ho1)
 have hk3:h3.get? (s.heap.objs.size + 3) = some (seqObj "list" #[] 0):=by rw [<- hz3]; exact Heap.get?_push_size _ rfl
 have keep3:∀ b o,s.heap.get? b = some o -> h3.get? b = some o:=fun b o e=>
  Heap.get?_push_of_some _ (Heap.get?_push_of_some _ ((Heap.get?_update_other _ _ (Nat.ne_of_gt (Nat.lt_succ_of_lt (Heap.lt_size e)))).trans (keep b o e)))
 have hna:s.heap.get? (s.heap.objs.size + 1) = none:=Heap.get?_none_of_le (Nat.le_succ _)
 have hnk:s.heap.get? (s.heap.objs.size + 3) = none:=Heap.get?_none_of_le (Nat.le_add_right _ _)
 have fF:∀ b,s.heap.get? b = none -> F b = none:=fun b hb=>by
  cases e:F b with
  | none=>rfl
  | some o=>have:=B.fz b o e; rw [hb] at this; cases this
 refine wpAny_bind (listItems_at hoL rfl (wpAny_bind (listUpdate_at hoL rfl ?_ (by rw [List.size_toArray,sizeLine_eq]; omega) (Nat.zero_le _))))
 refine wpAny_bind (seqEpoch_at ho1 rfl (wpAny_bind (wpAny_newTuple ?_ (by show ws.length <= _; rw [sizeLine_eq]; omega))))
 refine wpAny_bind (wpAny_newList ?_ (Nat.zero_le _))
 refine wpAny_holding ?_
 show wpAny _ _ (ksk_rest (s.heap.objs.size + 1) (.ref fa) false ws.toArray e1 (.ref ((h2.update (s.heap.objs.size + 1) (Obj.mapSeq fun zz=>(#[]:Array Value))).push (seqObj "tuple" ws.toArray 0)).objs.size)) _ _ { s with heap:=h3 }
 rw [hz3]
 unfold ksk_rest
 refine wpAny_bind (wpAny_rule ?_)
 first
  | rw [List.forIn_toArray]
  | (rw [<- Array.forIn_toList]; simp only [List.toList_toArray])
 have hak:s.heap.objs.size + 1 ≠ s.heap.objs.size + 3:=by omega
 have x3:Ext X F F s { s with heap:=h3 }:=B.stay keep3
 refine wpAny_bind (keys_loop (A:=A.in1.in1) (kf:=kf) (ds:=ds) (E:=_) B (⟨by have:=hR.d; show A.depth + n < _; omega,by have:=hR.u; show A.units + 1 + 1 + _ + _ < _; omega,hR.h⟩:Room A.in1.in1 n) rf rl K hna hnk hak (fun x s'=>rfl) (by omega) ⟨⟨F,x3,fF _ hna,fF _ hnk⟩,ho3,[],0,hk3,.nil⟩ fun ss2 KS=>?_)
 obtain ⟨⟨F',xe,fa',fk'⟩,hla,us',ck,hlk,hss⟩:=KS
 refine wpAny_bind (listItems_at hlk rfl ?_)
 refine keys_end (n:=n) (kf:=kf) (rk:=rk) (e1:=e1) (s:=ss2) hla hlk hak hss (by omega) (by omega) hok (fun i j hi hj=>hlt i j (by omega) (by omega)) (fun h' c hoth hat=>⟨_,rfl,wpAny_pure ⟨_,rfl,?_⟩⟩)
 have rr:=rl.pick (sortP rk) fun i hi=>by rw [hwl]; exact hp i hi
 have hF':F.le F':=xe.le
 have keepS:∀ b o,s.heap.get? b = some o -> b ≠ s.heap.objs.size + 1 /\ b ≠ s.heap.objs.size + 3:=fun b o e=>by
  have:=Heap.lt_size e
  exact ⟨Nat.ne_of_lt (Nat.lt_succ_of_lt this),Nat.ne_of_lt (Nat.lt_of_lt_of_le this (Nat.le_add_right _ 3))⟩
 have x4:Ext X F F' s { ss2 with heap:=h' }:=by
  refine ⟨xe.le,fun b o e=>?_,xe.new,fun b o hb e=>?_,?_,xe.os,xe.gens⟩
  ·rw [hoth b (fun q=>by rw [q,fa'] at e; cases e) (fun q=>by rw [q,fk'] at e; cases e)]
   exact xe.fz b o e
  ·rw [hoth b (keepS b o e).1 (keepS b o e).2]
   exact xe.keep b o hb e
  ·refine xe.glob.but (M:=fun b=>b = s.heap.objs.size + 1 \/ b = s.heap.objs.size + 3) (fun b hb=>?_) fun b o hb e=>by
    rw [hoth b (fun q=>hb (.inl q)) (fun q=>hb (.inr q))]; exact e
   have hbn:s.heap.get? b = none:=by rcases hb with rfl | rfl <;> assumption
   refine ⟨?_,fun hT=>?_⟩
   ·cases e:X.h0.get? b with
    | none=>rfl
    | some o=>
     by_cases hT:b ∈ X.T
     ·obtain ⟨o',ho'⟩:=B.glob.tabs_there b hT; rw [hbn] at ho'; cases ho'
     ·have:=B.fz b o (B.fb b o hT e); rw [hbn] at this; cases this
   ·obtain ⟨o',ho'⟩:=B.glob.tabs_there b hT; rw [hbn] at ho'; cases ho'
 have hfr:F' (s.heap.objs.size + 1) = none:=fa'
 exact ⟨_,x4.put hna hfr hat,.lst (vs:=(sortP rk).map fun i=>ws.getD i Value.none) (n:=c) (FS.put_self ..) ((rr.mono hF').mono (put_le hfr))⟩
end
end
section
section
variable {X:Cx} {A:Around} {env:Env} {Γ Γ0:Loc} {Ω:Own} {F F':FS} {s s':Shared} {E:Value -> Shared -> Prop}
theorem call_rule_lam {e:Expr} {rest:List Expr} {nm:Str} {params:Arguments} {body:Expr} {scope:Scope} {lpos kp:Pos} {pos:Pos} {fv:Value} {ds:List D} {Q:Value -> Shared -> Prop} {id:Str} {p:Pos} {c Pt:Addr} {clos:List (Str × Addr)}
  (I:Inv X env F Γ Ω s) (hf:Ev X A env Γ Ω (.Name id p) (.val fv)) (hk:∀ F',F.le F' -> Kp X F' fv) (ha:EvL X A env Γ Ω (e :: rest) ds) (hcode:env.code = .ref c) (hm:(c,Pt) ∈ X.tabs) (hq:env.qual ++ "<lambda>" = X.qn Pt) (hcl:closureFor scope env = pure clos) (hdef:defaultsOf params env = ([],[]))
  (he:starEach (e :: rest) env = (false,eval e env) :: starEach rest env)
  (hp:((backTo pos (starEach (e :: rest) env)).any (·.1) || (backToKw pos (keywordEach [⟨some nm,.Lambda params body scope lpos,kp⟩] env)).any (·.1.isNone)) = false) (hall:(backToKw pos (keywordEach [⟨some nm,.Lambda params body scope lpos,kp⟩] env)).all (·.1.isSome) = true) (hns:(backToKw pos (keywordEach [⟨some nm,.Lambda params body scope lpos,kp⟩] env)).filterMap (·.1) = [nm])
  (k:∀ F1 ss1 vs u c' ctv pm,Ext X F F1 s ss1 -> Inv X env F1 Γ Ω ss1 -> RdL X F1 vs ds -> Rd X F1 u (.fn (kla_fn "<lambda>" (env.qual ++ "<lambda>") params body scope clos pm (.ref c') ctv) [] []) -> wpAny X.M A (call fv vs [(nm,u)]) Q E ss1):wpAny X.M A (eval (.Call (.Name id p) (e :: rest) [⟨some nm,.Lambda params body scope lpos,kp⟩] pos) env) Q E s:=by
 refine wpAny_Call_Name_kw (res_then I (hf F s I) fun v F1 ss1 x1 I1 r=>?_)
 refine r.val_elim ?_
 refine callWith_of (P:=fun h=>X.K.In h /\ ∀ a o,F1 a = some o -> h.get? a = some o) hp (fun h P=>hk F1 x1.le h P.1 P.2) (evalArgs_kw2 hall ?_ he)
 refine wpAny_mono (ha pos F1 ss1 I1) (fun vs ss2 hh2=>?_) fun zz zz e=>e.elim
 obtain ⟨F2,xx2,rr2⟩:=hh2
 have I2:=I1.ext xx2
 refine kwAll_cons (wpAny_mono (ev_lambda_x hcode hm hq hcl hdef I2) (fun u ss3 hh3=>kwAll_nil ?_) fun zz zz e=>e.elim)
 obtain ⟨F3,c',ctv,pm,xx3,rr3⟩:=hh3
 have I3:=I2.ext xx3
 rw [hns]
 exact ⟨⟨I3.glob.k,fun a o e=>I3.fz a o (xx3.le a o (xx2.le a o e))⟩,k F3 ss3 vs u c' ctv pm ((x1.trans xx2 I.glob.tabs_there).trans xx3 I.glob.tabs_there) I3 (rr2.mono xx3.le) rr3⟩
theorem Ext.toO (x:Ext X F F' s s'):ExtO X [] F F' s s':=⟨x.le,x.fz,x.new,fun b o h zz e=>x.keep b o h e,x.glob,x.os,x.gens⟩
theorem still_cell {y:Str} {cw:Addr} {dy:D} {fv:Value} {nm:Str} {vs:List Value} {ds:List D} {u:Value} {fd:FuncData} {d:D} {n:Nat} (I:Inv X env F Γ Ω s) (hA:Room A n) (hy:Γ.lookup y = some dy) (hyk:env.kindOf y ≠ some .local) (hyc:env.cells.lookup y = some cw)
  (hc:CallQ X n fv [nm] ds [.fn fd [cw] [dy]] d) (hnf:NF X d) (r:RdL X F vs ds) (ru:Rd X F u (.fn fd [] [])):wpAny X.M A (call fv vs [(nm,u)]) (Res X F s d) NoE s:=by
 obtain ⟨cw',v,hc1,⟨oc,hoc,hod⟩,rv⟩:=I.cl y dy hy hyk
 cases hyc.symm.trans hc1
 obtain ⟨_,h0,_,hcO,hcT⟩:=I.cells y cw (mem_of_lookup hyc)
 refine wpAny_mono (hc A (F.put cw oc) s vs [u] hA (I.base.hold h0 hoc hcO hcT).nil (r.mono (put_le h0)) (.one (ru.hold I h0 hcT hod rv))) (fun w ss2 hh2=>?_) fun zz zz e=>e
 obtain ⟨F2,xx2,rr2⟩:=hh2
 exact ⟨_,(xx2.toO.letgo h0 hod).ext,hnf (xx2.le _ _ (FS.put_self ..)) hod rr2⟩
theorem ev_call_lam {e:Expr} {rest:List Expr} {nm:Str} {params:Arguments} {body:Expr} {scope:Scope} {lpos kp:Pos} {pos:Pos} {fv:Value} {ds:List D} {d:D} {id:Str} {p:Pos} {c Pt:Addr} {clos:List (Str × Addr)} {n:Nat} {y:Str} {cw:Addr} {dy:D} (hA:Room A n)
  (hf:Ev X A env Γ Ω (.Name id p) (.val fv)) (hk:∀ F',Kp X F' fv) (ha:EvL X A env Γ Ω (e :: rest) ds) (hcode:env.code = .ref c) (hm:(c,Pt) ∈ X.tabs) (hq:env.qual ++ "<lambda>" = X.qn Pt) (hcl:closureFor scope env = pure clos) (hdef:defaultsOf params env = ([],[]))
  (hy:Γ.lookup y = some dy) (hyk:env.kindOf y ≠ some .local) (hyc:env.cells.lookup y = some cw)
  (hc:∀ pm c' ctv,CallQ X n fv [nm] ds [.fn (kla_fn "<lambda>" (env.qual ++ "<lambda>") params body scope clos pm (.ref c') ctv) [cw] [dy]] d) (hnf:NF X d)
  (he:starEach (e :: rest) env = (false,eval e env) :: starEach rest env)
  (hp:((backTo pos (starEach (e :: rest) env)).any (·.1) || (backToKw pos (keywordEach [⟨some nm,.Lambda params body scope lpos,kp⟩] env)).any (·.1.isNone)) = false) (hall:(backToKw pos (keywordEach [⟨some nm,.Lambda params body scope lpos,kp⟩] env)).all (·.1.isSome) = true) (hns:(backToKw pos (keywordEach [⟨some nm,.Lambda params body scope lpos,kp⟩] env)).filterMap (·.1) = [nm]) :
  Ev X A env Γ Ω (.Call (.Name id p) (e :: rest) [⟨some nm,.Lambda params body scope lpos,kp⟩] pos) d:=⟨fun F s I=>
 call_rule_lam I hf (fun F' zz=>hk F') ha hcode hm hq hcl hdef he hp hall hns fun F1 ss1 vs u c' ctv pm x1 I1 rr1 ru=>res_up I x1 (still_cell I1 hA hy hyk hyc (hc pm c' ctv) hnf rr1 ru)⟩
end
end
section
noncomputable def FramesOk (X:Cx) (F:FS) (s:Shared) (l:List Env):Prop:=∀ env ∈ l,env.scope.kind ≠ .module /\ ∃ L o,env.frame = some L /\ s.heap.get? L = some o /\ (∀ vs,o.data ≠ .fields vs) /\ F L = none /\ L ∉ X.T /\ X.h0.get? L = none
noncomputable def frs (l:List Env):List Addr:=l.filterMap (·.frame)
structure Made (X:Cx) (F:FS) (s:Shared) (msg:Str) (e:Value) (s':Shared):Prop where
 ex:∃ a F2 ss2 h' tk,e = .ref a /\ Ext X F F2 s ss2 /\ s' = { ss2 with heap:=h' } /\ Heap.MadeExc ss2.heap h' a "ValueError" [.str msg tk]
structure Fly (X:Cx) (l:List Env) (F F':FS) (s s':Shared) (a:Addr) (msg:Str) (base:Heap):Prop where
 fly:∃ t tk,Heap.FlyingW base l a (.type "ValueError") (.ref t) s'.heap /\ s'.heap.TupAt t [.str msg tk] /\ base.get? t = none
 keepB:∀ b o,b ∉ X.T -> b ∉ frs l -> s.heap.get? b = some o -> base.get? b = some o
 fzB:∀ b o,F' b = some o -> base.get? b = some o
 le:F.le F'
 new:∀ b,F' b = F b \/ s.heap.get? b = none
 glob:∀ h,base.StaysIn h -> Gl X F' h
 slots:s.heap.UpToSlots s'.heap
 os:s'.os = s.os
 gens:GensLe s.gens s'.gens
section
variable {X:Cx} {A:Around} {env:Env} {Γ Γ0:Loc} {Ω:Own} {F F':FS} {s s':Shared} {E:Value -> Shared -> Prop}
theorem frs_none {h:Heap} {l:List Env} {b:Addr} (hb:b ∈ frs l):(hideAll h (frs l)).get? b = none:=hideAll_none _ hb
theorem fun_frames {base:Heap}:∀ {l:List Env},(∀ env ∈ l,env.scope.kind ≠ .module /\ ∃ L o,env.frame = some L /\ s.heap.get? L = some o /\ (∀ vs,o.data ≠ .fields vs) /\ base.get? L = none) -> s.heap.FunFrames base l
 | [],_=>trivial
 | env :: r,h=>by
  obtain ⟨hk,L,o,hf,ho,hd,hn⟩:=h env (List.mem_cons_self ..)
  exact ⟨hk,⟨L,o,hf,hn,ho,hd⟩,fun_frames fun e he=>h e (List.mem_cons_of_mem _ he)⟩
theorem FramesOk.ext {l:List Env} (h:FramesOk X F s l) (x:Ext X F F' s s'):FramesOk X F' s' l:=fun env he=>by
 obtain ⟨hk,L,o,hf,ho,hd,hn,hT,h0⟩:=h env he
 refine ⟨hk,L,o,hf,x.keep L o hT ho,hd,?_,hT,h0⟩
 rcases x.new L with e | e
 ·rw [e]; exact hn
 ·rw [ho] at e; cases e
theorem gl_base {base hh2:Heap} {l:List Addr} (g:Gl X F hh2) (hl:∀ b ∈ l,F b = none /\ b ∉ X.T /\ X.h0.get? b = none) (hb:∀ b o,hh2.get? b = some o -> b ∉ l -> base.get? b = some o):∀ h,base.StaysIn h -> Gl X F h:=fun h hs=>
 ⟨g.ok,fun b o hbT e=>hs b o (hb b o (g.base b o hbT e) fun hm=>by rw [(hl b hm).2.2] at e; cases e),fun P hP=>by
  obtain ⟨ps,e,t⟩:=g.tabs_ok P hP
  exact ⟨ps,hs P _ (hb P _ e fun hm=>(hl P hm).2.1 hP),t⟩,fun P hP ps e pos v hv=>by
  obtain ⟨ps',e',t⟩:=g.tabs_ok P hP
  have e2:=hs P _ (hb P _ e' fun hm=>(hl P hm).2.1 hP)
  rw [e] at e2
  exact g.codes P hP ps (by rw [e',<- e2]) pos v hv⟩
theorem slots_of {ss2:Shared} (g:Gl X F s.heap) (h:∀ b o,b ∉ X.T -> s.heap.get? b = some o -> ss2.heap.get? b = some o):s.heap.UpToSlots ss2.heap:=fun b o e hnf=>by
 by_cases hbT:b ∈ X.T
 ·obtain ⟨ps,e',_⟩:=g.tabs_ok b hbT
  rw [e] at e'; cases e'
  exact absurd rfl (hnf _)
 ·exact ⟨o.slots,h b o hbT e⟩
theorem frames_not {l:List Env} (h:FramesOk X F s l):∀ b ∈ frs l,F b = none /\ b ∉ X.T /\ X.h0.get? b = none:=fun b hb=>by
 obtain ⟨env',he,hf'⟩:=List.mem_filterMap.mp hb
 obtain ⟨_,L',_,hf'',_,_,q1,q2,q3⟩:=h env' he
 rw [hf'] at hf''; cases hf''
 exact ⟨q1,q2,q3⟩
theorem leave_made {ss0:Shared} {l:List Env} {msg:Str} {e:Value} {env:Env} (B:Base X F [] ss0) (x0:Ext X F F ss0 s) (hL0:∀ L,env.frame = some L -> ss0.heap.get? L = none) (hfr:A.frames = some (env :: l)) (hF:FramesOk X F s (env :: l)) (m:Made X F s msg e s') (hQ:∀ a F2 base s'',e = .ref a -> Fly X l F F2 ss0 s'' a msg base -> E e s'') :
  wpAny X.M A (leaving env e) (fun zz s''=>E e s'') (fun e' s''=>E e' s'') s':=by
 obtain ⟨a,F2,ss2,h',tk,rfl,x,rfl,hm⟩:=m.ex
 have hhF2:=hF.ext x
 obtain ⟨hk,L,o,hf,ho,hd,hn,hT,h0⟩:=hhF2 env (List.mem_cons_self ..)
 let base:=hideAll ss2.heap (frs (env :: l))
 have hmem:∀ env' ∈ env :: l,∀ L',env'.frame = some L' -> L' ∈ frs (env :: l):=fun env' he L' hf'=>List.mem_filterMap.mpr ⟨env',he,hf'⟩
 have hff:ss2.heap.FunFrames base (env :: l):=fun_frames fun env' he=>by
  obtain ⟨hk',L',o',hf',ho',hd',_⟩:=hhF2 env' he
  exact ⟨hk',L',o',hf',ho',hd',frs_none (hmem env' he L' hf')⟩
 have notfr:=frames_not hhF2
 have hb:∀ b o,ss2.heap.get? b = some o -> b ∉ frs (env :: l) -> base.get? b = some o:=fun b o e hnb=>hideAll_get _ e hnb
 have hfl:frs (env :: l) = L :: frs l:=by unfold frs; rw [List.filterMap_cons,hf]
 have x2:=x0.trans x B.glob.tabs_there
 refine wpAny_leaves_madeW (h:=ss2.heap) (base:=base) hfr hf (fun b o q=>of_hideAll _ q) hff (Heap.MadeExc.of hm) fun hh3 t f1 f2 f3 f4=>hQ a F2 base _ rfl ⟨⟨t,tk,f1,f2,f3⟩,fun b o hT' hnl e=>?_,fun b o e=>?_,x2.le,x2.new,gl_base x.glob notfr hb,?_,x2.os,x2.gens⟩
 ·refine hb b o (x2.keep b o hT' e) fun hm=>?_
  rw [hfl] at hm
  rcases List.mem_cons.mp hm with q | q
  ·rw [q,hL0 L hf] at e; cases e
  ·exact hnl q
 ·exact hb b o (x.fz b o e) fun hm=>by rw [(notfr b hm).1] at e; cases e
 ·exact Heap.UpToSlots.trans (slots_of B.glob x2.keep) ((Heap.UpToSlots.of_keeps hm.keeps).trans f4)
theorem leave_on {ss0:Shared} {l:List Env} {msg:Str} {env:Env} {a:Addr} {base:Heap} (B:Base X F [] ss0) (x0:Ext X F F ss0 s) (hL0:∀ L,env.frame = some L -> ss0.heap.get? L = none) (hfr:A.frames = some (env :: l)) (hL:∃ L,env.frame = some L) (m:Fly X (env :: l) F F' s s' a msg base) (hQ:∀ s'',Fly X l F F' ss0 s'' a msg base -> E (.ref a) s'') :
  wpAny X.M A (leaving env (.ref a)) (fun zz s''=>E (.ref a) s'') (fun e' s''=>E e' s'') s':=by
 obtain ⟨L,hf⟩:=hL
 obtain ⟨t,tk,f1,f2,f3⟩:=m.fly
 have hfl:frs (env :: l) = L :: frs l:=by unfold frs; rw [List.filterMap_cons,hf]
 refine wpAny_leaves_onW hfr hf f1 fun h' g1 g2=>hQ _ ⟨⟨t,tk,g1,f2.of_slots g2,f3⟩,fun b o hT hnl e=>?_,m.fzB,m.le,fun b=>?_,m.glob,((slots_of B.glob x0.keep).trans m.slots).trans g2,m.os.trans x0.os,x0.gens.trans m.gens⟩
 ·refine m.keepB b o hT (fun hm=>?_) (x0.keep b o hT e)
  rw [hfl] at hm
  rcases List.mem_cons.mp hm with q | q
  ·rw [q,hL0 L hf] at e; cases e
  ·exact hnl q
 ·rcases m.new b with q | q
  ·exact .inl q
  ·right
   cases e:ss0.heap.get? b with
   | none=>rfl
   | some o=>
    by_cases hT:b ∈ X.T
    ·obtain ⟨o',ho'⟩:=x0.glob.tabs_there b hT; rw [q] at ho'; cases ho'
    ·rw [x0.keep b o hT e] at q; cases q
noncomputable def CallE (X:Cx) (n:Nat) (fv:Value) (ns:List Str) (ds es:List D) (msg:Str):Prop:=
 ∀ (A:Around) (l:List Env) F s vs us,Room A n -> A.frames = some l -> FramesOk X F s l -> Base X F [] s -> RdL X F vs ds -> RdL X F us es -> wpAny X.M A (call fv vs (ns.zip us)) (fun zz zz=>False) (fun e s'=>∃ a F' base,e = .ref a /\ Fly X l F F' s s' a msg base) s
noncomputable def BodyE (X:Cx) (F:FS) (l:List Env) (msg:Str) (s:Shared) (e:Value) (s':Shared):Prop:=Made X F s msg e s' \/ ∃ a F' base,e = .ref a /\ Fly X l F F' s s' a msg base
theorem callE_def {fa:Addr} {o:Obj} {fd:FuncData} {body:List Stmt} {ks:List Str} {ds es gs:List D} {msg:Str} {n:Nat} {ns:List Str} (ho:X.K.lookup fa = some o) (hd:o.data = .func fd) (ok:DefOk X fd body) (hnd:ns.Nodup) (hkind:∀ x ∈ ns,fd.scope.names.lookup x = some .local \/ fd.scope.names.lookup x = some .cell) (hnl:ns.length = gs.length)
  (hbind:∀ F s vs us,Base X F [] s -> RdL X F vs ds -> RdL X F us es -> ∃ ws,BindsTo s fd ⟨vs,ks.zip us⟩ (ns.zip ws) /\ RdL X F ws gs)
  (h:∀ (A:Around) L l F s,Room A n -> A.frames = some (fenv fd L fa :: l) -> FramesOk X F s (fenv fd L fa :: l) -> Inv X (fenv fd L fa) F (ns.zip gs) [] s -> wpAny X.M A (execs body (fenv fd L fa)) (fun zz zz=>False) (fun e s'=>BodyE X F (fenv fd L fa :: l) msg s e s') s):CallE X (n + 1) (.ref fa) ks ds es msg:=by
 intro A l F s vs us hR hfr hF B r rk
 obtain ⟨ws,hb,rw'⟩:=hbind F s vs us B r rk
 refine call_def (ds:=gs) B (by have:=hR.d; omega) (B.glob.k _ _ ho) hd ok hb rw' (by rw [hnl,<- rw'.length]) hnd hkind fun L ss2 hL I x hC=>?_
 have hR':=hR.deeper (fenv fd L fa)
 have hfr':(A.deeper (fenv fd L fa)).frames = some (fenv fd L fa :: l):=Around.frames_deeper hfr
 obtain ⟨m,hns,_⟩:=I.ns
 have hF':FramesOk X F ss2 (fenv fd L fa :: l):=fun env he=>by
  rcases List.mem_cons.mp he with rfl | he
  ·obtain ⟨oL,es',ep,e1,e2,_⟩:=hns
   exact ⟨by rw [show (fenv fd L fa).scope = fd.scope from rfl,ok.kind]; decide,L,oL,rfl,e1,(fun vs q=>by rw [e2] at q; cases q),I.loc.1,I.loc.2.2,I.locals_new⟩
  ·exact hF.ext x env he
 refine wpAny_mono (h _ L l F ss2 hR' hfr' hF' I) (fun zz zz q=>q.elim) fun e s' he=>?_
 rcases he with hm | ⟨a,F',base,rfl,hm⟩
 ·exact leave_made (E:=fun e s''=>∃ a F' base,e = .ref a /\ Fly X l F F' s s'' a msg base) B x (fun L' q=>by cases q; exact hL) hfr' hF' hm fun a F2 base s'' e hfy=>⟨a,F2,base,e,hfy⟩
 ·exact leave_on (E:=fun e s''=>∃ a F' base,e = .ref a /\ Fly X l F F' s s'' a msg base) B x (fun L' q=>by cases q; exact hL) hfr' ⟨L,rfl⟩ hm fun s'' hfy=>⟨a,F',base,rfl,hfy⟩
end
end
section
noncomputable def neg:Str := "lo must be non-negative"
section
variable {X:Cx} {P:Params} {A:Around} {env:Env} {Γ:Loc} {Ω:Own} {F F':FS} {s s':Shared} {EE:Value -> Shared -> Prop}
abbrev NoQ {α:Type}:α -> Shared -> Prop:=fun zz zz=>False
theorem raise_first {t:Expr} {m:Str} {k:Nat} {np sp cpos rp ip:Pos} {rest:List Stmt} (hh:A.handled = none) (I:Inv X env F Γ Ω s) (ht:EvT X A env Γ Ω t true) (hv:Ev X A env Γ Ω (.Name "ValueError" np) (.val (.type "ValueError")))
  (he:starEach [Expr.Constant (.str m) k sp] env = (false,eval (.Constant (.str m) k sp) env) :: starEach [] env:=by rfl) :
  wpAny X.M A (execs (.If t [.Raise (some (.Call (.Name "ValueError" np) [.Constant (.str m) k sp] [] cpos)) none rp] [] ip :: rest) env) NoQ (fun e s'=>Made X F s m e s') s:=by
 rw [arm_execs_cons]
 refine wpAny_bind (PySem.wpAny_If (evt_then I (ht F s I) fun F1 ss1 x I1=>?_))
 show wpAny X.M A (execs [.Raise (some (.Call (.Name "ValueError" np) [.Constant (.str m) k sp] [] cpos)) none rp] env) _ _ ss1
 rw [arm_execs_cons]
 refine wpAny_bind (Raise_madeB PySem.F.excCall_ValueError PySem.F.excRaise_ValueError hh (res_then I1 (hv F1 ss1 I1) fun v F2 ss2 xx2 I2 r=>?_) he rfl)
 cases r
 refine ⟨rfl,?_⟩
 refine wpAny_mono (evl_cons ev_str evl_nil he cpos F2 ss2 I2) (fun vs ss3 hh3=>?_) fun zz zz e=>e.elim
 obtain ⟨F3,xx3,rr3⟩:=hh3
 obtain ⟨w,rfl⟩:=rdl1 rr3
 cases rr3 with
 | cons rr3 _=>
  cases rr3
  refine ⟨by rw [sizeLine_eq]; simp,fun h' e hm=>⟨e,F3,ss3,h',_,rfl,(x.trans xx2 I.glob.tabs_there).trans xx3 I.glob.tabs_there,rfl,hm⟩⟩
theorem raise_if {t:Expr} {body orelse rest:List Stmt} {ip:Pos} {b:Bool} (I:Inv X env F Γ Ω s) (ht:EvT X A env Γ Ω t b) (h1:b = true -> ∀ F1 ss1,Ext X F F1 s ss1 -> Inv X env F1 Γ Ω ss1 -> wpAny X.M A (execs body env) NoQ EE ss1) (h2:b = false -> ∀ F1 ss1,Ext X F F1 s ss1 -> Inv X env F1 Γ Ω ss1 -> wpAny X.M A (execs orelse env) NoQ EE ss1):wpAny X.M A (execs (.If t body orelse ip :: rest) env) NoQ EE s:=by
 rw [arm_execs_cons]
 refine wpAny_bind (PySem.wpAny_If (evt_then I (ht F s I) fun F1 ss1 x I1=>?_))
 cases b with
 | true=>exact wpAny_mono (h1 rfl F1 ss1 x I1) (fun zz zz q=>q.elim) fun zz zz e=>e
 | false=>exact wpAny_mono (h2 rfl F1 ss1 x I1) (fun zz zz q=>q.elim) fun zz zz e=>e
theorem raise_assign {x:Str} {p pos:Pos} {value:Expr} {rest:List Stmt} (h:wpAny X.M A (eval value env) NoQ EE s) (hs:swapsWith value (some (.Name x p)) pos.line env = pure false:=by rfl):wpAny X.M A (execs (.Assign [.Name x p] value pos :: rest) env) NoQ EE s:=by
 rw [arm_execs_cons]
 exact wpAny_bind (PySem.wpAny_Assign_Name (Q:=_) (wpAny_mono h (fun zz zz q=>q.elim) fun zz zz e=>e) hs)
theorem Fly.after {l:List Env} {F1:FS} {ss1:Shared} {a:Addr} {msg:Str} {base:Heap} (g:Gl X F s.heap) (x:Ext X F F1 s ss1) (f:Fly X l F1 F' ss1 s' a msg base):Fly X l F F' s s' a msg base:=
 ⟨f.fly,fun b o hT hl e=>f.keepB b o hT hl (x.keep b o hT e),f.fzB,fun a o e=>f.le a o (x.le a o e),(fun b=>by
  rcases f.new b with q | q
  ·rw [q]; exact x.new b
  ·right
   cases e:s.heap.get? b with
   | none=>rfl
   | some o=>
    by_cases hT:b ∈ X.T
    ·obtain ⟨o',ho'⟩:=x.glob.tabs_there b hT; rw [q] at ho'; cases ho'
    ·rw [x.keep b o hT e] at q; cases q),f.glob,(slots_of g x.keep).trans f.slots,f.os.trans x.os,x.gens.trans f.gens⟩
theorem op_ltb {i j:Int} {b:Bool} (h:decide (i < j) = b):Op2 X A env Γ Ω (compareOp .Lt) (.int i) (.int j) (.bool b):=h ▸ op_lt
theorem def_e (hX:XOk X P) {a:Addr} {ns ks:List Str} {ds es gs:List D} {msg:Str} {n:Nat} (hc:defChk P a = true) (hb:(match (fdOf P a).body with | .stmts _=>true | _=>false) = true) (hk:kindChk P a ns = true) (hn:ns.length = gs.length)
  (hbind:∀ F s vs us,Base X F [] s -> RdL X F vs ds -> RdL X F us es -> ∃ ws,(∀ S,peek (KK P) S (bindArgs (fdOf P a) ⟨vs,ks.zip us⟩) = some (ns.zip ws)) /\ RdL X F ws gs)
  (h:∀ (A:Around) L l F s,Room A n -> A.frames = some (envF P a L :: l) -> FramesOk X F s (envF P a L :: l) -> Inv X (envF P a L) F (ns.zip gs) [] s -> wpAny X.M A (execs (fbK P a) (envF P a L)) NoQ (fun e s'=>BodyE X F (envF P a L :: l) msg s e s') s):CallE X (n + 1) (.ref a) ks ds es msg:=by
 obtain ⟨⟨o,ho,hd⟩,ok⟩:=def_ok hX hc (body_ok hb)
 obtain ⟨k1,k2⟩:=kind_ok hk
 refine callE_def ho hd ok k1 k2 hn (fun F s vs us B r rk=>?_) h
 obtain ⟨ws,h1,h2⟩:=hbind F s vs us B r rk
 exact ⟨ws,kp_binds (K:=KK P) (by rw [<- hX.k]; exact B.glob.k) h1,h2⟩
theorem e_bisl (hX:XOk X P) (d dx:D) (lo:Int) (hlo:lo < 0):CallE X 1 (.ref 71) [] [d,dx,.int lo,.none] [] neg:=by
 refine def_e (n:=0) (ns:=["a", "x", "lo", "hi", "key"]) (gs:=[d,dx,.int lo,.none,.none]) hX (by kernel_rfl) (by kernel_rfl) (by kernel_rfl) rfl (fun F s vs us B r rk=>?_) fun A L l F s hA hfr hF I=>?_
 ·obtain ⟨v,w,u,y,rfl,r1,r2,r3,r4⟩:=rdl4 r
  rw [rdl0 rk]
  exact ⟨[v,w,u,y,.none],fun S=>by kernel_rfl,.cons r1 (.cons r2 (.cons r3 (.cons r4 (.cons .none .nil))))⟩
 ·refine wpAny_mono (raise_first (m:=neg) hA.h I (evt_cmp (dd1:=.int lo) (dd2:=.int 0) (b:=true) va ev_int (op_ltb (decide_eq_true hlo)) rfl) (eb hX)) (fun zz zz q=>q) fun e s' m=>.inl m
theorem e_bisr (hX:XOk X P) (d dx df:D) (lo:Int) (hlo:lo < 0):CallE X 1 (.ref 53) ["key"] [d,dx,.int lo,.none] [df] neg:=by
 refine def_e (n:=0) (ns:=["a", "x", "lo", "hi", "key"]) (gs:=[d,dx,.int lo,.none,df]) hX (by kernel_rfl) (by kernel_rfl) (by kernel_rfl) rfl (fun F s vs us B r rk=>?_) fun A L l F s hA hfr hF I=>?_
 ·obtain ⟨v,w,u,y,rfl,r1,r2,r3,r4⟩:=rdl4 r
  obtain ⟨z,rfl⟩:=rdl1 rk
  exact ⟨[v,w,u,y,z],fun S=>by kernel_rfl,.cons r1 (.cons r2 (.cons r3 (.cons r4 rk)))⟩
 ·refine wpAny_mono (raise_first (m:=neg) hA.h I (evt_cmp (dd1:=.int lo) (dd2:=.int 0) (b:=true) va ev_int (op_ltb (decide_eq_true hlo)) rfl) (eb hX)) (fun zz zz q=>q) fun e s' m=>.inl m
theorem e_insl (hX:XOk X P) (d dx:D) (lo:Int) (hlo:lo < 0):CallE X 2 (.ref 62) [] [d,dx,.int lo] [] neg:=by
 refine def_e (n:=1) (ns:=["a", "x", "lo", "hi", "key"]) (gs:=[d,dx,.int lo,.none,.none]) hX (by kernel_rfl) (by kernel_rfl) (by kernel_rfl) rfl (fun F s vs us B r rk=>?_) fun A L l F s hA hfr hF I=>?_
 ·obtain ⟨v,w,u,rfl,r1,r2,r3⟩:=rdl3 r
  rw [rdl0 rk]
  exact ⟨[v,w,u,.none,.none],fun S=>by kernel_rfl,.cons r1 (.cons r2 (.cons r3 (.cons .none (.cons .none .nil))))⟩
 ·refine raise_if (b:=true) I (evt_cmp va ev_none (op_isNone (d:=.none) (fun v=>by simp)) rfl) (fun zz F1 ss1 x I1=>raise_assign ?_) (fun q=>nomatch q)
  refine call_rule (fe:=.Name "a" ⟨0,0,0,0⟩) (ds:=[d,dx,.int lo,.none]) I1 (eg (v:=.ref 71) hX) (fun zz zz=>kp_k (by rw [hX.k]; kernel_rfl)) (evl_cons va (evl_cons va (evl_cons va (evl_cons va evl_nil rfl) rfl) rfl) rfl) rfl rfl fun F2 ss2 vs xx2 I2 rr2=>?_
  refine wpAny_mono (e_bisl hX d dx lo hlo A _ F2 ss2 vs [] hA hfr ((hF.ext x).ext xx2) I2.base.nil rr2 .nil) (fun zz zz q=>q) fun e s' ⟨a,F',base,e1,f⟩=>.inr ⟨a,F',base,e1,(f.after I1.glob xx2).after I.glob x⟩
theorem e_insr (hX:XOk X P) {fd:FuncData} (d dx dk:D) (lo:Int) (hlo:lo < 0) (hK:KeyF X 1 fd [] [] [dx] dk):CallE X 2 (.ref 44) ["key"] [d,dx,.int lo] [.fn fd [] []] neg:=by
 refine def_e (n:=1) (ns:=["a", "x", "lo", "hi", "key"]) (gs:=[d,dx,.int lo,.none,.fn fd [] []]) hX (by kernel_rfl) (by kernel_rfl) (by kernel_rfl) rfl (fun F s vs us B r rk=>?_) fun A L l F s hA hfr hF I=>?_
 ·obtain ⟨v,w,u,rfl,r1,r2,r3⟩:=rdl3 r
  obtain ⟨z,rfl⟩:=rdl1 rk
  exact ⟨[v,w,u,.none,z],fun S=>by kernel_rfl,.cons r1 (.cons r2 (.cons r3 (.cons .none rk)))⟩
 ·refine raise_if (b:=false) I (evt_cmp va ev_none (op_isNone (d:=.fn fd [] []) (fun v=>by simp)) rfl) (fun q=>nomatch q) (fun zz F1 ss1 x I1=>raise_assign ?_)
  refine call_rule_kw (ds:=[d,dk,.int lo,.none]) (es:=[.fn fd [] []]) (ns:=["key"]) I1 (eg (v:=.ref 53) hX) (fun zz zz=>kp_k (by rw [hX.k]; kernel_rfl)) (evl_cons va (evl_cons (ev_call_fn (hA.le (by decide)) (fd:=fd) (cs:=[]) (es:=[]) va (evl_cons va evl_nil rfl) hK rfl rfl) (evl_cons va (evl_cons va evl_nil rfl) rfl) rfl) rfl) (evk_cons va evk_nil) rfl rfl rfl rfl fun F2 ss2 vs us xx2 I2 rr2 rr3=>?_
  refine wpAny_mono (e_bisr hX d dk (.fn fd [] []) lo hlo A _ F2 ss2 vs us hA hfr ((hF.ext x).ext xx2) I2.base.nil rr2 rr3) (fun zz zz q=>q) fun e s' ⟨a,F',base,e1,f⟩=>.inr ⟨a,F',base,e1,(f.after I1.glob xx2).after I.glob x⟩
end
end
section
section
variable {X:Cx} {P:Params} {A:Around} {env:Env} {Γ:Loc} {Ω:Own} {F F':FS} {s s':Shared} {EE:Value -> Shared -> Prop}
theorem Inv.caught {a:Addr} {msg:Str} {base:Heap} {s'':Shared} (I:Inv X env F Γ Ω s) (f:Fly X [env] F F' s s' a msg base) (hf:env.frame = some env.locals) (hs:base.StaysIn s''.heap) (hu:s.heap.UpToSlots s''.heap):Inv X env F' Γ Ω s'':=by
 have hfr:frs [env] = [env.locals]:=by unfold frs; rw [List.filterMap_cons,hf]; rfl
 have keep:∀ b o,b ∉ X.T -> b ≠ env.locals -> s.heap.get? b = some o -> s''.heap.get? b = some o:=fun b o hT hb e=>hs b o (f.keepB b o hT (by rw [hfr]; simpa using hb) e)
 have nF:∀ b o,s.heap.get? b = some o -> F b = none -> F' b = none:=fun b o e h=>by
  rcases f.new b with q | q
  ·rw [q]; exact h
  ·rw [e] at q; cases q
 exact {
  eo:=I.eo
  glob:=f.glob _ hs
  fb:=fun b o hb e=>f.le b o (I.fb b o hb e)
  fz:=fun a o e=>hs a o (f.fzB a o e)
  ns:=by
   obtain ⟨m,hn,hm⟩:=I.ns
   exact ⟨m,hu.ns hn,fun y d h1 h2=>let ⟨v,hv,r⟩:=hm y d h1 h2; ⟨v,hv,r.mono f.le⟩⟩
  cl:=fun y d h1 h2=>by
   obtain ⟨c,v,hc,⟨o,ho,hd⟩,r⟩:=I.cl y d h1 h2
   obtain ⟨_,q1,q2,q3,q4⟩:=I.cells y c (mem_of_lookup hc)
   exact ⟨c,v,hc,⟨o,keep c o q4 q2 ho,hd⟩,r.mono f.le⟩
  cells:=fun n c hm=>by
   obtain ⟨⟨v,o,ho,hd⟩,q1,q2,q3,q4⟩:=I.cells n c hm
   exact ⟨⟨v,o,keep c o q4 q2 ho,hd⟩,nF c o ho q1,q2,q3,q4⟩
  apart:=I.apart
  loc:=by
   obtain ⟨m,⟨oL,es,ep,ho,_⟩,_⟩:=I.ns
   exact ⟨nF _ oL ho I.loc.1,I.loc.2⟩
  own:=fun p hp=>by
   obtain ⟨h1,h2,h3⟩:=I.own p hp
   obtain ⟨o,ho⟩:=h1.some
   refine ⟨h1.keep f.le fun o e=>keep p.1 o h3 (fun q=>?_) e,nF _ o ho h2,h3⟩
   exact I.loc.2.1 (q ▸ List.mem_map_of_mem (f:=(·.1)) hp)
  nd:=I.nd
  tF:=fun P hP=>by
   obtain ⟨ps,e,_⟩:=I.glob.tabs_ok P hP
   exact nF P _ e (I.tF P hP) }
theorem Fly.extS {a:Addr} {msg:Str} {base:Heap} {s'':Shared} (f:Fly X [env] F F' s s' a msg base) (hf:env.frame = some env.locals) (hs:base.StaysIn s''.heap) (ho:s''.os = s'.os) (hg:s''.gens = s'.gens):ExtS X env Ω Ω F F' s s'' where
 le:=f.le
 new:=fun b=>(f.new b).imp id .inl
 keep:=fun b o hT hl zz zz e=>hs b o (f.keepB b o hT (by
  have hfr:frs [env] = [env.locals]:=by unfold frs; rw [List.filterMap_cons,hf]; rfl
  rw [hfr]; simpa using hl) e)
 dom:=fun a h=>.inl h
 os:=ho.trans f.os
 gens:=hg ▸ f.gens
theorem Fly.notT {l:List Env} {a:Addr} {msg:Str} {base:Heap} (f:Fly X l F F' s s' a msg base) {b:Addr} (h:base.get? b = none):b ∉ X.T:=fun hT=>by
 obtain ⟨ps,e,_⟩:=(f.glob base fun zz zz e=>e).tabs_ok b hT
 rw [h] at e; cases e
theorem inv_goes {n:Str} {h':Heap} {tk:Nat} {m:Str -> Option Value} {u:Option Value} (I:Inv X env F Γ Ω s) (hg:∀ d,Γ.lookup n ≠ some d)
  (hm:∀ x d,Γ.lookup x = some d -> env.kindOf x = some .local -> ∃ v,m x = some v /\ Rd X F v d)
  (hn:h'.Ns env.locals (fun y=>if y = n then u else m y)) (hs:Heap.SameBut env.locals s.heap h'):Inv X env F Γ Ω { s with heap:=h',toks:=tk } /\ ExtM X (StM env [n]) F F s { s with heap:=h',toks:=tk }:=by
 have k:∀ b o,b ≠ env.locals -> s.heap.get? b = some o -> h'.get? b = some o:=fun b o hb e=>(hs.2 b hb).trans e
 refine ⟨⟨I.eo,?_,I.fb,fun a o e=>k a o (fun q=>by rw [q,I.loc.1] at e; cases e) (I.fz a o e),⟨_,hn,fun y e hy hl=>?_⟩,fun y e hy hl=>?_,fun n c hc=>?_,I.apart,I.loc,fun p hp=>?_,I.nd,I.tF⟩,fun zz zz e=>e,fun zz=>.inl rfl,fun b o zz m e=>k b o (fun q=>m (.inl q)) e,rfl,.refl _⟩
 ·exact I.glob.but (M:=(· = env.locals)) (fun a e=>by subst e; exact ⟨I.locals_new,I.loc.2.2⟩) k
 ·have hx:y ≠ n:=fun q=>hg e (q ▸ hy)
  simp only [hx,if_false]
  exact hm y e hy hl
 ·obtain ⟨c,u,h1,h2,h3⟩:=I.cl y e hy hl
  exact ⟨c,u,h1,h2.sameBut hs (I.cells y c (mem_of_lookup h1)).2.2.1,h3⟩
 ·obtain ⟨⟨u,h1⟩,h2,h3,h4⟩:=I.cells n c hc
  exact ⟨⟨u,h1.sameBut hs h3⟩,h2,h3,h4⟩
 ·obtain ⟨h1,h2,h3⟩:=I.own p hp
  exact ⟨h1.keep (fun zz zz e=>e) fun o e=>k _ o (fun q=>I.loc.2.1 (q ▸ List.mem_map_of_mem hp)) e,h2,h3⟩
set_option tactic.hygienic true in
theorem ex_try {body:List Stmt} {np hp pos ap xp sp vp cp:Pos} {n x:Str} {msg:Str} {R:PostP} (hfr:A.frames = some [env]) (hf:env.frame = some env.locals) (hu:A.units + 8 < cLine)
  (hbody:∀ F s,Inv X env F Γ Ω s -> FramesOk X F s [env] -> wpAny X.M A (execs body env) NoQ (fun e s'=>∃ a F' base,e = .ref a /\ Fly X [env] F F' s s' a msg base) s)
  (hkv:env.kindOf "ValueError" = some .globalImplicit) (hev:nsIn X.K mainGlobals "ValueError" = some none) (hks:∀ A' Γ',Ev X A' env Γ' Ω (.Name "str" sp) (.val (.type "str")))
  (hln:env.kindOf n = some .local) (hgn:Γ.lookup n = none) (hxn:x ≠ n) (hkx:Storable env x) (hsw:swapsWith (.Call (.Name "str" sp) [.Name n vp] [] cp) (some (.Name x xp)) ap.line env = pure false) (hd1:(n == ("__debug__" : Str)) = false) (hd2:(n == ("__classdict__" : Str)) = false)
  (he:starEach [Expr.Name n vp] env = (false,eval (.Name n vp) env) :: starEach [] env) (hr:R .next (upd Γ x (.str msg)) Ω) :
  Ex X A env Γ Ω (.Try body [.ExceptHandler (some (.Name "ValueError" np)) (some n) [.Assign [.Name x xp] (.Call (.Name "str" sp) [.Name n vp] [] cp) ap] hp] [] [] pos) R:=by
 refine ⟨?_⟩
 intro F s I
 have hFr:FramesOk X F s [env]:=fun e' he'=>by
  rw [List.mem_singleton.mp he']
  obtain ⟨m,⟨oL,es,ep,ho,hd,_⟩,_⟩:=I.ns
  exact ⟨by rw [I.eo.kind]; decide,env.locals,oL,hf,ho,(fun vs q=>by rw [hd] at q; cases q),I.loc.1,I.loc.2.2,I.locals_new⟩
 refine wpAny_Try_except (wpAny_mono (hbody F s I hFr) (fun zz zz q=>q.elim) fun e ss1 hh1=>?_)
 obtain ⟨a,F',base,rfl,f⟩:=hh1
 obtain ⟨t,tk,f1,f2,f3⟩:=f.fly
 refine wpAny_looks_onW hfr hf f1 fun hh2 g2 u2=>wpAny_landsW g2 fun hh3 g3 u3=>?_
 obtain ⟨oe,ws,hoe,hoec,hoed,hoe0⟩:=g3.first
 have I3:=I.caught f hf (s'':={ ss1 with heap:=hh3 }) g3.1 ((f.slots.trans u2).trans u3)
 refine wpAny_handleBy_builtin_as (X := "ValueError") (T := "ValueError") (b:=true) (by kernel_rfl) (by kernel_rfl) (by kernel_rfl) ?_
 refine Name_function_global I.eo.kind hkv ?_ (by kernel_rfl)
 refine loadGlobal_builtin (mg:=X.mg) (mb:=X.mb) (by rw [I.eo.gl]; exact I3.glob.g) (I3.glob.mg_none hev) (by rw [I.eo.bi]; exact I3.glob.b) ((I3.glob.ok.hb _ (by decide)).trans PyProof.Rows.Boot.«ValueError») ?_
 refine ⟨rfl,⟨oe,hoe,hoec⟩,?_⟩
 rw [if_pos rfl]
 refine lands_againW g3 fun hh4 g4 u4=>?_
 obtain ⟨oe,ws,hoe,hoec,hoed,hoe0⟩:=g4.first
 have u04:s.heap.UpToSlots hh4:=((f.slots.trans u2).trans u3).trans u4
 have I4:Inv X env F' Γ Ω { ss1 with heap:=hh4 }:=I.caught f hf g4.1 u04
 have xx4:ExtS X env Ω Ω F F' s { ss1 with heap:=hh4 }:=f.extS hf g4.1 rfl rfl
 have ht4:hh4.TupAt t [.str msg tk]:=((f2.of_slots u2).of_slots u3).of_slots u4
 have haT:a ∉ X.T:=f.notT g4.2.1
 have htT:t ∉ X.T:=f.notT f3
 have hal:a ≠ env.locals:=fun q=>by
  obtain ⟨m,⟨oL,es,ep,ho,hd,_⟩,_⟩:=I4.ns
  rw [q,ho] at hoe; cases hoe; rw [hd] at hoed; cases hoed
 have htl:t ≠ env.locals:=fun q=>by
  obtain ⟨m,⟨oL,es,ep,ho,hd,_⟩,_⟩:=I4.ns
  obtain ⟨ot,nt,hot,_,hotd⟩:=ht4
  rw [q,ho] at hot; cases hot; rw [hd] at hotd; cases hotd
 have hkn:(match env.kindOf n with | some .local=>true | some .cell=>(env.cells.lookup n).isSome | _=>false) = true:=by rw [hln]
 refine store_rule I4 (.val (.ref a)) hkn fun ss5 I5 x5=>?_
 have stm:∀ b,b ≠ env.locals -> ¬StM env [n] b:=fun b hb m=>by
  rcases m with q | ⟨y,hy,hc,_⟩
  ·exact hb q
  ·rw [List.mem_singleton.mp hy,hln] at hc; cases hc
 have hoe5:=x5.keep a oe haT (stm a hal) hoe
 obtain ⟨ot,nt,hot,hotc,hotd⟩:=ht4
 have hot5:=x5.keep t ot htT (stm t htl) hot
 rw [arm_execs_cons]
 refine wpAny_bind (PySem.wpAny_Assign_Name (Q:=_) ?_ hsw)
 have hvn:Ev X (A.mark (some (.ref a))) env (upd Γ n (.val (.ref a))) Ω (.Name n vp) (.val (.ref a)):=ev_var (by rw [upd_lookup,if_pos rfl]) (by unfold IsVar isVar; rw [hln]) hd1 hd2
 refine call_rule (fe:=.Name n vp) I5 (hks _ _) (fun zz zz=>kp_t) (evl_cons hvn evl_nil he) he rfl fun F6 ss6 vs x6 I6 r6=>?_
 obtain ⟨v,rfl⟩:=rdl1 r6
 cases r6 with
 | cons r6 _=>
  cases r6
  have hoe6:=x6.keep a oe haT hoe5
  have hot6:=x6.keep t ot htT hot5
  refine PySem.P.str_of_exc_one PySem.F.excStr_ValueError (by show A.units + 2 < cLine; omega) ⟨oe,ws,hoe6,hoec,hoed,hoe0⟩ ⟨ot,nt,hot6,hotc,hotd⟩ ?_
  refine store_rule I6 (.str msg tk) hkx fun ss7 I7 x7=>?_
  rw [arm_execs_nil]
  refine wpAny_pure ?_
  have I7':Inv X env F6 (upd Γ x (.str msg)) Ω ss7:=I7.weak fun y d h=>by
   rw [upd_lookup] at h ⊢
   by_cases hy:y = x
   ·rw [if_pos hy] at h ⊢; exact h
   ·rw [if_neg hy] at h ⊢
    rw [upd_lookup,if_neg (fun q=>by rw [q,hgn] at h; cases h)]
    exact h
  obtain ⟨m,hns,hm⟩:=I7'.ns
  refine wpAny_nameGoes_keeps hln hns (by rw [I.eo.kind]; rfl) fun hh8 u hn8 hs8=>?_
  obtain ⟨I8,x8⟩:=inv_goes (tk:=ss7.toks + 1) I7' (fun d h=>by rw [upd_lookup,if_neg (Ne.symm hxn),hgn] at h; cases h) hm hn8 hs8
  have y5:ExtS X env Ω Ω F' F' _ ss5:=x5.toS
  have y6:ExtS X env Ω Ω F' F6 ss5 ss6:=x6.toS
  have y7:ExtS X env Ω Ω F6 F6 ss6 ss7:=x7.toS
  have y8:ExtS X env Ω Ω F6 F6 ss7 _:=x8.toS
  exact ⟨F6,_,Ω,.next,hr,trivial,I8,(((xx4.trans I I4 I5 y5).trans I I5 I6 y6).trans I I6 I7 y7).trans I I7' I8 y8⟩
end
end
section
section
variable {X:Cx} {A:Around} {env:Env} {Γ Γ0:Loc} {Ω:Own} {F F':FS} {s s':Shared}
theorem turn_list_new {e elt:Expr} {gens:List Comprehension} {depth:Nat} {ns:List Str} {ds:List D} {c:OC} {R:OC -> Own -> Prop} (hn:gens[depth + 1]? = none)
  (hd:∀ D,EvO X A env Γ ((D,.lst ds) :: Ω) elt c) (hw:Sub Γ0 Γ) (hr:∀ a,R (.lst (ds ++ [.val (.ref a)])) ((a,c) :: Ω)) (hz:ds.length <= 1000) :
  Turn X A env Γ Γ0 Ω (.lst ds) e gens (emitL elt) depth [] ns R:=by
 refine ⟨fun D F s I k Q E hk=>?_⟩
 unfold bodyS
 rw [hn]
 refine wpAny_bind (evt_then I (tests_nil.run F s I) fun F1 ss1 x1 I1=>wpAny_bind ?_)
 refine wpAny_bind (wpAny_mono ((hd D).run F1 ss1 I1) (fun v ss2 hh2=>?_) fun zz zz e=>e.elim)
 obtain ⟨a,F2,rfl,xx2,hfa,I2⟩:=hh2
 have I3:=I2.perm (Ω':=(D,.lst ds) :: (a,c) :: Ω) (fun p hp=>(List.Perm.swap ..).subset hp) ((List.Perm.swap (D,OC.lst ds) (a,c) Ω).map (fun p:Addr × OC=>p.1) |>.nodup_iff.mp I2.nd)
 obtain ⟨⟨vs,hl,rl⟩,_⟩:=I3.own _ (List.mem_cons_self ..)
 refine wpAny_bind (wpAny_list_append_plain hl (fun h' hl' hs=>wpAny_pure ?_) (by rw [<- Array.length_toList,rl.length]; exact Nat.le_trans hz (by decide)))
 have I4:=I3.setHd (tk:=ss2.toks) (c':=.lst (ds ++ [.val (.ref a)])) hs ⟨_,hl',by rw [Array.toList_push]; exact rl.append (.one (.val _))⟩
 exact hk F2 _ ((a,c) :: Ω) _ (hr a) (I4.weak hw) (((x1.trans xx2 I.glob.tabs_there).toM).trans (ExtM.ofBut I3 (.inr rfl) hs) I2.glob fun b m=>⟨I.cm m,I4.cm m⟩) fun b hb=>(List.mem_cons.mp hb).elim (fun e=>.inr (e ▸ x1.fresh hfa)) .inl
noncomputable def rowsOf (as:List Addr) (ds:List (List D)):Own:=(as.zip ds).map fun p=>(p.1,OC.lst p.2)
theorem evs_rows {lp:Pos} {t iter:Expr} {scope:Scope} {pos:Pos} {ds:List D} {al:List Addr} (sc:ScopeOk env scope) (hns:∀ x ∈ tgtNames t,(x,NameKind.free) ∉ scope.names) (hit:EvIt X A env Γ Ω t iter ds al) (hz:ds.length <= 1000)
  (turn:∀ C Ω1 (d:D) (acc:List D),d ∈ ds -> ∃ Γ₁,(∀ D,AsgI X A (cenvOf scope env C) (capt scope.names Γ) ((D,.lst acc) :: Ω1) t d Γ₁) /\ Sub (capt scope.names Γ) Γ₁) (hf:∀ x,foldedSetIterable iter env x = pure x:=by intro _; rfl) :
  EvS X A env Γ Ω (.ListComp (.List [] lp) [⟨t,iter,[],0⟩] scope pos) (fun d Ω'=>∃ (D:Addr) (as:List Addr),d = .val (.ref D) /\ as.length = ds.length /\ Ω' = (D,.lst (as.map fun a=>.val (.ref a))) :: ((as.reverse.map fun a=>(a,OC.lst [])) ++ Ω)):=by
 refine ⟨?_⟩
 intro F s I
 have he:eval (.ListComp (.List [] lp) [⟨t,iter,[],0⟩] scope pos) env = comprehension (.ListComp (.List [] lp) [⟨t,iter,[],0⟩] scope pos) scope env (firstIterPos [⟨t,iter,[],0⟩] pos) (newList []) false (eval iter env):=by rw [arm_eval_ListComp]; rfl
 rw [he]
 refine comp_core (use:=none) (R:=fun c Ω'=>∃ as:List Addr,as.length = ds.length /\ c = .lst (as.map fun a=>.val (.ref a)) /\ Ω' = (as.reverse.map fun a=>(a,OC.lst [])) ++ Ω) I new_list ⟨isComp_list,sc,hf,⟨tgtNames t,ds,al,fun i c Ω'=>∃ as:List Addr,as.length = i /\ c = .lst (as.map fun a=>.val (.ref a)) /\ Ω' = (as.reverse.map fun a=>(a,OC.lst [])) ++ Ω,fun zz h=>h,hns,hit,⟨[],rfl,rfl,rfl⟩,fun C i d cc1 Ω1 hd h=>?_,fun zz zz h=>h⟩⟩ fun D C s' h=>?_
 ·obtain ⟨as,hl,rfl,rfl⟩:=h
  obtain ⟨Γ₁,h1,h2⟩:=turn C ((as.reverse.map fun a=>(a,OC.lst [])) ++ Ω) d (as.map fun a=>.val (.ref a)) (List.mem_of_getElem? hd)
  exact ⟨Γ₁,h1,turn_list_new rfl (fun D=>evo_list evl_nil (nle rfl)) h2 (fun a=>⟨as ++ [a],by rw [List.length_append,hl]; rfl,by rw [List.map_append]; rfl,by rw [List.reverse_append]; rfl⟩) (by rw [List.length_map,hl]; exact Nat.le_trans (Nat.le_of_lt (List.getElem?_eq_some_iff.mp hd).1) hz)⟩
 ·obtain ⟨F',c,Ω',m,⟨as,hl,rfl,rfl⟩,I',x,hO,hD,hn,hC,hC0⟩:=h
  refine ⟨m,hn,fun h' hs'=>?_⟩
  have y:=(x.letC I' hC hC0 hs').toS (env:=env) (Ω:=Ω)
  exact ⟨F',_,_,⟨D,as,rfl,hl,rfl⟩,.val _,I'.letC hC hs',y.le,y.new,y.keep,fun b hb=>(List.mem_cons.mp hb).elim (fun e=>.inr (e ▸ hD)) (hO b),y.os,y.gens⟩
end
end
section
section
variable {X:Cx} {A:Around} {env:Env} {Γ Γ0:Loc} {Ω:Own} {F F':FS} {s s':Shared}
theorem Inv.freezeR {a:Addr} {c:OC} (I:Inv X env F Γ ((a,c) :: Ω) s):∃ F',F.le F' /\ Rd X F' (.ref a) c.d /\ Inv X env F' Γ Ω s /\ ExtS X env ((a,c) :: Ω) Ω F F' s s:=by
 obtain ⟨q1,q2,q3⟩:=I.own _ (List.mem_cons_self ..)
 obtain ⟨o,ho⟩:=q1.some
 have hle:F.le (F.put a o):=put_le q2
 have nd:=List.nodup_cons.mp I.nd
 refine ⟨F.put a o,hle,own_rd q1 ho hle (FS.put_self ..),⟨I.eo,I.glob.mono hle,fun b p hb e=>hle b p (I.fb b p hb e),put_fz I.fz ho,?_,fun x d h1 h2=>?_,fun n c' hm=>?_,I.apart,?_,fun p hp=>?_,nd.2,fun P hP=>(FS.put_ne fun q:P = a=>q3 (q ▸ hP)).trans (I.tF P hP)⟩,hle,fun b=>?_,fun b p zz zz zz zz e=>e,fun b hb=>.inl (List.mem_cons_of_mem _ hb),rfl,.refl _⟩
 ·exact I.ns.elim fun m h=>⟨m,h.1,fun x d h1 h2=>(h.2 x d h1 h2).imp fun v q=>⟨q.1,q.2.mono hle⟩⟩
 ·obtain ⟨c',v,hc,hv,r⟩:=I.cl x d h1 h2
  exact ⟨c',v,hc,hv,r.mono hle⟩
 ·obtain ⟨e0,e1,e2,e3,e4⟩:=I.cells n c' hm
  exact ⟨e0,(FS.put_ne fun q:c' = a=>e3 (q ▸ List.mem_cons_self ..)).trans e1,e2,fun q=>e3 (List.mem_cons_of_mem _ q),e4⟩
 ·exact ⟨(FS.put_ne fun q:env.locals = a=>I.loc.2.1 (q ▸ List.mem_cons_self ..)).trans I.loc.1,fun q=>I.loc.2.1 (List.mem_cons_of_mem _ q),I.loc.2.2⟩
 ·obtain ⟨e1,e2,e3⟩:=I.own p (List.mem_cons_of_mem _ hp)
  exact ⟨e1.keep hle fun zz e=>e,(FS.put_ne fun q:p.1 = a=>nd.1 (q ▸ List.mem_map_of_mem (f:=(·.1)) hp)).trans e2,e3⟩
 ·by_cases hb:b = a
  ·exact .inr (.inr (hb ▸ List.mem_cons_self ..))
  ·exact .inl (FS.put_ne hb)
theorem Inv.freezeL:∀ {L:Own} {F:FS} (I:Inv X env F Γ (L ++ Ω) s),∃ F',F.le F' /\ (∀ p ∈ L,Rd X F' (.ref p.1) p.2.d) /\ Inv X env F' Γ Ω s /\ ExtS X env (L ++ Ω) Ω F F' s s
 | [],F,I=>⟨F,fun zz zz e=>e,(fun p hp=>nomatch hp),I,⟨fun zz zz e=>e,fun zz=>.inl rfl,fun zz zz zz zz zz zz e=>e,fun b hb=>.inl hb,rfl,.refl _⟩⟩
 | (a,c) :: L,F,I=>by
  obtain ⟨F1,l1,r1,I1,x1⟩:=Inv.freezeR (Ω:=L ++ Ω) I
  obtain ⟨F2,l2,r2,I2,xx2⟩:=Inv.freezeL I1
  refine ⟨F2,fun b o e=>l2 b o (l1 b o e),fun p hp=>?_,I2,ExtS.trans I I1 I2 x1 xx2⟩
  rcases List.mem_cons.mp hp with rfl | hp
  ·exact r1.mono l2
  ·exact r2 p hp
theorem Inv.recontent {a:Addr} {ds ds':List D} (I:Inv X env F Γ ((a,.lst ds) :: Ω) s) (h:∀ vs,RdL X F vs ds -> RdL X F vs ds'):Inv X env F Γ ((a,.lst ds') :: Ω) s:=
 { I with
  cells:=I.cells
  loc:=I.loc
  own:=fun p hp=>by
   rcases List.mem_cons.mp hp with rfl | hp
   ·obtain ⟨⟨vs,hl,rl⟩,h2,h3⟩:=I.own _ (List.mem_cons_self ..)
    exact ⟨⟨vs,hl,h _ rl⟩,h2,h3⟩
   ·exact I.own p (List.mem_cons_of_mem _ hp)
  nd:=I.nd }
theorem rows_up {as:List Addr} {dss:List (List D)} (hl:as.length = dss.length) (h:∀ p ∈ rowsOf as dss,Rd X F (.ref p.1) p.2.d):∀ vs,RdL X F vs (as.map fun a=>.val (.ref a)) -> RdL X F vs (dss.map D.lst):=by
 induction as generalizing dss with
 | nil=>
  intro vs r
  cases dss with
  | nil=>exact r
  | cons _ _=>simp at hl
 | cons a as ih=>
  intro vs r
  cases dss with
  | nil=>simp at hl
  | cons ds dss=>
   cases r with
   | cons r1 r2=>
    cases r1
    exact .cons (h (a,.lst ds) (by simp [rowsOf])) (ih (dss:=dss) (by simpa using hl) (fun p hp=>h p (by simp only [rowsOf,List.zip_cons_cons,List.map_cons,List.mem_cons] at hp ⊢; exact .inr hp)) _ r2)
theorem exs_rows {D0:Addr} {as:List Addr} {dss:List (List D)} {st:List Stmt} {R:PostP} (hl:as.length = dss.length) (k:Exs X A env Γ ((D0,.lst (dss.map D.lst)) :: Ω) st R):Exs X A env Γ (rowsOf as dss ++ ((D0,.lst (as.map fun a=>.val (.ref a))) :: Ω)) st R:=by
 refine ⟨?_⟩
 intro F s I
 obtain ⟨F',l,r,I',x⟩:=Inv.freezeL I
 have I2:=I'.recontent (rows_up hl r)
 have xx2:ExtS X env (rowsOf as dss ++ ((D0,.lst (as.map fun a=>.val (.ref a))) :: Ω)) ((D0,.lst (dss.map D.lst)) :: Ω) F F' s s:=⟨x.le,x.new,x.keep,x.dom,x.os,x.gens⟩
 exact post_up I I2 xx2 (k F' s I2)
noncomputable def sortN (ns:List Nat):List Nat:=ns.mergeSort (fun a b=>decide (a <= b))
theorem sortN_perm (ns:List Nat):(sortN ns).Perm ns:=List.mergeSort_perm _ _
theorem sortN_sorted (ns:List Nat):(sortN ns).Pairwise (· <= ·):=by
 have:=List.pairwise_mergeSort (le:=fun a b:Nat=>decide (a <= b)) (fun a b c h1 h2=>by simp only [decide_eq_true_eq] at *; omega) (fun a b=>by simp only [Bool.or_eq_true,decide_eq_true_eq]; omega) ns
 exact this.imp (by simp)
noncomputable def unlt (x:Str):Nat:=if lt 0 == x then 0 else if lt 1 == x then 1 else if lt 2 == x then 2 else 3
theorem unlt_lt (i:Nat) (h:i < 4):unlt (lt i) = i:=fin4 (P:=fun i=>unlt (lt i) = i) (by decide +kernel) (by decide +kernel) (by decide +kernel) (by decide +kernel) i h
theorem rising_lt:∀ (ms:List Nat) (p:Nat),p < 4 -> (∀ m ∈ ms,m < 4) -> PyProof.Rows.risingS (lt p) (ms.map lt) = true -> (p :: ms).Pairwise (· <= ·)
 | [],p,_,_,_=>by simp
 | m :: r,p,hp,hm,h=>by
  have h4:=hm m (List.mem_cons_self ..)
  simp only [List.map_cons,PyProof.Rows.risingS,Bool.and_eq_true,Bool.not_eq_true'] at h
  have ih:=rising_lt r m h4 (fun q hq=>hm q (List.mem_cons_of_mem _ hq)) h.2
  have hle:p <= m:=by
   have h1:=h.1
   rw [PyProof.Rows.ltCps_eq,lt_lt m p h4 hp] at h1
   simpa using h1
  refine List.pairwise_cons.mpr ⟨fun q hq=>?_,ih⟩
  rcases List.mem_cons.mp hq with rfl | hq
  ·exact hle
  ·exact Nat.le_trans hle ((List.pairwise_cons.mp ih).1 q hq)
theorem sorted_letters {ns:List Nat} {ss:List Str} (h4:∀ n ∈ ns,n < 4) (hp:ss.Perm (ns.map lt)) (hs:PyProof.Rows.sortedS ss = true):ss = (sortN ns).map lt:=by
 have hmem:∀ x ∈ ss,∃ n,n < 4 /\ x = lt n:=fun x hx=>by
  obtain ⟨n,hn,rfl⟩:=List.mem_map.mp (hp.mem_iff.mp hx)
  exact ⟨n,h4 n hn,rfl⟩
 have e1:ss = (ss.map unlt).map lt:=by
  rw [List.map_map]
  conv=>lhs; rw [<- List.map_id ss]
  refine List.map_congr_left fun x hx=>?_
  obtain ⟨n,hn,rfl⟩:=hmem x hx
  simp [unlt_lt n hn]
 have e2:(ss.map unlt).Perm ns:=by
  have:=hp.map unlt
  rw [List.map_map] at this
  have e:ns.map (unlt ∘ lt) = ns:=by
   conv=>rhs; rw [<- List.map_id ns]
   exact List.map_congr_left fun n hn=>by simp [unlt_lt n (h4 n hn)]
  rwa [e] at this
 have h4':∀ m ∈ ss.map unlt,m < 4:=fun m hm=>h4 m (e2.mem_iff.mp hm)
 have e3:(ss.map unlt).Pairwise (· <= ·):=by
  rw [e1] at hs
  cases hq:ss.map unlt with
  | nil=>exact .nil
  | cons p r=>
   rw [hq] at hs h4'
   exact rising_lt r p (h4' p (List.mem_cons_self ..)) (fun m hm=>h4' m (List.mem_cons_of_mem _ hm)) hs
 rw [e1]
 congr 1
 exact List.Perm.eq_of_pairwise (le:=(· <= ·)) (fun a b zz zz h1 h2=>Nat.le_antisymm h1 h2) e3 (sortN_sorted ns) (e2.trans (sortN_perm ns).symm)
theorem sorted_row {ns:List Nat} (h4:∀ n ∈ ns,n < 4) (hl:ns.length <= 50):CallR X A env Γ Ω (.builtin "sorted") [rowD ns] (rowD (sortN ns)):=by
 refine fun F s vs I r=>r.one_elim fun v r=>?_
 ·obtain ⟨a,vs,rfl,hl',rl⟩:=lst_d F s v I r
  have hlist:=hl'.isList
  have hn:vs.length = ns.length:=by simpa using rl.length
  have hS:StrsAre vs (ns.map lt):=strsAre_rd (X:=X) (F:=F) (by simpa [List.map_map,Function.comp_def] using rl)
  refine sorted_strs hlist hS (by omega) fun out ss' h1 h2 h3=>?_
  have e:=sorted_letters h4 h2 h3
  have rr:RdL X F out.toList (ss'.map D.str):=by
   clear h2 h3 e
   revert h1
   generalize out.toList = us
   intro h1
   induction h1 with
   | nil=>exact .nil
   | cons x t h ih=>exact .cons (.str x t) ih
  have:=frozen_sorted (vs:=vs) I rr
  rw [e,List.map_map] at this
  exact this
set_option tactic.hygienic true in
theorem ev_list_range {lp rp pos rpos:Pos} {e:Expr} {n:Nat} (hh:A.handled = none) (hl:Ev X A env Γ Ω (.Name "list" lp) (.val (.type "list"))) (hf:Ev X A env Γ Ω (.Name "range" rp) (.val (.type "range"))) (ha:Ev X A env Γ Ω e (.int n)) (hn:n <= 1000)
  (he:starEach [e] env = [(false,eval e env)]) (he2:starEach [Expr.Call (.Name "range" rp) [e] [] rpos] env = (false,eval (.Call (.Name "range" rp) [e] [] rpos) env) :: starEach [] env):Ev X A env Γ Ω (.Call (.Name "list" lp) [.Call (.Name "range" rp) [e] [] rpos] [] pos) (.lst (intsD 0 n)):=by
 refine ⟨?_⟩
 intro F s I
 refine wpAny_Call_Name_kw (res_then I (hl F s I) fun v F1 ss1 x1 I1 r=>?_)
 cases r
 refine callWith_of (P:=fun h=>X.K.In h /\ ∀ a o,F1 a = some o -> h.get? a = some o) (by rw [he2]; rfl) (fun h P=>kp_t h P.1 P.2) (evalArgs_plain ?_)
 refine wpAny_items_cons (call_rule (fe:=e) (x1.toS (env:=env) (Ω:=Ω) |> fun zz=>I.ext x1) hf (fun zz zz=>kp_t) (evl_cons ha evl_nil he) he rfl fun F2 ss2 vs xx2 I2 rr2=>?_) he2
 obtain ⟨v,rfl⟩:=rdl1 rr2
 cases rr2 with
 | cons rr2 _=>
  cases rr2
  rename_i tk1
  refine call_range_1 ?_
  have y:=I2.stay (s':={ ss2 with heap:=ss2.heap.push { cls:=.type "range",data:=.fields #[.int 0 ss2.toks,.int n tk1,.int 1 (ss2.toks + 1)] },toks:=ss2.toks + 1 + 1 }) (fun b o e=>Heap.get?_push_of_some _ e)
  have I3:=I2.ext y
  have xx:=(x1.trans xx2 I.glob.tabs_there).trans y I.glob.tabs_there
  refine wpAny_items_nil ⟨⟨I3.glob.k,fun a o e=>I3.fz a o (xx2.le a o e)⟩,?_⟩
  have hsz:Builtin.Range.rangeSize 0 (n:Int) 1 = n:=by rw [rangeSize_nat]; simp
  refine call_list_range hh (IsRange.new ..) (small_one (by omega) (by omega) (by omega) (by omega)) hsz (by omega) fun h' tk acc c' hk hg hacc=>?_
  have z:=I3.frozen (s':={ heap:=h',gens:=ss2.gens,drawn:=ss2.drawn,toks:=tk,os:=ss2.os }) (get_size _) hg hk
  have hl:acc.toList.length = n:=by simpa using hacc.1
  refine ⟨_,xx.trans z I.glob.tabs_there,.lst (vs:=acc.toList) (n:=c') (by simpa using FS.put_self ..) (rdl_of_get (by rw [hl,intsD_length]) fun j v d hv hd=>?_)⟩
  obtain ⟨t,rfl⟩:=hacc.2 j v (by simpa using hv)
  have hj:j < n:=by rw [<- hl]; exact (List.getElem?_eq_some_iff.mp hv).1
  rw [intsD,List.getElem?_map,List.getElem?_range hj] at hd
  cases hd
  rw [show (0:Int) + (j:Int) * 1 = 0 + j by simp]
  exact .int _ _
end
end
section
noncomputable def cellsN (xs:List Int):Nat -> List Int
 | 0=>[117,146,76,554,478,9]
 | n + 1=>(cellsN xs n).set (n % 6) ((cellsN xs n).getD (n % 6) 0 + (xs.getD n 0).fmod 1000003)
theorem cellsN_len (xs:List Int):∀ n,(cellsN xs n).length = 6
 | 0=>rfl
 | n + 1=>by unfold cellsN; rw [List.length_set]; exact cellsN_len xs n
theorem fmod_bd (x:Int):0 <= x.fmod 1000003 /\ x.fmod 1000003 < 1000003:=⟨Int.fmod_nonneg_of_pos _ (by decide),Int.fmod_lt_of_pos _ (by decide)⟩
theorem cellsN_bd (xs:List Int):∀ n,∀ v ∈ cellsN xs n,0 <= v /\ v <= 554 + 1000003 * (n:Int)
 | 0=>by intro v hv; simp [cellsN] at hv; omega
 | n + 1=>by
  intro v hv
  have ih:=cellsN_bd xs n
  unfold cellsN at hv
  rcases List.mem_or_eq_of_mem_set hv with h | h
  ·have:=ih v h; push_cast; omega
  ·have hl:=cellsN_len xs n
   have hi:n % 6 < (cellsN xs n).length:=by rw [hl]; exact Nat.mod_lt _ (by decide)
   have e:(cellsN xs n).getD (n % 6) 0 = (cellsN xs n)[n % 6]:=by rw [List.getD_eq_getElem?_getD,List.getElem?_eq_getElem hi]; rfl
   have h1:=ih _ (List.getElem_mem hi)
   have h2:=fmod_bd (xs.getD n 0)
   rw [e] at h
   push_cast; omega
noncomputable def cellAt (ns:List Int) (k:Nat):Nat:=((cellsN (ns.take 60) (ns.take 60).length).getD k 0).toNat
theorem cellAt_bd (ns:List Int) (k:Nat):cellAt ns k <= 61000000:=by
 unfold cellAt
 rw [List.getD_eq_getElem?_getD]
 rcases Nat.lt_or_ge k (cellsN (ns.take 60) (ns.take 60).length).length with h | h
 ·rw [List.getElem?_eq_getElem h]
  have:=cellsN_bd (ns.take 60) (ns.take 60).length _ (List.getElem_mem h)
  have hl:(ns.take 60).length <= 60:=by rw [List.length_take]; omega
  simp only [Option.getD_some]; omega
 ·rw [List.getElem?_eq_none h]; simp
theorem cellAt_eq (ns:List Int):cellsN (ns.take 60) (ns.take 60).length = (List.range 6).map fun k=>(cellAt ns k:Int):=by
 have hl:=cellsN_len (ns.take 60) (ns.take 60).length
 refine List.ext_getElem (by rw [hl]; simp) fun i h1 h2=>?_
 have:=(cellsN_bd (ns.take 60) (ns.take 60).length _ (List.getElem_mem h1)).1
 simp only [List.getElem_map,List.getElem_range,cellAt,List.getD_eq_getElem?_getD,List.getElem?_eq_getElem h1,Option.getD_some]
 omega
section
variable {X:Cx} {P:Params} {A:Around} {env:Env} {Γ:Loc} {Ω:Own}
noncomputable def iD (ns:List Int):D:=.lst (ns.map .int)
theorem law_cells (hX:XOk X P) {L:Addr} (hh:A.handled = none) {ns:List Int} (hn:ns.length <= 1000) {R:PostP}
  (k:Exs X A (envF P 136 L) [("script",iD ns),("cells",iD ((List.range 6).map fun k=>(cellAt ns k:Int)))] [] ((fbK P 136).drop 2) R):Exs X A (envF P 136 L) [("script",iD ns)] [] (fbK P 136) R:=by
 refine exs_cons (ex_assign_s (evo_s (evo_list (ds:=[.int 117,.int 146,.int 76,.int 554,.int 478,.int 9]) (evl_cons ev_int (evl_cons ev_int (evl_cons ev_int (evl_cons ev_int (evl_cons ev_int (evl_cons ev_int evl_nil rfl) rfl) rfl) rfl) rfl) rfl) (by simp)) fun a=>?_) (by kernel_rfl) (by rfl))
 have hl60:(ns.take 60).length <= 60:=by rw [List.length_take]; omega
 refine exs_for (G:=fun i=>([("script",iD ns),("cells",.val (.ref a))]:Loc)) (W:=fun i=>[(a,OC.lst ((cellsN (ns.take 60) i).map .int))]) (it_enum hh (eb (v:=.type "enumerate") hX) (ev_upto (n:=60) va ev_int (by rw [List.length_map]; omega)) rfl) rfl sub_refl ?_ ?_
 ·intro i d hd
  have hi:i < (ns.take 60).length:=by
   have:=(List.getElem?_eq_some_iff.mp hd).1
   rwa [enumD_length,<- List.map_take,List.length_map] at this
  rw [<- List.map_take] at hd
  rw [enumD_get (d:=.int ((ns.take 60)[i])) (by rw [List.getElem?_map,List.getElem?_eq_getElem hi]; rfl)] at hd
  cases hd
  have hl:=cellsN_len (ns.take 60) i
  have h6:i % 6 < (cellsN (ns.take 60) i).length:=by rw [hl]; exact Nat.mod_lt _ (by decide)
  have em:((i:Nat):Int).fmod 6 = ((i % 6:Nat):Int):=by rw [Int.fmod_eq_emod_of_nonneg _ (by decide)]; push_cast; rfl
  refine ⟨_,asgI_tup hh (an (an asgl_nil)),exs_cons (ex_aug_lst (d0:=.int ((cellsN (ns.take 60) i).getD (i % 6) 0)) va (List.mem_singleton.mpr rfl) (ev_icast (ev_bin va ev_int (op_mod (by decide))) em) (by omega) ?_ (ev_bin va ev_int (op_mod (by decide))) op_iadd (by rw [List.length_map,hl]; decide) (exs_nil ⟨sub_cons rfl (sub_cons rfl sub_nil),?_⟩))⟩
  ·rw [Int.toNat_natCast,List.getElem?_map,List.getD_eq_getElem?_getD,List.getElem?_eq_getElem h6]; rfl
  ·rw [Int.toNat_natCast]
   simp only [oset,if_true]
   congr 3
   rw [<- List.map_set]
   congr 1
   conv=>rhs; unfold cellsN
   rw [List.getD_eq_getElem?_getD (l:=ns.take 60),List.getElem?_eq_getElem hi]; rfl
 ·skip
  rw [enumD_length,<- List.map_take,List.length_map,cellAt_eq]
  exact exs_freeze (fun x d h=>by
   simp only [List.lookup_cons] at h ⊢
   cases h1:x == ("script" : Str) with
   | true=>rw [h1] at h; left; exact h
   | false=>
    rw [h1] at h
    cases h2:x == ("cells" : Str) with
    | true=>rw [h2] at h; cases h; right; exact ⟨rfl,rfl⟩
    | false=>rw [h2] at h; cases h) k
end
end
section
theorem oset_right {a:Addr} {c:OC} {R:Own}:∀ {L:Own},a ∉ L.map (·.1) -> oset (L ++ R) a c = L ++ oset R a c
 | [],_=>rfl
 | (b,e) :: L,h=>by
  simp only [List.map_cons,List.mem_cons,not_or] at h
  simp only [List.cons_append,oset,if_neg (Ne.symm h.1),oset_right h.2]
theorem rowsOf_fst:∀ {as:List Addr} {dss:List (List D)},as.length = dss.length -> (rowsOf as dss).map (·.1) = as
 | [],_,_=>rfl
 | a :: as,[],h=>by simp at h
 | a :: as,d :: dss,h=>by
  have:=rowsOf_fst (as:=as) (dss:=dss) (by simpa using h)
  simp only [rowsOf,List.zip_cons_cons,List.map_cons] at this ⊢
  rw [this]
theorem oset_rows {R:Own} {ds:List D}:∀ {as:List Addr} {dss:List (List D)} {j:Nat} {a:Addr},as.length = dss.length -> as.Nodup -> as[j]? = some a -> oset (rowsOf as dss ++ R) a (.lst ds) = rowsOf as (dss.set j ds) ++ R
 | [],_,j,a,_,_,h=>by simp at h
 | b :: as,[],j,a,h,_,_=>by simp at h
 | b :: as,d :: dss,0,a,h,_,e=>by
  simp only [List.getElem?_cons_zero,Option.some.injEq] at e
  subst e
  simp [rowsOf,oset]
 | b :: as,d :: dss,j + 1,a,h,hn,e=>by
  simp only [List.getElem?_cons_succ] at e
  have hne:b ≠ a:=fun q=>(List.nodup_cons.mp hn).1 (q ▸ List.mem_of_getElem? e)
  have:=oset_rows (R:=R) (ds:=ds) (as:=as) (dss:=dss) (by simpa using h) (List.nodup_cons.mp hn).2 e
  simp only [rowsOf,List.zip_cons_cons,List.map_cons,List.cons_append,oset,if_neg hne,List.set_cons_succ] at this ⊢
  rw [this]
theorem mem_rows {as:List Addr} {dss:List (List D)} {j:Nat} {a:Addr} {ds:List D} (h1:as[j]? = some a) (h2:dss[j]? = some ds):(a,OC.lst ds) ∈ rowsOf as dss:=by
 refine List.mem_map.mpr ⟨(a,ds),?_,rfl⟩
 exact List.mem_of_getElem? (i:=j) (by rw [List.getElem?_zip_eq_some]; exact ⟨h1,h2⟩)
noncomputable def nmL (c:Nat -> Nat) (k:Nat):Nat:=if k = 0 then 3 else c (k - 1) / k % 3
noncomputable def hoL (c:Nat -> Nat) (k:Nat):Nat:=c (k - 1) % k
noncomputable def rowL (c:Nat -> Nat) (i j:Nat):List Nat:=(((List.range i).map (· + 1)).filter fun k=>hoL c k = j).map (nmL c)
noncomputable def owL (c:Nat -> Nat) (k:Nat):Int:=if k = 0 then 0 else ((c (k - 1) / (18 * k) % 9:Nat):Int) - 4
noncomputable def caL (c:Nat -> Nat) (k:Nat):T3:=(nmL c k,nmL c (hoL c k),k)
noncomputable def lsL (c:Nat -> Nat) (i:Nat):List (List Nat):=(List.range 6).map (rowL c i)
noncomputable def nsL (c:Nat -> Nat) (i:Nat):List Nat:=(List.range (i + 1)).map (nmL c)
noncomputable def osL (c:Nat -> Nat) (i:Nat):List Int:=(List.range (i + 1)).map (owL c)
noncomputable def csL (c:Nat -> Nat) (i:Nat):List T3:=(List.range i).map fun k=>caL c (k + 1)
theorem nmL_lt (c:Nat -> Nat) (k:Nat):nmL c k < 4:=by unfold nmL; split <;> omega
theorem nsL_succ (c:Nat -> Nat) (i:Nat):nsL c (i + 1) = nsL c i ++ [nmL c (i + 1)]:=by simp [nsL,List.range_succ]
theorem osL_succ (c:Nat -> Nat) (i:Nat):osL c (i + 1) = osL c i ++ [owL c (i + 1)]:=by simp [osL,List.range_succ]
theorem csL_succ (c:Nat -> Nat) (i:Nat):csL c (i + 1) = csL c i ++ [caL c (i + 1)]:=by simp [csL,List.range_succ]
theorem rowL_succ (c:Nat -> Nat) (i j:Nat):rowL c (i + 1) j = rowL c i j ++ if hoL c (i + 1) = j then [nmL c (i + 1)] else []:=by
 unfold rowL
 rw [List.range_succ,List.map_append,List.filter_append,List.map_append]
 congr 1
 simp only [List.map_cons,List.map_nil,List.filter_cons,List.filter_nil]
 by_cases h:hoL c (i + 1) = j <;> simp [h]
noncomputable def ssD (l:List Nat):List D:=l.map fun j=>.str (lt j)
set_option tactic.hygienic true in
theorem rows_succ (c:Nat -> Nat) (i:Nat) (h:hoL c (i + 1) < 6):((lsL c i).map ssD).set (hoL c (i + 1)) (ssD (rowL c i (hoL c (i + 1))) ++ [.str (lt (nmL c (i + 1)))]) = (lsL c (i + 1)).map ssD:=by
 refine List.ext_getElem (by simp [lsL]) fun j h1 h2=>?_
 rw [List.getElem_set]
 simp only [lsL,List.getElem_map,List.getElem_range]
 rw [rowL_succ]
 split
 ·rename_i e; subst e; simp [ssD]
 ·rename_i e; simp [e]
section
variable {X:Cx} {P:Params} {A:Around} {env:Env} {Γ:Loc} {Ω:Own}
noncomputable def pieces:List Str:=["", "\\(", "\\)", "\")\"", "\"(\\\"(\"", "\\\\"]
noncomputable def cD (c:Nat -> Nat):D:=iD ((List.range 6).map fun k=>(c k:Int))
noncomputable def pD:D:=.lst (pieces.map .str)
theorem cD_get {c:Nat -> Nat} {k:Nat} (h:k < 6) {i:Int} (e:i = (k:Int)):Op2 X A env Γ Ω getItem (cD c) (.int i) (.int (c k:Nat)):=by
 subst e
 exact get_lst (by omega) (by rw [Int.toNat_natCast,List.map_map,List.getElem?_map,List.getElem?_range h]; rfl) (by simp)
theorem fdivN {a b:Nat}:((a:Nat):Int).fdiv (b:Int) = ((a / b:Nat):Int):=by rw [Int.fdiv_eq_ediv_of_nonneg _ (by omega)]; push_cast; rfl
theorem fmodN {a b:Nat}:((a:Nat):Int).fmod (b:Int) = ((a % b:Nat):Int):=by rw [Int.fmod_eq_emod_of_nonneg _ (by omega)]; push_cast; rfl
theorem log2_small {a:Nat} (h:a < 2 ^ 60):a.log2 / 30 + 1 <= 3:=by
 rcases Nat.eq_zero_or_pos a with q | q
 ·subst q; decide
 ·have:a.log2 < 60:=(Nat.log2_lt (by omega)).mpr h
  omega
theorem pylong_no {a b:Nat} (hb:b < 2 ^ 60):Builtin.divisionGoesByPylong (a:Int) (b:Int) = false:=by
 unfold Builtin.divisionGoesByPylong
 have:(if ((b:Int) == 0) = true then 0 else (b:Int).natAbs.log2 / 30 + 1) <= 3:=by
  split
  ·omega
  ·exact log2_small hb
 simp only [Bool.and_eq_false_iff]
 left
 simp only [decide_eq_false_iff_not]
 omega
theorem ev_divN {l r:Expr} {pos:Pos} {a b:Nat} (h1:Ev X A env Γ Ω l (.int (a:Nat))) (h2:Ev X A env Γ Ω r (.int (b:Nat))) (hb:0 < b) (hb':b < 2 ^ 60):Ev X A env Γ Ω (.BinOp l .FloorDiv r pos) (.int ((a / b:Nat):Int)):=by
 rw [<- fdivN]
 exact ev_bin h1 h2 (op_fdiv (by omega) (pylong_no hb'))
theorem ev_modN {l r:Expr} {pos:Pos} {a b:Nat} (h1:Ev X A env Γ Ω l (.int (a:Nat))) (h2:Ev X A env Γ Ω r (.int (b:Nat))) (hb:0 < b):Ev X A env Γ Ω (.BinOp l .Mod r pos) (.int ((a % b:Nat):Int)):=by
 rw [<- fmodN]
 exact ev_bin h1 h2 (op_mod (by omega))
theorem get_abc {n:Nat} (h:n < 3):Op2 X A env Γ Ω getItem (.str "abc") (.int (n:Nat)) (.str (lt n)):=by
 match n,h with
 | 0,_=>exact get_str (by decide) (by decide) rfl
 | 1,_=>exact get_str (by decide) (by decide) rfl
 | 2,_=>exact get_str (by decide) (by decide) rfl
end
end
section
section
variable {X:Cx} {P:Params} {A:Around} {env:Env} {Γ:Loc} {Ω:Own}
noncomputable def Γlay (ns:List Int) (c:Nat -> Nat):Loc:=[("script",iD ns),("cells",cD c),("pieces",pD),("names",rowD (nsL c 5)),("lists",lsD (lsL c 5)),("calls",.lst ((csL c 5).map callD)),("owns",owD (osL c 5))]
noncomputable def tailL (c:Nat -> Nat) (i:Nat) (D0 oA cA nA:Addr) (as:List Addr):Own:=[(D0,.lst (as.map fun a=>.val (.ref a))),(oA,.lst ((osL c i).map .int)),(cA,.lst ((csL c i).map callD)),(nA,.lst (ssD (nsL c i)))]
theorem rows_nil (c:Nat -> Nat) (as:List Addr) (h:as.length = 6):rowsOf as ((lsL c 0).map ssD) = as.map fun a=>(a,OC.lst []):=by
 match as,h with
 | [a,b,d,e,f,g],_=>rfl
set_option tactic.hygienic true in
theorem exs_fz {a:Addr} {oc:OC} {n:Str} {st:List Stmt} {R:PostP} (hn:Γ.lookup n = some (.val (.ref a))) (k:Exs X A env (upd Γ n oc.d) Ω st R):Exs X A env Γ ((a,oc) :: Ω) st R:=by
 refine exs_freeze (fun x d h=>?_) k
 rw [upd_lookup] at h
 split at h
 ·rename_i e; subst e; cases h; exact .inr ⟨hn,rfl⟩
 ·exact .inl h
theorem law_lay (hX:XOk X P) {L:Addr} (hh:A.handled = none) {ns:List Int} {c:Nat -> Nat} (hc:∀ k,c k <= 61000000) {R:PostP}
  (k:Exs X A (envF P 136 L) (Γlay ns c) [] ((fbK P 136).drop 5) R):Exs X A (envF P 136 L) [("script",iD ns),("cells",cD c)] [] ((fbK P 136).drop 2) R:=by
 refine exs_cons (ex_assign (d:=pD) (ev_list (evl_cons ev_str (evl_cons ev_str (evl_cons ev_str (evl_cons ev_str (evl_cons ev_str (evl_cons ev_str evl_nil rfl) rfl) rfl) rfl) rfl) rfl) (by simp [pieces])) (by kernel_rfl) ?_ (by rfl))
 refine exs_cons (ex_assign_ts (evs_tuple (evsl_cons (evo_s (evo_list (ds:=[.str (lt 3)]) (evl_cons ev_str evl_nil rfl) (by simp)) fun nA=>?_) rfl)) (by rfl) (by rfl))
 refine evsl_cons ((evs_rows (scopeOk (by kernel_rfl)) (ns_ok (by kernel_rfl)) (it_range1 hh (eb hX) ev_int (by decide) (by decide) rfl) (by simp [intsD_length]) (fun C Ω1 d acc hd=>⟨_,fun D=>asgI_name,capt_sub (by rfl)⟩)).imp ?_) rfl
 rintro d Ω' ⟨D0,as,rfl,has,rfl⟩
 rw [intsD_length] at has
 refine evsl_cons (evo_s (evo_list evl_nil (by simp)) fun cA=>?_) rfl
 refine evsl_cons (evo_s (evo_list (ds:=[.int 0]) (evl_cons ev_int evl_nil rfl) (by simp)) fun oA=>?_) rfl
 refine evsl_nil ⟨by simp,_,_,rfl,asg_tuple hh (an (an (an (an asgl_nil)))) rfl rfl,?_⟩
 refine exs_nd fun hnd=>?_
 have has6:as.length = 6:=has
 have hnd':(as ++ [D0,oA,cA,nA]).Nodup:=by
  refine List.Perm.nodup ?_ hnd
  rw [List.perm_iff_count]
  intro x
  simp only [List.map_cons,List.map_append,List.map_map,List.map_reverse,List.count_cons,List.count_append,List.count_reverse,Function.comp_def,List.map_id',List.map_nil,List.count_nil,List.map_const',List.map_id_fun',id]
  omega
 obtain ⟨hnas,hnt,hdis⟩:=List.nodup_append.mp hnd'
 have hfst:∀ i,((rowsOf as ((lsL c i).map ssD) ++ tailL c i D0 oA cA nA as).map (·.1)) = as ++ [D0,oA,cA,nA]:=fun i=>by
  rw [List.map_append,rowsOf_fst (by simp [lsL,has6])]; rfl
 refine exs_perm (Ω':=rowsOf as ((lsL c 0).map ssD) ++ tailL c 0 D0 oA cA nA as) (fun p hp=>?_) (fun zz=>by rw [hfst]; exact hnd') ?_
 ·rw [rows_nil c as has6] at hp
  simp only [tailL,List.mem_append,List.mem_cons,List.map_reverse,List.mem_reverse] at hp ⊢
  rcases hp with h | h | h | h | h | h
  ·exact .inr (.inr (.inr (.inl h)))
  ·exact .inr (.inr (.inl h))
  ·exact .inl h
  ·exact .inr (.inl h)
  ·exact .inr (.inr (.inr (.inr (.inl h))))
  ·cases h
 have hnot:∀ a,a ∈ [D0,oA,cA,nA] -> ∀ dss:List (List D),dss.length = 6 -> a ∉ (rowsOf as dss).map (·.1):=fun a ha dss hl h=>by
  rw [rowsOf_fst (by rw [has6,hl])] at h
  exact hdis a h a ha rfl
 have hne:D0 ≠ oA /\ D0 ≠ cA /\ D0 ≠ nA /\ oA ≠ cA /\ oA ≠ nA /\ cA ≠ nA:=by simpa [and_assoc] using hnt
 refine exs_for (G:=fun i=>([("script",iD ns),("cells",cD c),("pieces",pD),("names",.val (.ref nA)),("lists",.val (.ref D0)),("calls",.val (.ref cA)),("owns",.val (.ref oA))]:Loc)) (W:=fun i=>rowsOf as ((lsL c i).map ssD) ++ tailL c i D0 oA cA nA as) (it_range2 hh (eb hX) ev_int ev_int (by decide) (by decide) (by decide) (by decide) rfl rfl) rfl (sub_cons rfl (sub_cons rfl (sub_cons rfl (sub_cons rfl (sub_cons rfl (sub_cons rfl (sub_cons rfl sub_nil))))))) ?_ ?_
 ·intro i d hd
  have hi:i < 5:=by
   have:=(List.getElem?_eq_some_iff.mp hd).1
   rwa [intsD_length] at this
  have hd':d = .int ((i + 1:Nat):Int):=by
   rw [intsD,List.getElem?_map,show ((6:Int) - 1).toNat = 5 from rfl,List.getElem?_range hi] at hd
   cases hd
   exact congrArg D.int (by omega)
  subst hd'
  refine ⟨_,asgI_name,?_⟩
  refine exs_cons (ex_assign (d:=.int (c i:Nat)) (ev_sub (dd1:=cD c) va (ev_icast (ev_bin va ev_int op_sub) (by omega:((i + 1:Nat):Int) - 1 = (i:Nat))) subT_lst (cD_get (by omega) rfl)) (by kernel_rfl) ?_ (by rfl))
  have hN:nmL c (i + 1) = c i / (i + 1) % 3:=rfl
  have hH:hoL c (i + 1) = c i % (i + 1):=rfl
  have hh6:hoL c (i + 1) < i + 1:=Nat.mod_lt _ (by omega)
  have hl6:((lsL c i).map ssD).length = 6:=by simp [lsL]
  have hl6':((lsL c (i + 1)).map ssD).length = 6:=by simp [lsL]
  have hget:∀ j,j < i + 2 -> (ssD (nsL c (i + 1)))[((j:Nat):Int).toNat]? = some (.str (lt (nmL c j))):=fun j hj=>by
   rw [Int.toNat_natCast,ssD,nsL,List.map_map,List.getElem?_map,List.getElem?_range (by omega)]; rfl
  have hlen:(ssD (nsL c (i + 1))).length <= 1000000:=by simp [ssD,nsL]; omega
  refine exs_cons (ex_expr_s (evs_append (ds:=ssD (nsL c i)) (d:=.str (lt (nmL c (i + 1)))) va (List.mem_append_right _ (by simp [tailL])) (ev_sub (dd1:=.str "abc") (dd2:=.int ((c i / (i + 1) % 3:Nat):Int)) ev_str (ev_modN (b:=3) (ev_divN va va (by omega) (by omega)) ev_int (by decide)) subT_str (by rw [hN]; exact get_abc (Nat.mod_lt _ (by decide)))) (by simp [ssD,nsL]; omega) ⟨rfl,?_⟩ (by rfl) (by rfl) (by rfl)) (by kernel_rfl) (by rfl))
  rw [oset_right (hnot nA (by simp) _ hl6),show oset (tailL c i D0 oA cA nA as) nA (OC.lst (ssD (nsL c i) ++ [D.str (lt (nmL c (i + 1)))])) = [(D0,.lst (as.map fun a=>.val (.ref a))),(oA,.lst ((osL c i).map .int)),(cA,.lst ((csL c i).map callD)),(nA,.lst (ssD (nsL c (i + 1))))] by rw [nsL_succ]; simp [oset,tailL,hne,ssD]]
  obtain ⟨ah,hah⟩:∃ a,as[hoL c (i + 1)]? = some a:=⟨_,List.getElem?_eq_getElem (by rw [has6]; omega)⟩
  have hrow:((lsL c i).map ssD)[hoL c (i + 1)]? = some (ssD (rowL c i (hoL c (i + 1)))):=by
   simp only [lsL,List.map_map,List.getElem?_map,List.getElem?_range (by omega:hoL c (i + 1) < 6)]; rfl
  refine exs_cons (ex_expr_s (evs_append (a:=ah) (ds:=ssD (rowL c i (hoL c (i + 1)))) (d:=.str (lt (nmL c (i + 1)))) (ev_sub (dd2:=.int ((hoL c (i + 1):Nat):Int)) va (by rw [hH]; exact ev_modN va va (by omega)) (subT_own (ds:=as.map fun a=>.val (.ref a)) (List.mem_append_right _ (by simp))) (get_own (ds:=as.map fun a=>.val (.ref a)) (List.mem_append_right _ (by simp)) (by omega) (by rw [Int.toNat_natCast,List.getElem?_map,hah]; rfl) (by simp [has6]))) (List.mem_append_left _ (mem_rows hah hrow)) (ev_sub (dd2:=.int ((i + 1:Nat):Int)) va va (subT_own (ds:=ssD (nsL c (i + 1))) (List.mem_append_right _ (by simp))) (get_own (ds:=ssD (nsL c (i + 1))) (List.mem_append_right _ (by simp)) (by omega) (hget _ (by omega)) hlen)) (by simp [ssD,rowL]; exact Nat.le_trans (List.length_filter_le _ _) (by simp; omega)) ⟨rfl,?_⟩ (by rfl) (by rfl) (by rfl)) (by kernel_rfl) (by rfl))
  rw [oset_rows (by rw [has6,hl6]) hnas hah,rows_succ c i (by omega)]
  refine exs_cons (ex_expr_s (evs_append (ds:=(csL c i).map callD) (d:=callD (caL c (i + 1))) va (List.mem_append_right _ (by simp)) (ev_tuple (evl_cons (ev_sub (dd2:=.int ((i + 1:Nat):Int)) va va (subT_own (ds:=ssD (nsL c (i + 1))) (List.mem_append_right _ (by simp))) (get_own (ds:=ssD (nsL c (i + 1))) (List.mem_append_right _ (by simp)) (by omega) (hget _ (by omega)) hlen)) (evl_cons (ev_sub (dd2:=.int ((hoL c (i + 1):Nat):Int)) va (by rw [hH]; exact ev_modN va va (by omega)) (subT_own (ds:=ssD (nsL c (i + 1))) (List.mem_append_right _ (by simp))) (get_own (ds:=ssD (nsL c (i + 1))) (List.mem_append_right _ (by simp)) (by omega) (hget _ (by omega)) hlen)) (evl_cons va evl_nil rfl) rfl) rfl) (by simp)) (by simp [csL]; omega) ⟨rfl,?_⟩ (by rfl) (by rfl) (by rfl)) (by kernel_rfl) (by rfl))
  rw [oset_right (hnot cA (by simp) _ hl6'),show oset [(D0,.lst (as.map fun a=>.val (.ref a))),(oA,.lst ((osL c i).map .int)),(cA,.lst ((csL c i).map callD)),(nA,.lst (ssD (nsL c (i + 1))))] cA (OC.lst ((csL c i).map callD ++ [callD (caL c (i + 1))])) = [(D0,.lst (as.map fun a=>.val (.ref a))),(oA,.lst ((osL c i).map .int)),(cA,.lst ((csL c (i + 1)).map callD)),(nA,.lst (ssD (nsL c (i + 1))))] by rw [csL_succ]; simp [oset,hne]]
  refine exs_cons (ex_expr_s (evs_append (ds:=(osL c i).map .int) (d:=.int (owL c (i + 1))) va (List.mem_append_right _ (by simp)) (ev_icast (ev_bin (ev_modN (b:=9) (ev_divN (b:=18 * (i + 1)) va (ev_icast (ev_bin ev_int va (op_mul (IntMulOk.of_left (by decide)))) (by push_cast; rfl)) (by omega) (by omega)) ev_int (by decide)) ev_int op_sub) (by simp [owL])) (by simp [osL]; omega) ⟨rfl,?_⟩ (by rfl) (by rfl) (by rfl)) (by kernel_rfl) (by rfl))
  rw [oset_right (hnot oA (by simp) _ hl6'),show oset [(D0,.lst (as.map fun a=>.val (.ref a))),(oA,.lst ((osL c i).map .int)),(cA,.lst ((csL c (i + 1)).map callD)),(nA,.lst (ssD (nsL c (i + 1))))] oA (OC.lst ((osL c i).map .int ++ [.int (owL c (i + 1))])) = tailL c (i + 1) D0 oA cA nA as by rw [tailL,osL_succ]; simp [oset,hne]]
  exact exs_nil ⟨sub_cons rfl (sub_cons rfl (sub_cons rfl (sub_cons rfl (sub_cons rfl (sub_cons rfl (sub_cons rfl sub_nil)))))),rfl⟩
 ·skip
  rw [intsD_length]
  refine exs_rows (as:=as) (dss:=(lsL c 5).map ssD) (D0:=D0) (Ω:=[(oA,.lst ((osL c 5).map .int)),(cA,.lst ((csL c 5).map callD)),(nA,.lst (ssD (nsL c 5)))]) (by simp [has6,lsL]) ?_
  refine exs_fz (n := "lists") rfl (exs_fz (n := "owns") rfl (exs_fz (n := "calls") rfl (exs_fz (n := "names") rfl ?_)))
  rw [List.map_map]
  exact k
end
end
section
section
variable {X:Cx} {A:Around} {env:Env} {Γ:Loc} {Ω:Own}
theorem tests_nil' {c:OC}:∀ D:Addr,TestsD X A env Γ ((D,c) :: Ω) [] true:=fun zz=>tests_nil
theorem flat_take {α β:Type} {l:List α} {f:α -> List β} {i:Nat} {d:α} (h:l[i]? = some d):(l.take (i + 1)).flatMap f = (l.take i).flatMap f ++ f d:=by
 rw [List.take_add_one,h]; simp
theorem fm_len {α β:Type} {f:α -> List β} {m:Nat} (hm:∀ a,(f a).length <= m):∀ l:List α,(l.flatMap f).length <= l.length * m
 | []=>Nat.zero_le _
 | a :: r=>by
  rw [List.flatMap_cons,List.length_append,List.length_cons,Nat.succ_mul,Nat.add_comm]; exact Nat.add_le_add (fm_len hm r) (hm a)
theorem map_at {α:Type} {xs:List α} {h:α -> D} {i:Nat} {d:D} (e:(xs.map h)[i]? = some d):∃ x,xs[i]? = some x /\ h x = d:=by
 rw [List.getElem?_map] at e; exact Option.map_eq_some_iff.mp e
inductive OneT (X:Cx) (A:Around) (ce:Env) (Γ:Loc) (Ω:Own) (t:Expr) (d:D) (elt:Expr) (e:D):Prop
 | mk (Γ₁:Loc) (ha:∀ D acc,AsgI X A ce Γ ((D,.lst acc) :: Ω) t d Γ₁) (hs:Sub Γ Γ₁) (he:∀ D acc,Ev X A ce Γ₁ ((D,.lst acc) :: Ω) elt e)
inductive TwoT {β:Type} (X:Cx) (A:Around) (ce:Env) (Γ:Loc) (Ω:Own) (t1:Expr) (a:D) (t2 i2:Expr) (xs:List β) (h:β -> D) (elt:Expr) (g:β -> D):Prop
 | mk (Γ₁:Loc) (ha:∀ D acc,AsgI X A ce Γ ((D,.lst acc) :: Ω) t1 a Γ₁) (hs:Sub Γ Γ₁) (hi:∀ D acc,EvIt X A ce Γ₁ ((D,.lst acc) :: Ω) t2 i2 (xs.map h) []) (k:∀ b,b ∈ xs -> OneT X A ce Γ₁ Ω t2 (h b) elt (g b))
inductive ThreeT {β γ:Type} (X:Cx) (A:Around) (ce:Env) (Γ:Loc) (Ω:Own) (t1:Expr) (a:D) (t2 i2:Expr) (xs:List β) (h:β -> D) (t3 i3:Expr) (ys:List γ) (h':γ -> D) (elt:Expr) (g:β -> γ -> D):Prop
 | mk (Γ₁:Loc) (ha:∀ D acc,AsgI X A ce Γ ((D,.lst acc) :: Ω) t1 a Γ₁) (hs:Sub Γ Γ₁) (hi:∀ D acc,EvIt X A ce Γ₁ ((D,.lst acc) :: Ω) t2 i2 (xs.map h) []) (k:∀ b,b ∈ xs -> TwoT X A ce Γ₁ Ω t2 (h b) t3 i3 ys h' elt (g b))
noncomputable def comp2Ok (env:Env) (scope:Scope) (ts:List Expr):Bool:=scopeChk env scope && nsChk (ts.flatMap tgtNames) scope
theorem turn_in {γ:Type} {e:Expr} {gens:List Comprehension} {depth:Nat} {ns:List Str} {emit:Value -> Env -> Sem Unit} {Γ0:Loc} {s:List D} {t i:Expr} {ys:List γ} {h:γ -> D} (f:γ -> List D) {R:OC -> Own -> Prop} (hI:IsComp X e gens emit) (hg:gens[depth + 1]? = some ⟨t,i,[],0⟩) (hf:∀ x,foldedSetIterable i env x = pure x) (hn:∀ x ∈ tgtNames t,x ∈ ns) (hw:Sub Γ0 Γ) (hi:∀ D acc,EvIt X A env Γ ((D,.lst acc) :: Ω) t i (ys.map h) [])
  (turn:∀ j y,ys[j]? = some y -> ∃ Γ₁,(∀ D acc,AsgI X A env Γ ((D,.lst acc) :: Ω) t (h y) Γ₁) /\ Turn X A env Γ₁ Γ Ω (.lst (s ++ (ys.take j).flatMap f)) e gens emit (depth + 1) [] ns fun c Ω'=>c = .lst (s ++ (ys.take (j + 1)).flatMap f) /\ Ω' = Ω)
  (done:R (.lst (s ++ ys.flatMap f)) Ω):Turn X A env Γ Γ0 Ω (.lst s) e gens emit depth [] ns R:=by
 refine turn_nested hI hg hf hn tests_nil' hw (fun q=>nomatch q) (fun j c Ω'=>c = .lst (s ++ (ys.take j).flatMap f) /\ Ω' = Ω) ⟨by rw [List.take_zero,List.flatMap_nil,List.append_nil],rfl⟩ (fun zz D=>hi D _) ?_ ?_
 ·rintro _ j b cc1 Ω2 hb ⟨rfl,rfl⟩
  obtain ⟨y,hy,rfl⟩:=map_at hb
  obtain ⟨Γ₁,ha,hT⟩:=turn j y hy
  exact ⟨Γ₁,fun D=>ha D _,hT⟩
 ·rintro c' Ω' ⟨rfl,rfl⟩
  rw [List.length_map,List.take_length]; exact done
theorem turn_last {γ:Type} {e:Expr} {gens:List Comprehension} {depth:Nat} {ns:List Str} {Γ0:Loc} {s:List D} {t i elt:Expr} {ys:List γ} {h:γ -> D} (g:γ -> D) {R:OC -> Own -> Prop} (hI:IsComp X e gens (emitL elt)) (hg:gens[depth + 1]? = some ⟨t,i,[],0⟩) (hl:gens[depth + 2]? = none) (hf:∀ x,foldedSetIterable i env x = pure x) (hn:∀ x ∈ tgtNames t,x ∈ ns) (hw:Sub Γ0 Γ) (hi:∀ D acc,EvIt X A env Γ ((D,.lst acc) :: Ω) t i (ys.map h) [])
  (hz:s.length + ys.length <= 1000) (turn:∀ y,y ∈ ys -> OneT X A env Γ Ω t (h y) elt (g y))
  (done:R (.lst (s ++ ys.map g)) Ω):Turn X A env Γ Γ0 Ω (.lst s) e gens (emitL elt) depth [] ns R:=by
 refine turn_in (fun y=>[g y]) hI hg hf hn hw hi (fun j y hy=>?_) (by rw [show ys.flatMap (fun y=>[g y]) = ys.map g from List.map_eq_flatMap.symm]; exact done)
 obtain ⟨Γ₁,ha,hs,he⟩:=turn y (List.mem_of_getElem? hy)
 refine ⟨Γ₁,ha,turn_list_emit hl tests_nil' (fun zz D=>he D _) hs ⟨?_,rfl⟩ ?_⟩
 ·rw [if_pos rfl,flat_take hy,List.append_assoc]
 ·have:=fm_len (f:=fun y=>[g y]) (m:=1) (fun zz=>Nat.le_refl _) (ys.take j)
  rw [List.length_append]
  exact Nat.le_trans (Nat.add_le_add_left (Nat.le_trans this (Nat.le_trans (Nat.le_of_eq (Nat.mul_one _)) (List.length_take_le' ..))) _) hz
theorem lc_two {α β:Type} {xs:List α} {h:α -> D} (ys:α -> List β) {h':β -> D} (g:α -> β -> D) {elt t1 i1 t2 i2:Expr} {scope:Scope} {pos:Pos} {al:List Addr} (hc:comp2Ok env scope [t1,t2] = true) (hit:EvIt X A env Γ Ω t1 i1 (xs.map h) al)
  (hx:xs.length <= 9) (hy:∀ a,(ys a).length <= 9)
  (turn:∀ C a,a ∈ xs -> TwoT X A (cenvOf scope env C) (capt scope.names Γ) Ω t1 (h a) t2 i2 (ys a) h' elt (g a))
  (hf:∀ x,foldedSetIterable i1 env x = pure x:=by intro _; rfl) (hf2:∀ C x,foldedSetIterable i2 (cenvOf scope env C) x = pure x:=by intro _ _; rfl) :
  CompD X A env Γ Ω (.ListComp elt [⟨t1,i1,[],0⟩,⟨t2,i2,[],0⟩] scope pos) i1 scope (emitL elt) t1 [] [⟨t2,i2,[],0⟩] (.lst []) (.lst (xs.flatMap fun a=>(ys a).map (g a))) where
 it:=isComp_list
 sc:=scopeOk (and_l hc)
 hf:=hf
 run:=by
  refine ⟨[t1,t2].flatMap tgtNames,xs.map h,al,fun i c Ω'=>c = .lst ((xs.take i).flatMap fun a=>(ys a).map (g a)) /\ Ω' = Ω,fun zz h=>List.mem_append_left _ h,ns_ok (and_r hc),hit,⟨rfl,rfl⟩,?_,fun c' Ω' h=>⟨by rw [h.1,List.length_map,List.take_length],h.2⟩⟩
  rintro C i a cc1 Ω1 ha ⟨rfl,rfl⟩
  obtain ⟨x,hx',rfl⟩:=map_at ha
  obtain ⟨Γ1,h1,h2,h3,h4⟩:=turn C x (List.mem_of_getElem? hx')
  refine ⟨Γ1,fun D=>h1 D _,turn_last (g x) isComp_list rfl rfl (hf2 C) (fun x hx=>List.mem_append_right _ (List.mem_append_left _ hx)) h2 h3 ?_ h4 ⟨by rw [flat_take hx'],rfl⟩⟩
  exact Nat.le_trans (Nat.add_le_add (Nat.le_trans (fm_len (m:=9) (fun a=>by rw [List.length_map]; exact hy a) _) (Nat.mul_le_mul_right _ (Nat.le_trans (List.length_take_le' ..) hx))) (hy x)) (by decide)
theorem lc_three {α β γ:Type} {xs:List α} {h:α -> D} {ys:List β} {h':β -> D} {zs:List γ} {h'':γ -> D} (g:α -> β -> γ -> D) {elt t1 i1 t2 i2 t3 i3:Expr} {scope:Scope} {pos:Pos} {al:List Addr} (hc:comp2Ok env scope [t1,t2,t3] = true) (hit:EvIt X A env Γ Ω t1 i1 (xs.map h) al)
  (hx:xs.length <= 5) (hy:ys.length <= 5) (hz:zs.length <= 5)
  (turn:∀ C a,a ∈ xs -> ThreeT X A (cenvOf scope env C) (capt scope.names Γ) Ω t1 (h a) t2 i2 ys h' t3 i3 zs h'' elt (g a))
  (hf:∀ x,foldedSetIterable i1 env x = pure x:=by intro _; rfl) (hf2:∀ C x,foldedSetIterable i2 (cenvOf scope env C) x = pure x:=by intro _ _; rfl) (hf3:∀ C x,foldedSetIterable i3 (cenvOf scope env C) x = pure x:=by intro _ _; rfl) :
  CompD X A env Γ Ω (.ListComp elt [⟨t1,i1,[],0⟩,⟨t2,i2,[],0⟩,⟨t3,i3,[],0⟩] scope pos) i1 scope (emitL elt) t1 [] [⟨t2,i2,[],0⟩,⟨t3,i3,[],0⟩] (.lst []) (.lst (xs.flatMap fun a=>ys.flatMap fun b=>zs.map (g a b))) where
 it:=isComp_list
 sc:=scopeOk (and_l hc)
 hf:=hf
 run:=by
  have q:∀ (a:α) (l:List β),(l.flatMap fun b=>zs.map (g a b)).length <= l.length * 5:=fun a=>fm_len fun b=>by rw [List.length_map]; exact hz
  refine ⟨[t1,t2,t3].flatMap tgtNames,xs.map h,al,fun i c Ω'=>c = .lst ((xs.take i).flatMap fun a=>ys.flatMap fun b=>zs.map (g a b)) /\ Ω' = Ω,fun zz h=>List.mem_append_left _ h,ns_ok (and_r hc),hit,⟨rfl,rfl⟩,?_,fun c' Ω' h=>⟨by rw [h.1,List.length_map,List.take_length],h.2⟩⟩
  rintro C i a cc1 Ω1 ha ⟨rfl,rfl⟩
  obtain ⟨x,hx',rfl⟩:=map_at ha
  obtain ⟨Γ1,h1,h2,h3,h4⟩:=turn C x (List.mem_of_getElem? hx')
  refine ⟨Γ1,fun D=>h1 D _,turn_in (fun b=>zs.map (g x b)) isComp_list rfl (hf2 C) (fun x hx=>List.mem_append_right _ (List.mem_append_left _ hx)) h2 h3 (fun j y hy'=>?_) ⟨by rw [flat_take hx'],rfl⟩⟩
  obtain ⟨Γ2,k1,k2,k3,k4⟩:=h4 y (List.mem_of_getElem? hy')
  refine ⟨Γ2,k1,turn_last (g x y) isComp_list rfl rfl (hf3 C) (fun x hx=>List.mem_append_right _ (List.mem_append_right _ (List.mem_append_left _ hx))) k2 k3 ?_ k4 ⟨by rw [flat_take hy',List.append_assoc],rfl⟩⟩
  rw [List.length_append]
  exact Nat.le_trans (Nat.add_le_add (Nat.add_le_add (Nat.le_trans (fm_len (m:=25) (fun a=>Nat.le_trans (q a ys) (Nat.mul_le_mul_right 5 hy)) _) (Nat.mul_le_mul_right _ (Nat.le_trans (List.length_take_le' ..) hx))) (Nat.le_trans (q x _) (Nat.mul_le_mul_right _ (Nat.le_trans (List.length_take_le' ..) hy)))) hz) (by decide)
end
end
section
set_option tactic.hygienic true in
theorem mulS_len (x:Str) (n:Int):(mulS x n).length <= n.toNat * x.length:=by
 unfold mulS
 split
 ·exact Nat.zero_le _
 ·rename_i h
  split
  ·rename_i h2
   simp only [Bool.or_eq_true,beq_iff_eq] at h2
   rcases h2 with h2 | h2
   ·subst h2; simp
   ·rw [h2]; exact Nat.zero_le _
  ·show (List.foldl (· ++ ·) #[] (List.replicate n.toNat x.cps)).size <= _
   rw [rep_size]; simp; exact Nat.le_refl _
noncomputable def partL (c:Nat -> Nat) (k:Nat):Str:=(mulS ")" (if decide ((k:Int) > 0) = true then 1 else 0) ++ pieces.getD (c ((k + 5) % 6) / (if 3 * k > 1 then 3 * k else 1) % 6) Str.empty) ++ mulS "(" ((rowL c 5 k).length:Nat)
noncomputable def ringL (c:Nat -> Nat) (x:Nat):List Nat:=((List.range 5).map (· + 1)).filter fun k=>decide (nmL c k = x)
noncomputable def roomL (c:Nat -> Nat) (x:Nat):Nat:=if (ringL c x).length > 1 then (ringL c x).length else 1
noncomputable def b3 (t:Nat × Nat × Nat) (x:Nat):Nat:=match x with
 | 0=>t.1
 | 1=>t.2.1
 | _=>t.2.2
noncomputable def startsL (c:Nat -> Nat):List (Nat × Nat × Nat):=(List.range (roomL c 0)).flatMap fun i=>(List.range (roomL c 1)).flatMap fun j=>(List.range (roomL c 2)).map fun n=>(i,j,n)
noncomputable def partsD (c:Nat -> Nat):D:=.lst (((List.range 6).map (partL c)).map .str)
noncomputable def startsD (c:Nat -> Nat):D:=.lst ((startsL c).map fun t=>begD (b3 t))
theorem row_len (c:Nat -> Nat) (k:Nat):(rowL c 5 k).length <= 5:=by
 unfold rowL
 rw [List.length_map]
 exact Nat.le_trans (List.length_filter_le _ _) (by simp)
theorem ring_len (c:Nat -> Nat) (x:Nat):(ringL c x).length <= 5:=by
 unfold ringL
 exact Nat.le_trans (List.length_filter_le _ _) (by simp)
theorem pieces_len (i:Nat):(pieces.getD i Str.empty).length <= 6:=by
 match i with
 | 0 | 1 | 2 | 3 | 4 | 5=>decide +kernel
 | n + 6=>exact Nat.zero_le _
theorem room_le (c:Nat -> Nat) (x:Nat):roomL c x <= 5:=by have:=ring_len c x; unfold roomL; split <;> omega
theorem mem_012 {x:Nat} (h:x ∈ [0,1,2]):x < 3:=by
 rcases List.mem_cons.mp h with rfl | h
 ·decide
 rcases List.mem_cons.mp h with rfl | h
 ·decide
 ·rw [List.mem_singleton.mp h]; decide
noncomputable def l15:List Nat:=(List.range 5).map (· + 1)
theorem mem_15 {k:Nat} (h:k ∈ l15):1 <= k /\ k < 6:=by
 obtain ⟨j,hj,rfl⟩:=List.mem_map.mp h
 exact ⟨Nat.succ_pos j,Nat.succ_lt_succ (List.mem_range.mp hj)⟩
section
variable {X:Cx} {P:Params} {A:Around} {env:Env} {Γ:Loc} {Ω:Own}
theorem it_abc {x:Str} {p q:Pos} {k:Nat} (hh:A.handled = none):EvIt X A env Γ Ω (.Name x p) (.Constant (.str "abc") k q) ([0,1,2].map fun x=>D.str (lt x)) []:=(show signs (Str.ofString "abc") = [0,1,2].map fun x=>D.str (lt x) from signs_abc) ▸ it_str hh (by kernel_rfl) ev_str
theorem it_15 {x:Str} {p p' p1 p2 pos:Pos} {k1 k2:Nat} (hh:A.handled = none) (hf:Ev X A env Γ Ω (.Name "range" p') (.val (.type "range"))):EvIt X A env Γ Ω (.Name x p) (.Call (.Name "range" p') [.Constant (.int 1) k1 p1,.Constant (.int 6) k2 p2] [] pos) (l15.map fun (i:Nat)=>D.int (i:Nat)) []:=
 it_range2 hh hf ev_int ev_int (by decide) (by decide) (by decide) (by decide) rfl rfl
theorem cD_pred {c:Nat -> Nat} {i:Nat} (h:i < 6):Op2 X A env Γ Ω getItem (cD c) (.int ((i:Int) - 1)) (.int (c ((i + 5) % 6):Nat)):=by
 match i,h with
 | 0,_=>exact get_lst_neg (by decide) (by simp) (by simp) (by simp)
 | k + 1,h=>
  have e:(k + 1 + 5) % 6 = k:=by omega
  rw [e]
  exact cD_get (by omega) (by push_cast; omega)
noncomputable def Γpl (ns:List Int) (c:Nat -> Nat):Loc:=[("script",iD ns),("cells",cD c),("pieces",pD),("names",rowD (nsL c 5)),("lists",lsD (lsL c 5)),("calls",.lst ((csL c 5).map callD)),("owns",owD (osL c 5)),("parts",partsD c),("rings",ringD (ringL c)),("rooms",.lst ([0,1,2].map fun x=>.lst (intsD 0 (roomL c x)))),("starts",startsD c)]
theorem lsL_get (c:Nat -> Nat) {i:Nat} (h:i < 6):((lsL c 5).map rowD)[((i:Nat):Int).toNat]? = some (rowD (rowL c 5 i)):=by
 rw [Int.toNat_natCast,lsL,List.map_map,List.getElem?_map,List.getElem?_range h]; rfl
theorem nsL_get (c:Nat -> Nat) {i:Nat} (h:i < 6):((nsL c 5).map fun j=>D.str (lt j))[((i:Nat):Int).toNat]? = some (.str (lt (nmL c i))):=by
 rw [Int.toNat_natCast,nsL,List.map_map,List.getElem?_map,List.getElem?_range h]; rfl
theorem ev_nm {c:Nat -> Nat} {k:Nat} {v e:Expr} {pos:Pos} (hk:k < 6) (h1:Ev X A env Γ Ω v (rowD (nsL c 5))) (h2:Ev X A env Γ Ω e (.int (k:Nat))):Ev X A env Γ Ω (.Subscript v e pos) (.str (lt (nmL c k))):=ev_sub h1 h2 subT_lst (get_lst (Int.natCast_nonneg k) (nsL_get c hk) (nle rfl))
theorem ev_rw {c:Nat -> Nat} {k:Nat} {v e:Expr} {pos:Pos} (hk:k < 6) (h1:Ev X A env Γ Ω v (lsD (lsL c 5))) (h2:Ev X A env Γ Ω e (.int (k:Nat))):Ev X A env Γ Ω (.Subscript v e pos) (rowD (rowL c 5 k)):=ev_sub h1 h2 subT_lst (get_lst (Int.natCast_nonneg k) (lsL_get c hk) (nle rfl))
theorem law_parts (hX:XOk X P) {L:Addr} (hh:A.handled = none) {ns:List Int} {c:Nat -> Nat} {R:PostP}
  (k:Exs X A (envF P 136 L) (upd (Γlay ns c) "parts" (partsD c)) [] ((fbK P 136).drop 6) R):Exs X A (envF P 136 L) (Γlay ns c) [] ((fbK P 136).drop 5) R:=by
 refine exs_cons (ex_assign (d:=partsD c) (EvO.ev (c:=.lst (((List.range 6).map (partL c)).map .str)) (evo_lc (?_:CompD X A _ _ _ _ _ _ _ _ _ _ _ _))) (by kernel_rfl) k (by rfl))
 rw [List.map_map]
 refine lc_mapA _ (it_nat (n:=6) hh (eb hX) ev_int (by decide) rfl) (nle rfl) fun C i acc hi=>⟨_,fun Da=>asgI_name,capt_sub (by rfl),fun Da=>?_⟩
 replace hi:=List.mem_range.mp hi
 show Ev X A _ _ _ _ (.str (partL c i))
 have hr:=row_len c i
 have hp:=pieces_len (c ((i + 5) % 6) / (if 3 * i > 1 then 3 * i else 1) % 6)
 have h1:=mulS_len ")" (if decide ((i:Int) > 0) = true then 1 else 0)
 have h2:=mulS_len "(" ((rowL c 5 i).length:Nat)
 have l1:(Str.ofString ")").length = 1:=by kernel_rfl
 have l2:(Str.ofString "(").length = 1:=by kernel_rfl
 rw [l1,Nat.mul_one] at h1
 rw [l2,Nat.mul_one,Int.toNat_natCast] at h2
 have h1':(if decide ((i:Int) > 0) = true then (1:Int) else 0).toNat <= 1:=by split <;> decide
 have hj:c ((i + 5) % 6) / (if 3 * i > 1 then 3 * i else 1) % 6 < 6:=Nat.mod_lt _ (by decide)
 refine ev_bin (dd1:=.str (mulS ")" (if decide ((i:Int) > 0) = true then 1 else 0) ++ pieces.getD (c ((i + 5) % 6) / (if 3 * i > 1 then 3 * i else 1) % 6) Str.empty)) (ev_bin (ev_bin ev_str (ev_call (eb (v:=.type "int") hX) (fun zz=>kp_t) (evl_cons (ev_cmp va ev_int op_gt rfl) evl_nil rfl) int_bool rfl rfl) (op_muls (by split <;> decide) (by split <;> decide) (by decide +kernel))) (ev_sub (dd1:=pD) (dd2:=.int ((c ((i + 5) % 6) / (if 3 * i > 1 then 3 * i else 1) % 6:Nat):Int)) va (ev_modN (b:=6) (ev_divN (b:=if 3 * i > 1 then 3 * i else 1) (ev_sub (dd1:=cD c) va (ev_bin va ev_int op_sub) subT_lst (cD_pred hi)) (ev_icast (ev_call (eb (v:=.builtin "max") hX) (fun zz=>kp_b) (evl_cons ev_int (evl_cons (ev_bin ev_int va (op_mul (IntMulOk.of_left (by decide)))) evl_nil rfl) rfl) (max_int hh) rfl rfl) ?_) ?_ ?_) ev_int (by decide)) subT_lst (get_lst (by omega) ?_ (by decide))) (op_adds ?_)) (ev_bin ev_str (ev_call (eb (v:=.builtin "len") hX) (fun zz=>kp_b) (evl_cons (ev_rw hi va va) evl_nil rfl) (len_row (by omega)) rfl rfl) (op_muls (by omega) (by omega) (by decide +kernel))) (op_adds ?_)
 ·split <;> split <;> (try omega) <;> (push_cast; omega)
 ·split <;> omega
 ·split <;> omega
 ·rw [Int.toNat_natCast,List.getElem?_map,List.getD_eq_getElem?_getD,List.getElem?_eq_getElem (by exact hj)]; rfl
 ·exact Nat.le_trans (Nat.add_le_add (Nat.le_trans h1 h1') hp) (by decide)
 ·rw [Str.length_append]
  exact Nat.le_trans (Nat.add_le_add (Nat.add_le_add (Nat.le_trans h1 h1') hp) (Nat.le_trans h2 hr)) (by decide)
theorem len_ring (l:List Nat) (h:l.length <= 5):CallR X A env Γ Ω (.builtin "len") [.lst (l.map fun k=>D.int (k:Nat))] (.int (l.length:Nat)):=len_eq (List.length_map ..) (by omega)
theorem law_rings (hX:XOk X P) {L:Addr} (hh:A.handled = none) {ns:List Int} {c:Nat -> Nat} {R:PostP}
  (k:Exs X A (envF P 136 L) (Γpl ns c) [] ((fbK P 136).drop 9) R):Exs X A (envF P 136 L) (upd (Γlay ns c) "parts" (partsD c)) [] ((fbK P 136).drop 6) R:=by
 have hr3:(([0,1,2].map fun x=>(lt x,D.lst ((ringL c x).map fun k=>D.int (k:Nat)))).map (·.1)).Nodup:=by show [lt 0,lt 1,lt 2].Nodup; decide +kernel
 refine exs_cons (ex_assign (d:=ringD (ringL c)) (EvO.ev (evo_dc (dc_mapN _ hr3 (it_abc hh) (nle rfl) fun C x acc hx=>⟨_,fun Da=>asgI_name,capt_sub (by rfl),fun Da=>va,fun Da=>?_⟩))) (by kernel_rfl) ?_ (by rfl))
 ·exact EvO.ev (c:=.lst ((ringL c x).map fun k=>D.int (k:Nat))) (evo_lc (lc_filt (fun k=>decide (nmL c k = x)) _ (it_15 hh (eb hX)) (nle rfl) fun C k acc hk=>⟨_,fun Da=>asgI_name,capt_sub (by rfl),fun Da=>tests_one (evt_cmp (ev_nm (mem_15 hk).2 va va) va (op_b op_eqs (lt_eq _ _ (nmL_lt c k) (Nat.lt_succ_of_lt (mem_012 hx)))) rfl),fun zz Da=>va⟩))
 refine exs_cons (ex_assign (d:=.lst ([0,1,2].map fun x=>.lst (intsD 0 (roomL c x)))) (EvO.ev (c:=.lst ([0,1,2].map fun x=>.lst (intsD 0 (roomL c x)))) (evo_lc (lc_mapA _ (it_abc hh) (nle rfl) fun C x acc hx=>⟨_,fun Da=>asgI_name,capt_sub (by rfl),fun Da=>?_⟩))) (by kernel_rfl) ?_ (by rfl))
 ·have h1:=room_le c x
  exact ev_list_range hh (eb hX) (eb hX) (ev_icast (ev_call (eb (v:=.builtin "max") hX) (fun zz=>kp_b) (evl_cons ev_int (evl_cons (ev_call (eb (v:=.builtin "len") hX) (fun zz=>kp_b) (evl_cons (ev_tri (g:=fun x=>.lst ((ringL c x).map fun k=>D.int (k:Nat))) (mem_012 hx) va va) evl_nil rfl) (len_ring _ (ring_len c x)) rfl rfl) evl_nil rfl) rfl) (max_int hh) rfl rfl) (by unfold roomL; split <;> split <;> omega)) (by omega) rfl rfl
 have hrm:∀ x,x < 3 -> ([0,1,2].map fun x=>D.lst (intsD 0 (roomL c x)))[((x:Nat):Int).toNat]? = some (.lst ((List.range (roomL c x)).map fun (i:Nat)=>D.int (i:Nat))):=fun x hx=>by
  rw [<- ints_0]
  match x,hx with
  | 0,_=>rfl
  | 1,_=>rfl
  | 2,_=>rfl
 have hr:∀ x,(List.range (roomL c x)).length <= 5:=fun x=>by rw [List.length_range]; exact room_le c x
 refine exs_cons (ex_assign_lc (c:=.lst ((startsL c).map fun t=>begD (b3 t))) ?_ (by rfl) (by kernel_rfl) k)
 have e:(startsL c).map (fun t=>begD (b3 t)) = (List.range (roomL c 0)).flatMap fun i=>(List.range (roomL c 1)).flatMap fun j=>(List.range (roomL c 2)).map fun n=>begD (b3 (i,j,n)):=by
  simp only [startsL,List.map_flatMap,List.map_map]; rfl
 rw [e]
 refine lc_three (h':=fun i=>.int (i:Nat)) (h'':=fun i=>.int (i:Nat)) (fun i j n=>begD (b3 (i,j,n))) (by kernel_rfl) (it_list hh (ev_sub (dd2:=.int ((0:Nat):Int)) va ev_int subT_lst (get_lst (by decide) (hrm 0 (by decide)) (nle rfl)))) (hr 0) (hr 1) (hr 2) fun C i hi=>?_
 refine ⟨_,fun Da acc=>asgI_name,capt_sub (by rfl),fun Da acc=>it_list hh (ev_sub (dd2:=.int ((1:Nat):Int)) va ev_int subT_lst (get_lst (by decide) (hrm 1 (by decide)) (nle rfl))),fun j hj=>?_⟩
 refine ⟨_,fun Da acc=>asgI_name,capt_sub (by rfl),fun Da acc=>it_list hh (ev_sub (dd2:=.int ((2:Nat):Int)) va ev_int subT_lst (get_lst (by decide) (hrm 2 (by decide)) (nle rfl))),fun n hn=>?_⟩
 refine ⟨_,fun Da acc=>asgI_name,capt_sub (by rfl),fun Da acc=>?_⟩
 exact EvO.ev (evo_dict (es:=[("a",.int (i:Nat)),("b",.int (j:Nat)),("c",.int (n:Nat))]) (fun Db=>evpr_cons ev_str va (evpr_cons ev_str va (evpr_cons ev_str va evpr_nil))))
end
end
section
variable {ow:List Int} {ls:List (List Nat)}
theorem bump_lookup {t:List (Nat × Nat)} (h:(t.map (·.1)).Nodup) (p:Nat × Nat) (c:Nat):(bump t p).lookup c = if c = p.1 then some ((t.lookup p.1).getD 0 + p.2) else t.lookup c:=dst_lookup _ _ _ _ h
theorem lookup_none {β:Type} {l:List (Nat × β)} {c:Nat} (h:c ∉ l.map (·.1)):l.lookup c = none:=by
 cases e:l.lookup c with
 | none=>rfl
 | some b=>exact absurd (lookup_key.mp (by rw [e]; rfl)) h
theorem addT_lookup (c:Nat):∀ (u t:List (Nat × Nat)),(t.map (·.1)).Nodup -> (u.map (·.1)).Nodup -> (addT t u).lookup c = match u.lookup c with
  | none=>t.lookup c
  | some n=>some ((t.lookup c).getD 0 + n)
 | [],t,_,_=>rfl
 | p :: u,t,ht,hu=>by
  rw [List.map_cons,List.nodup_cons] at hu
  show (addT (bump t p) u).lookup c = _
  rw [addT_lookup c u (bump t p) (bump_nodup ht p) hu.2,bump_lookup ht]
  obtain ⟨a,n⟩:=p
  rw [List.lookup_cons]
  by_cases h:c = a
  ·subst h
   rw [lookup_none hu.1]
   simp
  ·have:(c == a) = false:=by simpa using h
   simp only [this,if_neg h]
theorem map_same {k w:Nat} {es:List (Nat × Nat)} (hk:k ∉ es.map (·.1)):(es.map fun kv=>if kv.1 = k then (kv.1,w) else kv) = es:=by
 conv=>rhs; rw [<- List.map_id es]
 refine List.map_congr_left fun p hp=>?_
 rw [if_neg]; rfl
 intro q; exact hk (List.mem_map.mpr ⟨p,hp,q⟩)
theorem map_sum (k w:Nat):∀ es:List (Nat × Nat),(es.map (·.1)).Nodup -> k ∈ es.map (·.1) -> ((es.map fun kv=>if kv.1 = k then (kv.1,w) else kv).map (·.2)).sum + (es.lookup k).getD 0 = (es.map (·.2)).sum + w
 | [],_,h=>by simp at h
 | (a,n) :: r,hn,h=>by
  rw [List.map_cons,List.nodup_cons] at hn
  rw [List.lookup_cons]
  by_cases q:a = k
  ·subst q
   simp only [List.map_cons,if_true,List.sum_cons,beq_self_eq_true,Option.getD_some]
   rw [map_same hn.1]; omega
  ·have hk:k ∈ r.map (·.1):=by
    simp only [List.map_cons,List.mem_cons] at h
    rcases h with h | h
    ·exact absurd h.symm q
    ·exact h
   have ih:=map_sum k w r hn.2 hk
   have e:(k == a) = false:=by simpa using fun h=>q h.symm
   simp only [List.map_cons,if_neg q,List.sum_cons,e] at ih ⊢
   omega
theorem dst_sum (k v:Nat) (es:List (Nat × Nat)) (hn:(es.map (·.1)).Nodup):((dst es k ((es.lookup k).getD 0 + v)).map (·.2)).sum = (es.map (·.2)).sum + v:=by
 by_cases h:k ∈ es.map (·.1)
 ·rw [dst_in h]
  have:=map_sum k ((es.lookup k).getD 0 + v) es hn h
  omega
 ·rw [dst_out h,lookup_none h]; simp
theorem addT_sum:∀ (u t:List (Nat × Nat)),(t.map (·.1)).Nodup -> ((addT t u).map (·.2)).sum = (t.map (·.2)).sum + (u.map (·.2)).sum
 | [],t,_=>by simp [addT]
 | p :: u,t,ht=>by
  show ((addT (bump t p) u).map (·.2)).sum = _
  rw [addT_sum u (bump t p) (bump_nodup ht p)]
  have:((bump t p).map (·.2)).sum = (t.map (·.2)).sum + p.2:=dst_sum _ _ _ ht
  rw [this,List.map_cons,List.sum_cons]; omega
theorem tally_sum (cs:List Nat):((tally cs).map (·.2)).sum = cs.length:=by
 induction cs using snoc_ind with
 | h0=>rfl
 | h1 l a ih=>
  rw [tally_snoc,dst_sum _ _ _ (tally_nodup l),ih,List.length_append]; rfl
theorem sumB_lookup (one two:Book) {x:Nat} (hx:x < 3):(sumB one two).lookup x = if (one.lookup x).isSome || (two.lookup x).isSome then some (((one.lookup x).getD ent0).add ((two.lookup x).getD ent0)) else none:=by
 unfold sumB
 simp only [List.filterMap_cons,List.filterMap_nil]
 generalize hb0:((one.lookup 0).isSome || (two.lookup 0).isSome) = b0
 generalize hb1:((one.lookup 1).isSome || (two.lookup 1).isSome) = b1
 generalize hb2:((one.lookup 2).isSome || (two.lookup 2).isSome) = b2
 match x,hx with
 | 0,_=>rw [hb0]; cases b0 <;> cases b1 <;> cases b2 <;> simp [List.lookup_cons]
 | 1,_=>rw [hb1]; cases b0 <;> cases b1 <;> cases b2 <;> simp [List.lookup_cons]
 | 2,_=>rw [hb2]; cases b0 <;> cases b1 <;> cases b2 <;> simp [List.lookup_cons]
theorem sumB_none (one two:Book) {x:Nat} (hx:¬x < 3):(sumB one two).lookup x = none:=by
 refine lookup_none fun h=>?_
 obtain ⟨p,hp,rfl⟩:=List.mem_map.mp h
 exact hx ((sumB_keys one two).2 p hp)
noncomputable def whoOf (cs:List T3) (x:Nat):List Nat:=(mineOf cs x).map fun t=>t.2.1
noncomputable def addW (c1 c2:List T3) (x:Nat):List (Nat × Nat):=addT (tally (whoOf c1 x)) (tally (whoOf c2 x))
theorem who_4 {cs:List T3} (h:∀ t ∈ cs,t.2.1 < 4) (x:Nat):∀ c ∈ whoOf cs x,c < 4:=fun c hc=>by
 obtain ⟨t,ht,rfl⟩:=List.mem_map.mp hc
 exact h t (List.mem_filter.mp ht).1
theorem sum_ok {c1 c2:List T3} (h1:∀ t ∈ c1,t.2.1 < 4) (h2:∀ t ∈ c2,t.2.1 < 4) (x:Nat):CalOk (((bookOf ow ls c1).lookup x).getD ent0).cal (((bookOf ow ls c2).lookup x).getD ent0).cal:=by
 rw [book_getD,book_getD]
 exact cal_ok x (tally_nodup _) (tally_nodup _) (tally_4 (who_4 h1 x)) (tally_4 (who_4 h2 x))
noncomputable def entS (ow:List Int) (ls:List (List Nat)) (c1 c2:List T3) (x:Nat):Ent:=(entOf ow ls x (mineOf c1 x)).add (entOf ow ls x (mineOf c2 x))
theorem entS_cal {c1 c2:List T3} (h1:∀ t ∈ c1,t.2.1 < 4) (h2:∀ t ∈ c2,t.2.1 < 4) (x:Nat):(entS ow ls c1 c2 x).cal = calOf x (addW c1 c2 x):=
 cal_add x _ _ (tally_nodup _) (tally_4 (who_4 h1 x)) (tally_4 (who_4 h2 x))
theorem addW_nodup (c1 c2:List T3) (x:Nat):((addW c1 c2 x).map (·.1)).Nodup:=addT_nodup _ _ (tally_nodup _)
theorem addW_4 {c1 c2:List T3} (h1:∀ t ∈ c1,t.2.1 < 4) (h2:∀ t ∈ c2,t.2.1 < 4) (x:Nat):∀ p ∈ addW c1 c2 x,p.1 < 4:=addT_keys4 _ _ (tally_4 (who_4 h1 x)) (tally_4 (who_4 h2 x))
theorem addW_sum (c1 c2:List T3) (x:Nat):((addW c1 c2 x).map (·.2)).sum = (mineOf (c1 ++ c2) x).length:=by
 unfold addW
 rw [addT_sum _ _ (tally_nodup _),tally_sum,tally_sum]
 simp [whoOf,mineOf]
theorem addW_lookup (c1 c2:List T3) (x c:Nat):(addW c1 c2 x).lookup c = if c ∈ whoOf (c1 ++ c2) x then some ((whoOf (c1 ++ c2) x).count c) else none:=by
 unfold addW
 rw [addT_lookup _ _ _ (tally_nodup _) (tally_nodup _),tally_lookup,tally_lookup]
 have e:whoOf (c1 ++ c2) x = whoOf c1 x ++ whoOf c2 x:=by simp [whoOf,mineOf]
 rw [e,List.count_append]
 simp only [List.mem_append]
 by_cases a:c ∈ whoOf c1 x <;> by_cases b:c ∈ whoOf c2 x
 ·simp [a,b]
 ·simp [a,b,List.count_eq_zero_of_not_mem b]
 ·simp [a,b,List.count_eq_zero_of_not_mem a]
 ·simp [a,b]
theorem sum_lookup (c1 c2:List T3) {x:Nat} (hx:x < 3):(sumB (bookOf ow ls c1) (bookOf ow ls c2)).lookup x = if x ∈ (c1 ++ c2).map (·.1) then some (entS ow ls c1 c2 x) else none:=by
 rw [sumB_lookup _ _ hx,book_getD,book_getD,book_lookup,book_lookup]
 by_cases a:x ∈ c1.map (·.1) <;> by_cases b:x ∈ c2.map (·.1) <;> simp only [a,b,if_true,if_false,Option.isSome_some,Option.isSome_none,Bool.or_true,Bool.or_false,Bool.true_or,Bool.false_or,List.map_append,List.mem_append,or_true,true_or,or_false,false_or,or_self,Bool.or_self,Bool.false_eq_true] <;> rfl
variable {ow:List Int} {ls:List (List Nat)}
theorem sumIs_cons (n:Int) (r:List Int):sumIs (n :: r) = n + sumIs r:=by
 simp only [sumIs,List.foldl_cons]
 have:∀ (l:List Int) (a:Int),l.foldl (· + ·) a = a + l.foldl (· + ·) 0:=by
  intro l
  induction l with
  | nil=>intro a; simp
  | cons b l ih=>intro a; rw [List.foldl_cons,List.foldl_cons,ih,ih (0 + b)]; omega
 rw [this]; omega
theorem sumIs_app (a b:List Int):sumIs (a ++ b) = sumIs a + sumIs b:=by
 induction a with
 | nil=>simp [sumIs]
 | cons n r ih=>rw [List.cons_append,sumIs_cons,sumIs_cons,ih]; omega
theorem sumIs_perm {a b:List Int} (h:a.Perm b):sumIs a = sumIs b:=by
 induction h with
 | nil=>rfl
 | cons x _ ih=>rw [sumIs_cons,sumIs_cons,ih]
 | swap x y l=>rw [sumIs_cons,sumIs_cons,sumIs_cons,sumIs_cons]; omega
 | trans _ _ h1 h2=>exact h1.trans h2
theorem entS_eq (c1 c2:List T3) (x:Nat):(entS ow ls c1 c2 x).cc = (((mineOf (c1 ++ c2) x).countP fun t=>decide (t.2.1 ≠ x):Nat):Int) /\ (entS ow ls c1 c2 x).nc = ((mineOf (c1 ++ c2) x).length:Int) /\ (entS ow ls c1 c2 x).tt = sumIs ((mineOf (c1 ++ c2) x).map fun t=>ow.getD t.2.2 0) /\ (entS ow ls c1 c2 x).ct = sumIs ((mineOf (c1 ++ c2) x).map fun t=>((ls.getD t.2.2 []).length:Int)):=by
 have e:mineOf (c1 ++ c2) x = mineOf c1 x ++ mineOf c2 x:=by simp [mineOf]
 rw [e]
 refine ⟨?_,?_,?_,?_⟩
 ·simp only [entS,Ent.add,entOf,List.countP_append]; push_cast; omega
 ·simp only [entS,Ent.add,entOf,List.length_append]; push_cast; omega
 ·simp only [entS,Ent.add,entOf,List.map_append,sumIs_app]; omega
 ·simp only [entS,Ent.add,entOf,List.map_append,sumIs_app]; omega
structure Alike (a b:List T3):Prop where
 who:(a.map fun t=>(t.1,t.2.1)).Perm (b.map fun t=>(t.1,t.2.1))
 lst:(a.map fun t=>(t.1,t.2.2)).Perm (b.map fun t=>(t.1,t.2.2))
theorem mine_map {β:Type} (g:T3 -> β) (x:Nat):∀ a:List T3,(mineOf a x).map g = ((a.map fun t=>(t.1,g t)).filter fun p=>decide (p.1 = x)).map (·.2)
 | []=>rfl
 | t :: r=>by
  have ih:=mine_map g x r
  unfold mineOf at ih ⊢
  by_cases h:t.1 = x
  ·simp only [List.filter_cons,List.map_cons,h,decide_true,if_true] at ih ⊢
   rw [ih]
  ·simp only [List.filter_cons,List.map_cons,h,decide_false,Bool.false_eq_true,if_false] at ih ⊢
   exact ih
theorem Alike.who' {a b:List T3} (h:Alike a b) (x:Nat):(whoOf a x).Perm (whoOf b x):=by
 unfold whoOf
 rw [mine_map,mine_map]
 exact (h.who.filter _).map _
theorem Alike.lst' {a b:List T3} (h:Alike a b) (x:Nat):((mineOf a x).map fun t=>t.2.2).Perm ((mineOf b x).map fun t=>t.2.2):=by
 rw [mine_map,mine_map]
 exact (h.lst.filter _).map _
theorem Alike.len {a b:List T3} (h:Alike a b) (x:Nat):(mineOf a x).length = (mineOf b x).length:=by
 have:=(h.lst' x).length_eq
 simpa using this
structure T4 (cs:List T3):Prop where
 a:∀ t ∈ cs,t.1 < 3
 b:∀ t ∈ cs,t.2.1 < 4
set_option tactic.hygienic true in
theorem same_sum {X:Cx} {c1 c2 e1 e2:List T3} (h:Alike (c1 ++ c2) (e1 ++ e2)) (t1:T4 c1) (t2:T4 c2) (u1:T4 e1) (u2:T4 e2):SameR X 4 (.dct (bkD (sumB (bookOf ow ls c1) (bookOf ow ls c2)))) (.dct (bkD (sumB (bookOf ow ls e1) (bookOf ow ls e2)))):=by
 have hk:∀ x,x ∈ (c1 ++ c2).map (·.1) <-> x ∈ (e1 ++ e2).map (·.1):=fun x=>by
  have:=(h.who.map (·.1)).mem_iff (a:=x)
  rwa [List.map_map,List.map_map] at this
 refine same_book (sumB_keys _ _).1 (sumB_keys _ _).1 (fun p hp=>Nat.lt_trans ((sumB_keys _ _).2 p hp) (by decide)) (fun p hp=>Nat.lt_trans ((sumB_keys _ _).2 p hp) (by decide)) (fun x e he=>?_) (fun x hx=>?_)
 ·have hx:x < 3:=by
   rcases Nat.lt_or_ge x 3 with q | q
   ·exact q
   ·rw [sumB_none _ _ (by omega)] at he; cases he
  rw [sum_lookup _ _ hx] at he
  split at he
  ·rename_i hm
   cases he
   refine ⟨entS ow ls e1 e2 x,by rw [sum_lookup _ _ hx,if_pos ((hk x).mp hm)],?_⟩
   obtain ⟨a1,a2,a3,a4⟩:=entS_eq (ow:=ow) (ls:=ls) c1 c2 x
   obtain ⟨b1,b2,b3,b4⟩:=entS_eq (ow:=ow) (ls:=ls) e1 e2 x
   have hw:=h.who' x
   have hl:=h.lst' x
   refine same_ent ?_ ?_ ?_ ?_ ?_
   ·have q:∀ l:List T3,(mineOf l x).countP (fun t=>decide (t.2.1 ≠ x)) = (whoOf l x).countP (fun c=>decide (c ≠ x)):=fun l=>by
     unfold whoOf; rw [List.countP_map]; rfl
    rw [a1,b1,q,q,hw.countP_eq]
   ·rw [a2,b2,h.len x]
   ·have q:∀ l:List T3,(mineOf l x).map (fun t=>ow.getD t.2.2 0) = ((mineOf l x).map fun t=>t.2.2).map fun k=>ow.getD k 0:=fun l=>by rw [List.map_map]; rfl
    rw [a3,b3,q,q,sumIs_perm (hl.map _)]
   ·have q:∀ l:List T3,(mineOf l x).map (fun t=>((ls.getD t.2.2 []).length:Int)) = ((mineOf l x).map fun t=>t.2.2).map fun k=>((ls.getD k []).length:Int):=fun l=>by rw [List.map_map]; rfl
    rw [a4,b4,q,q,sumIs_perm (hl.map _)]
   ·rw [entS_cal t1.b t2.b,entS_cal u1.b u2.b]
    refine same_cal x (addW_nodup ..) (addW_nodup ..) (addW_4 t1.b t2.b x) (addW_4 u1.b u2.b x) fun c=>?_
    rw [addW_lookup,addW_lookup,hw.count_eq]
    simp only [hw.mem_iff]
  ·cases he
 ·have hx3:x < 3:=by
   rcases Nat.lt_or_ge x 3 with q | q
   ·exact q
   ·rw [sumB_none _ _ (by omega)] at hx; cases hx
  rw [sum_lookup _ _ hx3] at hx ⊢
  split at hx
  ·rename_i hm
   rw [if_pos ((hk x).mpr hm)]; rfl
  ·cases hx
end
section
noncomputable def firstL (c:Nat -> Nat):Nat:=1 + c 5 / 24 % 4
noncomputable def c1L (c:Nat -> Nat):List T3:=(csL c 5).take (firstL c)
noncomputable def c2L (c:Nat -> Nat):List T3:=(csL c 5).drop (firstL c)
noncomputable def fullL (c:Nat -> Nat):Book:=sumB (bookOf (osL c 5) (lsL c 5) (c1L c)) (bookOf (osL c 5) (lsL c 5) (c2L c))
noncomputable def topL (c:Nat -> Nat) (x:Nat):List Nat:=expand (addW (c1L c) (c2L c) x)
noncomputable def topsD (c:Nat -> Nat):D:=.dct ((fullL c).map fun p=>(lt p.1,rowD (topL c p.1)))
theorem cs_split (c:Nat -> Nat):c1L c ++ c2L c = csL c 5:=List.take_append_drop ..
theorem ca_ok (c:Nat -> Nat):∀ t ∈ csL c 5,t.1 < 3 /\ t.2.1 < 4 /\ 1 <= t.2.2 /\ t.2.2 < 6:=fun t ht=>by
 obtain ⟨k,hk,rfl⟩:=List.mem_map.mp ht
 have hk5:=List.mem_range.mp hk
 refine ⟨?_,nmL_lt ..,?_,?_⟩
 ·show nmL c (k + 1) < 3
  unfold nmL
  rw [if_neg (by omega)]
  exact Nat.mod_lt _ (by decide)
 ·show 1 <= k + 1; omega
 ·show k + 1 < 6; omega
theorem c1_mem (c:Nat -> Nat):∀ t ∈ c1L c,t ∈ csL c 5:=fun t h=>List.mem_of_mem_take h
theorem c2_mem (c:Nat -> Nat):∀ t ∈ c2L c,t ∈ csL c 5:=fun t h=>List.mem_of_mem_drop h
theorem os_len (c:Nat -> Nat):(osL c 5).length = 6:=by simp [osL]
theorem ls_len (c:Nat -> Nat):(lsL c 5).length = 6:=by simp [lsL]
theorem os_bd (c:Nat -> Nat):∀ n ∈ osL c 5,-1000 <= n /\ n <= 1000:=fun n hn=>by
 obtain ⟨k,hk,rfl⟩:=List.mem_map.mp hn
 unfold owL
 split <;> omega
theorem ls_bd (c:Nat -> Nat):∀ l ∈ lsL c 5,l.length <= 5 /\ ∀ j ∈ l,j < 3:=fun l hl=>by
 obtain ⟨k,hk,rfl⟩:=List.mem_map.mp hl
 refine ⟨row_len c k,fun j hj=>?_⟩
 obtain ⟨m,hm,rfl⟩:=List.mem_map.mp hj
 obtain ⟨i,hi,rfl⟩:=List.mem_map.mp (List.mem_filter.mp hm).1
 unfold nmL
 rw [if_neg (by omega)]
 exact Nat.mod_lt _ (by decide)
theorem calls_ok (c:Nat -> Nat) {cs:List T3} (h:∀ t ∈ cs,t.1 < 3 /\ t.2.1 < 4 /\ t.2.2 < 6) (hl:cs.length <= 500):CallsOk (osL c 5) (lsL c 5) cs where
 each:=fun t ht=>by
  have:=h t ht
  rw [os_len,ls_len]
  exact ⟨this.1,this.2.1,this.2.2,this.2.2⟩
 len:=hl
 ol:=by rw [os_len]; decide
 ll:=by rw [ls_len]; decide
 ob:=os_bd c
 lb:=fun l hl=>Nat.le_trans (ls_bd c l hl).1 (by decide)
theorem cs_len (c:Nat -> Nat):(csL c 5).length = 5:=by simp [csL]
theorem c1_ok (c:Nat -> Nat):CallsOk (osL c 5) (lsL c 5) (c1L c):=calls_ok c (fun t ht=>have q:=ca_ok c t (c1_mem c t ht); ⟨q.1,q.2.1,q.2.2.2⟩) (by have:=List.length_take_le (firstL c) (csL c 5); have:=List.length_take_le' (firstL c) (csL c 5); rw [cs_len] at this; unfold c1L; omega)
theorem c2_ok (c:Nat -> Nat):CallsOk (osL c 5) (lsL c 5) (c2L c):=calls_ok c (fun t ht=>have q:=ca_ok c t (c2_mem c t ht); ⟨q.1,q.2.1,q.2.2.2⟩) (by unfold c2L; rw [List.length_drop,cs_len]; omega)
theorem c1_t4 (c:Nat -> Nat):T4 (c1L c):=⟨fun t ht=>(ca_ok c t (c1_mem c t ht)).1,fun t ht=>(ca_ok c t (c1_mem c t ht)).2.1⟩
theorem c2_t4 (c:Nat -> Nat):T4 (c2L c):=⟨fun t ht=>(ca_ok c t (c2_mem c t ht)).1,fun t ht=>(ca_ok c t (c2_mem c t ht)).2.1⟩
theorem book_3 {ow:List Int} {ls:List (List Nat)} {cs:List T3} (h:∀ t ∈ cs,t.1 < 3):∀ p ∈ bookOf ow ls cs,p.1 < 3:=fun p hp=>by
 obtain ⟨x,hx,rfl⟩:=List.mem_map.mp hp
 obtain ⟨t,ht,e⟩:=List.mem_map.mp ((mem_firsts _ _).mp hx)
 rw [<- e]; exact h t ht
theorem mine_len_le (cs:List T3) (x:Nat):(mineOf cs x).length <= cs.length:=List.length_filter_le _ _
set_option tactic.hygienic true in
theorem full_mem {c:Nat -> Nat} {p:Nat × Ent} (h:p ∈ fullL c):p.1 < 3 /\ p.2 = entS (osL c 5) (lsL c 5) (c1L c) (c2L c) p.1 /\ p.1 ∈ (csL c 5).map (·.1):=by
 obtain ⟨hn,h3⟩:=sumB_keys (bookOf (osL c 5) (lsL c 5) (c1L c)) (bookOf (osL c 5) (lsL c 5) (c2L c))
 have hx:=h3 p h
 have hl:=lookup_nd hn (show (p.1,p.2) ∈ _ from h)
 rw [sum_lookup _ _ hx,cs_split] at hl
 split at hl
 ·rename_i hm; exact ⟨hx,(Option.some.inj hl).symm,hm⟩
 ·cases hl
theorem full_keys (c:Nat -> Nat):((fullL c).map (·.1)).Nodup /\ ∀ p ∈ fullL c,p.1 < 3:=sumB_keys _ _
theorem full_len (c:Nat -> Nat):(fullL c).length <= 3:=by
 have h:=nodup_len 3 ((fullL c).map (·.1)) (full_keys c).1 fun x hx=>by obtain ⟨p,hp,rfl⟩:=List.mem_map.mp hx; exact (full_keys c).2 p hp
 rwa [List.length_map] at h
theorem full_4 {c:Nat -> Nat}:∀ p ∈ fullL c,p.1 < 4:=fun p hp=>Nat.lt_succ_of_lt ((full_keys c).2 p hp)
theorem full_nd (c:Nat -> Nat) (g:Nat × Ent -> D):(((fullL c).map fun p=>(lt p.1,g p)).map (·.1)).Nodup:=by
 have h:=bk_nodup (full_keys c).1 full_4
 rw [bkD,List.map_map] at h
 rw [List.map_map]; exact h
theorem full_get {c:Nat -> Nat} {p:Nat × Ent} (hp:p ∈ fullL c):(bkD (fullL c)).lookup (lt p.1) = some p.2.d:=by
 rw [bk_lookup _ _ full_4 (full_4 p hp),lookup_nd (l:=fullL c) (full_keys c).1 (show (p.1,p.2) ∈ _ from hp)]; rfl
theorem top_len (c:Nat -> Nat) (x:Nat):(topL c x).length = (mineOf (csL c 5) x).length:=by
 unfold topL
 rw [expand_length,addW_sum,cs_split]
section
variable {X:Cx} {P:Params} {A:Around} {env:Env} {Γ:Loc} {Ω:Own}
theorem c_full (hX:XOk3 X P) (c:Nat -> Nat):CallQ X 4 (.ref 126) [] [.dct (bkD (bookOf (osL c 5) (lsL c 5) (c1L c))),.dct (bkD (bookOf (osL c 5) (lsL c 5) (c2L c)))] [] (.dct (bkD (fullL c))):=
 c_sum hX _ _ (fun p hp=>Nat.lt_trans (book_3 (c1_t4 c).a p hp) (by decide)) (fun p hp=>Nat.lt_trans (book_3 (c2_t4 c).a p hp) (by decide)) (sum_ok (c1_t4 c).b (c2_t4 c).b)
theorem c_top (hX:XOk3 X P) (c:Nat -> Nat) {p:Nat × Ent} (h:p ∈ fullL c):CallQ X 3 (.ref 131) [] [.str (lt p.1),p.2.d] [] (rowD (topL c p.1)):=by
 obtain ⟨hx,he,hm⟩:=full_mem h
 obtain ⟨t,ht,e⟩:=List.mem_map.mp hm
 have hs:=addW_sum (c1L c) (c2L c) p.1
 rw [cs_split] at hs
 have hl:=mine_len_le (csL c 5) p.1
 rw [cs_len] at hl
 have hpos:0 < (mineOf (csL c 5) p.1).length:=List.length_pos_of_mem (List.mem_filter.mpr ⟨ht,by simpa using e⟩)
 refine c_tops hX p.1 hx (addW (c1L c) (c2L c) p.1) p.2 (addW_4 (c1_t4 c).b (c2_t4 c).b _) (addW_nodup ..) (fun q=>?_) (Nat.le_trans (keys4_len (addW_nodup ..) (addW_4 (c1_t4 c).b (c2_t4 c).b _)) (by decide)) ?_ ?_ (by omega)
 ·rw [q] at hs; simp at hs; omega
 ·rw [he]; exact entS_cal (c1_t4 c).b (c2_t4 c).b _
 ·rw [he,(entS_eq _ _ _).2.1,cs_split,hs]
noncomputable def Γfull (ns:List Int) (c:Nat -> Nat) (tA dA:Addr):Loc:=Γpl ns c ++ ([("first",.int (firstL c:Nat)),("whole",.int 0),("led",.int 0),("texts",.val (.ref tA)),("dues",.val (.ref dA)),("full",.dct (bkD (fullL c))),("tops",topsD c)]:Loc)
theorem law_full (hX:XOk3 X P) {L:Addr} (hA:Room A 4) {ns:List Int} {c:Nat -> Nat} (hc:∀ k,c k <= 61000000) {R:PostP}
  (k:∀ tA dA,tA ≠ dA -> Exs X A (envF P 136 L) (Γfull ns c tA dA) [(dA,.lst []),(tA,.lst [])] ((fbK P 136).drop 12) R):Exs X A (envF P 136 L) (Γpl ns c) [] ((fbK P 136).drop 9) R:=by
 have hh:=hA.h
 refine exs_cons (ex_assign_ts (evs_tuple (evsl_cons (evs_of (d:=.int (firstL c:Nat)) (ev_icast (ev_bin ev_int (ev_modN (b:=4) (ev_divN (b:=24) (ev_sub (dd1:=cD c) (dd2:=.int ((5:Nat):Int)) va ev_int subT_lst (cD_get (by decide) rfl)) ev_int (by decide) (by decide)) ev_int (by decide)) op_add) (by unfold firstL; push_cast; rfl)) ?_) rfl)) (by rfl) (by rfl))
 refine evsl_cons (evs_of (d:=.int 0) ev_int ?_) rfl
 refine evsl_cons (evs_of (d:=.int 0) ev_int ?_) rfl
 refine evsl_cons (evo_s (evo_list evl_nil (by simp)) fun tA=>?_) rfl
 refine evsl_cons (evo_s (evo_list evl_nil (by simp)) fun dA=>?_) rfl
 refine evsl_nil ⟨by simp,_,_,rfl,asg_tuple hh (an (an (an (an (an asgl_nil))))) rfl rfl,?_⟩
 refine exs_nd fun hnd=>?_
 have hne:tA ≠ dA:=by
  simp only [List.map_cons,List.map_nil,List.nodup_cons,List.mem_cons,List.not_mem_nil,or_false] at hnd
  exact fun q=>hnd.1 q.symm
 have hcl:((csL c 5).map callD).length <= 1000000:=by simp [csL]
 have e1:((csL c 5).map callD).take (firstL c) = (c1L c).map callD:=List.map_take.symm
 have e2:((csL c 5).map callD).drop (firstL c) = (c2L c).map callD:=List.map_drop.symm
 refine exs_cons (ex_assign (d:=.dct (bkD (fullL c))) (ev_call (eg (v:=.ref 126) hX.toXOk) (fun zz=>kp_k (by rw [hX.k]; kernel_rfl)) (evl_cons (ev_call (eg (v:=.ref 121) hX.toXOk) (fun zz=>kp_k (by rw [hX.k]; kernel_rfl)) (evl_cons (e1 ▸ ev_upto va va hcl) (evl_cons va (evl_cons va evl_nil rfl) rfl) rfl) ((c_book hX (c1_ok c)).r hA) rfl rfl) (evl_cons (ev_call (eg (v:=.ref 121) hX.toXOk) (fun zz=>kp_k (by rw [hX.k]; kernel_rfl)) (evl_cons (e2 ▸ ev_from va va hcl) (evl_cons va (evl_cons va evl_nil rfl) rfl) rfl) ((c_book hX (c2_ok c)).r hA) rfl rfl) evl_nil rfl) rfl) ((c_full hX c).r hA) rfl rfl) (by kernel_rfl) ?_ (by rfl))
 refine exs_cons (ex_assign (d:=topsD c) (EvO.ev (evo_dc (dc_mapN (fun p=>(lt p.1,rowD (topL c p.1))) (full_nd c _) (it_keysM hh va) (Nat.le_trans (full_len c) (by decide)) fun C p acc hp=>⟨_,fun Da=>asgI_name,capt_sub (by rfl),fun Da=>va,fun Da=>?_⟩))) (by kernel_rfl) (k tA dA hne) (by rfl))
 exact ev_call (eg (v:=.ref 131) hX.toXOk) (fun zz=>kp_k (by rw [hX.k]; kernel_rfl)) (evl_cons va (evl_cons (ev_sub va va subT_dct (get_dct (full_get hp))) evl_nil rfl) rfl) ((c_top hX c hp).r (hA.le (by decide))) rfl rfl
end
end
section
noncomputable def tL (c:Nat -> Nat) (i:Nat):Nat × Nat × Nat:=(startsL c).getD i (0,0,0)
noncomputable def rpL (c:Nat -> Nat) (i:Nat):RP:=⟨lsL c 5,(List.range 6).map (partL c),ringL c,b3 (tL c i),(i + c 5 / 6) % 4⟩
noncomputable def endL (c:Nat -> Nat) (i:Nat):RS:=(rpL c i).st 5
noncomputable def restL (c:Nat -> Nat) (i:Nat):List Nat:=((List.range 5).map (· + 1)).filter fun k=>decide (k ∉ (endL c i).tk.map fun t=>t.2.2)
noncomputable def rkL (c:Nat -> Nat) (i:Nat):List Nat:=(restL c i).map (nmL c)
noncomputable def leftL (c:Nat -> Nat) (i:Nat):List Nat:=(sortP (rkL c i)).map fun j=>(restL c i).getD j 0
noncomputable def prsL (c:Nat -> Nat) (i:Nat):List (Nat × Nat):=(leftL c i).flatMap fun k=>(rowL c 5 k).map fun x=>(x,nmL c k)
noncomputable def moreL (c:Nat -> Nat) (i:Nat):List (Nat × Nat):=sortPrs (prsL c i)
noncomputable def callsL (c:Nat -> Nat) (i:Nat):List T3:=List.zipWith (fun p k=>(p.1,p.2,k)) (moreL c i) (leftL c i)
noncomputable def textL (c:Nat -> Nat) (i:Nat):Str:=(endL c i).text ++ Txt.join Str.empty ((leftL c i).map (partL c))
noncomputable def bad:Str := "('', '')"
noncomputable def dueL (c:Nat -> Nat) (i:Nat):Str:=if (leftL c i) = [] then textL c i else bad
noncomputable def abvL (c:Nat -> Nat) (i x:Nat):Nat:=(topL c x).getD (b3 (tL c i) x) 3
noncomputable def abG (c:Nat -> Nat) (i y:Nat):Nat:=if y ∈ (fullL c).map (·.1) then abvL c i y else 3
noncomputable def ledL (c:Nat -> Nat) (i:Nat):Nat:=if ((fullL c).map (·.1)).all (fun x=>abG c i (abG c i (abvL c i x)) = 3) then 1 else 0
noncomputable def whoL (c:Nat -> Nat) (i:Nat):Nat:=if leftL c i = [] then 1 else 0
structure StartOk (c:Nat -> Nat) (i:Nat):Prop where
 run:RunOk (rpL c i)
 few:(restL c i).length <= 4
 few2:(prsL c i).length <= 4
 t4:T4 (endL c i).tk
 k6:∀ t ∈ (endL c i).tk,t.2.2 < 6
 tl:(endL c i).tk.length <= 50
 txt:(endL c i).text.length <= 1000
 rest4:T4 (callsL c i)
 perm:Alike ((endL c i).tk ++ callsL c i) (csL c 5)
theorem key_iff (c:Nat -> Nat) {x:Nat}:x ∈ (fullL c).map (·.1) <-> x < 3 /\ 0 < (mineOf (csL c 5) x).length:=by
 constructor
 ·intro h
  obtain ⟨p,hp,rfl⟩:=List.mem_map.mp h
  obtain ⟨hx,_,hm⟩:=full_mem hp
  obtain ⟨t,ht,e⟩:=List.mem_map.mp hm
  exact ⟨hx,List.length_pos_of_mem (List.mem_filter.mpr ⟨ht,by simpa using e⟩)⟩
 ·rintro ⟨hx,hl⟩
  obtain ⟨t,ht⟩:=List.length_pos_iff_exists_mem.mp hl
  have ht':=List.mem_filter.mp ht
  have e:(fullL c).lookup x = some (entS (osL c 5) (lsL c 5) (c1L c) (c2L c) x):=by
   unfold fullL
   rw [sum_lookup _ _ hx,cs_split,if_pos (List.mem_map.mpr ⟨t,ht'.1,by simpa using ht'.2⟩)]
  exact lookup_key.mp (by rw [e]; rfl)
theorem ring_mine (c:Nat -> Nat) (x:Nat):(ringL c x).length = (mineOf (csL c 5) x).length:=by
 unfold ringL mineOf csL
 rw [List.filter_map,List.filter_map,List.length_map,List.length_map]
 rfl
theorem topsD_get (c:Nat -> Nat) {x:Nat} (hx:x < 3):(((fullL c).map fun p=>(lt p.1,rowD (topL c p.1))).lookup (lt x)).getD (.lst []) = rowD (topL c x):=by
 have h:∀ (l:List (Nat × Ent)),(∀ p ∈ l,p.1 < 3) -> (l.map fun p=>(lt p.1,rowD (topL c p.1))).lookup (lt x) = if x ∈ l.map (·.1) then some (rowD (topL c x)) else none:=by
  intro l
  induction l with
  | nil=>intro _; rfl
  | cons p r ih=>
   intro h3
   have hp:=h3 p (List.mem_cons_self ..)
   rw [List.map_cons,List.lookup_cons,ih fun q hq=>h3 q (List.mem_cons_of_mem _ hq)]
   rw [lt_eq x p.1 (by omega) (by omega)]
   by_cases q:x = p.1
   ·subst q; simp
   ·have:decide (x = p.1) = false:=by simpa using q
    rw [this]
    simp only [List.map_cons,List.mem_cons,q,false_or]
 rw [h _ fun p hp=>(full_mem hp).1]
 by_cases q:x ∈ (fullL c).map (·.1)
 ·rw [if_pos q]; rfl
 ·rw [if_neg q]
  have:topL c x = []:=by
   refine List.eq_nil_of_length_eq_zero ?_
   rw [top_len]
   have:=mt (key_iff c).mpr q
   omega
  rw [this]; rfl
end
section
noncomputable def whN (c:Nat -> Nat) (i:Nat):Nat:=((List.range i).map (whoL c)).sum
noncomputable def leN (c:Nat -> Nat) (i:Nat):Nat:=((List.range i).map (ledL c)).sum
noncomputable def Γloop (ns:List Int) (c:Nat -> Nat) (tA dA:Addr) (i:Nat):Loc:=Γpl ns c ++ ([("first",.int (firstL c:Nat)),("whole",.int (whN c i:Nat)),("led",.int (leN c i:Nat)),("texts",.val (.ref tA)),("dues",.val (.ref dA)),("full",.dct (bkD (fullL c))),("tops",topsD c)]:Loc)
noncomputable def Ωloop (c:Nat -> Nat) (tA dA:Addr) (i:Nat):Own:=[(dA,.lst (((List.range i).map (dueL c)).map .str)),(tA,.lst (((List.range i).map (textL c)).map .str))]
theorem whN_succ (c:Nat -> Nat) (i:Nat):whN c (i + 1) = whN c i + whoL c i:=by simp [whN,List.range_succ]
theorem leN_succ (c:Nat -> Nat) (i:Nat):leN c (i + 1) = leN c i + ledL c i:=by simp [leN,List.range_succ]
theorem range_room (c:Nat -> Nat) (x:Nat):(List.range (roomL c x)).length <= 5:=by rw [List.length_range]; exact room_le c x
theorem starts_len (c:Nat -> Nat):(startsL c).length <= 125:=
 Nat.le_trans (fm_len (m:=25) (fun i=>Nat.le_trans (fm_len (m:=5) (fun j=>by rw [List.length_map]; exact range_room c 2) _) (Nat.mul_le_mul_right 5 (range_room c 1))) _) (Nat.mul_le_mul_right 25 (range_room c 0))
section
variable {X:Cx} {P:Params} {A:Around} {env:Env} {Γ:Loc} {Ω:Own}
noncomputable abbrev bodyL (P:Params):List Stmt:=forB ((fbK P 136).drop 12)
noncomputable def Γturn (ns:List Int) (c:Nat -> Nat) (tA dA:Addr) (i:Nat):Loc:=upd (upd (Γloop ns c tA dA i) "turn" (.int (i:Nat))) "begin" (begD (b3 (tL c i)))
noncomputable def ranD (c:Nat -> Nat) (i:Nat):D:=.tup [.lst ((endL c i).tk.map callD),.str (endL c i).text]
theorem ev_ran {c:Nat -> Nat} {i k:Nat} {d:D} {v e:Expr} {pos:Pos} (h:[D.lst ((endL c i).tk.map callD),.str (endL c i).text][k]? = some d) (h1:Ev X A env Γ Ω v (ranD c i)) (h2:Ev X A env Γ Ω e (.int (k:Nat))):Ev X A env Γ Ω (.Subscript v e pos) d:=ev_at h1 h2 h (nle rfl)
theorem loop_run (hX:XOk2 X P) (hX3:XOk3 X P) {L:Addr} (hA:Room A 12) {ns:List Int} {c:Nat -> Nat} (hc:∀ k,c k <= 61000000) {tA dA:Addr} {i:Nat} (hi:i < (startsL c).length) (ok:StartOk c i) {R:PostP}
  (k:Exs X A (envF P 136 L) (upd (Γturn ns c tA dA i) "ran" (ranD c i)) (Ωloop c tA dA i) ((bodyL P).drop 2) R):Exs X A (envF P 136 L) (Γturn ns c tA dA i) (Ωloop c tA dA i) (bodyL P) R:=by
 have hh:=hA.h
 have hu:=hA.u
 refine exs_cons (ex_assign (d:=ranD c i) (ev_call (eg (v:=.ref 109) hX.toXOk) (fun zz=>kp_k (by rw [hX.k]; kernel_rfl)) (evl_cons va (evl_cons va (evl_cons va (evl_cons va (evl_cons (ev_modN (b:=4) (ev_icast (ev_bin va (ev_divN (b:=6) (ev_sub (dd1:=cD c) (dd2:=.int ((5:Nat):Int)) va ev_int subT_lst (cD_get (by decide) rfl)) ev_int (by decide) (by decide)) op_add) (by push_cast; rfl)) ev_int (by decide)) evl_nil rfl) rfl) rfl) rfl) rfl) ((c_run hX ok.run).r hA) rfl rfl) (by kernel_rfl) ?_ (by rfl))
 refine exs_cons (ex_if (b:=false) (evt_or2 (b:=false) (c:=false) (evt_cmp va ev_none (op_isNone (d:=ranD c i) (fun v q=>nomatch q)) rfl) (fun zz=>evt_cmp (dd1:=.lst ([0,1,2].map fun x=>.int ((ringL c x).length:Nat))) (dd2:=.lst ([0,1,2].map fun x=>.int ((ringL c x).length:Nat))) (EvO.ev (evo_lc (lc_mapA _ (it_abc hh) (nle rfl) fun C x acc hx=>⟨_,fun Da=>asgI_name,capt_sub (by rfl),fun Da=>?_⟩))) (EvO.ev (evo_lc (lc_mapA _ (it_abc hh) (nle rfl) fun C x acc hx=>⟨_,fun Da=>asgI_name,capt_sub (by rfl),fun Da=>?_⟩))) (op_nel' (n:=0) lst_d lst_d (by omega) (all_map fun zz=>Eqs.int)) rfl)) (fun h=>nomatch h) (fun zz=>exs_nil k))
 ·have hl:(topL c x).length = (ringL c x).length:=(top_len c x).trans (ring_mine c x).symm
  exact ev_call (eb (v:=.builtin "len") hX.toXOk) (fun zz=>kp_b) (evl_cons (d:=rowD (topL c x)) (topsD_get c (mem_012 hx) ▸ ev_get2 va va (ev_list evl_nil (nle rfl)) rfl rfl rfl rfl) evl_nil rfl) (hl ▸ len_row (hl ▸ Nat.le_trans (ring_len c x) (by decide))) rfl rfl
 ·exact ev_call (eb (v:=.builtin "len") hX.toXOk) (fun zz=>kp_b) (evl_cons (ev_tri (g:=fun x=>.lst ((ringL c x).map fun k=>D.int (k:Nat))) (mem_012 hx) va va) evl_nil rfl) (len_ring _ (ring_len c x)) rfl rfl
end
end
section
section
variable {X:Cx} {P:Params} {A:Around} {env:Env} {Γ:Loc} {Ω:Own}
theorem cont_cast (l:List T3) (k:Nat):(!(l.map fun t=>((t.2.2:Nat):Int)).contains (k:Int)) = decide (k ∉ l.map fun t=>t.2.2):=by
 refine (congrArg not ((List.contains_eq_mem ..).trans (decide_eq_decide.mpr ?_))).trans (decide_not ..).symm
 rw [List.mem_map,List.mem_map]
 exact exists_congr fun t=>and_congr_right' Int.ofNat_inj
theorem notIn_tk {l:List T3} {k:Nat}:Op2 X A env Γ Ω (compareOp .NotIn) (.int (k:Nat)) (.lst (l.map fun t=>.int (t.2.2:Nat))) (.bool (decide (k ∉ l.map fun t=>t.2.2))):=by
 have h:=notIn_ints (X:=X) (A:=A) (env:=env) (Γ:=Γ) (Ω:=Ω) (k:=(k:Int)) (l:=l.map fun t=>((t.2.2:Nat):Int))
 rw [List.map_map,cont_cast] at h; exact h
theorem rest_mem {c:Nat -> Nat} {i k:Nat} (h:k ∈ restL c i):1 <= k /\ k < 6:=by
 obtain ⟨j,hj,rfl⟩:=List.mem_map.mp (List.mem_filter.mp h).1
 have:=List.mem_range.mp hj
 omega
theorem left_perm' {c:Nat -> Nat} {i:Nat} (few:(restL c i).length <= 4):(leftL c i).Perm (restL c i):=by
 have hl:(rkL c i).length <= 4:=by rw [rkL,List.length_map]; exact few
 have f:=(sort_fact hl).perm.map fun j=>(restL c i).getD j 0
 have e:(List.range (rkL c i).length).map (fun j=>(restL c i).getD j 0) = restL c i:=by
  refine List.ext_getElem (by simp [rkL]) fun j h1 h2=>?_
  simp [List.getD_eq_getElem?_getD,h2]
 rw [e] at f
 exact f
theorem left_perm {c:Nat -> Nat} {i:Nat} (ok:StartOk c i):(leftL c i).Perm (restL c i):=left_perm' ok.few
theorem left_mem {c:Nat -> Nat} {i k:Nat} (ok:StartOk c i) (h:k ∈ leftL c i):1 <= k /\ k < 6:=rest_mem ((left_perm ok).mem_iff.mp h)
noncomputable def Γran (ns:List Int) (c:Nat -> Nat) (tA dA:Addr) (i:Nat):Loc:=upd (Γturn ns c tA dA i) "ran" (ranD c i)
noncomputable def leftD (c:Nat -> Nat) (i:Nat):D:=.lst ((leftL c i).map fun k=>D.int (k:Nat))
theorem loop_left (hX:XOk2 X P) {L:Addr} (hA:Room A 12) {ns:List Int} {c:Nat -> Nat} {tA dA:Addr} {i:Nat} (ok:StartOk c i) {R:PostP}
  (k:Exs X A (envF P 136 L) (upd (Γran ns c tA dA i) "left" (leftD c i)) (Ωloop c tA dA i) ((bodyL P).drop 3) R):Exs X A (envF P 136 L) (Γran ns c tA dA i) (Ωloop c tA dA i) ((bodyL P).drop 2) R:=by
 have hh:=hA.h
 have hlen:(rkL c i).length = ((restL c i).map fun k=>D.int (k:Nat)).length:=by simp [rkL]
 have hl4:(rkL c i).length <= 4:=by rw [rkL,List.length_map]; exact ok.few
 have sf:=sort_fact hl4
 have hpi:∀ j ∈ sortP (rkL c i),j < ((restL c i).map fun k=>D.int (k:Nat)).length:=fun j hj=>by
  rw [<- hlen]; exact List.mem_range.mp (sf.perm.mem_iff.mp hj)
 have e:(sortP (rkL c i)).map (fun j=>((restL c i).map fun k=>D.int (k:Nat)).getD j .none) = (leftL c i).map fun k=>D.int (k:Nat):=by
  rw [leftL,List.map_map]
  refine List.map_congr_left fun j hj=>?_
  have hj':=hpi j hj
  rw [List.length_map] at hj'
  simp only [Function.comp,List.getD_eq_getElem?_getD,List.getElem?_map,List.getElem?_eq_getElem hj',Option.map_some,Option.getD_some]
 refine exs_cons (ex_assign (d:=leftD c i) (ev_call_lam (n:=12) (d:=leftD c i) (ds:=[.lst ((restL c i).map fun k=>D.int (k:Nat))]) (fv:=.builtin "sorted") hA (eb hX.toXOk) (fun zz=>kp_b) (evl_cons ?_ evl_nil rfl) (by rfl) hX.law.1 (by rw [hX.law.2]; kernel_rfl) (by rfl) (by rfl) (y := "names") (dy:=rowD (nsL c 5)) (by rfl) (by rw [show (envF P 136 L).kindOf "names" = some .cell by kernel_rfl]; decide) (by rfl) ?_ (NF.lst (NFL.of (all_map fun k=>NF.int))) rfl rfl rfl rfl) (by kernel_rfl) k (by rfl))
 ·have hran:∀ {Γ Ω v e pos} {B:Around} {E:Env},Ev X B E Γ Ω v (ranD c i) -> Ev X B E Γ Ω e (.int ((0:Nat):Int)) -> Ev X B E Γ Ω (.Subscript v e pos) (.lst ((endL c i).tk.map callD)):=fun h1 h2=>ev_ran (k:=0) rfl h1 h2
  have htl:=ok.tl
  unfold restL
  generalize (endL c i).tk = tk at hran htl ⊢
  show Ev X A _ _ _ _ (OC.lst ((l15.filter fun k=>decide (k ∉ tk.map fun t=>t.2.2)).map fun k=>D.int (k:Nat))).d
  refine EvO.ev (evo_lc (lc_filt _ _ (it_15 hh (eb hX.toXOk)) (nle rfl) fun C j acc hj=>?_))
  exact ⟨_,fun Da=>asgI_name,capt_sub (by rfl),fun Da=>tests_one (evt_cmp va (EvO.ev (c:=.lst (tk.map fun t=>D.int (t.2.2:Nat))) (evo_lc (lc_mapA _ (it_list hh (hran va ev_int)) (Nat.le_trans htl (by decide)) fun C t acc ht=>⟨_,fun Db=>asgI_name,capt_sub (by rfl),fun Db=>ev_at (i:=2) (ds:=[.str (lt t.1),.str (lt t.2.1),.int (t.2.2:Nat)]) va ev_int rfl (nle rfl)⟩))) notIn_tk rfl),fun zz Da=>va⟩
 ·intro pm c' ctv
  unfold leftD
  rw [<- e]
  refine sorted_key (n:=10) (kf:=fun j=>lt (nmL c ((restL c i).getD j 0))) ⟨fun j d hd=>?_⟩ (by rw [<- hlen]; omega) hlen sf.ok hpi ?_
  ·rw [List.getElem?_map] at hd
   obtain ⟨m,hm,rfl⟩:=Option.map_eq_some_iff.mp hd
   have em:(restL c i).getD j 0 = m:=by rw [List.getD_eq_getElem?_getD,hm]; rfl
   have h6:=rest_mem (List.mem_of_getElem? hm)
   simp only [em]
   refine keyF1 (x := "k") (y := "names") ⟨rfl,rfl,rfl,rfl,fun v=>by kernel_rfl,by kernel_rfl,(show ∀ y ∈ [(("k" : Str),NameKind.local),(("names" : Str),NameKind.free)],y.2 ≠ NameKind.cell by simp),rfl,rfl⟩ rfl (by decide +kernel) (by show (some NameKind.free:Option NameKind) ≠ some .local; decide) NF.int (NF.lst (NFL.of (all_map fun k=>NF.str))) (fun A L fa hA=>?_)
   exact ev_nm h6.2 va va
  ·intro a b ha hb
   rw [List.length_map] at ha hb
   show decide ((rkL c i).getD a 0 < (rkL c i).getD b 0) = _
   rw [lt_lt _ _ (nmL_lt ..) (nmL_lt ..)]
   simp only [rkL,List.getD_eq_getElem?_getD,List.getElem?_map,List.getElem?_eq_getElem ha,List.getElem?_eq_getElem hb,Option.map_some,Option.getD_some]
end
end
section
section
variable {X:Cx} {P:Params} {A:Around} {env:Env} {Γ:Loc} {Ω:Own}
noncomputable def Γleft (ns:List Int) (c:Nat -> Nat) (tA dA:Addr) (i:Nat):Loc:=upd (Γran ns c tA dA i) "left" (leftD c i)
noncomputable def moreD (c:Nat -> Nat) (i:Nat):D:=.lst ((moreL c i).map pr)
noncomputable def Γmore (ns:List Int) (c:Nat -> Nat) (tA dA:Addr) (i:Nat):Loc:=upd (Γleft ns c tA dA i) "more" (moreD c i)
theorem prs_4 {c:Nat -> Nat} {i:Nat} (ok:StartOk c i):∀ p ∈ prsL c i,p.1 < 4 /\ p.2 < 4:=fun p hp=>by
 obtain ⟨k,hk,hp⟩:=List.mem_flatMap.mp hp
 obtain ⟨x,hx,rfl⟩:=List.mem_map.mp hp
 obtain ⟨m,hm,rfl⟩:=List.mem_map.mp hx
 exact ⟨nmL_lt ..,nmL_lt ..⟩
theorem left_len {c:Nat -> Nat} {i:Nat} (ok:StartOk c i):(leftL c i).length <= 4:=by rw [(left_perm ok).length_eq]; exact ok.few
theorem loop_more (hX:XOk2 X P) {L:Addr} (hA:Room A 12) {ns:List Int} {c:Nat -> Nat} {tA dA:Addr} {i:Nat} (ok:StartOk c i) {R:PostP}
  (k:Exs X A (envF P 136 L) (Γmore ns c tA dA i) (Ωloop c tA dA i) ((bodyL P).drop 4) R):Exs X A (envF P 136 L) (Γleft ns c tA dA i) (Ωloop c tA dA i) ((bodyL P).drop 3) R:=by
 have hh:=hA.h
 have hp:((leftL c i).flatMap fun k=>(rowL c 5 k).map fun x=>pr (x,nmL c k)) = (prsL c i).map pr:=by
  rw [prsL,List.map_flatMap]; simp only [List.map_map]; rfl
 refine exs_cons (ex_assign (d:=moreD c i) (ev_call (eb (v:=.builtin "sorted") hX.toXOk) (fun zz=>kp_b) (evl_cons (d:=.lst ((prsL c i).map pr)) ?_ evl_nil rfl) (sorted_prs (prs_4 ok) ok.few2) rfl rfl) (by kernel_rfl) k (by rfl))
 rw [<- hp]
 refine EvO.ev (c:=.lst ((leftL c i).flatMap fun k=>(rowL c 5 k).map fun x=>pr (x,nmL c k))) (evo_lc (lc_two (h':=fun x=>.str (lt x)) (fun k=>rowL c 5 k) (fun k x=>pr (x,nmL c k)) (by kernel_rfl) (it_list hh va) (Nat.le_trans (left_len ok) (by decide)) (fun k=>Nat.le_trans (row_len c k) (by decide)) fun C k hk=>?_))
 have h6:=(left_mem ok hk).2
 exact ⟨_,fun Da acc=>asgI_name,capt_sub (by rfl),fun Da acc=>it_list hh (ev_rw h6 va va),fun x hx=>⟨_,fun Da acc=>asgI_name,capt_sub (by rfl),fun Da acc=>ev_tuple (evl_cons va (evl_cons (ev_nm h6 va va) evl_nil rfl) rfl) (nle rfl)⟩⟩
end
end
section
section
variable {X:Cx} {P:Params} {A:Around} {env:Env} {Γ:Loc} {Ω:Own}
noncomputable def Γrest (ns:List Int) (c:Nat -> Nat) (tA dA:Addr) (i:Nat):Loc:=upd (Γmore ns c tA dA i) "rest" (.dct (bkD (bookOf (osL c 5) (lsL c 5) (callsL c i))))
theorem zip_calls:∀ (ps:List (Nat × Nat)) (ks:List Nat),∀ t ∈ List.zipWith (fun p k=>((p.1,p.2,k):T3)) ps ks,t.2.2 ∈ ks
 | [],_,t,h=>by simp at h
 | _ :: _,[],t,h=>by simp at h
 | p :: ps,k :: ks,t,h=>by
  rw [List.zipWith_cons_cons,List.mem_cons] at h
  rcases h with rfl | h
  ·exact List.mem_cons_self ..
  ·exact List.mem_cons_of_mem _ (zip_calls ps ks t h)
theorem calls_len {c:Nat -> Nat} {i:Nat} (ok:StartOk c i):(callsL c i).length <= 4:=by
 unfold callsL
 rw [List.length_zipWith]
 have:=left_len ok
 omega
theorem rest_ok {c:Nat -> Nat} {i:Nat} (ok:StartOk c i):CallsOk (osL c 5) (lsL c 5) (callsL c i):=calls_ok c (fun t ht=>⟨ok.rest4.a t ht,ok.rest4.b t ht,(left_mem ok (zip_calls _ _ t ht)).2⟩) (by have:=calls_len ok; omega)
theorem taken_ok {c:Nat -> Nat} {i:Nat} (ok:StartOk c i):CallsOk (osL c 5) (lsL c 5) (endL c i).tk:=calls_ok c (fun t ht=>⟨ok.t4.a t ht,ok.t4.b t ht,ok.k6 t ht⟩) (by have:=ok.tl; omega)
theorem zip_src (ps:List (Nat × Nat)) (ks:List Nat):zipD (ps.map pr) (ks.map fun k=>D.int (k:Nat)) = (List.zipWith (fun p k=>((p.1,p.2,k):T3)) ps ks).map fun t=>D.tup [pr (t.1,t.2.1),.int (t.2.2:Nat)]:=by
 rw [List.map_zipWith,zipD,List.zipWith_map]
theorem loop_rest (hX:XOk3 X P) {L:Addr} (hA:Room A 12) {ns:List Int} {c:Nat -> Nat} {tA dA:Addr} {i:Nat} (ok:StartOk c i) {R:PostP}
  (k:Exs X A (envF P 136 L) (Γrest ns c tA dA i) (Ωloop c tA dA i) ((bodyL P).drop 6) R):Exs X A (envF P 136 L) (Γmore ns c tA dA i) (Ωloop c tA dA i) ((bodyL P).drop 4) R:=by
 have hh:=hA.h
 have hu:=hA.u
 refine exs_cons (ex_assign (d:=.dct (bkD (bookOf (osL c 5) (lsL c 5) (callsL c i)))) (ev_call (eg (v:=.ref 121) hX.toXOk) (fun zz=>kp_k (by rw [hX.k]; kernel_rfl)) (evl_cons (d:=.lst ((callsL c i).map callD)) ?_ (evl_cons va (evl_cons va evl_nil rfl) rfl) rfl) ((c_book hX (rest_ok ok)).r (hA.le (by decide))) rfl rfl) (by kernel_rfl) ?_ (by rfl))
 ·exact EvO.ev (c:=.lst ((callsL c i).map callD)) (evo_lc (lc_mapA callD (zip_src _ _ ▸ it_zip hh (eb hX.toXOk) va va rfl rfl) (Nat.le_trans (calls_len ok) (by decide)) fun C t acc ht=>⟨_,fun Da=>asgI_tup hh (an (an asgl_nil)),(capt_sub (by rfl)).trans (capt_sub (by rfl)),fun Da=>ev_tuple (evl_cons (ev_at (i:=0) (ds:=[.str (lt t.1),.str (lt t.2.1)]) va ev_int rfl (nle rfl)) (evl_cons (ev_at (i:=1) (ds:=[.str (lt t.1),.str (lt t.2.1)]) va ev_int rfl (nle rfl)) (evl_cons va evl_nil rfl) rfl) rfl) (nle rfl)⟩))
 have hsame:SameR X 4 (.dct (bkD (sumB (bookOf (osL c 5) (lsL c 5) (endL c i).tk) (bookOf (osL c 5) (lsL c 5) (callsL c i))))) (.dct (bkD (fullL c))):=same_sum (by rw [cs_split]; exact ok.perm) ok.t4 ok.rest4 (c1_t4 c) (c2_t4 c)
 have hcs:CallQ X 4 (.ref 126) [] [.dct (bkD (bookOf (osL c 5) (lsL c 5) (endL c i).tk)),.dct (bkD (bookOf (osL c 5) (lsL c 5) (callsL c i)))] [] (.dct (bkD (sumB (bookOf (osL c 5) (lsL c 5) (endL c i).tk) (bookOf (osL c 5) (lsL c 5) (callsL c i))))):=c_sum hX _ _ (fun p hp=>Nat.lt_trans (book_3 ok.t4.a p hp) (by decide)) (fun p hp=>Nat.lt_trans (book_3 ok.rest4.a p hp) (by decide)) (sum_ok ok.t4.b ok.rest4.b)
 have hcb:=c_book hX (taken_ok ok)
 generalize hB:(D.dct (bkD (sumB (bookOf (osL c 5) (lsL c 5) (endL c i).tk) (bookOf (osL c 5) (lsL c 5) (callsL c i))))) = B at hsame hcs
 obtain ⟨es,hes⟩:∃ es,B = .dct es:=⟨_,hB.symm⟩
 refine exs_cons (ex_if (b:=false) (evt_cmp (dd1:=B) (dd2:=.dct (bkD (fullL c))) ?e1 ?e2 (op_ne_same (n:=4) (by omega) hsame) rfl) (fun h=>nomatch h) (fun zz=>exs_nil k))
 case e2=>exact va
 case e1=>
  refine ev_call (eg (v:=.ref 126) hX.toXOk) (fun zz=>kp_k (by rw [hX.k]; kernel_rfl)) (evl_cons ?_ (evl_cons va evl_nil rfl) rfl) (hcs.r (hA.le (by decide))) rfl rfl
  refine ev_call (d:=.dct (bkD (bookOf (osL c 5) (lsL c 5) (endL c i).tk))) (ds:=[.lst ((endL c i).tk.map callD),owD (osL c 5),lsD (lsL c 5)]) (eg (v:=.ref 121) hX.toXOk) (fun zz=>kp_k (by rw [hX.k]; kernel_rfl)) (evl_cons ?_ (evl_cons va (evl_cons va evl_nil rfl) rfl) rfl) (hcb.r (hA.le (by decide))) rfl rfl
  exact ev_ran (k:=0) rfl va ev_int
end
end
section
section
variable {X:Cx} {P:Params} {A:Around} {env:Env} {Γ:Loc} {Ω:Own}
noncomputable def Ωtext (c:Nat -> Nat) (tA dA:Addr) (i:Nat):Own:=[(dA,.lst (((List.range i).map (dueL c)).map .str)),(tA,.lst (((List.range (i + 1)).map (textL c)).map .str))]
theorem part_len (c:Nat -> Nat) (k:Nat):(partL c k).length <= 12:=by
 have hr:=row_len c k
 have hp:=pieces_len (c ((k + 5) % 6) / (if 3 * k > 1 then 3 * k else 1) % 6)
 have h1:=mulS_len ")" (if decide ((k:Int) > 0) = true then 1 else 0)
 have h2:=mulS_len "(" ((rowL c 5 k).length:Nat)
 have l1:(Str.ofString ")").length = 1:=by kernel_rfl
 have l2:(Str.ofString "(").length = 1:=by kernel_rfl
 rw [l1,Nat.mul_one] at h1
 rw [l2,Nat.mul_one,Int.toNat_natCast] at h2
 have h1':(if decide ((k:Int) > 0) = true then (1:Int) else 0).toNat <= 1:=by split <;> decide
 unfold partL
 rw [Str.length_append,Str.length_append]
 omega
theorem parts_get (c:Nat -> Nat) {k:Nat} (h:k < 6):(((List.range 6).map (partL c)).map D.str)[((k:Nat):Int).toNat]? = some (.str (partL c k)):=by
 rw [Int.toNat_natCast,List.getElem?_map,List.getElem?_map,List.getElem?_range h]; rfl
theorem sum12 (c:Nat -> Nat):∀ l:List Nat,((l.map (partL c)).map (·.length)).sum <= l.length * 12
 | []=>Nat.le_refl _
 | a :: r=>by
  rw [List.map_cons,List.map_cons,List.sum_cons,List.length_cons,Nat.succ_mul,Nat.add_comm]; exact Nat.add_le_add (sum12 c r) (part_len c a)
theorem loop_text (hX:XOk X P) {L:Addr} (hh:A.handled = none) {ns:List Int} {c:Nat -> Nat} {tA dA:Addr} (hne:tA ≠ dA) {i:Nat} (hi:i <= 1000) (ok:StartOk c i) {R:PostP}
  (k:Exs X A (envF P 136 L) (Γrest ns c tA dA i) (Ωtext c tA dA i) ((bodyL P).drop 7) R):Exs X A (envF P 136 L) (Γrest ns c tA dA i) (Ωloop c tA dA i) ((bodyL P).drop 6) R:=by
 have hm:(tA,OC.lst (((List.range i).map (textL c)).map .str)) ∈ Ωloop c tA dA i:=by simp [Ωloop]
 have hll:=left_len ok
 have hsum:=Nat.le_trans (sum12 c (leftL c i)) (Nat.mul_le_mul_right 12 hll)
 refine exs_cons (ex_expr_s (evs_append (ds:=((List.range i).map (textL c)).map .str) (d:=.str (textL c i)) va hm (ev_bin (dd1:=.str (endL c i).text) (dd2:=.str (Txt.join Str.empty ((leftL c i).map (partL c)))) ?e1 ?e2 (op_adds ?e3)) (by simp; omega) ⟨rfl,?k⟩ (by rfl) (by rfl) (by rfl)) (by kernel_rfl) (by rfl))
 case e1=>exact ev_ran (k:=1) rfl va ev_int
 case e2=>
  refine ev_join_lst ev_str ?_ (by show _ + _ * (Str.ofString "").length <= _; rw [show (Str.ofString "").length = 0 from rfl]; omega) rfl rfl rfl (by rfl)
  rw [List.map_map]
  exact EvO.ev (c:=.lst ((leftL c i).map (D.str ∘ partL c))) (evo_lc (lc_mapA _ (it_list hh va) (Nat.le_trans hll (by decide)) fun C m acc hm=>⟨_,fun Da=>asgI_name,capt_sub (by rfl),fun Da=>ev_sub (dd1:=partsD c) va va subT_lst (get_lst (Int.natCast_nonneg m) (parts_get c (left_mem ok hm).2) (nle rfl))⟩))
 case e3=>
  have hj:(Txt.join Str.empty ((leftL c i).map (partL c))).length <= 4 * (52 + 1):=len_join_le (n:=52) (by unfold Weighs; rw [List.length_map]; omega) (by decide)
  exact Nat.le_trans (Nat.add_le_add ok.txt hj) (by decide)
 case k=>
  have e:oset (Ωloop c tA dA i) tA (OC.lst (((List.range i).map (textL c)).map .str ++ [.str (textL c i)])) = Ωtext c tA dA i:=by
   simp [oset,Ωloop,Ωtext,hne.symm,List.range_succ]
  rw [e]
  exact k
end
end
section
section
variable {X:Cx} {P:Params} {A:Around} {env:Env} {Γ:Loc} {Ω:Own}
noncomputable def abvD (c:Nat -> Nat) (i:Nat):D:=.dct ((fullL c).map fun p=>(lt p.1,D.str (lt (abvL c i p.1))))
theorem top_4 (c:Nat -> Nat) (x:Nat):∀ y ∈ topL c x,y < 4:=fun y hy=>by
 obtain ⟨p,hp,hy⟩:=List.mem_flatMap.mp hy
 have:=(List.mem_replicate.mp hy).2
 subst this
 exact addW_4 (c1_t4 c).b (c2_t4 c).b x p hp
theorem getD_lt {l:List Nat} (h:∀ y ∈ l,y < 4) (j:Nat):l.getD j 3 < 4:=by
 rw [List.getD_eq_getElem?_getD]
 cases e:l[j]? with
 | none=>decide
 | some y=>exact h y (List.mem_of_getElem? e)
theorem fil_all {α:Type} {p q:α -> Bool} (h:∀ x,p x = !q x):∀ l:List α,(l.filter p).isEmpty = l.all q
 | []=>rfl
 | a :: r=>by
  rw [List.filter_cons,List.all_cons,h a]
  cases q a
  ·rfl
  ·exact fil_all h r
theorem abv_lt (c:Nat -> Nat) (i x:Nat):abvL c i x < 4:=getD_lt (top_4 c x) _
theorem abG_lt (c:Nat -> Nat) (i y:Nat):abG c i y < 4:=by
 unfold abG; split
 ·exact abv_lt ..
 ·decide
theorem lt_lookup (g:Nat -> D) {x:Nat} (hx:x < 4):∀ (l:List (Nat × Ent)),(∀ p ∈ l,p.1 < 4) -> (l.map fun p=>(lt p.1,g p.1)).lookup (lt x) = if x ∈ l.map (·.1) then some (g x) else none:=by
 intro l
 induction l with
 | nil=>intro _; rfl
 | cons p r ih=>
  intro h3
  have hp:=h3 p (List.mem_cons_self ..)
  rw [List.map_cons,List.lookup_cons,ih fun q hq=>h3 q (List.mem_cons_of_mem _ hq)]
  rw [lt_eq x p.1 hx hp]
  by_cases q:x = p.1
  ·subst q; simp
  ·have:decide (x = p.1) = false:=by simpa using q
   rw [this]
   simp only [List.map_cons,List.mem_cons,q,false_or]
theorem abG_get (c:Nat -> Nat) (i:Nat) {y:Nat} (hy:y < 4):(((fullL c).map fun p=>(lt p.1,D.str (lt (abvL c i p.1)))).lookup (lt y)).getD (.str (lt 3)) = .str (lt (abG c i y)):=by
 rw [lt_lookup (fun x=>D.str (lt (abvL c i x))) hy _ full_4]
 unfold abG
 split <;> rfl
theorem tL_room {c:Nat -> Nat} {i:Nat} (hi:i < (startsL c).length):∀ x,x < 3 -> b3 (tL c i) x < roomL c x:=by
 have hm:tL c i ∈ startsL c:=by
  unfold tL; rw [List.getD_eq_getElem?_getD,List.getElem?_eq_getElem hi]; exact List.getElem_mem hi
 obtain ⟨a,ha,hm⟩:=List.mem_flatMap.mp hm
 obtain ⟨b,hb,hm⟩:=List.mem_flatMap.mp hm
 obtain ⟨n,hn,e⟩:=List.mem_map.mp hm
 rw [<- e]
 rintro (_ | _ | _ | x) hx
 ·exact List.mem_range.mp ha
 ·exact List.mem_range.mp hb
 ·exact List.mem_range.mp hn
 ·omega
theorem op_left0 (hu:A.units + 1 < cLine) (l:List Nat) {b:Bool} (hb:b = decide (l = [])):Op2 X A env Γ Ω (compareOp .Eq) (.lst (l.map fun k=>D.int (k:Nat))) (.lst []) (.bool b):=
 op_b (op_eq0 lst_d hu) (hb ▸ by cases l <;> rfl)
noncomputable def Γdue (ns:List Int) (c:Nat -> Nat) (tA dA:Addr) (i:Nat):Loc:=upd (Γrest ns c tA dA i) "above" (abvD c i)
noncomputable def Ωdue (c:Nat -> Nat) (tA dA:Addr) (i:Nat):Own:=Ωloop c tA dA (i + 1)
theorem loop_due (hX:XOk X P) {L:Addr} (hh:A.handled = none) (hu:A.units + 1 < cLine) {ns:List Int} {c:Nat -> Nat} {tA dA:Addr} (hne:tA ≠ dA) {i:Nat} (hi:i <= 1000) {R:PostP}
  (k:Exs X A (envF P 136 L) (Γrest ns c tA dA i) (Ωdue c tA dA i) ((bodyL P).drop 8) R):Exs X A (envF P 136 L) (Γrest ns c tA dA i) (Ωtext c tA dA i) ((bodyL P).drop 7) R:=by
 have hm:(dA,OC.lst (((List.range i).map (dueL c)).map .str)) ∈ Ωtext c tA dA i:=by simp [Ωtext]
 have ht:(tA,OC.lst (((List.range (i + 1)).map (textL c)).map .str)) ∈ Ωtext c tA dA i:=by simp [Ωtext]
 refine exs_cons (ex_expr_s (evs_append (ds:=((List.range i).map (dueL c)).map .str) (d:=.str (dueL c i)) va hm (ev_ife (b:=decide (leftL c i = [])) (evt_cmp (dd1:=leftD c i) va (ev_list evl_nil (by simp)) (op_left0 hu _ rfl) rfl) (fun hb=>ev_sub (d:=.str (textL c i)) va (ev_una ev_int op_neg) (subT_own ht) (get_own_neg ht (by decide) (by simp; omega) ?_ (by simp; omega))) (fun hb=>ev_str) ?_) (by simp; omega) ⟨rfl,?k⟩ (by rfl) (by rfl) (by rfl)) (by kernel_rfl) (by rfl))
 ·rw [List.length_map,List.length_map,List.length_range]
  rw [show (-1 + ((i + 1:Nat):Int)).toNat = i by omega]
  rw [List.getElem?_map,List.getElem?_map,List.getElem?_range (by omega)]; rfl
 ·unfold dueL
  by_cases q:leftL c i = []
  ·simp only [q,decide_true,if_true]
  ·simp only [q,decide_false,if_false,Bool.false_eq_true]; rfl
 case k=>
  have e:oset (Ωtext c tA dA i) dA (OC.lst (((List.range i).map (dueL c)).map .str ++ [.str (dueL c i)])) = Ωdue c tA dA i:=by
   simp [oset,Ωloop,Ωtext,Ωdue,List.range_succ]
  rw [e]
  exact k
theorem loop_above (hX:XOk X P) {L:Addr} (hh:A.handled = none) {ns:List Int} {c:Nat -> Nat} {tA dA:Addr} {i:Nat} (hi:i < (startsL c).length) {R:PostP}
  (k:Exs X A (envF P 136 L) (Γdue ns c tA dA i) (Ωdue c tA dA i) ((bodyL P).drop 9) R):Exs X A (envF P 136 L) (Γrest ns c tA dA i) (Ωdue c tA dA i) ((bodyL P).drop 8) R:=by
 refine exs_cons (ex_assign (d:=abvD c i) (EvO.ev (evo_dc (dc_mapN (fun p=>(lt p.1,D.str (lt (abvL c i p.1)))) (full_nd c _) (it_keysM hh va) (Nat.le_trans (full_len c) (by decide)) fun C p acc hp=>⟨_,fun Da=>asgI_name,capt_sub (by rfl),fun Da=>va,fun Da=>?_⟩))) (by kernel_rfl) k (by rfl))
 have hx:=(full_keys c).2 p hp
 have hin:p.1 ∈ (fullL c).map (·.1):=List.mem_map_of_mem hp
 have hlk:((fullL c).map fun p=>(lt p.1,rowD (topL c p.1))).lookup (lt p.1) = some (rowD (topL c p.1)):=by
  rw [lt_lookup (fun x=>rowD (topL c x)) (full_4 p hp) _ full_4,if_pos hin]
 have hpos:=((key_iff c).mp hin).2
 rw [<- ring_mine] at hpos
 have hroom:=tL_room hi p.1 hx
 have hr:roomL c p.1 = (ringL c p.1).length:=by unfold roomL; split <;> omega
 rw [hr,ring_mine,<- top_len] at hroom
 refine ev_sub (dd1:=rowD (topL c p.1)) (dd2:=.int ((b3 (tL c i) p.1:Nat):Int)) (ev_sub (dd1:=topsD c) va va subT_dct (get_dct hlk)) (ev_tri (g:=fun x=>.int (b3 (tL c i) x:Nat)) hx va va) subT_lst (get_lst (Int.natCast_nonneg _) ?_ ?_)
 ·rw [Int.toNat_natCast,List.getElem?_map,List.getElem?_eq_getElem hroom,abvL,List.getD_eq_getElem?_getD,List.getElem?_eq_getElem hroom]; rfl
 ·rw [List.length_map,top_len,<- ring_mine]; exact Nat.le_trans (ring_len c p.1) (by decide)
noncomputable def Γend (ns:List Int) (c:Nat -> Nat) (tA dA:Addr) (i:Nat):Loc:=upd (upd (Γdue ns c tA dA i) "led" (.int (leN c (i + 1):Nat))) "whole" (.int (whN c (i + 1):Nat))
theorem loop_led (hX:XOk X P) {L:Addr} (hh:A.handled = none) (hu:A.units + 1 < cLine) {ns:List Int} {c:Nat -> Nat} {tA dA:Addr} {i:Nat} {R:PostP}
  (k:Exs X A (envF P 136 L) (Γend ns c tA dA i) (Ωdue c tA dA i) ((bodyL P).drop 10) R):Exs X A (envF P 136 L) (Γdue ns c tA dA i) (Ωdue c tA dA i) ((bodyL P).drop 9) R:=by
 have hfm:((((fullL c).filter fun p=>decide (abG c i (abG c i (abvL c i p.1)) ≠ 3)).map fun p=>D.str (lt p.1)).isEmpty) = ((fullL c).map (·.1)).all (fun x=>decide (abG c i (abG c i (abvL c i x)) = 3)):=by
  rw [List.isEmpty_map,List.all_map]; exact fil_all (fun p=>decide_not) _
 have e1:((whN c i:Nat):Int) + (if decide (leftL c i = []) = true then 1 else 0) = (whN c (i + 1):Nat):=by
  rw [whN_succ,whoL]
  by_cases q:leftL c i = [] <;> simp [q]
 have e2:((leN c i:Nat):Int) + (if (((fullL c).map (·.1)).all (fun x=>decide (abG c i (abG c i (abvL c i x)) = 3))) = true then 1 else 0) = (leN c (i + 1):Nat):=by
  rw [leN_succ,ledL]
  by_cases q:(((fullL c).map (·.1)).all (fun x=>decide (abG c i (abG c i (abvL c i x)) = 3))) = true
  ·simp only [q,if_true]; push_cast; rfl
  ·simp only [q]; rfl
 refine exs_cons (ex_assign_w (names:=["whole", "led"]) (ds:=[.int (whN c (i + 1):Nat),.int (leN c (i + 1):Nat)]) hh (ev_tuple (evl_cons (ev_icast (ev_bin va (ev_call (eb (v:=.type "int") hX) (fun zz=>kp_t) (evl_cons (ev_cmp (dd1:=leftD c i) va (ev_list evl_nil (by simp)) (op_left0 hu _ rfl) rfl) evl_nil rfl) int_bool rfl rfl) op_add) e1) (evl_cons (ev_icast (ev_bin va (ev_call (eb (v:=.type "int") hX) (fun zz=>kp_t) (evl_cons (ev_cmp (dd1:=.lst (((fullL c).filter fun p=>decide (abG c i (abG c i (abvL c i p.1)) ≠ 3)).map fun p=>D.str (lt p.1))) ?lc (ev_list evl_nil (nle rfl)) (op_b (op_eq0 lst_d hu) hfm) rfl) evl_nil rfl) int_bool rfl rfl) op_add) e2) evl_nil rfl) rfl) (by simp)) (binds_cons (by kernel_rfl) (binds_cons (by kernel_rfl) binds_nil)) k (by rfl) (by rfl) (by rfl))
 case lc=>
  show Ev X A _ _ _ _ (OC.lst (((fullL c).filter fun p=>decide (abG c i (abG c i (abvL c i p.1)) ≠ 3)).map fun p=>D.str (lt p.1))).d
  refine EvO.ev (evo_lc (lc_filt (fun p=>decide (abG c i (abG c i (abvL c i p.1)) ≠ 3)) (fun p=>D.str (lt p.1)) (it_keysM (f:=fun p=>(lt p.1,D.str (lt (abvL c i p.1)))) hh va) (Nat.le_trans (full_len c) (by decide)) fun C p acc hp=>?_))
  refine ⟨_,fun Da=>asgI_name,capt_sub (by rfl),fun Da=>tests_one ?_,fun zz Da=>va⟩
  have hb:=str_ne (abG_lt c i (abG c i (abvL c i p.1))) (show 3 < 4 by decide)
  rw [<- hb]
  refine evt_cmp (dd1:=.str (lt (abG c i (abG c i (abvL c i p.1))))) (dd2:=.str (lt 3)) ?_ ev_str op_nes rfl
  rw [<- abG_get c i (abG_lt c i _)]
  refine ev_get2 va ?_ ev_str rfl rfl rfl rfl
  rw [<- abG_get c i (abv_lt c i _)]
  exact ev_get2 va (ev_sub (dd1:=abvD c i) va va subT_dct (get_dct (by rw [lt_lookup (fun x=>D.str (lt (abvL c i x))) (full_4 p hp) _ full_4,if_pos (List.mem_map_of_mem hp)]))) ev_str rfl rfl rfl rfl
end
end
section
section
variable {X:Cx} {P:Params} {A:Around} {env:Env} {Γ:Loc} {Ω:Own}
theorem starts_get (c:Nat -> Nat) {i:Nat} (hi:i < (startsL c).length):((startsL c).map fun t=>begD (b3 t))[i]? = some (begD (b3 (tL c i))):=by
 rw [List.getElem?_map,List.getElem?_eq_getElem hi]
 unfold tL
 rw [List.getD_eq_getElem?_getD,List.getElem?_eq_getElem hi]; rfl
theorem law_loop (hX:XOk2 X P) (hX3:XOk3 X P) {L:Addr} (hA:Room A 12) {ns:List Int} {c:Nat -> Nat} (hc:∀ k,c k <= 61000000) {tA dA:Addr} (hne:tA ≠ dA) (ok:∀ i,i < (startsL c).length -> StartOk c i) {R:PostP}
  (k:Exs X A (envF P 136 L) (Γloop ns c tA dA (startsL c).length) (Ωloop c tA dA (startsL c).length) ((fbK P 136).drop 13) R):Exs X A (envF P 136 L) (Γfull ns c tA dA) [(dA,.lst []),(tA,.lst [])] ((fbK P 136).drop 12) R:=by
 have hh:=hA.h
 have hu:=hA.u
 have hsl:=starts_len c
 refine exs_for (G:=fun i=>Γloop ns c tA dA i) (W:=fun i=>Ωloop c tA dA i) (it_enum hh (eb (v:=.type "enumerate") hX.toXOk) (va (d:=startsD c)) rfl) rfl sub_refl ?_ ?_
 ·intro i d hd
  have hi:i < (startsL c).length:=by
   have:=(List.getElem?_eq_some_iff.mp hd).1
   rwa [enumD_length,List.length_map] at this
  rw [enumD_get (starts_get c hi)] at hd
  cases hd
  have hs:=ok i hi
  refine ⟨_,asgI_tup hh (an (an asgl_nil)),?_⟩
  refine loop_run hX hX3 hA hc hi hs ?_
  refine loop_left hX hA hs ?_
  refine loop_more hX hA hs ?_
  refine loop_rest hX3 hA hs ?_
  refine loop_text hX.toXOk hh hne (by omega) hs ?_
  refine loop_due hX.toXOk hh (by omega) hne (by omega) ?_
  refine loop_above hX.toXOk hh hi ?_
  refine loop_led hX.toXOk hh (by omega) ?_
  show Exs X A (envF P 136 L) _ _ [] _
  exact exs_nil ⟨sub_pre 18 rfl,rfl⟩
 ·rw [enumD_length,List.length_map]
  exact k
end
end
section
section
variable {X:Cx} {P:Params} {A:Around} {env:Env} {Γ:Loc} {Ω:Own}
noncomputable def nL (c:Nat -> Nat):Nat:=(startsL c).length
noncomputable def txA (c:Nat -> Nat):Str:=textL c 0 ++ "\"("
noncomputable def txB (c:Nat -> Nat):Str:=textL c 0 ++ "\\\\\"(\"\\"
noncomputable def textsL (c:Nat -> Nat):List Str:=(List.range (nL c)).map (textL c) ++ [txA c,txB c]
noncomputable def duesL (c:Nat -> Nat):List Str:=(List.range (nL c)).map (dueL c) ++ [bad,txB c]
structure LawOk (c:Nat -> Nat):Prop where
 st:∀ i,i < nL c -> StartOk c i
 pos:0 < nL c
 len:∀ x ∈ textsL c,x.length <= 1000 /\ (stripQ x).length <= 100000
 due:(textsL c).map chkV = duesL c
 led:whN c (nL c) = leN c (nL c)
noncomputable def lowL (c:Nat -> Nat):Int:=-1 - ((c 5 % 7:Nat):Int)
noncomputable def Γtl (ns:List Int) (c:Nat -> Nat) (tA dA:Addr):Loc:=Γloop ns c tA dA (nL c)
noncomputable def Ωtl (c:Nat -> Nat) (tA dA:Addr):Own:=[(dA,.lst ((duesL c).map .str)),(tA,.lst ((textsL c).map .str))]
noncomputable def Γhand (ns:List Int) (c:Nat -> Nat) (tA dA:Addr):Loc:=upd (upd (upd (Γtl ns c tA dA) "low" (.int (lowL c))) "row" (rowD (sortN (nsL c 5)))) "handed" (.lst ((textsL c).map .str))
theorem law_ext (hX:XOk X P) {L:Addr} (hh:A.handled = none) {ns:List Int} {c:Nat -> Nat} {tA dA:Addr} (hne:tA ≠ dA) (ok:LawOk c) {R:PostP}
  (k:Exs X A (envF P 136 L) (Γtl ns c tA dA) (Ωtl c tA dA) ((fbK P 136).drop 15) R):Exs X A (envF P 136 L) (Γtl ns c tA dA) (Ωloop c tA dA (nL c)) ((fbK P 136).drop 13) R:=by
 have hsl:=starts_len c
 have hsl':nL c <= 125:=hsl
 have hm:(dA,OC.lst (((List.range (nL c)).map (dueL c)).map .str)) ∈ Ωloop c tA dA (nL c):=by simp [Ωloop]
 have ht:(tA,OC.lst (((List.range (nL c)).map (textL c)).map .str)) ∈ Ωloop c tA dA (nL c):=by simp [Ωloop]
 have ht':(tA,OC.lst (((List.range (nL c)).map (textL c)).map .str)) ∈ [(dA,OC.lst ((duesL c).map .str)),(tA,OC.lst (((List.range (nL c)).map (textL c)).map .str))]:=by simp
 have hg:(((List.range (nL c)).map (textL c)).map D.str)[((0:Nat):Int).toNat]? = some (.str (textL c 0)):=by
  have:=ok.pos
  rw [Int.toNat_natCast,List.getElem?_map,List.getElem?_map,List.getElem?_range this]; rfl
 have hA:=(ok.len (txA c) (by simp [textsL])).1
 have hB:=(ok.len (txB c) (by simp [textsL])).1
 unfold txA at hA
 unfold txB at hB
 rw [Str.length_append] at hA hB
 refine exs_cons (ex_expr_s (evs_extend (ds:=((List.range (nL c)).map (dueL c)).map .str) (es:=[.str bad,.str (txB c)]) va hm (ev_list (evl_cons ev_str (evl_cons (ev_bin (ev_sub (dd2:=.int ((0:Nat):Int)) va ev_int (subT_own ht) (get_own ht (by decide) hg (by simp; omega))) ev_str (op_adds (Nat.le_trans hB (by decide)))) evl_nil rfl) rfl) (by simp)) (by simp; omega) ⟨rfl,?_⟩ (by rfl) (by rfl) (by rfl)) (by kernel_rfl) (by rfl))
 have e:oset (Ωloop c tA dA (nL c)) dA (OC.lst (((List.range (nL c)).map (dueL c)).map .str ++ [.str bad,.str (txB c)])) = [(dA,OC.lst ((duesL c).map .str)),(tA,OC.lst (((List.range (nL c)).map (textL c)).map .str))]:=by
  simp [oset,Ωloop,duesL]
 rw [e]
 refine exs_cons (ex_expr_s (evs_extend (ds:=((List.range (nL c)).map (textL c)).map .str) (es:=[.str (txA c),.str (txB c)]) va ht' (ev_list (evl_cons (ev_bin (ev_sub (dd2:=.int ((0:Nat):Int)) va ev_int (subT_own ht') (get_own ht' (by decide) hg (by simp; omega))) ev_str (op_adds (Nat.le_trans hA (by decide)))) (evl_cons (ev_bin (ev_sub (dd2:=.int ((0:Nat):Int)) va ev_int (subT_own ht') (get_own ht' (by decide) hg (by simp; omega))) ev_str (op_adds (Nat.le_trans hB (by decide)))) evl_nil rfl) rfl) (by simp)) (by simp; omega) ⟨rfl,?_⟩ (by rfl) (by rfl) (by rfl)) (by kernel_rfl) (by rfl))
 have e2:oset [(dA,OC.lst ((duesL c).map .str)),(tA,OC.lst (((List.range (nL c)).map (textL c)).map .str))] tA (OC.lst (((List.range (nL c)).map (textL c)).map .str ++ [.str (txA c),.str (txB c)])) = Ωtl c tA dA:=by
  simp [oset,Ωtl,textsL,hne.symm]
 rw [e2]
 exact k
theorem law_hand (hX:XOk X P) {L:Addr} (hh:A.handled = none) {ns:List Int} {c:Nat -> Nat} {tA dA:Addr} {R:PostP}
  (k:Exs X A (envF P 136 L) (Γhand ns c tA dA) (Ωtl c tA dA) ((fbK P 136).drop 16) R):Exs X A (envF P 136 L) (Γtl ns c tA dA) (Ωtl c tA dA) ((fbK P 136).drop 15) R:=by
 have hsl':nL c <= 125:=starts_len c
 have ht:(tA,OC.lst ((textsL c).map .str)) ∈ Ωtl c tA dA:=by simp [Ωtl]
 refine exs_cons (ex_assign_w (names:=["handed", "row", "low"]) (ds:=[.lst ((textsL c).map .str),rowD (sortN (nsL c 5)),.int (lowL c)]) hh (ev_tuple (evl_cons (ev_call (eb (v:=.type "list") hX) (fun zz=>kp_t) (evl_cons va evl_nil rfl) (list_own ht (by simp [textsL]; omega)) rfl rfl) (evl_cons (ev_call (eb (v:=.builtin "sorted") hX) (fun zz=>kp_b) (evl_cons (d:=rowD (nsL c 5)) va evl_nil rfl) (sorted_row (fun n hn=>by obtain ⟨k,_,rfl⟩:=List.mem_map.mp hn; exact nmL_lt ..) (by simp [nsL])) rfl rfl) (evl_cons (ev_icast (ev_bin (ev_una ev_int op_neg) (ev_modN (b:=7) (ev_sub (dd1:=cD c) (dd2:=.int ((5:Nat):Int)) va ev_int subT_lst (cD_get (by decide) rfl)) ev_int (by decide)) op_sub) rfl) evl_nil rfl) rfl) rfl) (by simp)) (binds_cons (by kernel_rfl) (binds_cons (by kernel_rfl) (binds_cons (by kernel_rfl) binds_nil))) k (by rfl) (by rfl) (by rfl))
end
end
section
section
variable {X:Cx} {P:Params} {A:Around} {env:Env} {Γ:Loc} {Ω:Own} {F F':FS} {s s':Shared} {EE:Value -> Shared -> Prop}
theorem raise_expr {e:Expr} {pos:Pos} {rest:List Stmt} (h:wpAny X.M A (eval e env) NoQ EE s) (hi:interactive env = false) (hs:swapsWith e none pos.line env = pure false):wpAny X.M A (execs (.Expr e pos :: rest) env) NoQ EE s:=by
 rw [arm_execs_cons]
 exact wpAny_bind (PySem.wpAny_Expr (Q:=_) (wpAny_mono h (fun zz zz q=>q.elim) fun zz zz e=>e) hi hs)
theorem raise_ife {t x y:Expr} {pos:Pos} {b:Bool} (I:Inv X env F Γ Ω s) (ht:EvT X A env Γ Ω t b) (hx:b = true -> ∀ F1 ss1,Ext X F F1 s ss1 -> Inv X env F1 Γ Ω ss1 -> wpAny X.M A (eval x env) NoQ EE ss1) (hy:b = false -> ∀ F1 ss1,Ext X F F1 s ss1 -> Inv X env F1 Γ Ω ss1 -> wpAny X.M A (eval y env) NoQ EE ss1):wpAny X.M A (eval (.IfExp t x y pos) env) NoQ EE s:=by
 refine PySem.wpAny_IfExp (evt_then I (ht F s I) fun F1 ss1 x1 I1=>?_)
 cases b with
 | true=>exact hx rfl F1 ss1 x1 I1
 | false=>exact hy rfl F1 ss1 x1 I1
noncomputable def Γfin (ns:List Int) (c:Nat -> Nat) (tA dA:Addr):Loc:=upd (upd (Γhand ns c tA dA) "dues" (.lst ((duesL c).map .str))) "texts" (.lst ((textsL c).map .str))
theorem low_neg (c:Nat -> Nat):lowL c < 0:=by unfold lowL; omega
theorem law_try (hX:XOk2 X P) {L:Addr} (hA:Room A 12) (hfr:A.frames = some [envF P 136 L]) {ns:List Int} {c:Nat -> Nat} {tA dA:Addr} {R:PostP}
  (k:Exs X A (envF P 136 L) (upd (Γfin ns c tA dA) "words" (.str neg)) [] ((fbK P 136).drop 17) R):Exs X A (envF P 136 L) (Γfin ns c tA dA) [] ((fbK P 136).drop 16) R:=by
 have hu:=hA.u
 refine exs_cons (ex_try (msg:=neg) hfr rfl (by omega) (fun F s I hF=>?_) (by kernel_rfl) (by rw [hX.k]; kernel_rfl) (fun A' Γ'=>eb (v:=.type "str") hX.toXOk) (by kernel_rfl) (by rfl) (by decide +kernel) (by kernel_rfl) (by rfl) (by kernel_rfl) (by kernel_rfl) rfl k)
 refine raise_expr (raise_ife I (evt_cmp (ev_bin va ev_int (op_mod (by decide))) ev_int op_eqi rfl) (fun hb F1 ss1 x I1=>?_) (fun hb F1 ss1 x I1=>?_)) rfl rfl
 ·refine call_rule (fe:=.Name "a" ⟨0,0,0,0⟩) (ds:=[rowD (sortN (nsL c 5)),.str "b",.int (lowL c)]) I1 (eg (v:=.ref 62) hX.toXOk) (fun zz zz=>kp_k (by rw [hX.k]; kernel_rfl)) (evl_cons va (evl_cons ev_str (evl_cons va evl_nil rfl) rfl) rfl) rfl rfl fun F2 ss2 vs xx2 I2 rr2=>?_
  exact wpAny_mono (e_insl hX.toXOk _ _ _ (low_neg c) A _ F2 ss2 vs [] (hA.le (by decide)) hfr ((hF.ext x).ext xx2) I2.base.nil rr2 .nil) (fun zz zz q=>q) fun e s' ⟨a,F',base,e1,f⟩=>⟨a,F',base,e1,(f.after I1.glob xx2).after I.glob x⟩
 ·refine call_rule_lam (ds:=[rowD (sortN (nsL c 5)),.str "b",.int (lowL c)]) (nm := "key") I1 (eg (v:=.ref 44) hX.toXOk) (fun zz zz=>kp_k (by rw [hX.k]; kernel_rfl)) (evl_cons va (evl_cons ev_str (evl_cons va evl_nil rfl) rfl) rfl) (by rfl) hX.law.1 (by rw [hX.law.2]; kernel_rfl) (by rfl) (by rfl) rfl rfl rfl rfl fun F2 ss2 vs u c' ctv pm xx2 I2 rr2 ru=>?_
  refine wpAny_mono (e_insr hX.toXOk _ _ (.str "b") _ (low_neg c) ?hK A _ F2 ss2 vs [u] (hA.le (by decide)) hfr ((hF.ext x).ext xx2) I2.base.nil rr2 (.one ru)) (fun zz zz q=>q) fun e s' ⟨a,F',base,e1,f⟩=>⟨a,F',base,e1,(f.after I1.glob xx2).after I.glob x⟩
  refine keyF0 (n:=0) (x := "w") ⟨rfl,rfl,rfl,rfl,fun v=>by kernel_rfl,by kernel_rfl,(show ∀ y ∈ [(("w" : Str),NameKind.local)],y.2 ≠ NameKind.cell by simp),rfl,rfl⟩ rfl (fun A L fa hA=>?_)
  exact va
theorem row_strs (l:List Nat):rowD l = .lst ((l.map lt).map D.str):=by rw [List.map_map]; rfl
noncomputable def finD (c:Nat -> Nat):List D:=[.lst ((duesL c).map .str),.lst ((textsL c).map .str),.str neg,.lst (((sortN (nsL c 5)).map lt).map .str),.int (leN c (nL c):Nat)]
theorem eqs_strs (l:List Str):Eqs X 1 (.lst (l.map D.str)):=Eqs.lst (all_map fun zz=>Eqs.str)
theorem fin_eqs (c:Nat -> Nat):∀ d ∈ finD c,Eqs X 1 d:=Each.mem ⟨eqs_strs _,eqs_strs _,Eqs.str,eqs_strs _,Eqs.int,trivial⟩
theorem law_end (hX:XOk X P) {L:Addr} (hA:Room A 12) {ns:List Int} {c:Nat -> Nat} {tA dA:Addr} (ok:LawOk c):Exs X A (envF P 136 L) (upd (Γfin ns c tA dA) "words" (.str neg)) [] ((fbK P 136).drop 17) (RetP (.bool true)):=by
 have hu:=hA.u
 have hpre:=c_pre hX (textsL c) ok.len (by simp [textsL]; have:nL c <= 125:=starts_len c; omega)
 rw [ok.due] at hpre
 have hw:(D.int (whN c (nL c):Nat)) = .int (leN c (nL c):Nat):=by rw [ok.led]
 refine exs_cons (ex_return (ev_cmp (dd1:=.lst (finD c)) (dd2:=.lst (finD c)) (ev_list (evl_cons (ev_call (eg (v:=.ref 99) hX) (fun zz=>kp_k (by rw [hX.k]; kernel_rfl)) (evl_cons va evl_nil rfl) (hpre.r (hA.le (by decide))) rfl rfl) (evl_cons va (evl_cons va (evl_cons ?row (evl_cons (hw ▸ va) evl_nil rfl) rfl) rfl) rfl) rfl) (by simp [finD])) (ev_list (evl_cons va (evl_cons va (evl_cons ev_str (evl_cons ?srt (evl_cons va evl_nil rfl) rfl) rfl) rfl) rfl) (by simp [finD])) (op_eql' (n:=1) lst_d lst_d (by omega) (fin_eqs c)) rfl) (.inl rfl))
 case row=>rw [<- row_strs]; exact va
 case srt=>
  rw [<- row_strs]
  exact ev_call (eb (v:=.builtin "sorted") hX) (fun zz=>kp_b) (evl_cons (d:=rowD (nsL c 5)) va evl_nil rfl) (sorted_row (fun n hn=>by obtain ⟨k,_,rfl⟩:=List.mem_map.mp hn; exact nmL_lt ..) (by simp [nsL])) rfl rfl
theorem law_walk (hX:XOk2 X P) (hX3:XOk3 X P) {L:Addr} (hA:Room A 12) (hfr:A.frames = some [envF P 136 L]) {ns:List Int} (hn:ns.length <= 1000) (ok:LawOk (cellAt ns)):Exs X A (envF P 136 L) [("script",iD ns)] [] (fbK P 136) (RetP (.bool true)):=by
 have hh:=hA.h
 have hc:=cellAt_bd ns
 refine law_cells hX.toXOk hh hn ?_
 refine law_lay (c:=cellAt ns) hX.toXOk hh hc ?_
 refine law_parts hX.toXOk hh ?_
 refine law_rings hX.toXOk hh ?_
 refine law_full hX3 (hA.le (by decide)) hc fun tA dA hne=>?_
 refine law_loop hX hX3 hA hc hne ok.st ?_
 refine law_ext hX.toXOk hh hne ok ?_
 refine law_hand hX.toXOk hh ?_
 refine exs_fz (n := "dues") (by rfl) ?_
 refine exs_fz (n := "texts") (by rfl) ?_
 exact law_try hX hA hfr (law_end hX.toXOk hA ok)
end
end
section
noncomputable def mkN:List Nat -> Nat -> Bool -> List (Nat × Nat)
 | [],_,_=>[]
 | a :: r,i,true=>mkN r (i + 1) false
 | a :: r,i,false=>if a = 92 then mkN r (i + 1) true else if a = 34 then (i,1) :: mkN r (i + 1) false else if a = 40 then (i,2) :: mkN r (i + 1) false else if a = 41 then (i,3) :: mkN r (i + 1) false else mkN r (i + 1) false
noncomputable def esN:List Nat -> Bool -> Bool
 | [],e=>e
 | a :: r,true=>esN r false
 | a :: r,false=>esN r (decide (a = 92))
theorem es_app:∀ (l g:List Nat) (e:Bool),esN (l ++ g) e = esN g (esN l e)
 | [],g,e=>rfl
 | a :: l,g,true=>es_app l g false
 | a :: l,g,false=>es_app l g (decide (a = 92))
theorem mk_app:∀ (l g:List Nat) (i:Nat) (e:Bool),mkN (l ++ g) i e = mkN l i e ++ mkN g (i + l.length) (esN l e)
 | [],g,i,e=>by cases e <;> simp [mkN,esN]
 | a :: l,g,i,true=>by
  simp only [List.cons_append,mkN,esN,List.length_cons]
  rw [mk_app l g (i + 1) false,Nat.add_assoc,Nat.add_comm 1]
 | a :: l,g,i,false=>by
  have h:i + 1 + l.length = i + (l.length + 1):=by omega
  have ih:=fun e=>mk_app l g (i + 1) e
  simp only [h] at ih
  simp only [List.cons_append,mkN,esN,List.length_cons]
  by_cases q:a = 92
  ·simp only [q,if_true,decide_true]; exact ih true
  ·simp only [q,if_false,decide_false]
   rw [ih false]
   split
   ·rfl
   ·split
    ·rfl
    ·split <;> rfl
noncomputable def op1 (l:List Nat):List Nat:=(mkN l 0 false).map (·.2)
theorem mk_shift:∀ (l:List Nat) (i j:Nat) (e:Bool),(mkN l i e).map (·.2) = (mkN l j e).map (·.2)
 | [],_,_,_=>rfl
 | a :: l,i,j,true=>mk_shift l (i + 1) (j + 1) false
 | a :: l,i,j,false=>by
  have ih:=fun e=>mk_shift l (i + 1) (j + 1) e
  simp only [mkN]
  split
  ·exact ih true
  ·split
   ·rw [List.map_cons,List.map_cons,ih false]
   ·split
    ·rw [List.map_cons,List.map_cons,ih false]
    ·split
     ·rw [List.map_cons,List.map_cons,ih false]
     ·exact ih false
theorem op_app {l:List Nat} (h:esN l false = false) (g:List Nat):op1 (l ++ g) = op1 l ++ op1 g:=by
 unfold op1
 rw [mk_app,List.map_append,h,mk_shift g _ 0]
abbrev cpL (x:Str):List Nat:=x.cps.toList
noncomputable def sg1 (a:Nat):Str:=⟨#[a]⟩
theorem signs_sg (x:Str):PyProof.Rows.signs x = (cpL x).map sg1:=rfl
theorem cp_app (x y:Str):cpL (x ++ y) = cpL x ++ cpL y:=by
 show (x.cps ++ y.cps).toList = _
 exact Array.toList_append
theorem cp_inj {x y:Str} (h:cpL x = cpL y):x = y:=by
 cases x; cases y
 exact congrArg Str.mk (Array.toList_inj.mp h)
theorem sg_beq (a b:Nat):(sg1 a == sg1 b) = decide (a = b):=by
 rw [Bool.eq_iff_iff,beq_iff_eq,decide_eq_true_eq]
 exact ⟨fun h=>by simpa [sg1] using h,fun h=>by rw [h]⟩
theorem bs_ne (a b:Nat):(bsl ++ sg1 a == sg1 b) = false:=by
 rw [beq_eq_false_iff_ne]
 intro h
 have:=congrArg (fun x:Str=>(cpL x).length) h
 rw [cp_app] at this
 simp [sg1] at this
 exact absurd this (by decide +kernel)
theorem quo_sg:quo = sg1 34:=by kernel_rfl
theorem lpar_sg:lpar = sg1 40:=by kernel_rfl
theorem rpar_sg:rpar = sg1 41:=by kernel_rfl
theorem bsl_sg:bsl = sg1 92:=by kernel_rfl
theorem fold_mk {σ:Type} (f:σ -> Int × Str -> σ) (g:σ -> Nat × Nat -> σ) (h0:∀ s i c,c ≠ quo -> c ≠ lpar -> c ≠ rpar -> f s (i,c) = s)
  (h1:∀ s (i:Nat),f s ((i:Int),quo) = g s (i,1)) (h2:∀ s (i:Nat),f s ((i:Int),lpar) = g s (i,2)) (h3:∀ s (i:Nat),f s ((i:Int),rpar) = g s (i,3)) :
  ∀ (l:List Nat) (i:Nat) (e:Bool) (p:Int) (s:σ),(escEvs (l.map sg1) i e p).foldl f s = (mkN l i e).foldl g s:=by
 have hq:∀ (y:Str),(∀ b,(y == sg1 b) = false) -> y ≠ quo /\ y ≠ lpar /\ y ≠ rpar:=fun y h=>by
  rw [quo_sg,lpar_sg,rpar_sg]
  exact ⟨beq_eq_false_iff_ne.mp (h 34),beq_eq_false_iff_ne.mp (h 40),beq_eq_false_iff_ne.mp (h 41)⟩
 have hs:∀ a,a ≠ 34 -> a ≠ 40 -> a ≠ 41 -> sg1 a ≠ quo /\ sg1 a ≠ lpar /\ sg1 a ≠ rpar:=fun a a1 a2 a3=>by
  rw [quo_sg,lpar_sg,rpar_sg]
  refine ⟨?_,?_,?_⟩ <;> (rw [<- beq_eq_false_iff_ne,sg_beq,decide_eq_false_iff_not]; assumption)
 intro l
 induction l with
 | nil=>
  intro i e p s
  cases e with
  | false=>rfl
  | true=>
   obtain ⟨a,b,c⟩:=hs 92 (by decide) (by decide) (by decide)
   rw [<- bsl_sg] at a b c
   exact h0 s p bsl a b c
 | cons a l ih=>
  intro i e p s
  show ((escEvOut i e (sg1 a)) ++ escEvs (l.map sg1) (i + 1) (escNext e (sg1 a)) i).foldl f s = _
  rw [List.foldl_append,ih]
  cases e with
  | true=>
   obtain ⟨q1,q2,q3⟩:=hq (bsl ++ sg1 a) (bs_ne a)
   show (mkN l (i + 1) false).foldl g (f s _) = (mkN l (i + 1) false).foldl g s
   rw [h0 s i _ q1 q2 q3]
  | false=>
   simp only [escEvOut,escNext,Bool.false_eq_true,if_false,mkN,bsl_sg,sg_beq]
   by_cases b1:a = 92
   ·simp only [b1,decide_true,if_true]; rfl
   ·simp only [b1,decide_false,if_false,Bool.false_eq_true]
    by_cases b2:a = 34
    ·subst b2; simp only [if_true,List.foldl_cons,List.foldl_nil]; rw [<- quo_sg,h1]
    ·by_cases b3:a = 40
     ·subst b3; simp only [b2,if_false,if_true,List.foldl_cons,List.foldl_nil]; rw [<- lpar_sg,h2]
     ·by_cases b4:a = 41
      ·subst b4; simp only [b2,b3,if_false,if_true,List.foldl_cons,List.foldl_nil]; rw [<- rpar_sg,h3]
      ·simp only [b2,b3,b4,if_false,List.foldl_cons,List.foldl_nil]
       obtain ⟨q1,q2,q3⟩:=hs a b2 b3 b4
       rw [h0 s i _ q1 q2 q3]
noncomputable def cN (o:Option Nat) (c:Nat):Option Nat:=match o with
 | none=>none
 | some n=>if c = 2 then some (n + 1) else if c = 3 then (match n with | 0=>none | m + 1=>some m) else some n
theorem cN_none:∀ l,List.foldl cN none l = none
 | []=>rfl
 | _ :: l=>cN_none l
theorem quo_ne:(quo == lpar) = false /\ (quo == rpar) = false /\ (rpar == lpar) = false /\ (lpar == lpar) = true /\ (rpar == rpar) = true /\ (quo == quo) = true /\ (lpar == quo) = false /\ (rpar == quo) = false:=by decide +kernel
theorem chkE_cN (x:Str):chkE (evs x) = ((op1 (cpL x)).foldl cN (some 0) == some 0):=by
 have h:(evs x).foldl cStep (some 0) = ((op1 (cpL x)).foldl cN (some 0)).map fun n=>((n:Nat):Int):=by
  have:=fold_mk cStep (fun o m=>cStep o (0,if m.2 = 1 then quo else if m.2 = 2 then lpar else rpar)) (fun s i c a b d=>by
   cases s with
   | none=>rfl
   | some n=>
    have e1:(c == lpar) = false:=beq_eq_false_iff_ne.mpr b
    have e2:(c == rpar) = false:=beq_eq_false_iff_ne.mpr d
    simp [cStep,e1,e2]) (fun s i=>by cases s <;> rfl) (fun s i=>by cases s <;> rfl) (fun s i=>by cases s <;> rfl) (cpL x) 0 false 0 (some 0)
  show (escEvs (PyProof.Rows.signs x) 0 false 0).foldl cStep (some 0) = _
  rw [signs_sg,this]
  unfold op1
  have hc:∀ m ∈ mkN (cpL x) 0 false,m.2 = 1 \/ m.2 = 2 \/ m.2 = 3:=by
   generalize (0:Nat) = i
   generalize false = e
   induction cpL x generalizing i e with
   | nil=>intro m hm; cases hm
   | cons a l ih=>
    cases e with
    | true=>exact ih (i + 1) false
    | false=>
     intro m hm
     simp only [mkN] at hm
     split at hm
     ·exact ih _ _ m hm
     ·split at hm
      ·rcases List.mem_cons.mp hm with rfl | hm
       ·exact .inl rfl
       ·exact ih _ _ m hm
      ·split at hm
       ·rcases List.mem_cons.mp hm with rfl | hm
        ·exact .inr (.inl rfl)
        ·exact ih _ _ m hm
       ·split at hm
        ·rcases List.mem_cons.mp hm with rfl | hm
         ·exact .inr (.inr rfl)
         ·exact ih _ _ m hm
        ·exact ih _ _ m hm
  show _ = (((mkN (cpL x) 0 false).map (·.2)).foldl cN (some 0)).map fun n=>((n:Nat):Int)
  have gen:∀ (l:List (Nat × Nat)) (o:Option Nat),(∀ m ∈ l,m.2 = 1 \/ m.2 = 2 \/ m.2 = 3) -> l.foldl (fun o m=>cStep o (0,if m.2 = 1 then quo else if m.2 = 2 then lpar else rpar)) (o.map fun n=>((n:Nat):Int)) = ((l.map (·.2)).foldl cN o).map fun n=>((n:Nat):Int):=by
   intro l
   induction l with
   | nil=>intro o _; rfl
   | cons m l ih=>
    intro o h
    rw [List.foldl_cons,List.map_cons,List.foldl_cons,<- ih _ fun q hq=>h q (List.mem_cons_of_mem _ hq)]
    congr 1
    obtain ⟨q1,q2,q3,q4,q5,_⟩:=quo_ne
    cases o with
    | none=>rfl
    | some n=>
     rcases h m (List.mem_cons_self ..) with e | e | e <;> simp only [e,cN,cStep,Option.map_some,q1,q2,q3,q4,q5,if_true,if_false,Bool.false_eq_true,Nat.reduceEqDiff]
     ·push_cast; rfl
     ·cases n with
      | zero=>rfl
      | succ n=>simp
  exact gen _ (some 0) hc
 unfold chkE
 rw [h]
 cases (op1 (cpL x)).foldl cN (some 0) with
 | none=>rfl
 | some n=>cases n <;> rfl
abbrev QN:=Nat × Option Nat × List Nat
noncomputable def qN (l:List Nat) (s:QN) (m:Nat × Nat):QN:=if m.2 = 1 then (match s.2.1 with
  | none=>(s.1,some m.1,s.2.2)
  | some o=>(m.1 + 1,none,s.2.2 ++ (l.drop s.1).take (o - s.1))) else s
inductive Seg:List Nat -> List Nat -> Prop
 | nil:Seg [] []
 | plain {l S:List Nat} (g:List Nat):Seg l S -> esN g false = false -> 1 ∉ op1 g -> Seg (l ++ g) (S ++ g)
 | quoted {l S:List Nat} (g:List Nat) (mid:List (Nat × Nat)) (n:Nat):Seg l S -> esN g false = false -> g.length = n + 1 -> (∀ i,mkN g i false = (i,1) :: mid.map (fun p=>(p.1 + i,p.2)) ++ [(i + n,1)]) -> (∀ p ∈ mid,p.2 ≠ 1) -> Seg (l ++ g) S
theorem seg_es {l S:List Nat} (h:Seg l S):esN l false = false /\ esN S false = false:=by
 induction h with
 | nil=>exact ⟨rfl,rfl⟩
 | plain g _ hg _ ih=>exact ⟨by rw [es_app,ih.1]; exact hg,by rw [es_app,ih.2]; exact hg⟩
 | quoted g mid n _ hg _ _ _ ih=>exact ⟨by rw [es_app,ih.1]; exact hg,ih.2⟩
theorem qN_skip (l:List Nat):∀ (ms:List (Nat × Nat)) (s:QN),(∀ m ∈ ms,m.2 ≠ 1) -> ms.foldl (qN l) s = s
 | [],s,_=>rfl
 | m :: ms,s,h=>by
  rw [List.foldl_cons,show qN l s m = s from if_neg (h m (List.mem_cons_self ..)),qN_skip l ms s fun q hq=>h q (List.mem_cons_of_mem _ hq)]
theorem no1 {g:List Nat} (h:1 ∉ op1 g) (i:Nat):∀ m ∈ mkN g i false,m.2 ≠ 1:=fun m hm e=>by
 apply h
 unfold op1
 rw [mk_shift g 0 i]
 exact List.mem_map.mpr ⟨m,hm,e⟩
theorem seg_run {l S:List Nat} (h:Seg l S) (r:List Nat):∃ s w,(mkN l 0 false).foldl (qN (l ++ r)) (0,none,[]) = (s,none,w) /\ s <= l.length /\ w ++ l.drop s = S:=by
 induction h generalizing r with
 | nil=>exact ⟨0,[],rfl,Nat.le_refl 0,rfl⟩
 | @plain l S g hs hg h1 ih=>
  obtain ⟨s,w,e,hl,ew⟩:=ih (g ++ r)
  rw [mk_app,(seg_es hs).1,List.foldl_append,List.append_assoc,e,qN_skip _ _ _ (no1 h1 _)]
  refine ⟨s,w,rfl,by rw [List.length_append]; omega,?_⟩
  rw [List.drop_append_of_le_length hl,<- List.append_assoc,ew]
 | @quoted l S g mid n hs hg hn hm h1 ih=>
  obtain ⟨s,w,e,hl,ew⟩:=ih (g ++ r)
  rw [mk_app,(seg_es hs).1,List.foldl_append,List.append_assoc,e,hm,Nat.zero_add,List.foldl_append,List.foldl_cons,List.foldl_nil,List.foldl_cons]
  rw [show qN (l ++ (g ++ r)) (s,none,w) (l.length,1) = (s,some l.length,w) from rfl]
  rw [qN_skip _ _ _ fun m hm'=>by obtain ⟨p,hp,rfl⟩:=List.mem_map.mp hm'; exact h1 p hp]
  refine ⟨l.length + n + 1,w ++ ((l ++ (g ++ r)).drop s).take (l.length - s),rfl,by rw [List.length_append,hn]; omega,?_⟩
  have hz:(l ++ g).drop (l.length + n + 1) = []:=List.drop_eq_nil_of_le (by rw [List.length_append,hn]; omega)
  rw [hz,List.append_nil,List.drop_append_of_le_length hl,List.take_append_of_le_length (by rw [List.length_drop]; omega),List.take_of_length_le (by rw [List.length_drop]; omega),ew]
theorem join_cp (ys:List Str):cpL (Txt.join Str.empty ys) = ys.flatMap cpL:=by
 rw [beq_iff_eq.mp (join_closes (sep:=Str.empty) rfl)]
 induction ys with
 | nil=>rfl
 | cons y r ih=>
  cases r with
  | nil=>simp [Str.join,List.flatMap_cons]
  | cons z r=>
   show cpL (y ++ Str.empty ++ Str.join Str.empty (z :: r)) = _
   rw [cp_app,cp_app,ih,List.flatMap_cons (x:=y)]
   show cpL y ++ [] ++ _ = _
   rw [List.append_nil]
theorem slice_cp {x:Str} {i j:Nat} (h:i <= j) (h2:j <= (cpL x).length):cpL (Txt.slice x (some (i:Int)) (some (j:Int))) = ((cpL x).drop i).take (j - i):=by
 rw [beq_iff_eq.mp (slice_closes (x:=x) (i:=i) (j:=j) ⟨by omega,by omega,by have:(cpL x).length = x.cps.toList.length:=rfl; omega⟩)]
 show List.take _ _ = _
 rw [Int.toNat_natCast,show ((j:Int) - (i:Int)).toNat = j - i by omega]
theorem slice_cp_from {x:Str} {i:Nat} (h:i <= (cpL x).length):cpL (Txt.slice x (some (i:Int)) none) = (cpL x).drop i:=by
 rw [beq_iff_eq.mp (slice_closes_from (x:=x) (i:=i) ⟨by omega,by have:(cpL x).length = x.cps.toList.length:=rfl; omega⟩)]
 show List.take _ _ = _
 rw [Int.toNat_natCast,List.take_of_length_le]
 rw [List.length_drop]; omega
structure Like (x:Str) (st:QS) (s:QN):Prop where
 a:st.1 = (s.1:Int)
 b:st.2.1 = s.2.1.map fun n=>((n:Nat):Int)
 c:st.2.2.flatMap cpL = s.2.2
theorem like_run (x:Str):∀ (ms:List (Nat × Nat)) (st:QS) (s:QN),Like x st s -> (∀ m ∈ ms,m.1 < (cpL x).length) -> ms.Pairwise (fun m n=>m.1 < n.1) -> (∀ m ∈ ms,s.1 <= m.1) -> (∀ o,s.2.1 = some o -> s.1 <= o /\ o < (cpL x).length) ->
  Like x (ms.foldl (fun st m=>if m.2 = 1 then qStep x st ((m.1:Int),quo) else st) st) (ms.foldl (qN (cpL x)) s)
 | [],st,s,h,_,_,_,_=>h
 | m :: ms,st,s,h,h1,h2,h3,h4=>by
  rw [List.pairwise_cons] at h2
  have hm:=h1 m (List.mem_cons_self ..)
  have hm3:=h3 m (List.mem_cons_self ..)
  rw [List.foldl_cons,List.foldl_cons]
  by_cases q:m.2 = 1
  ·rw [if_pos q]
   have hqq:(quo == quo) = true:=quo_ne.2.2.2.2.2.1
   unfold qN
   rw [if_pos q]
   obtain ⟨a,b,c⟩:=h
   obtain ⟨s1,so,sw⟩:=s
   cases so with
   | none=>
    refine like_run x ms _ _ ⟨?_,?_,?_⟩ (fun n hn=>h1 n (List.mem_cons_of_mem _ hn)) h2.2 (fun n hn=>h3 n (List.mem_cons_of_mem _ hn)) (fun o ho=>by cases ho; exact ⟨hm3,hm⟩)
    all_goals (simp only [Option.map_none] at b; simp only [qStep,hqq,if_true,b])
    ·exact a
    ·rfl
    ·exact c
   | some o=>
    obtain ⟨o1,o2⟩:=h4 o rfl
    refine like_run x ms _ _ ⟨?_,?_,?_⟩ (fun n hn=>h1 n (List.mem_cons_of_mem _ hn)) h2.2 (fun n hn=>h2.1 n hn) (fun o ho=>by cases ho)
    all_goals (simp only [Option.map_some] at b; simp only [qStep,hqq,if_true,b])
    ·push_cast; rfl
    ·rfl
    ·dsimp only at a o1 ⊢
     rw [a]
     by_cases e:(s1:Int) = (o:Int)
     ·have e':s1 = o:=by omega
      subst e'
      simp [c]
     ·rw [if_pos (by simpa using e),List.flatMap_append,c,List.flatMap_cons,slice_cp o1 (by omega)]
      simp
  ·rw [if_neg q,show qN (cpL x) s m = s from if_neg q]
   exact like_run x ms st s h (fun n hn=>h1 n (List.mem_cons_of_mem _ hn)) h2.2 (fun n hn=>h3 n (List.mem_cons_of_mem _ hn)) h4
theorem mk_bounds:∀ (l:List Nat) (i:Nat) (e:Bool),(∀ m ∈ mkN l i e,i <= m.1 /\ m.1 < i + l.length) /\ (mkN l i e).Pairwise (fun m n=>m.1 < n.1)
 | [],i,e=>by
  have h:mkN [] i e = []:=by cases e <;> rfl
  rw [h]
  exact ⟨fun m hm=>(nomatch hm),.nil⟩
 | a :: l,i,e=>by
  have ih:=fun e=>mk_bounds l (i + 1) e
  have k:∀ e m,m ∈ mkN l (i + 1) e -> i <= m.1 /\ m.1 < i + (a :: l).length:=fun e m hm=>by
   have:=(ih e).1 m hm
   rw [List.length_cons]; omega
  have c:∀ t,(∀ m ∈ (i,t) :: mkN l (i + 1) false,i <= m.1 /\ m.1 < i + (a :: l).length) /\ ((i,t) :: mkN l (i + 1) false).Pairwise (fun m n=>m.1 < n.1):=fun t=>
   ⟨fun m hm=>by
    rcases List.mem_cons.mp hm with rfl | hm
    ·exact ⟨Nat.le_refl _,by rw [List.length_cons]; dsimp only; omega⟩
    ·exact k _ m hm,.cons (fun m hm=>by have:=((ih false).1 m hm).1; dsimp only; omega) (ih false).2⟩
  cases e with
  | true=>exact ⟨k false,(ih false).2⟩
  | false=>
   simp only [mkN]
   split
   ·exact ⟨k true,(ih true).2⟩
   ·split
    ·exact c 1
    ·split
     ·exact c 2
     ·split
      ·exact c 3
      ·exact ⟨k false,(ih false).2⟩
set_option tactic.hygienic true in
theorem strip_cp (x:Str) {s:Nat} {o:Option Nat} {w:List Nat} (h:(mkN (cpL x) 0 false).foldl (qN (cpL x)) (0,none,[]) = (s,o,w)) (hs:s <= (cpL x).length):cpL (stripQ x) = w ++ (cpL x).drop s:=by
 obtain ⟨mb,mp⟩:=mk_bounds (cpL x) 0 false
 unfold stripQ
 split
 ·have hr:=like_run x (mkN (cpL x) 0 false) (0,none,[]) (0,none,[]) ⟨rfl,rfl,rfl⟩ (fun m hm=>by have:=mb m hm; omega) mp (fun m hm=>Nat.zero_le _) (fun o ho=>by cases ho)
  rw [h] at hr
  have hf:=fold_mk (qStep x) (fun st m=>if m.2 = 1 then qStep x st ((m.1:Int),quo) else st) (fun s i c a b d=>by
    have:(c == quo) = false:=beq_eq_false_iff_ne.mpr a
    simp only [qStep,this,Bool.false_eq_true,if_false]) (fun s i=>rfl) (fun s i=>by
    simp only [qStep,quo_ne.2.2.2.2.2.2.1,Bool.false_eq_true,if_false,Nat.reduceEqDiff]) (fun s i=>by
    simp only [qStep,quo_ne.2.2.2.2.2.2.2,Bool.false_eq_true,if_false,Nat.reduceEqDiff]) (cpL x) 0 false 0 (0,none,[])
  have hq:qRun x (evs x) = (mkN (cpL x) 0 false).foldl (fun st m=>if m.2 = 1 then qStep x st ((m.1:Int),quo) else st) (0,none,[]):=hf
  rw [<- hq] at hr
  obtain ⟨a,b,c⟩:=hr
  rw [join_cp]
  unfold qEnd
  split
  ·rw [List.flatMap_append,c,a,List.flatMap_cons,slice_cp_from hs]; simp
  ·rename_i hlt
   rw [c,a] at *
   have:(cpL x).length <= s:=by
    have:¬((s:Int) < (x.length:Int)):=hlt
    have hl:x.length = (cpL x).length:=rfl
    omega
   rw [List.drop_eq_nil_of_le this,List.append_nil]
 ·rename_i hq
  have h34:34 ∉ cpL x:=by
   have:=StrLaws.found_one x 34
   have e:(⟨#[34]⟩:Str) = quo:=quo_sg.symm
   rw [e] at this
   have hq':hasQ x = false:=by simpa using hq
   unfold hasQ at hq'
   rw [this] at hq'
   simpa using hq'
  have hno:∀ (l:List Nat) (i:Nat) (e:Bool),34 ∉ l -> ∀ m ∈ mkN l i e,m.2 ≠ 1:=by
   intro l
   induction l with
   | nil =>
    intro i e _ m hm
    have h:mkN [] i e = []:=by cases e <;> rfl
    rw [h] at hm; cases hm
   | cons a l ih=>
    intro i e h m hm
    rw [List.mem_cons,not_or] at h
    have ha:¬a = 34:=fun q=>h.1 q.symm
    cases e with
    | true=>exact ih _ _ h.2 m hm
    | false=>
     simp only [mkN,ha,if_false] at hm
     split at hm
     ·exact ih _ _ h.2 m hm
     ·split at hm
      ·rcases List.mem_cons.mp hm with rfl | hm
       ·exact (by decide:(2:Nat) ≠ 1)
       ·exact ih _ _ h.2 m hm
      ·split at hm
       ·rcases List.mem_cons.mp hm with rfl | hm
        ·exact (by decide:(3:Nat) ≠ 1)
        ·exact ih _ _ h.2 m hm
       ·exact ih _ _ h.2 m hm
  rw [qN_skip _ _ _ (hno _ _ _ h34)] at h
  cases h
  rfl
end
section
noncomputable def TxO (x:Str) (o:Option Nat):Prop:=∃ S,Seg (cpL x) S /\ (op1 S).foldl cN (some 0) = o
theorem strip_tail {x:Str} {l S t:List Nat} (h:Seg l S) (e:cpL x = l ++ t) (ht:∀ (y:List Nat) s w i,∃ o,(mkN t i false).foldl (qN y) (s,none,w) = (s,o,w)):cpL (stripQ x) = S ++ t:=by
 obtain ⟨s,w,h1,h2,h3⟩:=seg_run h t
 obtain ⟨o,h4⟩:=ht (l ++ t) s w (0 + l.length)
 have:(mkN (cpL x) 0 false).foldl (qN (cpL x)) (0,none,[]) = (s,o,w):=by
  rw [e,mk_app,(seg_es h).1,List.foldl_append,h1,h4]
 rw [strip_cp x this (by rw [e,List.length_append]; omega),e,List.drop_append_of_le_length h2,<- List.append_assoc,h3]
theorem chk_tail {x:Str} {l S t:List Nat} (h:Seg l S) (e:cpL x = l ++ t) (ht:∀ (y:List Nat) s w i,∃ o,(mkN t i false).foldl (qN y) (s,none,w) = (s,o,w)):chkP x = ((op1 t).foldl cN ((op1 S).foldl cN (some 0)) == some 0):=by
 unfold chkP
 rw [chkE_cN,strip_tail h e ht,op_app (seg_es h).2,List.foldl_append]
theorem txo_chk {x:Str} {o:Option Nat} (h:TxO x o):chkP x = (o == some 0):=by
 obtain ⟨S,hs,rfl⟩:=h
 exact chk_tail hs (List.append_nil _).symm fun y s w i=>⟨none,rfl⟩
theorem txo_A {x:Str} {o:Option Nat} (h:TxO x o):chkP (x ++ "\"(") = false:=by
 obtain ⟨S,hs,rfl⟩:=h
 rw [chk_tail (t:=[34,40]) hs (by rw [cp_app]; rfl) fun y s w i=>⟨some i,rfl⟩]
 show (cN (cN _ 1) 2 == some 0) = false
 cases (op1 S).foldl cN (some 0) with
 | none=>rfl
 | some n=>rfl
theorem txo_plain {x y:Str} {o:Option Nat} (h:TxO x o) {g:List Nat} (e:cpL y = g) (h1:esN g false = false) (h2:1 ∉ op1 g):TxO (x ++ y) ((op1 g).foldl cN o):=by
 obtain ⟨S,hs,rfl⟩:=h
 subst e
 refine ⟨S ++ cpL y,by rw [cp_app]; exact .plain _ hs h1 h2,?_⟩
 rw [op_app (seg_es hs).2,List.foldl_append]
theorem txo_quoted {x y:Str} {o:Option Nat} (h:TxO x o) {g:List Nat} (mid:List (Nat × Nat)) (n:Nat) (e:cpL y = g) (h1:esN g false = false) (hn:g.length = n + 1) (hm:∀ i,mkN g i false = (i,1) :: mid.map (fun p=>(p.1 + i,p.2)) ++ [(i + n,1)]) (h2:∀ p ∈ mid,p.2 ≠ 1):TxO (x ++ y) o:=by
 obtain ⟨S,hs,rfl⟩:=h
 subst e
 exact ⟨S,by rw [cp_app]; exact .quoted _ mid n hs h1 hn hm h2,rfl⟩
theorem txo_q1 {x:Str} {o:Option Nat} (h:TxO x o):TxO (x ++ "\")\"") o:=
 txo_quoted (g:=[34,41,34]) h [(1,3)] 2 (by decide +kernel) rfl rfl (fun i=>by simp [mkN]; omega) (by decide)
theorem txo_q3 {x:Str} {o:Option Nat} (h:TxO x o):TxO (x ++ "\"(\"") o:=
 txo_quoted (g:=[34,40,34]) h [(1,2)] 2 (by decide +kernel) rfl rfl (fun i=>by simp [mkN]; omega) (by decide)
theorem txo_q2 {x:Str} {o:Option Nat} (h:TxO x o):TxO (x ++ "\"(\\\"(\"") o:=
 txo_quoted (g:=[34,40,92,34,40,34]) h [(1,2),(4,2)] 5 (by decide +kernel) rfl rfl (fun i=>by simp [mkN]; omega) (by decide)
theorem txo_piece {x:Str} {o:Option Nat} (h:TxO x o) (j:Nat):TxO (x ++ pieces.getD j Str.empty) o:=by
 match j with
 | 0=>exact txo_plain (g:=[]) h (by decide +kernel) rfl (by decide)
 | 1=>exact txo_plain (g:=[92,40]) h (by decide +kernel) rfl (by decide)
 | 2=>exact txo_plain (g:=[92,41]) h (by decide +kernel) rfl (by decide)
 | 3=>exact txo_q1 h
 | 4=>exact txo_q2 h
 | 5=>exact txo_plain (g:=[92,92]) h (by decide +kernel) rfl (by decide)
 | n + 6=>exact txo_plain (g:=[]) h rfl rfl (by decide)
theorem str_assoc (a b c:Str):a ++ (b ++ c) = a ++ b ++ c:=cp_inj (by simp only [cp_app,List.append_assoc])
theorem opens_cp:∀ r,r < 6 -> cpL (mulS "(" ((r:Nat):Int)) = List.replicate r 40:=by decide +kernel
theorem opens_op:∀ r,r < 6 -> esN (List.replicate r 40) false = false /\ 1 ∉ op1 (List.replicate r 40) /\ op1 (List.replicate r 40) = List.replicate r 2:=by decide
theorem fold_opens:∀ (r n:Nat),(List.replicate r 2).foldl cN (some n) = some (n + r)
 | 0,n=>rfl
 | r + 1,n=>by
  show (List.replicate r 2).foldl cN (some (n + 1)) = _
  rw [fold_opens r,Nat.add_assoc,Nat.add_comm 1]
theorem txo_open {x:Str} {o:Option Nat} (h:TxO x o) {r:Nat} (hr:r <= 5):TxO (x ++ mulS "(" ((r:Nat):Int)) (o.map (· + r)):=by
 obtain ⟨a,b,d⟩:=opens_op r (by omega)
 have:=txo_plain h (opens_cp r (by omega)) a b
 rw [d] at this
 cases o with
 | none=>rwa [cN_none] at this
 | some n=>rwa [fold_opens] at this
noncomputable def stO (o:Option Nat) (r:Nat):Option Nat:=match o with
 | some (n + 1)=>some (n + r)
 | _=>none
theorem txo_part {x:Str} {o:Option Nat} (h:TxO x o) (c:Nat -> Nat) {k:Nat} (hk:1 <= k):TxO (x ++ partL c k) (stO o (rowL c 5 k).length):=by
 unfold partL
 rw [str_assoc,str_assoc,decide_eq_true (by omega:(k:Int) > 0),if_pos rfl]
 have h1:=txo_plain (y:=mulS ")" 1) (g:=[41]) h (by decide +kernel) rfl (by decide)
 have h2:=txo_open (txo_piece h1 (c ((k + 5) % 6) / (if 3 * k > 1 then 3 * k else 1) % 6)) (row_len c k)
 have e:([3].foldl cN o).map (· + (rowL c 5 k).length) = stO o (rowL c 5 k).length:=by
  cases o with
  | none=>rfl
  | some n=>cases n <;> rfl
 rw [<- e]
 exact h2
theorem txo_part0 (c:Nat -> Nat):TxO (partL c 0) (some (rowL c 5 0).length):=by
 have h0:TxO Str.empty (some 0):=⟨[],.nil,rfl⟩
 have h1:=txo_plain (y:=mulS ")" 0) (g:=[]) h0 (by decide +kernel) rfl (by decide)
 have h2:=txo_open (txo_piece h1 (c 5 / 1 % 6)) (row_len c 0)
 have e:partL c 0 = Str.empty ++ mulS ")" 0 ++ pieces.getD (c 5 / 1 % 6) Str.empty ++ mulS "(" (((rowL c 5 0).length:Nat):Int):=by
  refine cp_inj ?_
  unfold partL
  simp only [cp_app]
  rfl
 rw [e]
 have e2:((op1 []).foldl cN (some 0)).map (· + (rowL c 5 0).length) = some (rowL c 5 0).length:=congrArg some (Nat.zero_add _)
 rwa [e2] at h2
theorem txo_B {x:Str} {o:Option Nat} (h:TxO x o):chkP (x ++ "\\\\\"(\"\\") = (o == some 0):=by
 have h1:=txo_q3 (txo_plain (y := "\\\\") (g:=[92,92]) h (by decide +kernel) rfl (by decide))
 obtain ⟨S,hs,e⟩:=h1
 rw [chk_tail (t:=[92]) hs (by
  have q:cpL ("\\\\\"(\"\\" : Str) = cpL ("\\\\" : Str) ++ cpL ("\"(\"" : Str) ++ [92]:=by decide +kernel
  simp only [cp_app,q,List.append_assoc]) fun y s w i=>⟨none,rfl⟩,e]
 rfl
theorem strip_len {x:Str} (h:x.length <= 300):(stripQ x).length <= 100000:=by
 unfold stripQ
 split
 ·have hq:=qRun_res x (evs x) (0,none,[]) (by simp)
  have hl:=evs_len x
  have e0:(evs x).foldl (qStep x) (0,none,[]) = qRun x (evs x):=rfl
  rw [e0] at hq
  obtain ⟨h1,h2⟩:=hq
  have h3:(qRun x (evs x)).2.2.length <= x.length + 1:=by simp at h2; omega
  have h4:(∀ y ∈ qEnd x (qRun x (evs x)),y.length <= x.length) /\ (qEnd x (qRun x (evs x))).length <= x.length + 2:=by
   unfold qEnd
   split
   ·refine ⟨fun y hy=>?_,by rw [List.length_append,List.length_singleton]; omega⟩
    rcases List.mem_append.mp hy with hy | hy
    ·exact h1 y hy
    ·rw [List.mem_singleton.mp hy]; exact Txt.slice_le ..
   ·exact ⟨h1,by omega⟩
  generalize qEnd x (qRun x (evs x)) = ys at h4
  have h5:∀ ys:List Str,(∀ y ∈ ys,y.length <= 300) -> (ys.flatMap cpL).length <= ys.length * 300:=by
   intro ys
   induction ys with
   | nil=>intro _; simp
   | cons y r ih=>
    intro hy
    have a:=hy y (List.mem_cons_self ..)
    have b:=ih fun z hz=>hy z (List.mem_cons_of_mem _ hz)
    have e:(cpL y).length = y.length:=rfl
    rw [List.flatMap_cons,List.length_append,List.length_cons,Nat.succ_mul,e]
    omega
  have h6:=h5 ys fun y hy=>Nat.le_trans (h4.1 y hy) h
  have e:(Txt.join Str.empty ys).length = (cpL (Txt.join Str.empty ys)).length:=rfl
  rw [e,join_cp]
  have:=h4.2
  omega
 ·omega
end
section
noncomputable def fullC:Nat:=1329227995784915872903807060280344575
noncomputable def thr (l:List Nat):Nat -> Nat:=
 @List.rec Nat (fun zz=>Nat -> Nat) (fun t=>@Nat.rec (fun zz=>Nat) fullC (fun zz zz=>0) t)
  (fun c zz ih t=>@Nat.rec (fun zz=>Nat) fullC (fun t' zz=>Nat.lor (Nat.land c (ih t')) (ih (Nat.succ t'))) t) l
noncomputable def nthC {α:Type} (d:α) (l:List α):Nat -> α:=
 @List.rec α (fun zz=>Nat -> α) (fun zz=>d) (fun a zz ih i=>@Nat.rec (fun zz=>α) a (fun i' zz=>ih i') i) l
noncomputable def tabC:List (List Nat):=[[1329227995784915872903807060280344575,443075998594971957634602353426781525,63296571227853136804943193346683075,4991374535907759422105507070015,16777215],
 [0,886151997189943915269204706853563050,253186284911412547219772773386732300,319447970298096603014752452480960,281474959933440],
 [0,0,1012745139645650188879091093546929200,20444670099078182592944156958781440,4722366201394668503040],
 [0,0,0,1308458886341003685948426045362012160,79228157791897854723898736640],
 [0,0,0,0,1329227916556753358639469466736394240]]
noncomputable def HJ (j:Nat):List Nat:=nthC [0,0,0,0,0] tabC j
noncomputable def addC (a:List Nat):List Nat -> List Nat:=
 @List.rec Nat (fun zz=>List Nat -> List Nat) (fun zz=>[]) (fun x zz ih b=>@List.rec Nat (fun zz=>List Nat) [] (fun y b' zz=>Nat.lor x y :: ih b') b) a
noncomputable def mapC {α β:Type} (f:α -> β) (l:List α):List β:=@List.rec α (fun zz=>List β) [] (fun a zz ih=>f a :: ih) l
noncomputable def selC (R A:List Nat):List Nat:=mapC (fun k=>nthC 0 A (Nat.pred k)) R
noncomputable def loopC (add:List (List Nat) -> Nat -> List (List Nat)) (f:Nat -> List (List Nat) -> Nat) (js:List Nat):Nat -> List (List Nat) -> Nat:=
 @List.rec Nat (fun zz=>Nat -> List (List Nat) -> Nat) (fun n A=>f n A) (fun j zz ih n A=>Nat.land (f n A) (ih (Nat.succ n) (add A j))) js
noncomputable def lenC {α:Type} (l:List α):Nat:=@List.rec α (fun zz=>Nat) 0 (fun zz zz n=>Nat.succ n) l
noncomputable def appC {α:Type} (l m:List α):List α:=@List.rec α (fun zz=>List α) m (fun a zz ih=>a :: ih) l
noncomputable def dropC {α:Type} (n:Nat):List α -> List α:=@Nat.rec (fun zz=>List α -> List α) (fun l=>l) (fun zz ih l=>@List.rec α (fun zz=>List α) [] (fun zz r zz=>ih r) l) n
noncomputable def takeC {α:Type} (n:Nat):List α -> List α:=@Nat.rec (fun zz=>List α -> List α) (fun zz=>[]) (fun zz ih l=>@List.rec α (fun zz=>List α) [] (fun a r zz=>a :: ih r) l) n
noncomputable def rotC (l:List Nat) (b:Nat):List Nat:=appC (dropC b l) (takeC b l)
noncomputable def sel3 (R0 R1 R2 A:List Nat):List (List Nat):=[selC R0 A,selC R1 A,selC R2 A]
noncomputable def add3 (R0 R1 R2:List Nat) (A:List (List Nat)) (j:Nat):List (List Nat):=
 [addC (nthC [] A 0) (selC R0 (HJ j)),addC (nthC [] A 1) (selC R1 (HJ j)),addC (nthC [] A 2) (selC R2 (HJ j))]
noncomputable def leafC (r0 r1 r2 n0 n1 n2:Nat) (A:List (List Nat)):Nat:=
 @Bool.rec (fun zz=>Nat) (Nat.lor (thr (nthC [] A 0) (Nat.succ n0)) (Nat.lor (thr (nthC [] A 1) (Nat.succ n1)) (thr (nthC [] A 2) (Nat.succ n2)))) fullC (Nat.beq (Nat.add n0 (Nat.add n1 n2)) 5)
noncomputable def gcol (R0 R1 R2:List Nat) (b:Nat × Nat × Nat):Nat:=
 loopC (add3 R0 R1 R2) (fun n0 A0=>loopC (add3 R0 R1 R2) (fun n1 A1=>loopC (add3 R0 R1 R2) (fun n2 A2=>leafC (lenC R0) (lenC R1) (lenC R2) n0 n1 n2 A2) (rotC R2 b.2.2) 0 A1) (rotC R1 b.2.1) 0 A0) (rotC R0 b.1) 0 (sel3 R0 R1 R2 (HJ 0))
noncomputable def filC (p:Nat -> Bool) (l:List Nat):List Nat:=@List.rec Nat (fun zz=>List Nat) [] (fun a zz ih=>@Bool.rec (fun zz=>List Nat) ih (a :: ih) (p a)) l
noncomputable def facC (k:Nat):Nat:=nthC 1 [1,1,1,2,6,24] k
noncomputable def hoC (i k:Nat):Nat:=Nat.mod (Nat.div i (facC k)) k
noncomputable def nmC (m k:Nat):Nat:=Nat.mod (Nat.div m (Nat.pow 3 (Nat.pred k))) 3
noncomputable def ringC (nm:Nat -> Nat) (x:Nat):List Nat:=filC (fun k=>Nat.beq (nm k) x) [1,2,3,4,5]
noncomputable def addAll (js:List Nat):List Nat -> List Nat:=@List.rec Nat (fun zz=>List Nat -> List Nat) (fun A=>A) (fun j zz ih A=>ih (addC A (HJ j))) js
noncomputable def reachC (u:Nat -> Nat -> Nat) (s:Nat):Nat -> Nat:=
 @Nat.rec (fun zz=>Nat -> Nat) (fun x=>u x 3) (fun zz ih x=>Nat.lor (u x 3) (Nat.lor (Nat.land (u x 0) (ih 0)) (Nat.lor (Nat.land (u x 1) (ih 1)) (Nat.land (u x 2) (ih 2))))) s
noncomputable def uC (R:List Nat) (p:Nat) (V:List Nat) (top:Nat):Nat:=@List.rec Nat (fun zz=>Nat) top (fun zz zz zz=>nthC 0 V (Nat.pred (nthC 0 R p))) R
noncomputable def uuC (Rs VV:List (List Nat)) (ps:List Nat) (x y:Nat):Nat:=uC (nthC [] Rs x) (nthC 0 ps x) (nthC [] VV y) (nthC 0 [0,0,0,fullC] y)
noncomputable def lcol (R0 R1 R2:List Nat) (VV:List (List Nat)) (p:Nat × Nat × Nat):Nat:=
 Nat.land (reachC (uuC [R0,R1,R2] VV [p.1,p.2.1,p.2.2]) 2 0) (Nat.land (reachC (uuC [R0,R1,R2] VV [p.1,p.2.1,p.2.2]) 2 1) (reachC (uuC [R0,R1,R2] VV [p.1,p.2.1,p.2.2]) 2 2))
noncomputable def roomC (n:Nat):Nat:=@Nat.rec (fun zz=>Nat) 1 (fun n zz=>Nat.succ n) n
noncomputable def rangeC (n:Nat):List Nat:=@Nat.rec (fun zz=>Nat -> List Nat) (fun zz=>[]) (fun zz ih k=>k :: ih (Nat.succ k)) n 0
noncomputable def flatC {α β:Type} (f:α -> List β) (l:List α):List β:=@List.rec α (fun zz=>List β) [] (fun a zz ih=>appC (f a) ih) l
noncomputable def boxC (p q s:Nat):List (Nat × Nat × Nat):=flatC (fun i=>flatC (fun j=>mapC (fun n=>(i,j,n)) (rangeC s)) (rangeC q)) (rangeC p)
noncomputable def allC (f:Nat -> Bool) (n:Nat):Bool:=@Nat.rec (fun zz=>Bool) true (fun k ih=>@Bool.rec (fun zz=>Bool) false ih (f k)) n
noncomputable def sameC (g l:List Nat):Bool:=allC (fun t=>Nat.beq (thr g t) (thr l t)) 7
noncomputable def checkR (R0 R1 R2:List Nat):Bool:=
 Nat.beq (gcol R0 R1 R2 (0,0,0)) fullC && Nat.ble (lenC (boxC (roomC (lenC R0)) (roomC (lenC R1)) (roomC (lenC R2)))) 6 && sameC (mapC (gcol R0 R1 R2) (boxC (roomC (lenC R0)) (roomC (lenC R1)) (roomC (lenC R2))))
  (mapC (lcol R0 R1 R2 [addAll R0 (HJ 5),addAll R1 (HJ 5),addAll R2 (HJ 5),HJ 0]) (boxC (roomC (lenC R0)) (roomC (lenC R1)) (roomC (lenC R2))))
noncomputable def checkM (m:Nat):Bool:=checkR (ringC (nmC m) 0) (ringC (nmC m) 1) (ringC (nmC m) 2)
theorem check_all:allC checkM 243 = true:=by decide +kernel
end
section
theorem mapC_eq {α β:Type} (f:α -> β):∀ l:List α,mapC f l = l.map f
 | []=>rfl
 | a :: l=>congrArg (f a :: ·) (mapC_eq f l)
theorem lenC_eq {α:Type}:∀ l:List α,lenC l = l.length
 | []=>rfl
 | a :: l=>congrArg Nat.succ (lenC_eq l)
theorem appC_eq {α:Type} (m:List α):∀ l:List α,appC l m = l ++ m
 | []=>rfl
 | a :: l=>congrArg (a :: ·) (appC_eq m l)
theorem dropC_eq {α:Type}:∀ (n:Nat) (l:List α),dropC n l = l.drop n
 | 0,l=>rfl
 | n + 1,[]=>rfl
 | n + 1,a :: l=>dropC_eq n l
theorem takeC_eq {α:Type}:∀ (n:Nat) (l:List α),takeC n l = l.take n
 | 0,l=>rfl
 | n + 1,[]=>rfl
 | n + 1,a :: l=>congrArg (a :: ·) (takeC_eq n l)
theorem rotC_eq (l:List Nat) (b:Nat):rotC l b = l.drop b ++ l.take b:=by rw [rotC,appC_eq,dropC_eq,takeC_eq]
theorem filC_eq (p:Nat -> Bool):∀ l:List Nat,filC p l = l.filter p
 | []=>rfl
 | a :: l=>by
  show @Bool.rec (fun zz=>List Nat) (filC p l) (a :: filC p l) (p a) = _
  rw [filC_eq p l,List.filter_cons]
  cases p a <;> rfl
theorem nthC_eq {α:Type} (d:α):∀ (l:List α) (i:Nat),nthC d l i = l.getD i d
 | [],i=>rfl
 | a :: l,0=>rfl
 | a :: l,i + 1=>nthC_eq d l i
theorem rangeC_eq (n:Nat):rangeC n = List.range n:=by
 have:∀ n k,@Nat.rec (fun zz=>Nat -> List Nat) (fun zz=>[]) (fun zz ih k=>k :: ih (Nat.succ k)) n k = List.range' k n:=by
  intro n
  induction n with
  | zero=>intro k; rfl
  | succ n ih=>intro k; exact congrArg (k :: ·) (ih (k + 1))
 rw [List.range_eq_range']; exact this n 0
theorem flatC_eq {α β:Type} (f:α -> List β):∀ l:List α,flatC f l = l.flatMap f
 | []=>rfl
 | a :: l=>by
  show appC (f a) (flatC f l) = _
  rw [appC_eq,flatC_eq f l,List.flatMap_cons]
theorem boxC_eq (p q s:Nat):boxC p q s = (List.range p).flatMap fun i=>(List.range q).flatMap fun j=>(List.range s).map fun n=>(i,j,n):=by
 unfold boxC
 simp only [flatC_eq,mapC_eq,rangeC_eq]
theorem allC_spec {f:Nat -> Bool}:∀ {n:Nat},allC f n = true -> ∀ k,k < n -> f k = true
 | n + 1,h,k,hk=>by
  have h':@Bool.rec (fun zz=>Bool) false (allC f n) (f n) = true:=h
  cases e:f n with
  | false=>rw [e] at h'; cases h'
  | true=>
   rw [e] at h'
   rcases Nat.lt_succ_iff_lt_or_eq.mp hk with q | q
   ·exact allC_spec h' k q
   ·rw [q]; exact e
abbrev bt (i c:Nat):Bool:=c.testBit i
theorem bt_or (i a b:Nat):bt i (Nat.lor a b) = (bt i a || bt i b):=Nat.testBit_or ..
theorem bt_and (i a b:Nat):bt i (Nat.land a b) = (bt i a && bt i b):=Nat.testBit_and ..
theorem full_bt {i:Nat} (h:i < 120):bt i fullC = true:=by
 have:∀ i,i < 120 -> bt i fullC = true:=by decide +kernel
 exact this i h
theorem thr_bt {i:Nat} (h:i < 120):∀ (l:List Nat) (t:Nat),bt i (thr l t) = decide (t <= l.countP (bt i))
 | [],0=>full_bt h
 | [],t + 1=>by show bt i 0 = _; simp [bt]
 | c :: l,0=>by show bt i fullC = _; rw [full_bt h]; simp
 | c :: l,t + 1=>by
  show bt i (Nat.lor (Nat.land c (thr l t)) (thr l (t + 1))) = _
  rw [bt_or,bt_and,thr_bt h l t,thr_bt h l (t + 1),List.countP_cons]
  cases bt i c
  ·simp
  ·simp only [Bool.true_and,if_true]
   by_cases q:t <= l.countP (bt i)
   ·simp [q]
   ·have:¬t + 1 <= l.countP (bt i):=by omega
    simp [q,this]
theorem HJ_bt:∀ i,i < 120 -> ∀ k,k < 5 -> ∀ j,j < 6 -> bt i (nthC 0 (HJ j) k) = Nat.beq (hoC i (k + 1)) j:=by decide +kernel
noncomputable def Bits (i:Nat) (C R:List Nat) (f:Nat -> Bool):Prop:=C.map (bt i) = R.map f
theorem Bits.count {i:Nat} {C R:List Nat} {f:Nat -> Bool} (h:Bits i C R f):C.countP (bt i) = R.countP f:=by
 have:=congrArg (List.countP id) h
 rwa [List.countP_map,List.countP_map] at this
theorem addC_bits {i:Nat} {f g:Nat -> Bool}:∀ {C D R:List Nat},Bits i C R f -> Bits i D R g -> Bits i (addC C D) R (fun k=>f k || g k)
 | [],D,R,h,_=>by
  obtain rfl:R = []:=by cases R with | nil=>rfl | cons r R=>cases h
  exact rfl
 | c :: C,D,[],h,_=>by cases h
 | c :: C,[],r :: R,_,h=>by cases h
 | c :: C,d :: D,r :: R,h,h'=>by
  obtain ⟨h1,h2⟩:=List.cons.inj h
  obtain ⟨h3,h4⟩:=List.cons.inj h'
  have ih:=addC_bits (C:=C) (D:=D) (R:=R) h2 h4
  show bt i (Nat.lor c d) :: (addC C D).map (bt i) = _ :: _
  rw [bt_or,h1,h3]
  exact congrArg _ ih
noncomputable def In5 (R:List Nat):Prop:=∀ k ∈ R,1 <= k /\ k <= 5
theorem selC_bits {i:Nat} (hi:i < 120) {R:List Nat} (hR:In5 R) {j:Nat} (hj:j < 6):Bits i (selC R (HJ j)) R (fun k=>Nat.beq (hoC i k) j):=by
 unfold Bits selC
 rw [mapC_eq,List.map_map]
 refine List.map_congr_left fun k hk=>?_
 have:=hR k hk
 have h:=HJ_bt i hi (k - 1) (by omega) j hj
 rwa [Nat.sub_add_cancel this.1] at h
noncomputable abbrev hit (i:Nat) (T:List Nat) (k:Nat):Bool:=T.any fun j=>Nat.beq (hoC i k) j
structure Sts (i:Nat) (R0 R1 R2 T:List Nat) (A:List (List Nat)):Prop where
 ex:∃ C0 C1 C2,A = [C0,C1,C2] /\ Bits i C0 R0 (hit i T) /\ Bits i C1 R1 (hit i T) /\ Bits i C2 R2 (hit i T)
theorem hit_snoc (i:Nat) (T:List Nat) (j:Nat):(fun k=>hit i T k || Nat.beq (hoC i k) j) = hit i (T ++ [j]):=by
 funext k
 simp only [hit,List.any_append,List.any_cons,List.any_nil,Bool.or_false]
section
variable {i:Nat} {R0 R1 R2:List Nat}
theorem Sts.add (hi:i < 120) (h0:In5 R0) (h1:In5 R1) (h2:In5 R2) {T:List Nat} {A:List (List Nat)} {j:Nat} (hj:j < 6) (s:Sts i R0 R1 R2 T A):Sts i R0 R1 R2 (T ++ [j]) (add3 R0 R1 R2 A j):=by
 obtain ⟨C0,C1,C2,rfl,b0,b1,b2⟩:=s.ex
 refine ⟨_,_,_,rfl,?_,?_,?_⟩
 ·rw [<- hit_snoc]; exact addC_bits b0 (selC_bits hi h0 hj)
 ·rw [<- hit_snoc]; exact addC_bits b1 (selC_bits hi h1 hj)
 ·rw [<- hit_snoc]; exact addC_bits b2 (selC_bits hi h2 hj)
theorem Sts.zero (hi:i < 120) (h0:In5 R0) (h1:In5 R1) (h2:In5 R2):Sts i R0 R1 R2 [0] (sel3 R0 R1 R2 (HJ 0)):=by
 have e:(fun k=>Nat.beq (hoC i k) 0) = hit i [0]:=by funext k; simp [hit]
 exact ⟨_,_,_,rfl,e ▸ selC_bits hi h0 (by decide),e ▸ selC_bits hi h1 (by decide),e ▸ selC_bits hi h2 (by decide)⟩
theorem loop_bt (hi:i < 120) (h0:In5 R0) (h1:In5 R1) (h2:In5 R2) {f:Nat -> List (List Nat) -> Nat} {Q:Nat -> List Nat -> Prop} (hf:∀ n A T,Sts i R0 R1 R2 T A -> (bt i (f n A) = true <-> Q n T)):∀ (js:List Nat) (n:Nat) (A:List (List Nat)) (T:List Nat),In5 js -> Sts i R0 R1 R2 T A ->
  (bt i (loopC (add3 R0 R1 R2) f js n A) = true <-> ∀ p,p <= js.length -> Q (n + p) (T ++ js.take p))
 | [],n,A,T,_,s=>by
  show bt i (f n A) = true <-> _
  rw [hf n A T s]
  constructor
  ·intro h p hp
   obtain rfl:p = 0:=by simpa using hp
   simpa using h
  ·intro h; simpa using h 0 (by simp)
 | j :: js,n,A,T,hj,s=>by
  have hj1:=hj j (List.mem_cons_self ..)
  have ih:=loop_bt hi h0 h1 h2 hf js (n + 1) _ _ (fun k hk=>hj k (List.mem_cons_of_mem _ hk)) (s.add hi h0 h1 h2 (j:=j) (by omega))
  show bt i (Nat.land (f n A) (loopC (add3 R0 R1 R2) f js (n + 1) (add3 R0 R1 R2 A j))) = true <-> _
  rw [bt_and,Bool.and_eq_true,hf n A T s,ih]
  constructor
  ·rintro ⟨a,b⟩ p hp
   cases p with
   | zero=>simpa using a
   | succ p=>
    have:=b p (by simpa using hp)
    rw [List.append_assoc] at this
    rw [show n + (p + 1) = n + 1 + p by omega]
    exact this
  ·intro h
   refine ⟨by simpa using h 0 (by simp),fun p hp=>?_⟩
   have:=h (p + 1) (by simpa using hp)
   rw [show n + (p + 1) = n + 1 + p by omega] at this
   rw [List.append_assoc]
   exact this
noncomputable def Good (i:Nat) (R0 R1 R2 L0 L1 L2:List Nat):Prop:=∀ p0,p0 <= L0.length -> ∀ p1,p1 <= L1.length -> ∀ p2,p2 <= L2.length -> p0 + (p1 + p2) = 5 \/
 (p0 + 1 <= R0.countP (hit i ([0] ++ L0.take p0 ++ L1.take p1 ++ L2.take p2)) \/ p1 + 1 <= R1.countP (hit i ([0] ++ L0.take p0 ++ L1.take p1 ++ L2.take p2)) \/ p2 + 1 <= R2.countP (hit i ([0] ++ L0.take p0 ++ L1.take p1 ++ L2.take p2)))
theorem leaf_bt (hi:i < 120) {r0 r1 r2 n0 n1 n2:Nat} {A:List (List Nat)} {T:List Nat} (s:Sts i R0 R1 R2 T A):bt i (leafC r0 r1 r2 n0 n1 n2 A) = true <-> n0 + (n1 + n2) = 5 \/ (n0 + 1 <= R0.countP (hit i T) \/ n1 + 1 <= R1.countP (hit i T) \/ n2 + 1 <= R2.countP (hit i T)):=by
 obtain ⟨C0,C1,C2,rfl,b0,b1,b2⟩:=s.ex
 unfold leafC
 by_cases q:n0 + (n1 + n2) = 5
 ·have:Nat.beq (Nat.add n0 (Nat.add n1 n2)) 5 = true:=Nat.beq_eq.mpr q
  rw [this]
  exact ⟨fun zz=>.inl q,fun zz=>full_bt hi⟩
 ·have:Nat.beq (Nat.add n0 (Nat.add n1 n2)) 5 = false:=by
   cases e:Nat.beq (Nat.add n0 (Nat.add n1 n2)) 5 with
   | false=>rfl
   | true=>exact absurd (Nat.eq_of_beq_eq_true e) q
  rw [this]
  show bt i (Nat.lor (thr C0 (n0 + 1)) (Nat.lor (thr C1 (n1 + 1)) (thr C2 (n2 + 1)))) = true <-> _
  rw [bt_or,bt_or,thr_bt hi,thr_bt hi,thr_bt hi,b0.count,b1.count,b2.count]
  simp only [Bool.or_eq_true,decide_eq_true_eq,q,false_or]
theorem gcol_bt (hi:i < 120) (h0:In5 R0) (h1:In5 R1) (h2:In5 R2) (b:Nat × Nat × Nat):bt i (gcol R0 R1 R2 b) = true <-> Good i R0 R1 R2 (rotC R0 b.1) (rotC R1 b.2.1) (rotC R2 b.2.2):=by
 have hr:∀ {R:List Nat},In5 R -> ∀ b,In5 (rotC R b):=fun {R} h b k hk=>by
  rw [rotC_eq] at hk
  rcases List.mem_append.mp hk with hk | hk
  ·exact h k (List.mem_of_mem_drop hk)
  ·exact h k (List.mem_of_mem_take hk)
 unfold gcol
 rw [loop_bt hi h0 h1 h2 (Q:=fun p0 T=>∀ p1,p1 <= (rotC R1 b.2.1).length -> ∀ p2,p2 <= (rotC R2 b.2.2).length -> p0 + (p1 + p2) = 5 \/ (p0 + 1 <= R0.countP (hit i (T ++ (rotC R1 b.2.1).take p1 ++ (rotC R2 b.2.2).take p2)) \/ p1 + 1 <= R1.countP (hit i (T ++ (rotC R1 b.2.1).take p1 ++ (rotC R2 b.2.2).take p2)) \/ p2 + 1 <= R2.countP (hit i (T ++ (rotC R1 b.2.1).take p1 ++ (rotC R2 b.2.2).take p2))))
  (fun n0 A0 T0 s0=>?_) _ _ _ _ (hr h0 _) (Sts.zero hi h0 h1 h2)]
 ·simp only [Nat.zero_add]; rfl
 rw [loop_bt hi h0 h1 h2 (Q:=fun p1 T=>∀ p2,p2 <= (rotC R2 b.2.2).length -> n0 + (p1 + p2) = 5 \/ (n0 + 1 <= R0.countP (hit i (T ++ (rotC R2 b.2.2).take p2)) \/ p1 + 1 <= R1.countP (hit i (T ++ (rotC R2 b.2.2).take p2)) \/ p2 + 1 <= R2.countP (hit i (T ++ (rotC R2 b.2.2).take p2))))
  (fun n1 A1 T1 s1=>?_) _ _ _ _ (hr h1 _) s0]
 ·simp only [Nat.zero_add]
 rw [loop_bt hi h0 h1 h2 (Q:=fun p2 T=>n0 + (n1 + p2) = 5 \/ (n0 + 1 <= R0.countP (hit i T) \/ n1 + 1 <= R1.countP (hit i T) \/ p2 + 1 <= R2.countP (hit i T)))
  (fun n2 A2 T2 s2=>leaf_bt hi s2) _ _ _ _ (hr h2 _) s1]
 simp only [Nat.zero_add]
end
end
section
theorem HJ_bt5:∀ i,i < 120 -> ∀ j,j < 6 -> (HJ j).map (bt i) = [1,2,3,4,5].map fun k=>Nat.beq (hoC i k) j:=by decide +kernel
theorem HJ5_bt:∀ i,i < 120 -> (HJ 5).map (bt i) = [1,2,3,4,5].map fun k=>hit i [] k:=by decide +kernel
theorem addAll_bits {i:Nat} (hi:i < 120):∀ (js:List Nat) (A T:List Nat),In5 js -> Bits i A [1,2,3,4,5] (hit i T) -> Bits i (addAll js A) [1,2,3,4,5] (hit i (T ++ js))
 | [],A,T,_,b=>by rw [List.append_nil]; exact b
 | j :: js,A,T,h,b=>by
  have hj:=h j (List.mem_cons_self ..)
  have:=addAll_bits hi js (addC A (HJ j)) (T ++ [j]) (fun k hk=>h k (List.mem_cons_of_mem _ hk)) (hit_snoc i T j ▸ addC_bits b (HJ_bt5 i hi j (by omega)))
  rwa [List.append_assoc] at this
theorem bits_nth {i:Nat} {V:List Nat} {f:Nat -> Bool} (b:Bits i V [1,2,3,4,5] f):∀ k,1 <= k -> k <= 5 -> bt i (nthC 0 V (Nat.pred k)) = f k:=by
 have hl:V.length = 5:=by have:=congrArg List.length b; simpa using this
 unfold Bits at b
 match V,hl,b with
 | [a,b,c,d,e],_,h=>
  simp only [List.map_cons,List.map_nil,List.cons.injEq,and_true] at h
  obtain ⟨h1,h2,h3,h4,h5⟩:=h
  rintro (_ | _ | _ | _ | _ | _ | k) a1 a2
  ·omega
  ·exact h1
  ·exact h2
  ·exact h3
  ·exact h4
  ·exact h5
  ·omega
noncomputable def capC (nm:Nat -> Nat) (i:Nat) (R:List Nat) (p:Nat):Nat:=if R = [] then 3 else if hoC i (R.getD p 0) = 0 then 3 else nm (hoC i (R.getD p 0))
noncomputable def v4 (a b c x:Nat):Nat:=match x with
 | 0=>a
 | 1=>b
 | 2=>c
 | _=>3
noncomputable def lead3 (a b c:Nat):Bool:=v4 a b c (v4 a b c a) == 3 && (v4 a b c (v4 a b c b) == 3 && v4 a b c (v4 a b c c) == 3)
theorem reach_bt {i:Nat} {u:Nat -> Nat -> Nat} {a b c:Nat} (ha:a <= 3) (hb:b <= 3) (hc:c <= 3) (hu:∀ x,x < 3 -> ∀ y,y <= 3 -> bt i (u x y) = (v4 a b c x == y)):∀ x,x < 3 -> bt i (reachC u 2 x) = (v4 a b c (v4 a b c (v4 a b c x)) == 3):=by
 have hg:∀ x,x < 3 -> v4 a b c x <= 3:=by
  rintro (_ | _ | _ | x) h
  ·exact ha
  ·exact hb
  ·exact hc
  ·omega
 have step:∀ (s:Nat) (f:Nat -> Nat),f 3 = 3 -> (∀ x,x < 3 -> bt i (reachC u s x) = (f x == 3)) -> ∀ x,x < 3 -> bt i (reachC u (s + 1) x) = (f (v4 a b c x) == 3):=by
  intro s f h3 ih x hx
  show bt i (Nat.lor (u x 3) (Nat.lor (Nat.land (u x 0) (reachC u s 0)) (Nat.lor (Nat.land (u x 1) (reachC u s 1)) (Nat.land (u x 2) (reachC u s 2))))) = _
  rw [bt_or,bt_or,bt_or,bt_and,bt_and,bt_and,hu x hx 3 (by decide),hu x hx 0 (by decide),hu x hx 1 (by decide),hu x hx 2 (by decide),ih 0 (by decide),ih 1 (by decide),ih 2 (by decide)]
  have:=hg x hx
  generalize v4 a b c x = z at *
  match z,this with
  | 0,_=>simp
  | 1,_=>simp
  | 2,_=>simp
  | 3,_=>simp [h3]
 have r0:∀ x,x < 3 -> bt i (reachC u 0 x) = (v4 a b c x == 3):=fun x hx=>hu x hx 3 (by decide)
 exact step 1 (fun x=>v4 a b c (v4 a b c x)) rfl (step 0 (v4 a b c) rfl r0)
theorem any_beq (h:Nat) (l:List Nat):(l.any fun j=>Nat.beq h j) = decide (h ∈ l):=by
 rw [Bool.eq_iff_iff,List.any_eq_true,decide_eq_true_eq]
 exact ⟨fun ⟨j,hj,e⟩=>Nat.eq_of_beq_eq_true e ▸ hj,fun hm=>⟨h,hm,Nat.beq_refl h⟩⟩
noncomputable def ring5 (nm:Nat -> Nat) (y:Nat):List Nat:=[1,2,3,4,5].filter fun k=>nm k = y
theorem five {p:Nat -> Prop} (h1:p 1) (h2:p 2) (h3:p 3) (h4:p 4) (h5:p 5):∀ k,1 <= k -> k <= 5 -> p k
 | 1,_,_=>h1
 | 2,_,_=>h2
 | 3,_,_=>h3
 | 4,_,_=>h4
 | 5,_,_=>h5
 | n + 6,_,h=>absurd h (Nat.not_le.mpr (Nat.le_add_left 6 n))
theorem mem_five {k:Nat}:k ∈ [1,2,3,4,5] <-> 1 <= k /\ k <= 5:=
 ⟨fun h=>(List.forall_mem_cons.mpr ⟨by decide,List.forall_mem_cons.mpr ⟨by decide,List.forall_mem_cons.mpr ⟨by decide,List.forall_mem_cons.mpr ⟨by decide,List.forall_mem_cons.mpr ⟨by decide,fun zz h=>nomatch h⟩⟩⟩⟩⟩:∀ k ∈ [1,2,3,4,5],1 <= k /\ k <= 5) k h,fun h=>five (p:=(· ∈ [1,2,3,4,5])) (by decide) (by decide) (by decide) (by decide) (by decide) k h.1 h.2⟩
theorem mem_ring5 {nm:Nat -> Nat} {y k:Nat}:k ∈ ring5 nm y <-> (1 <= k /\ k <= 5) /\ nm k = y:=by
 unfold ring5
 rw [List.mem_filter,decide_eq_true_eq,mem_five]
theorem ring5_in (nm:Nat -> Nat) (y:Nat):In5 (ring5 nm y):=fun k hk=>(mem_ring5.mp hk).1
theorem hit_ring {nm:Nat -> Nat} {h y:Nat} (hn:∀ k,1 <= k -> k <= 5 -> nm k < 3) (h6:h < 6) (hy:y < 3):decide (h ∈ ring5 nm y) = ((if h = 0 then 3 else nm h) == y):=by
 rw [Bool.eq_iff_iff,decide_eq_true_eq,mem_ring5,beq_iff_eq]
 split
 ·omega
 ·have:=hn h (by omega) (by omega)
  omega
section
variable {i:Nat} {nm:Nat -> Nat} (hi:i < 120) (hn:∀ k,1 <= k -> k <= 5 -> nm k < 3)
theorem ho_lt {i k:Nat} (h1:1 <= k):hoC i k < k:=Nat.mod_lt _ h1
noncomputable def VVC (nm:Nat -> Nat):List (List Nat):=[addAll (ring5 nm 0) (HJ 5),addAll (ring5 nm 1) (HJ 5),addAll (ring5 nm 2) (HJ 5),HJ 0]
include hi hn in
set_option tactic.hygienic true in
theorem VV_bt {k y:Nat} (h1:1 <= k) (h5:k <= 5) (hy:y <= 3):bt i (nthC 0 (nthC [] (VVC nm) y) (Nat.pred k)) = ((if hoC i k = 0 then 3 else nm (hoC i k)) == y):=by
 have hk:=ho_lt (i:=i) h1
 have go:∀ y,y < 3 -> bt i (nthC 0 (addAll (ring5 nm y) (HJ 5)) (Nat.pred k)) = ((if hoC i k = 0 then 3 else nm (hoC i k)) == y):=fun y hy=>by
  rw [bits_nth (addAll_bits hi (ring5 nm y) (HJ 5) [] (ring5_in nm y) (HJ5_bt i hi)) k h1 h5]
  rw [List.nil_append,<- hit_ring hn (by omega) hy]
  exact any_beq _ _
 match y,hy with
 | 0,_=>exact go 0 (by decide)
 | 1,_=>exact go 1 (by decide)
 | 2,_=>exact go 2 (by decide)
 | 3,_=>
  show bt i (nthC 0 (HJ 0) (Nat.pred k)) = _
  rw [bits_nth (HJ_bt5 i hi 0 (by decide)) k h1 h5,Bool.eq_iff_iff,beq_iff_eq]
  constructor
  ·intro h; rw [if_pos (Nat.eq_of_beq_eq_true h)]
  ·intro h
   split at h
   ·rename_i e; exact Nat.beq_eq.mpr e
   ·have:=hn (hoC i k) (by omega) (by omega); omega
include hi hn in
theorem u_bt {R:List Nat} (hR:In5 R) {p y:Nat} (hp:R = [] \/ p < R.length) (hy:y <= 3):bt i (uC R p (nthC [] (VVC nm) y) (nthC 0 [0,0,0,fullC] y)) = (capC nm i R p == y):=by
 unfold capC
 cases R with
 | nil=>
  rw [if_pos rfl]
  show bt i (nthC 0 [0,0,0,fullC] y) = _
  match y,hy with
  | 0,_=>exact Nat.zero_testBit i
  | 1,_=>exact Nat.zero_testBit i
  | 2,_=>exact Nat.zero_testBit i
  | 3,_=>exact full_bt hi
 | cons r R=>
  have hp':p < (r :: R).length:=hp.resolve_left (by simp)
  have hm:(r :: R).getD p 0 ∈ r :: R:=by rw [List.getD_eq_getElem?_getD,List.getElem?_eq_getElem hp']; exact List.getElem_mem hp'
  have:=hR _ hm
  rw [if_neg (by simp)]
  show bt i (nthC 0 (nthC [] (VVC nm) y) (Nat.pred (nthC 0 (r :: R) p))) = _
  rw [nthC_eq 0 (r :: R) p]
  exact VV_bt hi hn this.1 this.2 hy
set_option tactic.hygienic true in
theorem cap_le {R:List Nat} (hn:∀ k,1 <= k -> k <= 5 -> nm k < 3) (hR:In5 R) {p:Nat} (hp:R = [] \/ p < R.length):capC nm i R p <= 3:=by
 unfold capC
 split
 ·exact Nat.le_refl 3
 ·rename_i hne
  have hp':=hp.resolve_left hne
  have hm:R.getD p 0 ∈ R:=by rw [List.getD_eq_getElem?_getD,List.getElem?_eq_getElem hp']; exact List.getElem_mem hp'
  have h5:=hR _ hm
  have:=ho_lt (i:=i) h5.1
  split
  ·exact Nat.le_refl 3
  ·exact Nat.le_of_lt (hn _ (by omega) (by omega))
include hi hn in
theorem lcol_bt {p:Nat × Nat × Nat} (h0:ring5 nm 0 = [] \/ p.1 < (ring5 nm 0).length) (h1:ring5 nm 1 = [] \/ p.2.1 < (ring5 nm 1).length) (h2:ring5 nm 2 = [] \/ p.2.2 < (ring5 nm 2).length) :
  bt i (lcol (ring5 nm 0) (ring5 nm 1) (ring5 nm 2) (VVC nm) p) = lead3 (capC nm i (ring5 nm 0) p.1) (capC nm i (ring5 nm 1) p.2.1) (capC nm i (ring5 nm 2) p.2.2):=by
 unfold lcol
 have R:=fun x=>reach_bt (i:=i) (u:=uuC [ring5 nm 0,ring5 nm 1,ring5 nm 2] (VVC nm) [p.1,p.2.1,p.2.2]) (cap_le (i:=i) hn (ring5_in nm 0) h0) (cap_le (i:=i) hn (ring5_in nm 1) h1) (cap_le (i:=i) hn (ring5_in nm 2) h2) (fun x hx y hy=>by
  match x,hx with
  | 0,_=>exact u_bt hi hn (ring5_in nm 0) h0 hy
  | 1,_=>exact u_bt hi hn (ring5_in nm 1) h1 hy
  | 2,_=>exact u_bt hi hn (ring5_in nm 2) h2 hy) x
 rw [bt_and,bt_and,R 0 (by decide),R 1 (by decide),R 2 (by decide)]
 rfl
end
theorem dig {b d q:Nat} (h:d < b):(d + b * q) % b = d /\ (d + b * q) / b = q:=
 ⟨by rw [Nat.add_mul_mod_self_left,Nat.mod_eq_of_lt h],by rw [Nat.add_mul_div_left _ _ (Nat.zero_lt_of_lt h),Nat.div_eq_of_lt h,Nat.zero_add]⟩
theorem dig2 {b d q c:Nat} (h:d < b):(d + b * q) / (b * c) = q / c:=by rw [<- Nat.div_div_eq_div_mul,(dig h).2]
theorem digb {b d q c:Nat} (h:d < b) (k:q < c):d + b * q < b * c:=Nat.lt_of_lt_of_le (Nat.add_lt_add_right h _) (Nat.le_trans (Nat.le_of_eq (by rw [Nat.mul_succ,Nat.add_comm])) (Nat.mul_le_mul_left b (Nat.succ_le_of_lt k)))
theorem nmC_at {nm:Nat -> Nat} (hn:∀ k,1 <= k -> k <= 5 -> nm k < 3):∃ m,m < 243 /\ ∀ k,1 <= k -> k <= 5 -> nmC m k = nm k:=by
 have h1:=hn 1 (by decide) (by decide)
 have h2:=hn 2 (by decide) (by decide)
 have h3:=hn 3 (by decide) (by decide)
 have h4:=hn 4 (by decide) (by decide)
 have h5:=hn 5 (by decide) (by decide)
 generalize hd:nm 5 = d5 at h5
 generalize hc:nm 4 = d4 at h4
 generalize hb:nm 3 = d3 at h3
 generalize ha:nm 2 = d2 at h2
 generalize hz:nm 1 = d1 at h1
 refine ⟨d1 + 3 * (d2 + 3 * (d3 + 3 * (d4 + 3 * d5))),digb (c:=81) h1 (digb (c:=27) h2 (digb (c:=9) h3 (digb (c:=3) h4 h5))),five ?_ ?_ ?_ ?_ ?_⟩
 ·rw [hz]; show (_ / 1) % 3 = _; rw [Nat.div_one,(dig h1).1]
 ·rw [ha]; show (_ / 3) % 3 = _; rw [(dig h1).2,(dig h2).1]
 ·rw [hb]; show (_ / (3 * 3)) % 3 = _; rw [dig2 h1,(dig h2).2,(dig h3).1]
 ·rw [hc]; show (_ / (3 * (3 * 3))) % 3 = _; rw [dig2 h1,dig2 h2,(dig h3).2,(dig h4).1]
 ·rw [hd]; show (_ / (3 * (3 * (3 * 3)))) % 3 = _; rw [dig2 h1,dig2 h2,dig2 h3,(dig h4).2,Nat.mod_eq_of_lt h5]
theorem hoC_at {ho:Nat -> Nat} (hh:∀ k,1 <= k -> k <= 5 -> ho k < k):∃ i,i < 120 /\ ∀ k,1 <= k -> k <= 5 -> hoC i k = ho k:=by
 have h1:=hh 1 (by decide) (by decide)
 have h2:=hh 2 (by decide) (by decide)
 have h3:=hh 3 (by decide) (by decide)
 have h4:=hh 4 (by decide) (by decide)
 have h5:=hh 5 (by decide) (by decide)
 generalize hd:ho 5 = d5 at h5
 generalize hc:ho 4 = d4 at h4
 generalize hb:ho 3 = d3 at h3
 generalize ha:ho 2 = d2 at h2
 refine ⟨d2 + 2 * (d3 + 3 * (d4 + 4 * d5)),digb (c:=60) h2 (digb (c:=20) h3 (digb (c:=5) h4 h5)),five ?_ ?_ ?_ ?_ ?_⟩
 ·show (_ / 1) % 1 = _; rw [Nat.mod_one,Nat.lt_one_iff.mp h1]
 ·rw [ha]; show (_ / 1) % 2 = _; rw [Nat.div_one,(dig h2).1]
 ·rw [hb]; show (_ / 2) % 3 = _; rw [(dig h2).2,(dig h3).1]
 ·rw [hc]; show (_ / (2 * 3)) % 4 = _; rw [dig2 h2,(dig h3).2,(dig h4).1]
 ·rw [hd]; show (_ / (2 * (3 * 4))) % 5 = _; rw [dig2 h2,dig2 h3,(dig h4).2,Nat.mod_eq_of_lt h5]
noncomputable def room1 (n:Nat):Nat:=if n > 1 then n else 1
theorem roomC_eq (n:Nat):roomC n = room1 n:=by
 match n with
 | 0=>rfl
 | 1=>rfl
 | n + 2=>show n + 2 = _; unfold room1; rw [if_pos (by omega)]
noncomputable def boxes (nm:Nat -> Nat):List (Nat × Nat × Nat):=(List.range (room1 (ring5 nm 0).length)).flatMap fun i=>(List.range (room1 (ring5 nm 1).length)).flatMap fun j=>(List.range (room1 (ring5 nm 2).length)).map fun n=>(i,j,n)
theorem raney {i:Nat} {nm:Nat -> Nat} (hi:i < 120) (hn:∀ k,1 <= k -> k <= 5 -> nm k < 3):bt i (gcol (ring5 nm 0) (ring5 nm 1) (ring5 nm 2) (0,0,0)) = true /\ (boxes nm).countP (fun b=>bt i (gcol (ring5 nm 0) (ring5 nm 1) (ring5 nm 2) b)) = (boxes nm).countP (fun p=>lead3 (capC nm i (ring5 nm 0) p.1) (capC nm i (ring5 nm 1) p.2.1) (capC nm i (ring5 nm 2) p.2.2)):=by
 obtain ⟨m,hm,hk⟩:=nmC_at hn
 have hring:∀ x,ringC (nmC m) x = ring5 nm x:=fun x=>by
  unfold ringC ring5
  rw [filC_eq]
  refine List.filter_congr fun k h=>?_
  have h5:=mem_five.mp h
  rw [hk k h5.1 h5.2,Bool.eq_iff_iff,decide_eq_true_eq]
  rw [Nat.beq_eq]
 have hc:=allC_spec check_all m hm
 unfold checkM at hc
 rw [hring,hring,hring] at hc
 unfold checkR at hc
 simp only [lenC_eq,roomC_eq,boxC_eq,mapC_eq] at hc
 rw [Bool.and_eq_true,Bool.and_eq_true] at hc
 obtain ⟨⟨hz,hl⟩,hs⟩:=hc
 have hl6:(boxes nm).length <= 6:=Nat.le_of_ble_eq_true hl
 have hV:([addAll (ring5 nm 0) (HJ 5),addAll (ring5 nm 1) (HJ 5),addAll (ring5 nm 2) (HJ 5),HJ 0]:List (List Nat)) = VVC nm:=rfl
 rw [hV] at hs
 have ht:∀ t,t < 7 -> decide (t <= ((boxes nm).map (gcol (ring5 nm 0) (ring5 nm 1) (ring5 nm 2))).countP (bt i)) = decide (t <= ((boxes nm).map (lcol (ring5 nm 0) (ring5 nm 1) (ring5 nm 2) (VVC nm))).countP (bt i)):=fun t h7=>by
  have:=Nat.eq_of_beq_eq_true (allC_spec hs t h7)
  rw [<- thr_bt hi,<- thr_bt hi]
  exact congrArg (bt i) this
 rw [List.countP_map,List.countP_map] at ht
 have e1:(boxes nm).countP (bt i ∘ lcol (ring5 nm 0) (ring5 nm 1) (ring5 nm 2) (VVC nm)) = (boxes nm).countP (fun p=>lead3 (capC nm i (ring5 nm 0) p.1) (capC nm i (ring5 nm 1) p.2.1) (capC nm i (ring5 nm 2) p.2.2)):=by
  refine List.countP_congr fun p hp=>?_
  obtain ⟨a,ha,hp⟩:=List.mem_flatMap.mp hp
  obtain ⟨b,hb,hp⟩:=List.mem_flatMap.mp hp
  obtain ⟨n,hn',rfl⟩:=List.mem_map.mp hp
  have q:∀ {R:List Nat} {a:Nat},a ∈ List.range (room1 R.length) -> R = [] \/ a < R.length:=fun {R a} h=>by
   have h:=List.mem_range.mp h
   unfold room1 at h
   cases R with
   | nil=>exact .inl rfl
   | cons r R=>right; simp only [List.length_cons] at h ⊢; split at h <;> omega
  show (bt i (lcol _ _ _ _ _) = true) <-> _
  rw [lcol_bt hi hn (q ha) (q hb) (q hn')]
 rw [e1] at ht
 have a1:=List.countP_le_length (p:=bt i ∘ gcol (ring5 nm 0) (ring5 nm 1) (ring5 nm 2)) (l:=boxes nm)
 have a2:=List.countP_le_length (p:=fun p=>lead3 (capC nm i (ring5 nm 0) p.1) (capC nm i (ring5 nm 1) p.2.1) (capC nm i (ring5 nm 2) p.2.2)) (l:=boxes nm)
 refine ⟨by rw [Nat.eq_of_beq_eq_true hz]; exact full_bt hi,Nat.le_antisymm ?_ ?_⟩
 ·have:=ht _ (Nat.lt_succ_of_le (Nat.le_trans a1 hl6))
  rw [decide_eq_true (Nat.le_refl _)] at this
  exact of_decide_eq_true this.symm
 ·have:=ht _ (Nat.lt_succ_of_le (Nat.le_trans a2 hl6))
  rw [decide_eq_true (Nat.le_refl ((boxes nm).countP fun p=>lead3 (capC nm i (ring5 nm 0) p.1) (capC nm i (ring5 nm 1) p.2.1) (capC nm i (ring5 nm 2) p.2.2)))] at this
  exact of_decide_eq_true this
end
section
theorem lay1_perm (w:Nat) (ws:List (Nat × Nat)) (x:Nat × Nat):(lay1 w ws x).Perm (ws ++ [x]):=by
 unfold lay1
 rw [List.perm_iff_count]
 intro a
 have:=congrArg (List.count a) (List.take_append_drop (layN w ws x) ws)
 simp only [List.count_append] at this ⊢
 omega
theorem layAll_perm (w c:Nat):∀ (row:List Nat) (ws:List (Nat × Nat)),(layAll w ws row c).Perm (ws ++ row.map fun l=>(l,c))
 | [],ws=>by rw [List.map_nil,List.append_nil]; exact .refl _
 | l :: row,ws=>by
  have h:=layAll_perm w c row (lay1 w ws (l,c))
  show (layAll w (lay1 w ws (l,c)) row c).Perm _
  refine h.trans ?_
  rw [List.perm_iff_count]
  intro a
  have:=(lay1_perm w ws (l,c)).count_eq a
  simp only [List.count_append,List.map_cons,List.count_cons,List.count_nil] at this ⊢
  omega
theorem rows_count (c:Nat -> Nat) (x:Nat):∀ (L:List Nat),L.Nodup -> (L.flatMap (rowL c 5)).count x = (ringL c x).countP fun k=>decide (hoL c k ∈ L)
 | [],_=>by
  rw [List.flatMap_nil,List.count_nil]
  exact (List.countP_eq_zero.mpr fun k zz=>by simp).symm
 | j :: L,h=>by
  rw [List.nodup_cons] at h
  rw [List.flatMap_cons,List.count_append,rows_count c x L h.2]
  have e:(rowL c 5 j).count x = (ringL c x).countP fun k=>decide (hoL c k = j):=by
   unfold rowL ringL
   rw [List.count,List.countP_map,List.countP_filter,List.countP_filter]
   refine List.countP_congr fun k zz=>?_
   simp [and_comm]
  rw [e]
  generalize ringL c x = l
  induction l with
  | nil=>rfl
  | cons k l ih=>
   simp only [List.countP_cons]
   rw [<- ih]
   by_cases q:hoL c k = j
   ·have:hoL c k ∉ L:=fun m=>h.1 (q ▸ m)
    simp only [q,List.mem_cons,true_or,decide_true,if_true]
    rw [q] at this
    simp only [this,decide_false,Bool.false_eq_true,if_false]; omega
   ·simp only [q,List.mem_cons,false_or,decide_false,Bool.false_eq_true,if_false]; omega
set_option tactic.hygienic true in
theorem part3:∀ (tk:List T3),(∀ t ∈ tk,t.1 < 3) -> tk.Perm (mineOf tk 0 ++ mineOf tk 1 ++ mineOf tk 2):=fun tk h=>by
 rw [List.perm_iff_count]
 intro a
 have hc:∀ x,(mineOf tk x).count a = if a.1 = x then tk.count a else 0:=fun x=>by
  unfold mineOf
  split
  ·rename_i e; exact List.count_filter (by simpa using e)
  ·rename_i e; exact List.count_eq_zero_of_not_mem fun m=>e (by simpa using (List.mem_filter.mp m).2)
 simp only [List.count_append,hc]
 by_cases ha:a ∈ tk
 ·have:=h a ha
  have e:a.1 = 0 \/ a.1 = 1 \/ a.1 = 2:=by omega
  rcases e with e | e | e <;> simp [e]
 ·rw [List.count_eq_zero_of_not_mem ha]; simp
theorem ring_eq (c:Nat -> Nat) (x:Nat):ringL c x = ring5 (nmL c) x:=rfl
theorem nm_3 (c:Nat -> Nat):∀ k,1 <= k -> k <= 5 -> nmL c k < 3:=fun k h zz=>by
 unfold nmL; rw [if_neg (by omega)]; exact Nat.mod_lt _ (by decide)
theorem mem_ring {c:Nat -> Nat} {x k:Nat}:k ∈ ringL c x <-> (1 <= k /\ k <= 5) /\ nmL c k = x:=ring_eq c x ▸ mem_ring5
set_option tactic.hygienic true in
theorem rings_perm (c:Nat -> Nat):(ringL c 0 ++ ringL c 1 ++ ringL c 2).Perm [1,2,3,4,5]:=by
 rw [List.perm_iff_count]
 intro a
 have hc:∀ x,(ringL c x).count a = if nmL c a = x then ([1,2,3,4,5]:List Nat).count a else 0:=fun x=>by
  rw [ring_eq]; unfold ring5
  split
  ·rename_i e; exact List.count_filter (by simpa using e)
  ·rename_i e; exact List.count_eq_zero_of_not_mem fun m=>e (by simpa using (List.mem_filter.mp m).2)
 simp only [List.count_append,hc]
 by_cases ha:a ∈ ([1,2,3,4,5]:List Nat)
 ·have h5:1 <= a /\ a <= 5:=by simp only [List.mem_cons,List.not_mem_nil,or_false] at ha; omega
  have:=nm_3 c a h5.1 h5.2
  have e:nmL c a = 0 \/ nmL c a = 1 \/ nmL c a = 2:=by omega
  rcases e with e | e | e <;> simp [e]
 ·rw [List.count_eq_zero_of_not_mem ha]; simp
noncomputable def rotL (c b:Nat -> Nat) (x:Nat):List Nat:=(ringL c x).drop (b x) ++ (ringL c x).take (b x)
theorem rot_perm (c b:Nat -> Nat) (x:Nat):(rotL c b x).Perm (ringL c x):=by
 have:=List.perm_append_comm (l₁:=(ringL c x).drop (b x)) (l₂:=(ringL c x).take (b x))
 rwa [List.take_append_drop] at this
theorem rot_len (c b:Nat -> Nat) (x:Nat):(rotL c b x).length = (ringL c x).length:=(rot_perm c b x).length_eq
theorem rots_perm (c b:Nat -> Nat):(rotL c b 0 ++ rotL c b 1 ++ rotL c b 2).Perm [1,2,3,4,5]:=
 (((rot_perm c b 0).append (rot_perm c b 1)).append (rot_perm c b 2)).trans (rings_perm c)
theorem rings_sum (c:Nat -> Nat):(ringL c 0).length + (ringL c 1).length + (ringL c 2).length = 5:=by
 have:=(rings_perm c).length_eq
 simpa only [List.length_append,List.length_cons,List.length_nil] using this
theorem rot_get {c b:Nat -> Nat} {x n:Nat} (hb:b x < (ringL c x).length) (hn:n < (ringL c x).length):(rotL c b x).getD n 0 = (ringL c x).getD ((b x + n) % (ringL c x).length) 0:=by
 unfold rotL
 simp only [List.getD_eq_getElem?_getD]
 by_cases h:b x + n < (ringL c x).length
 ·rw [Nat.mod_eq_of_lt h,List.getElem?_append_left (by rw [List.length_drop]; omega),List.getElem?_drop]
 ·rw [List.getElem?_append_right (by rw [List.length_drop]; omega),List.length_drop,List.getElem?_take,if_pos (by omega)]
  congr 2
  rw [Nat.mod_eq_sub_mod (by omega),Nat.mod_eq_of_lt (by omega)]; omega
noncomputable def takenL (c b:Nat -> Nat) (n0 n1 n2:Nat):List Nat:=(rotL c b 0).take n0 ++ (rotL c b 1).take n1 ++ (rotL c b 2).take n2
theorem taken_nodup (c b:Nat -> Nat) (n0 n1 n2:Nat):(takenL c b n0 n1 n2).Nodup /\ ∀ k ∈ takenL c b n0 n1 n2,1 <= k /\ k <= 5:=by
 have hs:(takenL c b n0 n1 n2).Sublist (rotL c b 0 ++ rotL c b 1 ++ rotL c b 2):=((List.take_sublist ..).append (List.take_sublist ..)).append (List.take_sublist ..)
 have hn:(rotL c b 0 ++ rotL c b 1 ++ rotL c b 2).Nodup:=(rots_perm c b).nodup_iff.mpr (by decide)
 refine ⟨hs.nodup hn,fun k hk=>?_⟩
 have:=(rots_perm c b).mem_iff.mp (hs.subset hk)
 simp only [List.mem_cons,List.not_mem_nil,or_false] at this
 omega
end
section
noncomputable def runP (c b:Nat -> Nat) (w:Nat):RP:=⟨lsL c 5,(List.range 6).map (partL c),ringL c,b,w⟩
noncomputable abbrev who2 (t:T3):Nat × Nat:=(t.1,t.2.1)
structure RI (c b:Nat -> Nat) (w:Nat) (s:RS):Prop where
 tk3:∀ t ∈ s.tk,t.1 < 3 /\ t.2.1 < 4
 rot:∀ x,(mineOf s.tk x).map (fun t=>t.2.2) = (rotL c b x).take (mineOf s.tk x).length
 con:(s.ws ++ s.tk.map who2).Perm ((rowL c 5 0).map (fun l=>(l,3)) ++ s.tk.flatMap fun t=>(rowL c 5 t.2.2).map fun l=>(l,t.1))
 ws4:∀ q ∈ s.ws,q.1 < 3 /\ q.2 < 4
 srt:Sorted w s.ws
 tx:TxO s.text (some s.ws.length)
 tl:s.text.length <= 12 * (s.tk.length + 1)
section
variable {c b:Nat -> Nat} {w:Nat} {s:RS}
theorem row_3 (c:Nat -> Nat) (k:Nat):∀ l ∈ rowL c 5 k,l < 3:=fun l hl=>by
 obtain ⟨m,hm,rfl⟩:=List.mem_map.mp hl
 obtain ⟨i,hi,rfl⟩:=List.mem_map.mp (List.mem_filter.mp hm).1
 have:=List.mem_range.mp hi
 exact nm_3 c (i + 1) (by omega) (by omega)
theorem ls_getD (c:Nat -> Nat) {k:Nat} (h:k < 6):(lsL c 5).getD k [] = rowL c 5 k:=by
 rw [List.getD_eq_getElem?_getD,lsL,List.getElem?_map,List.getElem?_range h]; rfl
theorem part_getD (c:Nat -> Nat) {k:Nat} (h:k < 6):((List.range 6).map (partL c)).getD k Str.empty = partL c k:=by
 rw [List.getD_eq_getElem?_getD,List.getElem?_map,List.getElem?_range h]; rfl
theorem RI.le (I:RI c b w s) (x:Nat):(mineOf s.tk x).length <= (ringL c x).length:=by
 have:=congrArg List.length (I.rot x)
 rw [List.length_map,List.length_take,rot_len] at this
 omega
theorem RI.ks (I:RI c b w s):(s.tk.map fun t=>t.2.2).Perm (takenL c b (mineOf s.tk 0).length (mineOf s.tk 1).length (mineOf s.tk 2).length):=by
 have:=(part3 s.tk fun t ht=>(I.tk3 t ht).1).map fun t=>t.2.2
 rwa [List.map_append,List.map_append,I.rot,I.rot,I.rot] at this
theorem RI.len (I:RI c b w s):s.tk.length = (mineOf s.tk 0).length + (mineOf s.tk 1).length + (mineOf s.tk 2).length:=by
 have:=(part3 s.tk fun t ht=>(I.tk3 t ht).1).length_eq
 rwa [List.length_append,List.length_append] at this
theorem RI.len5 (I:RI c b w s):s.tk.length <= 5:=by
 have h0:=I.le 0
 have h1:=I.le 1
 have h2:=I.le 2
 have:=rings_sum c
 rw [I.len]; omega
theorem RI.arr (I:RI c b w s) (x:Nat):(s.ws.map (·.1)).count x + (mineOf s.tk x).length = (ringL c x).countP fun k=>decide (hoL c k ∈ 0 :: takenL c b (mineOf s.tk 0).length (mineOf s.tk 1).length (mineOf s.tk 2).length):=by
 have h:=(I.con.map (·.1)).count_eq x
 have hn:(0 :: takenL c b (mineOf s.tk 0).length (mineOf s.tk 1).length (mineOf s.tk 2).length).Nodup:=by
  obtain ⟨a,b⟩:=taken_nodup c b (mineOf s.tk 0).length (mineOf s.tk 1).length (mineOf s.tk 2).length
  exact List.nodup_cons.mpr ⟨fun m=>by have:=b 0 m; omega,a⟩
 rw [<- rows_count c x _ hn,List.flatMap_cons,List.count_append]
 have e1:((s.tk.map who2).map (·.1)).count x = (mineOf s.tk x).length:=by
  rw [List.map_map,List.count,List.countP_map,mineOf,List.countP_eq_length_filter]
  congr 1
 have e2:((s.tk.flatMap fun t=>(rowL c 5 t.2.2).map fun l=>(l,t.1)).map (·.1)).count x = ((takenL c b (mineOf s.tk 0).length (mineOf s.tk 1).length (mineOf s.tk 2).length).flatMap (rowL c 5)).count x:=by
  rw [<- (I.ks.flatMap_right (rowL c 5)).count_eq x,List.map_flatMap,List.flatMap_map]
  congr 2
  funext t
  rw [List.map_map]
  exact List.map_id _
 rw [List.map_append,List.map_append,List.count_append,List.count_append,e1,e2,List.map_map] at h
 have e3:(rowL c 5 0).map ((fun q:Nat × Nat=>q.1) ∘ fun l=>(l,3)) = rowL c 5 0:=List.map_id _
 rw [e3] at h
 exact h
theorem RI.room (I:RI c b w s) {q:Nat × Nat} (h:q ∈ s.ws):(mineOf s.tk q.1).length < (ringL c q.1).length:=by
 have h1:=I.arr q.1
 have h2:0 < (s.ws.map (·.1)).count q.1:=List.count_pos_iff.mpr (List.mem_map_of_mem h)
 have h3:=List.countP_le_length (p:=fun k=>decide (hoL c k ∈ 0 :: takenL c b (mineOf s.tk 0).length (mineOf s.tk 1).length (mineOf s.tk 2).length)) (l:=ringL c q.1)
 omega
theorem RI.kof (I:RI c b w s) (hb:∀ x,x < 3 -> b x < roomL c x) {q:Nat × Nat} (h:q ∈ s.ws):(runP c b w).kOf s q.1 = (rotL c b q.1).getD (mineOf s.tk q.1).length 0 /\ (runP c b w).kOf s q.1 ∈ ringL c q.1:=by
 have hr:=I.room h
 have h3:=(I.ws4 q h).1
 have hb':=hb q.1 h3
 have hbl:b q.1 < (ringL c q.1).length:=by unfold roomL at hb'; split at hb' <;> omega
 have e:(runP c b w).kOf s q.1 = (rotL c b q.1).getD (mineOf s.tk q.1).length 0:=(rot_get hbl hr).symm
 refine ⟨e,?_⟩
 rw [e,<- (rot_perm c b q.1).mem_iff,List.getD_eq_getElem?_getD,List.getElem?_eq_getElem (by rw [rot_len]; exact hr)]
 exact List.getElem_mem _
set_option tactic.hygienic true in
theorem RI.next (I:RI c b w s) (hb:∀ x,x < 3 -> b x < roomL c x) {r:List (Nat × Nat)} {x y:Nat} (h:s.ws = r ++ [(x,y)]):RI c b w ((runP c b w).step s):=by
 have hq:(x,y) ∈ s.ws:=by rw [h]; simp
 obtain ⟨ek,hk⟩:=I.kof hb hq
 obtain ⟨hx,hy⟩:=I.ws4 _ hq
 have hk5:=(mem_ring.mp hk).1
 rw [step_snoc (p:=runP c b w) h]
 dsimp only at ek hk hx hy hk5
 rw [show (runP c b w).ls = lsL c 5 from rfl,show (runP c b w).parts = (List.range 6).map (partL c) from rfl,show (runP c b w).w = w from rfl,ls_getD c (by omega),part_getD c (by omega)]
 generalize hkk:(runP c b w).kOf s x = k at *
 have hp:=layAll_perm w x (rowL c 5 k) r
 have hs:Sorted w r:=by
  have:=I.srt
  rw [h] at this
  exact (List.pairwise_append.mp this).1
 have hr3:∀ q ∈ r,q.1 < 3 /\ q.2 < 4:=fun q hq=>I.ws4 q (by rw [h]; exact List.mem_append_left _ hq)
 obtain ⟨l1,l2,l3⟩:=layAll_ok w x (by omega) (rowL c 5 k) r (fun l hl=>Nat.lt_trans (row_3 c k l hl) (by decide)) hs fun q hq=>⟨Nat.lt_trans (hr3 q hq).1 (by decide),(hr3 q hq).2⟩
 refine ⟨?_,fun z=>?_,?_,?_,l1,?_,?_⟩
 ·intro t ht
  rcases List.mem_append.mp ht with ht | ht
  ·exact I.tk3 t ht
  ·rw [List.mem_singleton.mp ht]; exact ⟨hx,hy⟩
 ·rw [mine_snoc]
  split
  ·rename_i e
   dsimp only at e
   subst e
   rw [List.map_append,I.rot,List.length_append,List.length_singleton,List.take_add_one,List.map_singleton]
   congr 1
   have:=I.room hq
   rw [<- rot_len c b] at this
   dsimp only
   rw [ek,List.getD_eq_getElem?_getD,List.getElem?_eq_getElem this]; rfl
  ·exact I.rot z
 ·rw [List.perm_iff_count]
  intro a
  have h1:=I.con.count_eq a
  have h2:=hp.count_eq a
  rw [h] at h1
  simp only [List.count_append,List.map_append,List.map_cons,List.map_nil,List.flatMap_append,List.flatMap_cons,List.flatMap_nil,List.append_nil] at h1 h2 ⊢
  have:who2 (x,y,k) = (x,y):=rfl
  rw [this]
  omega
 ·intro q hq
  rcases List.mem_append.mp (hp.mem_iff.mp hq) with hq | hq
  ·exact hr3 q hq
  ·obtain ⟨l,hl,rfl⟩:=List.mem_map.mp hq
   exact ⟨row_3 c k l hl,by dsimp only; omega⟩
 ·have:=txo_part I.tx c hk5.1
  rw [h,List.length_append] at this
  rw [l3]
  exact this
 ·have h1:=part_len c k
  have h2:=I.tl
  rw [Str.length_append,List.length_append,List.length_singleton]
  omega
theorem ri_zero (c b:Nat -> Nat) (w:Nat):RI c b w (runP c b w).st0:=by
 have e1:(runP c b w).st0 = ⟨layAll w [] (rowL c 5 0) 3,[],partL c 0⟩:=by
  unfold RP.st0
  rw [show (runP c b w).ls = lsL c 5 from rfl,show (runP c b w).parts = (List.range 6).map (partL c) from rfl,show (runP c b w).w = w from rfl,ls_getD c (by omega),part_getD c (by omega)]
 rw [e1]
 have hp:=layAll_perm w 3 (rowL c 5 0) []
 obtain ⟨l1,l2,l3⟩:=layAll_ok w 3 (by decide) (rowL c 5 0) [] (fun l hl=>Nat.lt_trans (row_3 c 0 l hl) (by decide)) .nil fun q hq=>(nomatch hq)
 refine ⟨fun t ht=>(nomatch ht),fun x=>rfl,?_,fun q hq=>?_,l1,?_,?_⟩
 ·simpa using hp
 ·obtain ⟨l,hl,rfl⟩:=List.mem_map.mp (List.mem_append.mp (hp.mem_iff.mp hq) |>.resolve_left (fun q=>nomatch q))
  exact ⟨row_3 c 0 l hl,(by decide:3 < 4)⟩
 ·rw [l3]
  have:=txo_part0 c
  rwa [<- Nat.zero_add (rowL c 5 0).length] at this
 ·exact part_len c 0
set_option tactic.hygienic true in
theorem ri_all (hb:∀ x,x < 3 -> b x < roomL c x):∀ i,RI c b w ((runP c b w).st i) /\ (((runP c b w).st i).ws = [] \/ ((runP c b w).st i).tk.length = i)
 | 0=>⟨ri_zero c b w,.inr rfl⟩
 | i + 1=>by
  obtain ⟨I,h⟩:=ri_all hb i
  show RI c b w ((runP c b w).step ((runP c b w).st i)) /\ (((runP c b w).step ((runP c b w).st i)).ws = [] \/ ((runP c b w).step ((runP c b w).st i)).tk.length = i + 1)
  by_cases hw:((runP c b w).st i).ws = []
  ·rw [step_nil hw]; exact ⟨I,.inl hw⟩
  ·obtain ⟨r,⟨x,y⟩,hws⟩:∃ r q,((runP c b w).st i).ws = r ++ [q]:=⟨_,_,(List.dropLast_concat_getLast hw).symm⟩
   refine ⟨I.next hb hws,.inr ?_⟩
   rw [step_snoc (p:=runP c b w) hws,List.length_append,h.resolve_left hw,List.length_singleton]
theorem run_fin (hb:∀ x,x < 3 -> b x < roomL c x):((runP c b w).st 5).ws = []:=by
 obtain ⟨I,h⟩:=ri_all (w:=w) hb 5
 refine Classical.byContradiction fun hne=>?_
 obtain ⟨q,hq⟩:=List.exists_mem_of_ne_nil _ hne
 have h5:=h.resolve_left hne
 have hr:=I.room hq
 have h0:=I.le 0
 have h1:=I.le 1
 have h2:=I.le 2
 have hs:=rings_sum c
 have hl:=I.len
 have:=(I.ws4 q hq).1
 have e:q.1 = 0 \/ q.1 = 1 \/ q.1 = 2:=by omega
 rcases e with e | e | e <;> (rw [e] at hr; omega)
theorem run_ok (hb:∀ x,x < 3 -> b x < roomL c x) (hw:w < 4):RunOk (runP c b w) where
 hw:=hw
 l6:=ls_len c
 p6:=by show ((List.range 6).map (partL c)).length = 6; simp
 l3:=ls_bd c
 pl:=fun x hx=>by
  obtain ⟨k,_,rfl⟩:=List.mem_map.mp hx
  exact Nat.le_trans (part_len c k) (by decide)
 rl:=ring_len c
 fin:=run_fin hb
 st:=fun i=>by
  obtain ⟨I,_⟩:=ri_all (w:=w) hb i
  have h5:=I.len5
  have htl:=I.tl
  refine ⟨I.ws4,I.srt,?_,by omega,I.tk3,by omega,strip_len (by omega),?_,fun r x y h=>?_⟩
  ·have h:=I.con.length_eq
   rw [List.length_append,List.length_append,List.length_map,List.length_map] at h
   have h0:=row_len c 0
   have h1:∀ l:List T3,(l.flatMap fun t=>(rowL c 5 t.2.2).map fun l=>(l,t.1)).length <= l.length * 5:=by
    intro l
    induction l with
    | nil=>simp
    | cons t r ih=>
     have:=row_len c t.2.2
     rw [List.flatMap_cons,List.length_append,List.length_map,List.length_cons,Nat.succ_mul]; omega
   have:=h1 ((runP c b w).st i).tk
   omega
  ·rw [txo_chk I.tx]
   cases ((runP c b w).st i).ws with
   | nil=>rfl
   | cons q r=>rfl
  ·have hq:(x,y) ∈ ((runP c b w).st i).ws:=by rw [h]; simp
   obtain ⟨_,hk⟩:=I.kof hb hq
   have:=(mem_ring.mp hk).1
   exact ⟨List.ne_nil_of_mem hk,by dsimp only at this; omega⟩
end
end
section
theorem flat_congr {α β:Type} {f g:α -> List β} {l:List α} (h:∀ a ∈ l,f a = g a):l.flatMap f = l.flatMap g:=by
 rw [List.flatMap_def,List.flatMap_def,List.map_congr_left h]
theorem group_perm {α β:Type} [DecidableEq β] (f:α -> Nat) (g:α -> Nat -> β):∀ (js:List Nat) (l:List α),js.Nodup -> (∀ a ∈ l,f a ∈ js) -> (js.flatMap fun j=>(l.filter fun a=>decide (f a = j)).map fun a=>g a j).Perm (l.map fun a=>g a (f a))
 | js,[],hn,h=>by
  clear hn h
  induction js with
  | nil=>exact .refl _
  | cons j js ih=>exact ih
 | js,a :: l,hn,h=>by
  have ih:=group_perm f g js l hn fun b hb=>h b (List.mem_cons_of_mem _ hb)
  rw [List.map_cons]
  refine List.Perm.trans ?_ (ih.cons _)
  have ha:=h a (List.mem_cons_self ..)
  clear ih h
  induction js with
  | nil=>cases ha
  | cons j js ih=>
   rw [List.nodup_cons] at hn
   rw [List.flatMap_cons,List.flatMap_cons,List.filter_cons]
   by_cases e:f a = j
   ·subst e
    have hnil:(js.flatMap fun j=>((a :: l).filter fun a=>decide (f a = j)).map fun a=>g a j) = js.flatMap fun j=>(l.filter fun a=>decide (f a = j)).map fun a=>g a j:=by
     refine flat_congr fun j hj=>?_
     rw [List.filter_cons,if_neg]
     intro q
     have q:f a = j:=by simpa using q
     exact hn.1 (q ▸ hj)
    rw [hnil,if_pos (by simp),List.map_cons,List.cons_append]
   ·rw [if_neg (by simpa using e)]
    have:=ih hn.2 ((List.mem_cons.mp ha).resolve_left e)
    exact (this.append_left _).trans List.perm_middle
theorem prs_fact {ps:List (Nat × Nat)} (h4:∀ p ∈ ps,p.2 < 4) (hl:ps.length <= 4):(sortPrs ps).Perm ps /\ ((sortPrs ps).map (·.1)).Pairwise (· <= ·):=by
 have hk:(ps.map prKey).length = ps.length:=by simp
 have F:=sort_fact (rk:=ps.map prKey) (by omega)
 have hi:∀ i ∈ sortP (ps.map prKey),i < ps.length:=fun i h=>by
  have:=List.mem_range.mp (F.perm.mem_iff.mp h); omega
 constructor
 ·have e:(List.range (ps.map prKey).length).map (fun i=>ps.getD i (0,0)) = ps:=by
   refine List.ext_getElem (by simp) fun j h1 h2=>?_
   simp [List.getD_eq_getElem?_getD,h2]
  have:=F.perm.map fun i=>ps.getD i (0,0)
  rw [e] at this
  exact this
 ·have h:=F.srt
  rw [List.pairwise_map] at h
  unfold sortPrs
  rw [List.map_map,List.pairwise_map]
  refine h.imp_of_mem fun {i j} hi' hj' h=>?_
  have a:=hi i hi'
  have b:=hi j hj'
  simp only [Function.comp,List.getD_eq_getElem?_getD,List.getElem?_map,List.getElem?_eq_getElem a,List.getElem?_eq_getElem b,Option.map_some,Option.getD_some,prKey] at h ⊢
  have:=h4 _ (List.getElem_mem a)
  have:=h4 _ (List.getElem_mem b)
  omega
theorem left_srt {c:Nat -> Nat} {i:Nat} (few:(restL c i).length <= 4):((leftL c i).map (nmL c)).Pairwise (· <= ·):=by
 have F:=sort_fact (rk:=rkL c i) (by rw [rkL,List.length_map]; exact few)
 have hi:∀ j ∈ sortP (rkL c i),j < (restL c i).length:=fun j h=>by
  have:=List.mem_range.mp (F.perm.mem_iff.mp h)
  rwa [rkL,List.length_map] at this
 have h:=F.srt
 rw [List.pairwise_map] at h
 unfold leftL
 rw [List.map_map,List.pairwise_map]
 refine h.imp_of_mem fun {j k} hj hk h=>?_
 have a:=hi j hj
 have b:=hi k hk
 simpa only [Function.comp,rkL,List.getD_eq_getElem?_getD,List.getElem?_map,List.getElem?_eq_getElem a,List.getElem?_eq_getElem b,Option.map_some,Option.getD_some] using h
theorem zip_fst {α β:Type} {γ:Type} (f:α -> β -> γ) (g:γ -> α) (hg:∀ a b,g (f a b) = a):∀ (ps:List α) (ks:List β),ps.length = ks.length -> (List.zipWith f ps ks).map g = ps
 | [],ks,_=>by simp
 | p :: ps,[],h=>by simp at h
 | p :: ps,k :: ks,h=>by
  rw [List.zipWith_cons_cons,List.map_cons,hg,zip_fst f g hg ps ks (by simpa using h)]
theorem zip_eq {ps:List (Nat × Nat)} {f:Nat -> Nat}:∀ {ks:List Nat},ps.map (·.1) = ks.map f -> (List.zipWith (fun p k=>((p.1,p.2,k):T3)) ps ks).map (fun t=>(t.1,t.2.2)) = ks.map fun k=>(f k,k):=by
 induction ps with
 | nil=>intro ks h; cases ks with | nil=>rfl | cons k ks=>simp at h
 | cons p ps ih=>
  intro ks h
  cases ks with
  | nil=>simp at h
  | cons k ks=>
   rw [List.map_cons,List.map_cons,List.cons.injEq] at h
   rw [List.zipWith_cons_cons,List.map_cons,List.map_cons,ih h.2,<- h.1]
section
variable {c:Nat -> Nat} {i:Nat}
noncomputable abbrev wayL (c:Nat -> Nat) (i:Nat):Nat:=(i + c 5 / 6) % 4
theorem RI.tk_ring {b:Nat -> Nat} {w:Nat} {s:RS} (I:RI c b w s) {t:T3} (h:t ∈ s.tk):(1 <= t.2.2 /\ t.2.2 <= 5) /\ nmL c t.2.2 = t.1:=by
 have h1:t.2.2 ∈ (mineOf s.tk t.1).map fun t=>t.2.2:=List.mem_map.mpr ⟨t,List.mem_filter.mpr ⟨h,by simp⟩,rfl⟩
 rw [I.rot] at h1
 exact mem_ring.mp ((rot_perm c b t.1).mem_iff.mp (List.mem_of_mem_take h1))
noncomputable abbrev ksL (c:Nat -> Nat) (i:Nat):List Nat:=(endL c i).tk.map fun t=>t.2.2
theorem end_ri (hi:i < (startsL c).length):RI c (b3 (tL c i)) (wayL c i) (endL c i) /\ (endL c i).ws = []:=
 ⟨(ri_all (w:=wayL c i) (fun x hx=>tL_room hi x hx) 5).1,run_fin (w:=wayL c i) (fun x hx=>tL_room hi x hx)⟩
theorem ks_fact (hi:i < (startsL c).length):(ksL c i).Nodup /\ (∀ k ∈ ksL c i,1 <= k /\ k <= 5) /\ (ksL c i ++ restL c i).Perm [1,2,3,4,5]:=by
 obtain ⟨I,hws⟩:=end_ri hi
 obtain ⟨hn,hb⟩:=taken_nodup c (b3 (tL c i)) (mineOf (endL c i).tk 0).length (mineOf (endL c i).tk 1).length (mineOf (endL c i).tk 2).length
 have h1:(ksL c i).Nodup:=I.ks.nodup_iff.mpr hn
 have h2:∀ k ∈ ksL c i,1 <= k /\ k <= 5:=fun k hk=>hb k (I.ks.mem_iff.mp hk)
 refine ⟨h1,h2,?_⟩
 rw [List.perm_iff_count]
 intro a
 rw [List.count_append]
 have h5:a ∈ ksL c i -> a ∈ ([1,2,3,4,5]:List Nat):=fun h=>by
  have:=h2 a h
  simp only [List.mem_cons,List.not_mem_nil,or_false]; omega
 have hd:([1,2,3,4,5]:List Nat).Nodup:=by decide
 show _ + (List.filter (fun k=>decide (k ∉ ksL c i)) [1,2,3,4,5]).count a = _
 by_cases ha:a ∈ ksL c i
 ·rw [h1.count,if_pos ha,hd.count,if_pos (h5 ha),List.count_eq_zero_of_not_mem fun m=>(by simpa using (List.mem_filter.mp m).2:a ∉ ksL c i) ha]
 ·rw [List.count_eq_zero_of_not_mem ha,List.count_filter (by simpa using ha)]; omega
theorem row_mem1 (c:Nat -> Nat):hoL c 1 = 0:=Nat.mod_one _
theorem few_ok (hi:i < (startsL c).length):(restL c i).length <= 4:=by
 obtain ⟨I,hws⟩:=end_ri hi
 obtain ⟨_,_,hp⟩:=ks_fact hi
 have hl:=hp.length_eq
 rw [List.length_append] at hl
 have:(ksL c i).length ≠ 0:=fun h0=>by
  have hz:(endL c i).tk = []:=List.eq_nil_of_length_eq_zero (by rwa [List.length_map] at h0)
  have ha:=I.arr (nmL c 1)
  rw [hws,hz] at ha
  have h1:1 ∈ ringL c (nmL c 1):=mem_ring.mpr ⟨by decide,rfl⟩
  have hpos:0 < (ringL c (nmL c 1)).countP fun k=>decide (hoL c k ∈ 0 :: takenL c (b3 (tL c i)) (mineOf ([]:List T3) 0).length (mineOf ([]:List T3) 1).length (mineOf ([]:List T3) 2).length):=
   List.countP_pos_iff.mpr ⟨1,h1,by rw [row_mem1]; simp⟩
  rw [<- ha] at hpos
  exact Nat.lt_irrefl 0 hpos
 simp only [List.length_cons,List.length_nil] at hl
 omega
theorem who_perm2 (hi:i < (startsL c).length):((endL c i).tk.map who2 ++ prsL c i).Perm ((csL c 5).map who2):=by
 obtain ⟨I,hws⟩:=end_ri hi
 obtain ⟨_,_,hp⟩:=ks_fact hi
 have h:=I.con
 rw [hws,List.nil_append] at h
 have e1:((endL c i).tk.flatMap fun t=>(rowL c 5 t.2.2).map fun l=>(l,t.1)) = (ksL c i).flatMap fun k=>(rowL c 5 k).map fun l=>(l,nmL c k):=by
  rw [List.flatMap_map]
  exact flat_congr fun t ht=>by rw [(I.tk_ring ht).2]
 rw [e1] at h
 have h2:(prsL c i).Perm ((restL c i).flatMap fun k=>(rowL c 5 k).map fun l=>(l,nmL c k)):=(left_perm' (few_ok hi)).flatMap_right _
 have h3:=h.append h2
 rw [List.append_assoc,<- List.flatMap_append] at h3
 have h4:((rowL c 5 0).map (fun l=>(l,3)) ++ (ksL c i ++ restL c i).flatMap fun k=>(rowL c 5 k).map fun l=>(l,nmL c k)).Perm ((0 :: [1,2,3,4,5]).flatMap fun k=>(rowL c 5 k).map fun l=>(l,nmL c k)):=by
  rw [List.flatMap_cons]
  exact .append (.refl _) (hp.flatMap_right _)
 refine (h3.trans h4).trans ?_
 have h5:=group_perm (hoL c) (fun a j=>(nmL c a,nmL c j)) [0,1,2,3,4,5] [1,2,3,4,5] (by decide) fun a ha=>by
  have h5:1 <= a /\ a <= 5:=by simp only [List.mem_cons,List.not_mem_nil,or_false] at ha; omega
  have:hoL c a < a:=Nat.mod_lt _ h5.1
  simp only [List.mem_cons,List.not_mem_nil,or_false]; omega
 have e5:((0 :: [1,2,3,4,5]).flatMap fun k=>(rowL c 5 k).map fun l=>(l,nmL c k)) = [0,1,2,3,4,5].flatMap fun j=>(([1,2,3,4,5]:List Nat).filter fun a=>decide (hoL c a = j)).map fun a=>(nmL c a,nmL c j):=
  flat_congr fun j zz=>by unfold rowL; rw [List.map_map]; rfl
 rw [e5]
 exact h5
theorem more_left (hi:i < (startsL c).length):(prsL c i).length <= 4 /\ (moreL c i).Perm (prsL c i) /\ (moreL c i).map (·.1) = (leftL c i).map (nmL c):=by
 obtain ⟨I,hws⟩:=end_ri hi
 obtain ⟨_,_,hp⟩:=ks_fact hi
 have hf:=few_ok hi
 have hlp:=left_perm' hf
 have hq:((prsL c i).map (·.1)).Perm ((leftL c i).map (nmL c)):=by
  have h1:=(who_perm2 hi).map (·.1)
  rw [List.map_append] at h1
  have e1:((endL c i).tk.map who2).map (·.1) = (ksL c i).map (nmL c):=by
   rw [List.map_map,List.map_map]
   exact List.map_congr_left fun t ht=>(I.tk_ring ht).2.symm
  have e2:((csL c 5).map who2).map (·.1) = ([1,2,3,4,5]:List Nat).map (nmL c):=rfl
  rw [e1,e2] at h1
  have h2:=(hp.map (nmL c)).symm
  rw [List.map_append] at h2
  exact ((List.perm_append_left_iff _).mp (h1.trans h2)).trans (hlp.map _).symm
 have hl:=hq.length_eq
 rw [List.length_map,List.length_map,hlp.length_eq] at hl
 have h4:∀ p ∈ prsL c i,p.2 < 4:=fun p hp=>by
  obtain ⟨k,hk,hp⟩:=List.mem_flatMap.mp hp
  obtain ⟨x,hx,rfl⟩:=List.mem_map.mp hp
  exact nmL_lt ..
 obtain ⟨f1,f2⟩:=prs_fact h4 (by omega)
 exact ⟨by omega,f1,((f1.map _).trans hq).eq_of_pairwise (fun a b zz zz=>Nat.le_antisymm) f2 (left_srt hf)⟩
theorem start_ok (hi:i < (startsL c).length):StartOk c i:=by
 obtain ⟨I,hws⟩:=end_ri hi
 obtain ⟨hn,hb,hp⟩:=ks_fact hi
 obtain ⟨h4,m1,m2⟩:=more_left hi
 have hf:=few_ok hi
 have hlen:(moreL c i).length = (leftL c i).length:=by have:=congrArg List.length m2; rwa [List.length_map,List.length_map] at this
 have ew:(callsL c i).map who2 = moreL c i:=zip_fst _ _ (fun a b=>rfl) _ _ hlen
 have el:(callsL c i).map (fun t=>(t.1,t.2.2)) = (leftL c i).map fun k=>(nmL c k,k):=zip_eq m2
 have htl:=I.len5
 have hwho:(((endL c i).tk ++ callsL c i).map who2).Perm ((csL c 5).map who2):=by
  rw [List.map_append,ew]
  exact (List.Perm.append_left _ m1).trans (who_perm2 hi)
 have hc4:∀ t ∈ callsL c i,t.1 < 3 /\ t.2.1 < 4:=fun t ht=>by
  have h1:who2 t ∈ (csL c 5).map who2:=hwho.mem_iff.mp (List.mem_map_of_mem (List.mem_append_right _ ht))
  obtain ⟨u,hu,e⟩:=List.mem_map.mp h1
  have:=ca_ok c u hu
  have e1:u.1 = t.1:=(Prod.mk.inj e).1
  have e2:u.2.1 = t.2.1:=(Prod.mk.inj e).2
  omega
 refine ⟨run_ok (fun x hx=>tL_room hi x hx) (Nat.mod_lt _ (by decide)),hf,h4,⟨fun t ht=>(I.tk3 t ht).1,fun t ht=>(I.tk3 t ht).2⟩,fun t ht=>by have:=(I.tk_ring ht).1; omega,by omega,by have:=I.tl; omega,⟨fun t ht=>(hc4 t ht).1,fun t ht=>(hc4 t ht).2⟩,⟨hwho,?_⟩⟩
 rw [List.map_append,el]
 have e1:(endL c i).tk.map (fun t=>(t.1,t.2.2)) = (ksL c i).map fun k=>(nmL c k,k):=by
  rw [List.map_map]
  exact List.map_congr_left fun t ht=>by rw [Function.comp,(I.tk_ring ht).2]
 rw [e1,<- List.map_append]
 exact ((List.Perm.append_left _ (left_perm' hf)).trans hp).map _
end
end
section
theorem join_cons (x p:Str) (ps:List Str):x ++ Txt.join Str.empty (p :: ps) = x ++ p ++ Txt.join Str.empty ps:=cp_inj (by simp only [cp_app,join_cp,List.flatMap_cons,List.append_assoc])
theorem join_nil0 (x:Str):x ++ Txt.join Str.empty [] = x:=cp_inj (by rw [cp_app,join_cp]; exact List.append_nil _)
theorem txo_rest (c:Nat -> Nat):∀ (l:List Nat) (x:Str),TxO x none -> (∀ k ∈ l,1 <= k) -> TxO (x ++ Txt.join Str.empty (l.map (partL c))) none
 | [],x,h,_=>by rw [List.map_nil,join_nil0]; exact h
 | k :: l,x,h,hk=>by
  rw [List.map_cons,join_cons]
  exact txo_rest c l _ (txo_part h c (hk k (List.mem_cons_self ..))) fun m hm=>hk m (List.mem_cons_of_mem _ hm)
theorem join_len (c:Nat -> Nat):∀ (l:List Nat) (x:Str),(x ++ Txt.join Str.empty (l.map (partL c))).length <= x.length + 12 * l.length
 | [],x=>by rw [List.map_nil,join_nil0]; exact Nat.le_refl _
 | k :: l,x=>by
  rw [List.map_cons,join_cons]
  have:=join_len c l (x ++ partL c k)
  have:=part_len c k
  have:=Str.length_append x (partL c k)
  rw [List.length_cons]; omega
section
variable {c:Nat -> Nat} {i:Nat}
theorem text_tx (hi:i < (startsL c).length):TxO (textL c i) (if leftL c i = [] then some 0 else none):=by
 obtain ⟨I,hws⟩:=end_ri hi
 have ht:=I.tx
 rw [hws] at ht
 unfold textL
 have hm:∀ k ∈ leftL c i,1 <= k:=fun k hk=>(left_mem (start_ok hi) hk).1
 cases e:leftL c i with
 | nil=>rw [if_pos rfl,List.map_nil,join_nil0]; exact ht
 | cons k l=>
  rw [e] at hm
  rw [if_neg (by simp),List.map_cons,join_cons]
  exact txo_rest c l _ (txo_part ht c (hm k (List.mem_cons_self ..))) fun m h=>hm m (List.mem_cons_of_mem _ h)
theorem text_chk (hi:i < (startsL c).length):chkP (textL c i) = decide (leftL c i = []):=by
 rw [txo_chk (text_tx hi)]
 by_cases q:leftL c i = [] <;> simp [q]
theorem text_len (hi:i < (startsL c).length):(textL c i).length <= 120:=by
 obtain ⟨I,hws⟩:=end_ri hi
 have h1:=I.tl
 have h2:=I.len5
 have h3:=join_len c (leftL c i) (endL c i).text
 have h4:=left_len (start_ok hi)
 unfold textL
 omega
theorem starts_boxes (c:Nat -> Nat):startsL c = boxes (nmL c):=rfl
theorem starts_pos (c:Nat -> Nat):0 < (startsL c).length /\ tL c 0 = (0,0,0):=by
 have h:∀ n,∃ m,room1 n = m + 1:=fun n=>by
  unfold room1; split
  ·exact ⟨n - 1,by omega⟩
  ·exact ⟨0,rfl⟩
 have e:∃ r,startsL c = (0,0,0) :: r:=by
  rw [starts_boxes]
  unfold boxes
  obtain ⟨a,ha⟩:=h (ring5 (nmL c) 0).length
  obtain ⟨b,hb⟩:=h (ring5 (nmL c) 1).length
  obtain ⟨d,hd⟩:=h (ring5 (nmL c) 2).length
  rw [ha,hb,hd,List.range_succ_eq_map,List.range_succ_eq_map,List.range_succ_eq_map]
  exact ⟨_,rfl⟩
 obtain ⟨r,e⟩:=e
 refine ⟨by rw [e]; simp,?_⟩
 unfold tL; rw [e]; rfl
theorem whole_iff {e:Nat} (he:∀ k,1 <= k -> k <= 5 -> hoC e k = hoL c k) (he2:e < 120) (hi:i < (startsL c).length):leftL c i = [] <-> bt e (gcol (ring5 (nmL c) 0) (ring5 (nmL c) 1) (ring5 (nmL c) 2) (tL c i)) = true:=by
 obtain ⟨I,hws⟩:=end_ri hi
 obtain ⟨hn,hb,hp⟩:=ks_fact hi
 rw [gcol_bt he2 (ring5_in _ _) (ring5_in _ _) (ring5_in _ _)]
 have hrot:∀ x,rotC (ring5 (nmL c) x) (b3 (tL c i) x) = rotL c (b3 (tL c i)) x:=fun x=>rotC_eq _ _
 have h0:=hrot 0
 have h1:=hrot 1
 have h2:=hrot 2
 have hcnt:∀ p0 p1 p2 x,(ring5 (nmL c) x).countP (hit e ([0] ++ (rotC (ring5 (nmL c) 0) (tL c i).1).take p0 ++ (rotC (ring5 (nmL c) 1) (tL c i).2.1).take p1 ++ (rotC (ring5 (nmL c) 2) (tL c i).2.2).take p2)) = (ringL c x).countP fun k=>decide (hoL c k ∈ 0 :: takenL c (b3 (tL c i)) p0 p1 p2):=fun p0 p1 p2 x=>by
  refine List.countP_congr fun k hk=>?_
  have h5:=(mem_ring.mp hk).1
  show (List.any _ fun j=>Nat.beq (hoC e k) j) = true <-> _
  rw [any_beq,he k h5.1 h5.2]
  show _ <-> decide (hoL c k ∈ 0 :: ((rotL c (b3 (tL c i)) 0).take p0 ++ (rotL c (b3 (tL c i)) 1).take p1 ++ (rotL c (b3 (tL c i)) 2).take p2)) = true
  rw [<- h0,<- h1,<- h2]
  simp only [List.append_assoc,List.cons_append,List.nil_append]
  rfl
 have hlen:∀ x,(rotC (ring5 (nmL c) x) (b3 (tL c i) x)).length = (ringL c x).length:=fun x=>by rw [hrot]; exact rot_len ..
 have hl0:=hlen 0
 have hl1:=hlen 1
 have hl2:=hlen 2
 have hs:=rings_sum c
 have hll:leftL c i = [] <-> (endL c i).tk.length = 5:=by
  have a:=(left_perm' (few_ok hi)).length_eq
  have b:=hp.length_eq
  rw [List.length_append,List.length_map] at b
  rw [<- List.length_eq_zero_iff,a]
  simp only [List.length_cons,List.length_nil] at b
  omega
 rw [hll]
 unfold Good
 simp only [hcnt]
 constructor
 ·intro h5 p0 q0 p1 q1 p2 q2
  refine Classical.byContradiction fun hne=>?_
  simp only [not_or] at hne
  obtain ⟨n5,m0,m1,m2⟩:=hne
  have q0':p0 <= (ringL c 0).length:=hl0 ▸ q0
  have q1':p1 <= (ringL c 1).length:=hl1 ▸ q1
  have q2':p2 <= (ringL c 2).length:=hl2 ▸ q2
  have key:∀ j,(mineOf ((rpL c i).st j).tk 0).length <= p0 /\ (mineOf ((rpL c i).st j).tk 1).length <= p1 /\ (mineOf ((rpL c i).st j).tk 2).length <= p2:=by
   intro j
   induction j with
   | zero=>exact ⟨Nat.zero_le _,Nat.zero_le _,Nat.zero_le _⟩
   | succ j ih=>
    obtain ⟨J,_⟩:=ri_all (c:=c) (w:=wayL c i) (fun x hx=>tL_room hi x hx) j
    show (mineOf ((rpL c i).step ((rpL c i).st j)).tk 0).length <= p0 /\ (mineOf ((rpL c i).step ((rpL c i).st j)).tk 1).length <= p1 /\ (mineOf ((rpL c i).step ((rpL c i).st j)).tk 2).length <= p2
    have J:RI c (b3 (tL c i)) (wayL c i) ((rpL c i).st j):=J
    generalize (rpL c i).st j = s at *
    by_cases hw:s.ws = []
    ·rw [step_nil hw]; exact ih
    ·obtain ⟨r,⟨x,y⟩,hws⟩:∃ r q,s.ws = r ++ [q]:=⟨_,_,(List.dropLast_concat_getLast hw).symm⟩
     have hq:(x,y) ∈ s.ws:=by rw [hws]; simp
     have ha:=J.arr x
     have hc1:0 < (s.ws.map (·.1)).count x:=List.count_pos_iff.mpr (List.mem_map.mpr ⟨_,hq,rfl⟩)
     have hsub:(ringL c x).countP (fun k=>decide (hoL c k ∈ 0 :: takenL c (b3 (tL c i)) (mineOf s.tk 0).length (mineOf s.tk 1).length (mineOf s.tk 2).length)) <= (ringL c x).countP (fun k=>decide (hoL c k ∈ 0 :: takenL c (b3 (tL c i)) p0 p1 p2)):=by
      refine List.countP_mono_left fun k zz hk=>?_
      rw [decide_eq_true_eq] at hk ⊢
      have sub:∀ {l:List Nat} {m n:Nat},m <= n -> ∀ z,z ∈ l.take m -> z ∈ l.take n:=fun {l m n} h z hz=>(List.take_sublist_take_left (l:=l) h).subset hz
      rcases List.mem_cons.mp hk with hk | hk
      ·rw [hk]; exact List.mem_cons_self ..
      ·refine List.mem_cons_of_mem _ ?_
       unfold takenL at hk ⊢
       simp only [List.mem_append] at hk ⊢
       exact hk.imp (Or.imp (sub ih.1 _) (sub ih.2.1 _)) (sub ih.2.2 _)
     have hx:x < 3:=(J.ws4 _ hq).1
     have ex:x = 0 \/ x = 1 \/ x = 2:=by omega
     rw [step_snoc (p:=rpL c i) hws]
     simp only [mine_snoc]
     rcases ex with rfl | rfl | rfl <;> (simp only [if_true,List.length_append,List.length_singleton,Nat.reduceEqDiff,if_false]; omega)
  have k5:=key 5
  have h6:=I.len
  have e5:(rpL c i).st 5 = endL c i:=rfl
  rw [e5] at k5
  omega
 ·intro h
  have g:=h (mineOf (endL c i).tk 0).length (by rw [show rotC (ring5 (nmL c) 0) (tL c i).1 = rotC (ring5 (nmL c) 0) (b3 (tL c i) 0) from rfl,hl0]; exact I.le 0) (mineOf (endL c i).tk 1).length (by rw [show rotC (ring5 (nmL c) 1) (tL c i).2.1 = rotC (ring5 (nmL c) 1) (b3 (tL c i) 1) from rfl,hl1]; exact I.le 1) (mineOf (endL c i).tk 2).length (by rw [show rotC (ring5 (nmL c) 2) (tL c i).2.2 = rotC (ring5 (nmL c) 2) (b3 (tL c i) 2) from rfl,hl2]; exact I.le 2)
  have a0:=I.arr 0
  have a1:=I.arr 1
  have a2:=I.arr 2
  have hl:=I.len
  rw [hws] at a0 a1 a2
  simp only [List.map_nil,List.count_nil] at a0 a1 a2
  omega
end
end
section
theorem expand_count {cs:List (Nat × Nat)} (hn:(cs.map (·.1)).Nodup) (y:Nat):(expand cs).count y = (cs.lookup y).getD 0:=by
 induction cs with
 | nil=>rfl
 | cons p r ih=>
  rw [List.map_cons,List.nodup_cons] at hn
  obtain ⟨a,n⟩:=p
  show (List.replicate n a ++ expand r).count y = _
  rw [List.count_append,ih hn.2,List.lookup_cons,List.count_replicate]
  by_cases q:y = a
  ·subst q
   rw [lookup_none hn.1]
   simp
  ·have e:(y == a) = false:=by simpa using q
   have e2:(a == y) = false:=by simpa using fun h=>q h.symm
   simp [e,e2]
noncomputable def capL (c:Nat -> Nat) (x:Nat):List Nat:=(ringL c x).map fun k=>nmL c (hoL c k)
set_option tactic.hygienic true in
theorem top_perm (c:Nat -> Nat) (x:Nat):(topL c x).Perm (capL c x):=by
 rw [List.perm_iff_count]
 intro y
 unfold topL
 rw [expand_count (addW_nodup ..),addW_lookup,cs_split]
 have e:whoOf (csL c 5) x = capL c x:=by
  unfold whoOf mineOf capL csL ringL
  rw [List.filter_map,List.filter_map,List.map_map,List.map_map]
  rfl
 rw [e]
 split
 ·rfl
 ·rename_i h; exact (List.count_eq_zero_of_not_mem h).symm
noncomputable def nz3 (l:List Nat):List Nat:=if l = [] then [3] else l
theorem nz_range (l:List Nat):(List.range (room1 l.length)).map (fun i=>l.getD i 3) = nz3 l:=by
 unfold nz3
 cases l with
 | nil=>rfl
 | cons a l=>
  rw [if_neg (by simp)]
  have:room1 (a :: l).length = (a :: l).length:=by
   unfold room1; rw [List.length_cons]; split <;> omega
  rw [this]
  refine List.ext_getElem (by simp) fun j h1 h2=>?_
  rw [List.getElem_map,List.getElem_range,List.getD_eq_getElem?_getD,List.getElem?_eq_getElem h2]; rfl
theorem nz_perm {l m:List Nat} (h:l.Perm m):(nz3 l).Perm (nz3 m):=by
 unfold nz3
 by_cases e:l = []
 ·subst e; rw [List.nil_perm.mp h]
 ·rw [if_neg e,if_neg fun q:m = []=>e (by subst q; exact List.perm_nil.mp h)]; exact h
theorem flat_perm {α β:Type} {f g:α -> List β} (h:∀ a,(f a).Perm (g a)):∀ l:List α,(l.flatMap f).Perm (l.flatMap g)
 | []=>.nil
 | a :: l=>by rw [List.flatMap_cons,List.flatMap_cons]; exact (h a).append (flat_perm h l)
noncomputable def lead3' (t:Nat × Nat × Nat):Bool:=lead3 t.1 t.2.1 t.2.2
theorem box_lead {A0 A1 A2 B0 B1 B2:List Nat} (h0:A0.Perm B0) (h1:A1.Perm B1) (h2:A2.Perm B2) {r0 r1 r2:Nat} (e0:r0 = A0.length) (e1:r1 = A1.length) (e2:r2 = A2.length) :
  ((List.range (room1 r0)).flatMap fun i=>(List.range (room1 r1)).flatMap fun j=>(List.range (room1 r2)).map fun n=>(i,j,n)).countP (fun t=>lead3 (A0.getD t.1 3) (A1.getD t.2.1 3) (A2.getD t.2.2 3)) =
  ((List.range (room1 r0)).flatMap fun i=>(List.range (room1 r1)).flatMap fun j=>(List.range (room1 r2)).map fun n=>(i,j,n)).countP (fun t=>lead3 (B0.getD t.1 3) (B1.getD t.2.1 3) (B2.getD t.2.2 3)):=by
 have go:∀ {C0 C1 C2:List Nat},r0 = C0.length -> r1 = C1.length -> r2 = C2.length -> ((List.range (room1 r0)).flatMap fun i=>(List.range (room1 r1)).flatMap fun j=>(List.range (room1 r2)).map fun n=>(i,j,n)).countP (fun t=>lead3 (C0.getD t.1 3) (C1.getD t.2.1 3) (C2.getD t.2.2 3)) = ((nz3 C0).flatMap fun a=>(nz3 C1).flatMap fun b=>(nz3 C2).map fun d=>(a,b,d)).countP lead3':=by
  rintro C0 C1 C2 rfl rfl rfl
  rw [<- nz_range C0,<- nz_range C1,<- nz_range C2]
  simp only [List.flatMap_map,List.map_map]
  have:∀ (l:List (Nat × Nat × Nat)),l.countP (fun t=>lead3 (C0.getD t.1 3) (C1.getD t.2.1 3) (C2.getD t.2.2 3)) = (l.map fun t=>(C0.getD t.1 3,C1.getD t.2.1 3,C2.getD t.2.2 3)).countP lead3':=fun l=>by rw [List.countP_map]; rfl
  rw [this]
  simp only [List.map_flatMap,List.map_map]
  rfl
 rw [go e0 e1 e2,go (e0.trans h0.length_eq) (e1.trans h1.length_eq) (e2.trans h2.length_eq)]
 refine List.Perm.countP_eq _ ?_
 refine ((nz_perm h0).flatMap_right _).trans ?_
 refine flat_perm (fun a=>?_) _
 refine ((nz_perm h1).flatMap_right _).trans ?_
 exact flat_perm (fun b=>(nz_perm h2).map _) _
theorem sum_count {α:Type} (p:α -> Bool) (d:α) (l:List α):((List.range l.length).map fun i=>if p (l.getD i d) = true then 1 else 0).sum = l.countP p:=by
 have e:(List.range l.length).map (fun i=>if p (l.getD i d) = true then 1 else 0) = l.map fun a=>if p a = true then 1 else 0:=by
  refine List.ext_getElem (by simp) fun j h1 h2=>?_
  rw [List.length_map] at h2
  rw [List.getElem_map,List.getElem_range,List.getElem_map,List.getD_eq_getElem?_getD,List.getElem?_eq_getElem h2]; rfl
 rw [e]
 clear e
 induction l with
 | nil=>rfl
 | cons a l ih=>
  rw [List.map_cons,List.sum_cons,ih,List.countP_cons]
  split <;> omega
section
variable {c:Nat -> Nat}
theorem led_eq (c:Nat -> Nat) (i:Nat):ledL c i = if lead3 ((topL c 0).getD (tL c i).1 3) ((topL c 1).getD (tL c i).2.1 3) ((topL c 2).getD (tL c i).2.2 3) = true then 1 else 0:=by
 have hno:∀ x,x ∉ (fullL c).map (·.1) -> topL c x = []:=fun x q=>by
  refine List.eq_nil_of_length_eq_zero ?_
  rw [top_len]
  by_cases hx:x < 3
  ·have:=mt (key_iff c).mpr q; omega
  ·have:mineOf (csL c 5) x = []:=List.filter_eq_nil_iff.mpr fun t ht=>by have:=(ca_ok c t ht).1; simp; omega
   rw [this]; rfl
 have hv:∀ x,x < 3 -> abvL c i x = v4 ((topL c 0).getD (tL c i).1 3) ((topL c 1).getD (tL c i).2.1 3) ((topL c 2).getD (tL c i).2.2 3) x:=by
  rintro (_ | _ | _ | x) hx
  ·rfl
  ·rfl
  ·rfl
  ·omega
 have hg:∀ y,y < 4 -> abG c i y = v4 ((topL c 0).getD (tL c i).1 3) ((topL c 1).getD (tL c i).2.1 3) ((topL c 2).getD (tL c i).2.2 3) y:=fun y hy=>by
  have h3:∀ x,x ∉ (fullL c).map (·.1) -> abvL c i x = 3:=fun x q=>by unfold abvL; rw [hno x q]; rfl
  unfold abG
  by_cases q:y ∈ (fullL c).map (·.1)
  ·rw [if_pos q]
   exact hv y ((key_iff c).mp q).1
  ·rw [if_neg q]
   by_cases h:y < 3
   ·rw [<- hv y h,h3 y q]
   ·obtain rfl:y = 3:=by omega
    rfl
 unfold ledL
 congr 1
 rw [eq_iff_iff,List.all_eq_true]
 have hx3:∀ x,x < 3 -> (abG c i (abG c i (abvL c i x)) = v4 ((topL c 0).getD (tL c i).1 3) ((topL c 1).getD (tL c i).2.1 3) ((topL c 2).getD (tL c i).2.2 3) (v4 ((topL c 0).getD (tL c i).1 3) ((topL c 1).getD (tL c i).2.1 3) ((topL c 2).getD (tL c i).2.2 3) (abvL c i x))):=fun x hx=>by
  rw [hg _ (abG_lt ..),hg _ (abv_lt ..)]
 have hout:∀ x,x < 3 -> x ∉ (fullL c).map (·.1) -> abG c i (abG c i (abvL c i x)) = 3:=fun x hx q=>by
  have:abvL c i x = 3:=by unfold abvL; rw [hno x q]; rfl
  rw [this,hg 3 (by decide)]
  show abG c i 3 = 3
  rw [hg 3 (by decide)]; rfl
 have hall:(∀ x ∈ (fullL c).map (·.1),decide (abG c i (abG c i (abvL c i x)) = 3) = true) <-> ∀ x,x < 3 -> abG c i (abG c i (abvL c i x)) = 3:=by
  constructor
  ·intro h x hx
   by_cases q:x ∈ (fullL c).map (·.1)
   ·exact of_decide_eq_true (h x q)
   ·exact hout x hx q
  ·intro h x hx
   exact decide_eq_true (h x ((key_iff c).mp hx).1)
 rw [hall]
 unfold lead3
 rw [Bool.and_eq_true,Bool.and_eq_true,beq_iff_eq,beq_iff_eq,beq_iff_eq]
 constructor
 ·intro h
  have h0:=h 0 (by decide)
  have h1:=h 1 (by decide)
  have h2:=h 2 (by decide)
  rw [hx3 _ (by decide)] at h0 h1 h2
  exact ⟨h0,h1,h2⟩
 ·rintro ⟨h0,h1,h2⟩ x hx
  rw [hx3 x hx]
  match x,hx with
  | 0,_=>exact h0
  | 1,_=>exact h1
  | 2,_=>exact h2
set_option tactic.hygienic true in
theorem count_ok (c:Nat -> Nat):whN c (nL c) = leN c (nL c) /\ leftL c 0 = []:=by
 have hnm:=nm_3 c
 obtain ⟨e,he,hho⟩:=hoC_at (ho:=hoL c) fun k h zz=>Nat.mod_lt _ h
 obtain ⟨hz,hr⟩:=raney he hnm
 obtain ⟨hpos,ht0⟩:=starts_pos c
 refine ⟨?_,by rw [whole_iff hho he hpos,ht0]; exact hz⟩
 have h1:whN c (nL c) = (boxes (nmL c)).countP (fun b=>bt e (gcol (ring5 (nmL c) 0) (ring5 (nmL c) 1) (ring5 (nmL c) 2) b)):=by
  rw [<- sum_count _ (0,0,0)]
  unfold whN nL
  rw [starts_boxes]
  refine congrArg List.sum (List.map_congr_left fun i hi=>?_)
  have hi:i < (startsL c).length:=List.mem_range.mp hi
  unfold whoL
  simp only [whole_iff hho he hi]
  rfl
 have h2:leN c (nL c) = (boxes (nmL c)).countP (fun t=>lead3 ((topL c 0).getD t.1 3) ((topL c 1).getD t.2.1 3) ((topL c 2).getD t.2.2 3)):=by
  rw [<- sum_count _ (0,0,0)]
  unfold leN nL
  rw [starts_boxes]
  refine congrArg List.sum (List.map_congr_left fun i hi=>?_)
  rw [led_eq]
  rfl
 have hl:∀ x,(ring5 (nmL c) x).length = (topL c x).length:=fun x=>by
  rw [(top_perm c x).length_eq,capL,List.length_map]; rfl
 rw [h1,hr,h2]
 refine Eq.trans ?_ (box_lead (top_perm c 0) (top_perm c 1) (top_perm c 2) (hl 0) (hl 1) (hl 2)).symm
 refine List.countP_congr fun t ht=>?_
 obtain ⟨a,ha,ht⟩:=List.mem_flatMap.mp ht
 obtain ⟨b,hb,ht⟩:=List.mem_flatMap.mp ht
 obtain ⟨n,hn,rfl⟩:=List.mem_map.mp ht
 have cap:∀ x p,p ∈ List.range (room1 (ring5 (nmL c) x).length) -> capC (nmL c) e (ring5 (nmL c) x) p = (capL c x).getD p 3:=fun x p hp=>by
  unfold capC capL
  rw [<- ring_eq]
  rw [<- ring_eq] at hp
  have hm:∀ k ∈ ringL c x,hoC e k = hoL c k:=fun k hk=>hho k (mem_ring.mp hk).1.1 (mem_ring.mp hk).1.2
  generalize ringL c x = R at *
  cases R with
  | nil=>rfl
  | cons r R=>
   rw [if_neg (by simp)]
   have hp:=List.mem_range.mp hp
   have hp:p < (r :: R).length:=by
    unfold room1 at hp; simp only [List.length_cons] at hp ⊢; split at hp <;> omega
   rw [List.getD_eq_getElem?_getD,List.getD_eq_getElem?_getD,List.getElem?_map,List.getElem?_eq_getElem hp]
   simp only [Option.getD_some,Option.map_some]
   rw [hm _ (List.getElem_mem hp)]
   split
   ·rename_i h0; rw [h0]; rfl
   ·rfl
 rw [cap 0 a ha,cap 1 b hb,cap 2 n hn]
theorem law_ok (c:Nat -> Nat):LawOk c:=by
 obtain ⟨hc,hz⟩:=count_ok c
 obtain ⟨hpos,ht0⟩:=starts_pos c
 have htx:=text_tx hpos
 rw [if_pos hz] at htx
 have hl0:=text_len hpos
 have eA:=Str.length_append (textL c 0) "\"("
 have eB:=Str.length_append (textL c 0) "\\\\\"(\"\\"
 have lA:(Str.ofString "\"(").length = 2:=by kernel_rfl
 have lB:(Str.ofString "\\\\\"(\"\\").length = 6:=by kernel_rfl
 have hlen:∀ x ∈ textsL c,x.length <= 130:=fun x hx=>by
  rcases List.mem_append.mp hx with hx | hx
  ·obtain ⟨i,hi,rfl⟩:=List.mem_map.mp hx
   exact Nat.le_trans (text_len (List.mem_range.mp hi)) (by decide)
  ·simp only [List.mem_cons,List.not_mem_nil,or_false] at hx
   rcases hx with rfl | rfl
   ·unfold txA; omega
   ·unfold txB; omega
 refine ⟨fun i hi=>start_ok hi,hpos,fun x hx=>⟨Nat.le_trans (hlen x hx) (by decide),strip_len (Nat.le_trans (hlen x hx) (by decide))⟩,?_,hc⟩
 unfold textsL duesL
 rw [List.map_append,List.map_map]
 refine congr (congrArg _ ?_) ?_
 ·refine List.map_congr_left fun i hi=>?_
  show (if chkP (textL c i) = true then textL c i else dflt) = if leftL c i = [] then textL c i else bad
  rw [text_chk (List.mem_range.mp hi)]
  by_cases q:leftL c i = []
  ·rw [decide_eq_true q,if_pos rfl,if_pos q]
  ·rw [decide_eq_false q,if_neg Bool.false_ne_true,if_neg q]; exact (rfl:dflt = bad)
 ·have hA:chkP (txA c) = false:=txo_A htx
  have hB:chkP (txB c) = true:=txo_B htx
  rw [List.map_cons,List.map_cons,List.map_nil,chkV,chkV,hA,hB,if_neg Bool.false_ne_true,if_pos rfl]
  exact congrArg (· :: [txB c]) (rfl:dflt = bad)
end
end
section
section
variable {X:Cx} {P:Params} {A:Around} {F:FS} {s:Shared}
structure CallT (X:Cx) (n:Nat) (fv:Value) (ds:List D) (d:D):Prop where
 run:∀ (A:Around) F s vs,Room A n -> A.frames = some [] -> Base X F [] s -> RdL X F vs ds -> wpAny X.M A (call fv vs) (Res X F s d) NoE s
theorem def_t (hX:XOk X P) {a:Addr} {ns:List Str} {ds gs:List D} {d:D} {n:Nat} (hc:defChk P a = true) (hb:(match (fdOf P a).body with | .stmts _=>true | _=>false) = true) (hk:kindChk P a ns = true) (hn:ns.length = gs.length)
  (hbind:∀ F s vs,Base X F [] s -> RdL X F vs ds -> ∃ ws,(∀ S,peek (KK P) S (bindArgs (fdOf P a) ⟨vs,[]⟩) = some (ns.zip ws)) /\ RdL X F ws gs)
  (h:∀ (A:Around) L,Room A n -> A.frames = some [envF P a L] -> Exs X A (envF P a L) (ns.zip gs) [] (fbK P a) (RetP d)):CallT X (n + 1) (.ref a) ds d:=by
 refine ⟨fun A F s vs hA hfr B r=>?_⟩
 obtain ⟨⟨o,ho,hd⟩,ok⟩:=def_ok hX hc (body_ok hb)
 obtain ⟨k1,k2⟩:=kind_ok hk
 obtain ⟨ws,h1,ru⟩:=hbind F s vs B r
 refine call_def B (by have:=hA.d; omega) (B.glob.k _ _ ho) hd ok (kp_binds (K:=KK P) (by rw [<- hX.k]; exact B.glob.k) h1) ru (by rw [hn,ru.length]) k1 k2 fun L ss2 hL I2 xx2 hC=>?_
 refine wpAny_mono (h _ L (hA.deeper _) (Around.frames_deeper hfr) F ss2 I2) (fun f s' p=>?_) fun zz zz e=>e.elim
 obtain ⟨F',Γ',Ω',fl,hr,rf,I',y⟩:=p
 have xO:=(post_ext hL hC xx2 I' y B (fun p hp=>nomatch hp)).ext
 refine ⟨F',xO,?_⟩
 rcases hr with rfl | ⟨rfl,rfl⟩ <;> cases f <;> first | exact rf.elim | exact rf | exact .none
theorem law_call (hX:XOk2 X P) (hX3:XOk3 X P) {ns:List Int} (hn:ns.length <= 1000):CallT X 13 (.ref 136) [iD ns] (.bool true):=
 def_t (n:=12) (ns:=["script"]) (gs:=[iD ns]) hX.toXOk (by kernel_rfl) (by kernel_rfl) (by kernel_rfl) rfl (fun F s vs B r=>⟨vs,by
  obtain ⟨a,rfl⟩:=rdl1 r
  exact fun S=>by kernel_rfl,r⟩) fun A L hA hfr=>law_walk hX hX3 hA hfr hn (law_ok _)
end
theorem well_ints {Pm:Params} {h:Heap} {X:Cx} {F:FS}:∀ (ns:List Int) (vs:List Value),WellAll Pm h vs (ofPys (ns.map PyData.int)) -> RdL X F vs (ns.map D.int)
 | [],vs,w=>by cases w; exact .nil
 | n :: ns,vs,w=>by
  cases w with
  | cons a b=>cases a; exact .cons (.int _ _) (well_ints ns _ b)
noncomputable def tabsX:List (Addr × Addr):=[(27,23),(103,101),(135,133)]
noncomputable def qnX (P:Addr):Str:=if P = 23 then "add_callers.<locals>.<genexpr>" else if P = 101 then "_law_lay.<locals>.<lambda>" else "law.<locals>.<lambda>"
theorem final_walk {w:World} {ss1:Shared} {mg mb:Str -> Option Value} {q:Program} {loose:List Str} {mean:ExcName -> Option Value} {fa:Addr} {ns:List Int} {a:Addr} {c:ClaimW} {cl:Str -> Option Addr} {args:List WData}
  (KX:(hd.heap_1 w.params).In ss1.heap) (hT:∀ P ∈ ([23,101,133]:List Addr),ss1.heap.get? P = some (tabObj #[])) (T:Top q loose mean mg mb ss1.heap) (hmg:mg "law" = some (.ref fa)) (hg:ss1.gens = #[]) (hn:ns.length <= 63) (hw:Well w.params ss1.heap (.ref a) (ofPy (.list (ns.map PyData.int))))
  (hr:∀ k,c.raises args k = false) (hp:c.post args (.bool true) args = true):wpAny (model PySem.Challenge.rw_xh0026_01.row.prog w) callerA (call (.ref fa) [.ref a]) (fun v s'=>GoodWG c cl mean args ss1 (.ok (.ret v)) s') (fun e s'=>GoodWG c cl mean args ss1 (.error e) s') ss1:=by
 let X:Cx:=⟨PySem.Challenge.rw_xh0026_01.row.prog,w,KK w.params,tabsX,mg,mb,ss1.heap,qnX⟩
 have hXT:X.T = [23,101,133]:=rfl
 have ok:CxOk X:=⟨KX,T.g,T.b,T.nolimit,T.builtins,T.bmain,(by
  intro P hP
  simp only [hXT,List.mem_cons,List.not_mem_nil,or_false] at hP
  rcases hP with rfl | rfl | rfl <;> kernel_rfl),(by
  intro p hp
  simp only [X,tabsX,List.mem_cons,List.not_mem_nil,or_false] at hp
  rcases hp with rfl | rfl | rfl
  ·exact ⟨codeHd_of_K KX (by kernel_rfl),hT 23 (by simp)⟩
  ·exact ⟨codeHd_of_K KX (by kernel_rfl),hT 101 (by simp)⟩
  ·exact ⟨codeHd_of_K KX (by kernel_rfl),hT 133 (by simp)⟩)⟩
 let F:FS:=fun b=>if b ∈ X.T then none else ss1.heap.get? b
 have hF:∀ b,b ∉ X.T -> F b = ss1.heap.get? b:=fun b hb=>if_neg hb
 have B:Base X F [] ss1:=by
  refine ⟨⟨ok,fun b o zz e=>e,fun P hP=>⟨#[],ok.tabT P hP,trivial⟩,fun P hP ps e pos v hv=>?_⟩,fun b o hb e=>(hF b hb).trans e,fun b o e=>?_,(fun p hp=>nomatch hp),List.nodup_nil,fun P hP=>if_pos hP⟩
  ·have:=ok.tabT P hP
   rw [show X.h0 = ss1.heap from rfl,e] at this
   cases this
   cases hv
  ·by_cases hb:b ∈ X.T
   ·rw [show F b = none from if_pos hb] at e; cases e
   ·rwa [hF b hb] at e
 have hfa:fa = 136:=by
  have:=B.glob.mg_some (x := "law") (v:=.ref 136) (by kernel_rfl)
  rw [show X.mg "law" = some (.ref fa) from hmg] at this
  exact Value.ref.inj (Option.some.inj this)
 subst hfa
 have r:Rd X F (.ref a) (iD ns):=by
  cases hw with
  | list h1 h2=>
   have hna:a ∉ X.T:=ok.notT h1 fun ⟨ps,h,_⟩=>by cases h
   exact .lst (n:=0) ((hF a hna).trans h1) (well_ints ns _ h2)
 have hA:Room callerA 13:=⟨by decide +kernel,by decide +kernel,rfl⟩
 refine wpAny_mono ((law_call (X:=X) (P:=w.params) ⟨⟨rfl⟩,⟨by simp [X,tabsX],rfl⟩,⟨by simp [X,tabsX],rfl⟩⟩ ⟨⟨rfl⟩,⟨by simp [X,tabsX],rfl⟩⟩ (by omega)).run callerA F ss1 [.ref a] hA rfl B (.one r)) (fun v s' h=>?_) fun zz zz e=>e.elim
 obtain ⟨F',x,rv⟩:=h
 cases rv with
 | bool=>
  refine ⟨.inl ⟨_,.bool true,[],rfl,hr,.bool true,hp,fun zz=>⟨List.nodup_nil,fun a h=>nomatch h⟩⟩,⟨fun b o e=>?_,fun b o e=>?_⟩,x.os,x.gens.2 (.of_eq hg)⟩
  ·by_cases hb:b ∈ X.T
   ·obtain ⟨q,hq,rfl⟩:=List.mem_map.mp hb
    obtain ⟨ps,hps,ht⟩:=x.glob.tabs_ok q.2 hb
    obtain ⟨c0,_⟩:=ok.tab q hq
    have e0:=ok.tabT q.2 hb
    have ht0:=c0.tab e0
    rw [show X.h0 = ss1.heap from rfl,e] at e0
    cases e0
    exact .inr (.inl ⟨ht0.isCodeTable,rfl,#[],ps,rfl,by simpa using hps⟩)
   ·exact .inl (x.keep b o hb e)
  ·by_cases hb:b ∈ X.T
   ·obtain ⟨ps,hps,_⟩:=x.glob.tabs_ok b hb; exact ⟨_,hps⟩
   ·exact ⟨o,x.keep b o hb e⟩
end
end Mine
set_option tactic.hygienic true in
theorem PySem.Challenge.cw_xh0026_01_holds : PySem.Challenge.rw_xh0026_01.Holds := by
 refine Mine.hd ?_
 intro w ss0 ss1 mg mb G Y fa o pm cd doc dV kV ho hd hcd hD hmg hg args vals as hpre hlay hrd hwl hlo
 have KX:=km_in_of Y
 have hT:=km_tabs_of Y
 have T:=G.T
 clear Y G ho hd hcd hD
 wrow_args hpre hlay hrd hwl hlo
 rename_i hs hlay0 hL1 hr1 hl2 _ _ _ _ _ hL ra hW r0 hI hr hcl _
 clear hs hlay0 hL1 hr1 hl2 hL ra r0 hI hr
 exact Mine.final_walk KX hT T hmg hg (by omega) hW (fun k=>rfl) (by wrow_post)
