import PyProof.Rows.All
import Wide.All
import OpenK.AllK
import Wide.FinOn
import KE.KSortKey
import KE.KLam
import Flt.RightOps
import Lean
import PySem.Challenge.RW_rw0124_01
open PySem PySem.W PyProof.Rows PySem.Calls
set_option Elab.async false
set_option compiler.extract_closed false
set_option genSizeOf false
set_option genSizeOfSpec false
set_option genInjectivity false
set_option bootstrap.genMatcherCode false
set_option backward.match.sparseCases false
set_option linter.unusedVariables false
set_option linter.unusedSimpArgs false
namespace Mine.Internal
theorem aj {α:Type _} {a b:α} (h:some a=some b):a=b:=Option.some.inj h
theorem bj {a b:Bool} (h:(a&&b)=true):a=true∧b=true:=Bool.and_eq_true_iff.mp h
theorem aH {α:Type _} {a:α} {l:List α}:a∈a::l:=List.mem_cons_self
theorem cJ {α:Type _} (b:α) {a:α} {l:List α} (h:a∈l):a∈b::l:=List.mem_cons_of_mem b h
theorem dw {a b:Nat} (h:Nat.ble a b=true):a≤b:=Nat.le_of_ble_eq_true h
theorem aQ {h:Heap} {a:Addr} {o1:Obj} (o:Obj) (e:h.get? a=some o1):(h.push o).get? a=some o1:=Heap.get?_push_of_some o e
theorem cI {p:Prop} [Decidable p] (h:decide p=true):p:=of_decide_eq_true h
theorem cM {α:Type _} {a b:α} {l:List α} (h:a∈b::l):a=b∨a∈l:=List.mem_cons.mp h
theorem aF {a b c:Nat} (h:a≤b) (k:b≤c):a≤c:=Nat.le_trans h k
theorem bw (h:Heap) {o:Obj} (q:o.isFreed=false):(h.push o).get? h.objs.size=some o:=Heap.get?_push_size h q
local macro_rules | `(tactic| omega)=>`(tactic| first | lia | omega (config:={}))
theorem bc {P:Prop} (h:∀ g:Prop,(P→g)→g):P:=h P id
structure Ws where
 raw:Str
 n:Int
 nt:Int
 count:List Int
 b:Int
inductive D where
 | none
 | bool (b:Bool)
 | int (i:Int)
 | float (x:UInt64)
 | str (s:Str)
 | list (xs:List D)
 | tup (xs:List D)
 | range (lo hi:Int)
 | ws (x:Ws)
 | iset (S:Int→Bool)
 | imap (f:Int→Option Str)
 | obj (a:Addr)
 deriving Inhabited
structure Fix where
 ws:Addr
 set:Addr→(Int→Bool)→Prop
 map:Addr→(Int→Option Str)→Prop
noncomputable def SetObj (o:Obj) (S:Int→Bool):Prop:=∃ n,n < scanBound∧o.IntSetOf S n
noncomputable def G7 (o:Obj) (f:Int→Option Str):Prop:=o.ExactDict∧∃ es ep,o.data=.dict es ep∧(∀ prog w,KeysOf (intKind prog w) es)∧∀ k,match f k with
 | some x=>∃ t,findBy Value.isInt es k=some (.str x t)
 | none=>findBy Value.isInt es k=none
structure FixOk (K:Frag) (F:Fix):Prop where
 set:∀ a S,F.set a S→∃ o,K.lookup a=some o∧SetObj o S
 map:∀ a f,F.map a f→(a==sysModules)=false∧∃ o,K.lookup a=some o∧G7 o f
noncomputable abbrev AP:=Addr→Prop
noncomputable def meths:List Str:=["less","indent_level","longest_run_of_spaces","not_equal_witness"]
inductive IsWs (wsC:Fix) (ok:AP) (h:Heap) (a:Addr) (x:Ws):Prop where
 | mk (dx ct nm:Addr) (es:List DictEntry) (n n1 n2:Nat) (vs:List Value) (t1 t2 t3 t4:Tok) (sl:Array (Option Value)) (o1:ok a) (o2:ok dx) (o3:ok ct) (o4:ok nm) (g1:h.get? a=some ⟨.ref wsC.ws,some dx,.plain,sl⟩)
  (g2:h.get? dx=some (dictOf es n))
  (r1:getL "raw" es=some (some (.str x.raw t1))) (r2:getL "n" es=some (some (.int x.n t2))) (r3:getL "nt" es=some (some (.int x.nt t3)))
  (r4:getL "norm" es=some (some (.ref nm))) (r5:getL "is_simple" es=some (some (.bool (decide (x.count.length≤1)))))
  (r6:∀ m∈meths,getL m es=some none)
  (g3:h.get? nm=some { cls := .type "tuple",data := .seq #[.ref ct,.int x.b t4] n1 }) (g4:h.get? ct=some { cls := .type "tuple",data := .seq (List.toArray vs) n2 }) (iv:IntsAre vs x.count):IsWs wsC ok h a x
inductive SeqQ (ok:AP) (h:Heap) (k:String) (P:List Value→Prop) (v:Value):Prop where
 | mk (a:Addr) (vs:List Value) (n:Nat) (e:v=.ref a) (o:ok a) (g:h.get? a=some { cls := .type k,data := .seq (List.toArray vs) n }) (r:P vs):SeqQ ok h k P v
inductive RefQ (P:Addr→Prop) (v:Value):Prop where
 | mk (a:Addr) (e:v=.ref a) (p:P a):RefQ P v
inductive RangeQ (ok:AP) (h:Heap) (lo hi:Int) (v:Value):Prop where
 | mk (a:Addr) (t u w:Tok) (e:v=.ref a) (o:ok a) (g:IsRange h a lo hi 1 t u w):RangeQ ok h lo hi v
inductive ConsQ (P:Value→Prop) (Q:List Value→Prop) (vs:List Value):Prop where
 | mk (v:Value) (vs':List Value) (e:vs=v :: vs') (a:P v) (b:Q vs'):ConsQ P Q vs
section
variable (wsC:Fix) (ok:AP) (h:Heap)
noncomputable def Rep (v:Value) (d:D):Prop :=
 D.rec (motive_1:=fun _=>Value→Prop) (motive_2:=fun _=>List Value→Prop) (fun v=>v=.none) (fun b v=>v=.bool b) (fun i v=>∃ t,v=.int i t) (fun x v=>∃ t,v=.float x t) (fun x v=>∃ t,v=.str x t)
  (fun _=>SeqQ ok h "list") (fun _=>SeqQ ok h "tuple") (RangeQ ok h) (fun x=>RefQ fun a=>IsWs wsC ok h a x) (fun S=>RefQ fun a=>wsC.set a S) (fun f=>RefQ fun a=>wsC.map a f) (fun a v=>v=.ref a)
  (fun vs=>vs=[]) (fun _ _=>ConsQ) d v
noncomputable def RepL (vs:List Value) (ds:List D):Prop :=
 D.rec_1 (motive_1:=fun _=>Value→Prop) (motive_2:=fun _=>List Value→Prop) (fun v=>v=.none) (fun b v=>v=.bool b) (fun i v=>∃ t,v=.int i t) (fun x v=>∃ t,v=.float x t) (fun x v=>∃ t,v=.str x t)
  (fun _=>SeqQ ok h "list") (fun _=>SeqQ ok h "tuple") (RangeQ ok h) (fun x=>RefQ fun a=>IsWs wsC ok h a x) (fun S=>RefQ fun a=>wsC.set a S) (fun f=>RefQ fun a=>wsC.map a f) (fun a v=>v=.ref a)
  (fun vs=>vs=[]) (fun _ _=>ConsQ) ds vs
end
section
variable {wsC:Fix} {ok:AP} {h:Heap}
theorem Rep.none:Rep wsC ok h .none .none:=rfl
theorem Rep.bool (b:Bool):Rep wsC ok h (.bool b) (.bool b):=rfl
theorem Rep.int (i:Int) (t:Tok):Rep wsC ok h (.int i t) (.int i):=⟨t,rfl⟩
theorem Rep.float (x:UInt64) (t:Tok):Rep wsC ok h (.float x t) (.float x):=⟨t,rfl⟩
theorem Rep.str (s:Str) (t:Tok):Rep wsC ok h (.str s t) (.str s):=⟨t,rfl⟩
theorem Rep.list {a:Addr} {vs:List Value} {n:Nat} {ds:List D} (o:ok a) (g:h.get? a=some { cls := .type "list",data := .seq (List.toArray vs) n }) (r:RepL wsC ok h vs ds):Rep wsC ok h (.ref a) (.list ds):=⟨a,vs,n,rfl,o,g,r⟩
theorem Rep.tup {a:Addr} {vs:List Value} {n:Nat} {ds:List D} (o:ok a) (g:h.get? a=some { cls := .type "tuple",data := .seq (List.toArray vs) n }) (r:RepL wsC ok h vs ds):Rep wsC ok h (.ref a) (.tup ds):=⟨a,vs,n,rfl,o,g,r⟩
theorem Rep.range {a:Addr} {lo hi:Int} {t u v:Tok} (o:ok a) (g:IsRange h a lo hi 1 t u v):Rep wsC ok h (.ref a) (.range lo hi):=⟨a,t,u,v,rfl,o,g⟩
theorem Rep.ws {a:Addr} {x:Ws} (r:IsWs wsC ok h a x):Rep wsC ok h (.ref a) (.ws x):=⟨a,rfl,r⟩
theorem Rep.iset {a:Addr} {S:Int→Bool} (r:wsC.set a S):Rep wsC ok h (.ref a) (.iset S):=⟨a,rfl,r⟩
theorem Rep.imap {a:Addr} {f:Int→Option Str} (r:wsC.map a f):Rep wsC ok h (.ref a) (.imap f):=⟨a,rfl,r⟩
theorem Rep.obj (a:Addr):Rep wsC ok h (.ref a) (.obj a):=rfl
theorem RepL.nil:RepL wsC ok h [] []:=rfl
theorem RepL.cons {v:Value} {d:D} {vs:List Value} {ds:List D} (a:Rep wsC ok h v d) (b:RepL wsC ok h vs ds):RepL wsC ok h (v :: vs) (d :: ds):=⟨v,vs,rfl,a,b⟩
end
section
variable {wsC:Fix} {ok:AP} {h:Heap} {v:Value} {vs:List Value}
structure SeqRep (c:String) (wsC:Fix) (ok:AP) (h:Heap) (ds:List D) (a:Addr) (vs:List Value) (n:Nat):Prop where
 o:ok a
 g:h.get? a=some { cls := .type c,data := .seq (List.toArray vs) n }
 r:RepL wsC ok h vs ds
inductive SeqIs (k:String) (wsC:Fix) (ok:AP) (h:Heap) (ds:List D) (v:Value):Prop where
 | mk (a:Addr) (vs:List Value) (n:Nat) (e:v=.ref a) (q:SeqRep k wsC ok h ds a vs n):SeqIs k wsC ok h ds v
theorem Rep.none_inv (r:Rep wsC ok h v .none):v=.none:=r
theorem Rep.bool_inv {b:Bool} (r:Rep wsC ok h v (.bool b)):v=.bool b:=r
theorem Rep.int_inv {i:Int} (r:Rep wsC ok h v (.int i)):∃ t,v=.int i t:=r
theorem Rep.float_inv {x:UInt64} (r:Rep wsC ok h v (.float x)):∃ t,v=.float x t:=r
theorem Rep.str_inv {x:Str} (r:Rep wsC ok h v (.str x)):∃ t,v=.str x t:=r
theorem O3 {k:String} {ds:List D} (r:SeqQ ok h k (fun vs=>RepL wsC ok h vs ds) v):SeqIs k wsC ok h ds v:=by
 obtain ⟨a,vs,n,e,o,g,r⟩:=r
 exact ⟨a,vs,n,e,o,g,r⟩
theorem Rep.list_inv {ds:List D} (r:Rep wsC ok h v (.list ds)):SeqIs "list" wsC ok h ds v:=O3 r
theorem Rep.tup_inv {ds:List D} (r:Rep wsC ok h v (.tup ds)):SeqIs "tuple" wsC ok h ds v:=O3 r
theorem Rep.range_inv {lo hi:Int} (r:Rep wsC ok h v (.range lo hi)):RangeQ ok h lo hi v:=r
theorem Rep.ws_inv {x:Ws} (r:Rep wsC ok h v (.ws x)):RefQ (fun a=>IsWs wsC ok h a x) v:=r
theorem Rep.iset_inv {S:Int→Bool} (r:Rep wsC ok h v (.iset S)):RefQ (fun a=>wsC.set a S) v:=r
theorem Rep.imap_inv {f:Int→Option Str} (r:Rep wsC ok h v (.imap f)):RefQ (fun a=>wsC.map a f) v:=r
theorem Rep.obj_inv {a:Addr} (r:Rep wsC ok h v (.obj a)):v=.ref a:=r
theorem RepL.nil_inv (r:RepL wsC ok h vs []):vs=[]:=r
inductive Rep1 (wsC:Fix) (ok:AP) (h:Heap) (vs:List Value) (d:D):Prop where
 | mk (v:Value) (e:vs=[v]) (a:Rep wsC ok h v d):Rep1 wsC ok h vs d
inductive Rep2 (wsC:Fix) (ok:AP) (h:Heap) (vs:List Value) (d1 d2:D):Prop where
 | mk (v u:Value) (e:vs=[v,u]) (a:Rep wsC ok h v d1) (b:Rep wsC ok h u d2):Rep2 wsC ok h vs d1 d2
inductive Rep3 (wsC:Fix) (ok:AP) (h:Heap) (vs:List Value) (d1 d2 d3:D):Prop where
 | mk (v u x:Value) (e:vs=[v,u,x]) (a:Rep wsC ok h v d1) (b:Rep wsC ok h u d2) (c:Rep wsC ok h x d3):Rep3 wsC ok h vs d1 d2 d3
theorem RepL.cons_inv {d:D} {ds:List D} (r:RepL wsC ok h vs (d :: ds)):ConsQ (fun v=>Rep wsC ok h v d) (fun vs=>RepL wsC ok h vs ds) vs:=r
theorem RepL.ind {M:List Value→List D→Prop} (hn:M [] []) (hc:∀ {v:Value} {d:D} {vs:List Value} {ds:List D},Rep wsC ok h v d→RepL wsC ok h vs ds→M vs ds→M (v :: vs) (d :: ds)) {ds:List D}:∀ {vs:List Value},RepL wsC ok h vs ds→M vs ds:=by
 induction ds with
 | nil=>intro vs r; rw [r.nil_inv]; exact hn
 | cons d ds ih=>intro vs r; obtain ⟨v,vs',rfl,a,b⟩:=r.cons_inv; exact hc a b (ih b)
theorem RepL.one_inv {d:D} (r:RepL wsC ok h vs [d]):Rep1 wsC ok h vs d:=by
 obtain ⟨v,vs',rfl,a,b⟩:=r.cons_inv
 rw [b.nil_inv]; exact ⟨v,rfl,a⟩
theorem RepL.two_inv {d e:D} (r:RepL wsC ok h vs [d,e]):Rep2 wsC ok h vs d e:=by
 obtain ⟨v,vs',rfl,a,b⟩:=r.cons_inv
 obtain ⟨u,rfl,c⟩:=b.one_inv
 exact ⟨v,u,rfl,a,c⟩
theorem RepL.three_inv {d e f:D} (r:RepL wsC ok h vs [d,e,f]):Rep3 wsC ok h vs d e f:=by
 obtain ⟨v,vs',rfl,a,b⟩:=r.cons_inv
 obtain ⟨u,x,rfl,c,d⟩:=b.two_inv
 exact ⟨v,u,x,rfl,a,c,d⟩
end
theorem IsWs.mono {wsC:Fix} {ok ok':AP} {h h':Heap} {a:Addr} {x:Ws} (hk:∀ b o,ok b→h.get? b=some o→ok' b∧h'.get? b=some o) (r:IsWs wsC ok h a x):IsWs wsC ok' h' a x:=by
 obtain ⟨dx,ct,nm,es,n,n1,n2,vs,t1,t2,t3,t4,sl,o1,o2,o3,o4,g1,g2,r1,r2,r3,r4,r5,r6,g3,g4,iv⟩:=r
 exact ⟨dx,ct,nm,es,n,n1,n2,vs,t1,t2,t3,t4,sl,(hk _ _ o1 g1).1,(hk _ _ o2 g2).1,(hk _ _ o3 g4).1,(hk _ _ o4 g3).1,(hk _ _ o1 g1).2,(hk _ _ o2 g2).2,r1,r2,r3,r4,r5,r6,(hk _ _ o4 g3).2,(hk _ _ o3 g4).2,iv⟩
section
variable {wsC:Fix} {ok ok':AP} {h h':Heap}
theorem SeqQ.mono (hk:∀ b o,ok b→h.get? b=some o→ok' b∧h'.get? b=some o) {k:String} {P P':List Value→Prop} {v:Value} (hp:∀ {vs},P vs→P' vs) (r:SeqQ ok h k P v):SeqQ ok' h' k P' v:=by
 obtain ⟨a,vs,n,e,o,g,r⟩:=r
 exact ⟨a,vs,n,e,(hk _ _ o g).1,(hk _ _ o g).2,hp r⟩
theorem RangeQ.mono (hk:∀ b o,ok b→h.get? b=some o→ok' b∧h'.get? b=some o) {lo hi:Int} {v:Value} (r:RangeQ ok h lo hi v):RangeQ ok' h' lo hi v:=by
 obtain ⟨a,t,u,w,e,o,g⟩:=r
 exact ⟨a,t,u,w,e,(hk _ _ o g).1,(hk _ _ o g).2⟩
theorem RefQ.mono {P P':Addr→Prop} {v:Value} (hp:∀ a,P a→P' a) (r:RefQ P v):RefQ P' v:=by
 obtain ⟨a,e,r⟩:=r
 exact ⟨a,e,hp a r⟩
theorem ConsQ.mono {P P':Value→Prop} {Q Q':List Value→Prop} {vs:List Value} (hp:∀ {v},P v→P' v) (hq:∀ {vs},Q vs→Q' vs) (r:ConsQ P Q vs):ConsQ P' Q' vs:=by
 obtain ⟨v,vs',e,a,b⟩:=r
 exact ⟨v,vs',e,hp a,hq b⟩
theorem Rep.mono (hk:∀ b o,ok b→h.get? b=some o→ok' b∧h'.get? b=some o) {v:Value} {d:D} (r:Rep wsC ok h v d):Rep wsC ok' h' v d :=
 D.rec (motive_1:=fun d=>∀ v,Rep wsC ok h v d→Rep wsC ok' h' v d) (motive_2:=fun ds=>∀ vs,RepL wsC ok h vs ds→RepL wsC ok' h' vs ds) (fun _ r=>r) (fun _ _ r=>r) (fun _ _ r=>r) (fun _ _ r=>r) (fun _ _ r=>r)
  (fun _ ih _ r=>SeqQ.mono hk (ih _) r) (fun _ ih _ r=>SeqQ.mono hk (ih _) r) (fun _ _ _ r=>RangeQ.mono hk r) (fun _ _ r=>RefQ.mono (fun _ r=>r.mono hk) r) (fun _ _ r=>r) (fun _ _ r=>r) (fun _ _ r=>r)
  (fun _ r=>r) (fun _ _ ia ib _ r=>ConsQ.mono (ia _) (ib _) r) d v r
theorem RepL.mono (hk:∀ b o,ok b→h.get? b=some o→ok' b∧h'.get? b=some o) {vs:List Value} {ds:List D} (r:RepL wsC ok h vs ds):RepL wsC ok' h' vs ds :=
 RepL.ind (M:=fun vs ds=>RepL wsC ok' h' vs ds) .nil (fun a _ ih => .cons (Rep.mono hk a) ih) r
theorem Rep.keep {v:Value} {d:D} (r:Rep wsC ok h v d) (hk:∀ b o,h.get? b=some o→h'.get? b=some o):Rep wsC ok h' v d:=r.mono fun b o a e=>⟨a,hk b o e⟩
theorem RepL.keep {v:List Value} {d:List D} (r:RepL wsC ok h v d) (hk:∀ b o,h.get? b=some o→h'.get? b=some o):RepL wsC ok h' v d:=r.mono fun b o a e=>⟨a,hk b o e⟩
theorem Rep.weak {v:Value} {d:D} (r:Rep wsC ok h v d) (hk:∀ b o,h.get? b=some o→ok b→ok' b):Rep wsC ok' h v d:=r.mono fun b o a e=>⟨hk b o e a,e⟩
theorem RepL.weak {v:List Value} {d:List D} (r:RepL wsC ok h v d) (hk:∀ b o,h.get? b=some o→ok b→ok' b):RepL wsC ok' h v d:=r.mono fun b o a e=>⟨hk b o e a,e⟩
theorem RepL.length {vs:List Value} {ds:List D} (r:RepL wsC ok h vs ds):vs.length=ds.length :=
 RepL.ind (M:=fun vs ds=>vs.length=ds.length) rfl (fun _ _ ih=>congrArg (·+1) ih) r
theorem RepL.get {vs:List Value} {ds:List D} (r:RepL wsC ok h vs ds):∀ {i:Nat} {d:D},ds[i]? = some d→∃ v,vs[i]? = some v∧Rep wsC ok h v d :=
 RepL.ind (M:=fun vs ds=>∀ {i:Nat} {d:D},ds[i]? = some d→∃ v,vs[i]? = some v∧Rep wsC ok h v d) (fun e=>by simp at e) (fun {v _ _ _} a _ ih {i d} e=>by
  induction i using Nat.casesAuxOn with
  | zero=>obtain rfl:=aj e; exact ⟨v,rfl,a⟩
  | succ i=>rw [List.getElem?_cons_succ] at e ⊢; exact ih e) r
theorem RepL.getV {vs:List Value} {ds:List D} (r:RepL wsC ok h vs ds):∀ {i:Nat} {v:Value},vs[i]? = some v→∃ d,ds[i]? = some d∧Rep wsC ok h v d :=
 RepL.ind (M:=fun vs ds=>∀ {i:Nat} {v:Value},vs[i]? = some v→∃ d,ds[i]? = some d∧Rep wsC ok h v d) (fun e=>by simp at e) (fun {_ d _ _} a _ ih {i v} e=>by
  induction i using Nat.casesAuxOn with
  | zero=>obtain rfl:=aj e; exact ⟨d,rfl,a⟩
  | succ i=>rw [List.getElem?_cons_succ] at e ⊢; exact ih e) r
theorem RepL.append {vs vs':List Value} {ds ds':List D} (r:RepL wsC ok h vs ds) (q:RepL wsC ok h vs' ds'):RepL wsC ok h (vs++vs') (ds++ds') :=
 RepL.ind (M:=fun vs ds=>RepL wsC ok h (vs++vs') (ds++ds')) q (fun a _ ih => .cons a ih) r
theorem RepL.drop {vs:List Value} {ds:List D} (n:Nat) (r:RepL wsC ok h vs ds):RepL wsC ok h (vs.drop n) (ds.drop n) :=
 RepL.ind (M:=fun vs ds=>∀ n,RepL wsC ok h (vs.drop n) (ds.drop n)) (fun n=>by rw [List.drop_nil,List.drop_nil]; exact .nil) (fun a b ih n=>by
  induction n using Nat.casesAuxOn with
  | zero=>exact .cons a b
  | succ n=>exact ih n) r n
theorem RepL.take {vs:List Value} {ds:List D} (n:Nat) (r:RepL wsC ok h vs ds):RepL wsC ok h (vs.take n) (ds.take n) :=
 RepL.ind (M:=fun vs ds=>∀ n,RepL wsC ok h (vs.take n) (ds.take n)) (fun n=>by rw [List.take_nil,List.take_nil]; exact .nil) (fun a b ih n=>by
  induction n using Nat.casesAuxOn with
  | zero=>exact .nil
  | succ n=>exact .cons a (ih n)) r n
theorem RepL.snoc {vs:List Value} {ds:List D} {v:Value} {d:D} (r:RepL wsC ok h vs ds) (a:Rep wsC ok h v d):RepL wsC ok h (vs++[v]) (ds++[d]):=r.append (.cons a .nil)
theorem RepL.ints {vs:List Value} {ns:List Int} (r:IntsAre vs ns):RepL wsC ok h vs (ns.map D.int):=by
 induction r with
 | nil=>exact .nil
 | cons n t r ih=>exact .cons (.int n t) ih
theorem RepL.toInts {ns:List Int}:∀ {vs:List Value},RepL wsC ok h vs (ns.map D.int)→IntsAre vs ns:=by
 induction ns with
 | nil=>intro vs r; rw [r.nil_inv]; exact .nil
 | cons n ns ih =>
  intro vs r
  obtain ⟨v,vs',rfl,a,b⟩:=r.cons_inv
  obtain ⟨t,rfl⟩:=a.int_inv
  exact .cons n t (ih b)
end
noncomputable abbrev gd (s:Shared):Array GenState × Drawn:=(s.gens,s.drawn)
structure Grow (s s':Shared):Prop where
 keep:∀ b o,s.heap.get? b=some o→s'.heap.get? b=some o
 gens:gd s'=gd s
 os:s'.os=s.os
theorem Grow.refl (s:Shared):Grow s s:=⟨fun _ _ e=>e,rfl,rfl⟩
theorem Grow.trans {a b c:Shared} (x:Grow a b) (y:Grow b c):Grow a c:=⟨fun p o e=>y.keep p o (x.keep p o e),y.gens.trans x.gens,y.os.trans x.os⟩
theorem Grow.tok {s:Shared} (t:Nat):Grow s { s with toks:=t }:=⟨fun _ _ e=>e,rfl,rfl⟩
theorem Grow.push {s:Shared} (o:Obj) (t:Nat):Grow s { s with heap:=s.heap.push o,toks:=t }:=⟨fun _ _ e=>aQ _ e,rfl,rfl⟩
theorem Grow.heap {s:Shared} {h':Heap} (t:Nat) (hk:∀ b o,s.heap.get? b=some o→h'.get? b=some o):Grow s { s with heap:=h',toks:=t }:=⟨hk,rfl,rfl⟩
structure OkA (A:Around) (n:Nat):Prop where
 h:A.handled=none
 d:A.depth+n≤900
 u:A.units+10*n≤9000
theorem OkA.le {A:Around} {n m:Nat} (x:OkA A n) (h:m≤n):OkA A m:=⟨x.h,by have:=x.d; omega,by have:=x.u; omega⟩
theorem OkA.room {A:Around} {n:Nat} (x:OkA A n):A.depth < recursionLimit:=by have:=x.d; have:recursionLimit=1000:=rfl; omega
theorem OkA.deeper {A:Around} {n:Nat} (x:OkA A (n+1)) (e:Env):OkA (A.deeper e) n:=⟨x.h,by have:=x.d; show A.depth+1+n≤900; omega,by have:=x.u; show A.units+3+10*n≤9000; omega⟩
noncomputable def Fresh (ok:AP) (h:Heap):Prop:=∀ a,h.get? a=none→ok a
theorem dW {h:Heap} {a:Addr} (ha:h.objs.size≤a):h.get? a=none:=by
 cases e:h.get? a with
 | none=>rfl
 | some o=>exact absurd (Heap.lt_size e) (Nat.not_lt.mpr ha)
theorem Fresh.new {ok:AP} {h:Heap} (x:Fresh ok h):ok h.objs.size:=x _ (dW (Nat.le_refl _))
theorem Fresh.keep {ok:AP} {h h':Heap} (x:Fresh ok h) (hk:∀ b o,h.get? b=some o→h'.get? b=some o):Fresh ok h':=fun a ha=>x a (by
 cases e:h.get? a with
 | none=>rfl
 | some o=>rw [hk a o e] at ha; cases ha)
structure Gl (K:Frag) (mg:Str→Option Value) (h:Heap):Prop where
 X:K.In h
 g:h.Ns mainGlobals mg
 b:∃ mb,h.Ns builtinsNs mb∧∀ x:Str,x ≠ "__name__" → mb x=bootBuiltins x
 nl:h.NoLimit
theorem Gl.keep {K:Frag} {mg:Str→Option Value} {h h':Heap} (x:Gl K mg h) (hk:∀ b o,h.get? b=some o→h'.get? b=some o):Gl K mg h' :=
 ⟨x.X.keeps hk,x.g.keeps hk,by obtain ⟨mb,a,c⟩:=x.b; exact ⟨mb,a.keeps hk,c⟩,x.nl.keeps hk⟩
noncomputable abbrev Wp (prog:Program) (w:World) {α:Type} (A:Around) (t:Sem α) (s:Shared) (P:α→Shared→Prop):Prop:=wpAny (model prog w) A t P (fun _ _=>False) s
section
variable {prog:Program} {w:World} {α β:Type} {A:Around} {s:Shared}
theorem Wp.mono {t:Sem α} {P P':α→Shared→Prop} (h:Wp prog w A t s P) (hp:∀ a s',P a s'→P' a s'):Wp prog w A t s P':=wpAny_mono h hp fun _ _ e=>e
end
noncomputable def rM (x:Str) (n:Int):Str:=if n < 1 then Str.empty else if (n==1||x.length==0)=true then x else ⟨(List.replicate n.toNat x.cps).foldl (·++·) #[]⟩
noncomputable def au {α:Type} (c:Bool) (x:α):Option α:=match c with | true=>some x | false=>none
theorem dM {P:Prop} (h:false=true):P:=nomatch h
theorem aO {α:Type} {a:α} {P:Prop} (h:(none:Option α)=some a):P:=nomatch h
theorem bnf {b:Bool} (h:(!b)=true):¬ b=true:=by cases b <;> simp_all
theorem ak {α:Type} {c:Bool} {x y:α} (h:au c x=some y):c=true∧x=y:=by cases c <;> simp [au] at h; exact ⟨rfl,h⟩
noncomputable def W8 (op:Operator) (a b:Int):Option D:=match op with
 | .Add=>some (.int (a+b))
 | .Sub=>some (.int (a-b))
 | .Mult=>au (decide (a.natAbs < 2 ^ 62)) (.int (a*b))
 | .Mod=>au (decide (b≠0)) (.int (a.fmod b))
 | .FloorDiv=>au (decide (b≠0)&&!Builtin.divisionGoesByPylong a b) (.int (a.fdiv b))
 | .Div=>au (decide (b≠0)&&!Float64.isInf (Float64.ofFrac (decide (a < 0) != decide (b < 0)) a.natAbs b.natAbs)) (.float (Float64.ofFrac (decide (a < 0) != decide (b < 0)) a.natAbs b.natAbs))
 | .Pow=>au (decide (a=10)&&decide (b=6)) (.int 1000000)
 | _=>none
noncomputable def Yk (op:Operator) (a b:UInt64):Option D:=match op with
 | .Add=>some (.float (Float64.add a b))
 | .Sub=>some (.float (Float64.sub a b))
 | .Mult=>some (.float (Float64.mul a b))
 | .Div=>au (!Float64.isZero b) (.float (Float64.div a b))
 | .Mod=>au (!Float64.isZero b) (.float (Float64.divmod a b).2)
 | _=>none
noncomputable def Xy (op:Operator) (a:UInt64) (b:Int):Option D:=match op with
 | .Add=>au (!Float64.isInf (Float64.ofInt b)) (.float (Float64.add a (Float64.ofInt b)))
 | .Sub=>au (!Float64.isInf (Float64.ofInt b)) (.float (Float64.sub a (Float64.ofInt b)))
 | _=>none
noncomputable def Xd (op:Operator) (a:Int) (b:UInt64):Option D:=match op with
 | .Mult=>au (!Float64.isInf (Float64.ofInt a)) (.float (Float64.mul (Float64.ofInt a) b))
 | _=>none
noncomputable def Xi (op:Operator) (x y:Str):Option D:=match op with
 | .Add=>au (decide (x.length+y.length≤sizeLine)) (.str (x++y))
 | _=>none
noncomputable def W9 (op:Operator) (x:Str) (n:Int):Option D:=match op with
 | .Mult=>au (decide (0≤n)&&decide (n≤1000)&&decide (x.length≤1000)) (.str (rM x n))
 | _=>none
noncomputable def XC (op:Operator) (xs ys:List D):Option D:=match op with
 | .Add=>au (decide (xs.length+ys.length≤sizeLine)) (.list (xs++ys))
 | _=>none
noncomputable def Yi (op:Operator) (xs:List D) (k:Int):Option D:=match op with
 | .Mult=>au (decide (0≤k)&&decide (k≤1000)&&decide (xs.length≤1000)&&decide (xs≠[])) (.list (List.replicate k.toNat xs).flatten)
 | _=>none
noncomputable def bin (op:Operator) (d e:D):Option D:=match d with
 | .int a=>(match e with | .int b=>W8 op a b | .float b=>Xd op a b | _=>none)
 | .float a=>(match e with | .float b=>Yk op a b | .int b=>Xy op a b | _=>none)
 | .str x=>(match e with | .str y=>Xi op x y | .int n=>W9 op x n | _=>none)
 | .list xs=>(match e with | .list ys=>XC op xs ys | .int n=>Yi op xs n | _=>none)
 | _=>none
theorem RJ (c:Array Nat):∀ (k:Nat) (i:Array Nat),((List.replicate k c).foldl (fun x1 x2=>x1++x2) i).size=i.size+k*c.size:=by
 intro k
 induction k with
 | zero =>
   intro i
   simp
 | succ k ih =>
   intro i
   rw [List.replicate_succ,List.foldl_cons,ih]; simp [Nat.add_mul]; omega
section
variable {prog:Program} {w:World} {A:Around} {s:Shared} {wsC:Fix} {ok:AP}
theorem DP {a b:Int} (h:a.natAbs < 2 ^ 62):IntMulOk a b:=by
 intro q
 simp only [Bool.and_eq_true,decide_eq_true_eq] at q
 have h1:Builtin.Int.intBits a≤64:=intBits_le_64 (by omega) (by omega)
 have:shortFactorBits=64:=rfl
 omega
theorem Ij {x:Str} {n:Int} {t u:Tok} {R:Value→Shared→Prop} (h0:0≤n) (h1:n≤1000) (hx:x.length≤1000) (h:∀ t' tk,R (.str (rM x n) t') { s with toks:=tk }) :
  Wp prog w A (binaryOp .Mult (.str x t) (.int n u)) s R:=by
 have a1:¬ n < -2 ^ 63:=by omega
 have a2:¬ n≥2 ^ 63:=by omega
 refine P.mul_str (by rw [decide_eq_false a1,decide_eq_false a2]; rfl) (fun q _=>?_) (fun q _=>?_) ?_
 ·have hn:0 < n:=Int.not_lt.mp q
  have:(2 ^ 63-1) / n≥(2 ^ 63-1) / 1000:=by
   apply Int.le_ediv_of_mul_le hn
   have e:(2 ^ 63-1:Int) / 1000=9223372036854775:=by decide
   rw [e]; omega
  have e:(2 ^ 63-1:Int) / 1000=9223372036854775:=by decide
  rw [e] at this
  omega
 ·have hb:x.length*n.toNat≤1000*1000:=Nat.mul_le_mul hx (by omega)
  unfold Builtin.Str.tooLong
  have:sizeLine=2 ^ 24:=rfl
  first
  | (simp only [decide_eq_false_iff_not]; omega)
  | (simp; omega)
 ·unfold rM at h
  split
  ·rename_i q; rw [if_pos q] at h; exact ⟨Nat.zero_le _,h s.toks (s.toks+1)⟩
  ·rename_i q; rw [if_neg q] at h
   split
   ·rename_i q2; rw [if_pos q2] at h; exact h t s.toks
   ·rename_i q2; rw [if_neg q2] at h
    refine ⟨?_,h s.toks (s.toks+1)⟩
    show (Array.size _)≤sizeLine
    rw [RJ]
    have hb:n.toNat*x.length≤1000*1000:=Nat.mul_le_mul (by omega (config:={})) hx
    have e1:sizeLine=2 ^ 24:=rfl
    have e2:x.cps.size=x.length:=rfl
    rw [e2,e1]; simp; exact aF hb (by decide)
noncomputable abbrev aL (prog:Program) (w:World) (A:Around) (s:Shared) (wsC:Fix) (ok:AP) (t:Sem Value) (d:D):Prop:=Wp prog w A t s fun v s'=>Grow s s'∧Rep wsC ok s'.heap v d
theorem j0 {i:Int}:∀ {t:Tok} {k:Nat},Grow s { s with toks:=k }∧Rep wsC ok s.heap (.int i t) (.int i):=⟨.tok _,.int ..⟩
theorem jz {x:UInt64}:∀ {t:Tok} {k:Nat},Grow s { s with toks:=k }∧Rep wsC ok s.heap (.float x t) (.float x):=⟨.tok _,.float ..⟩
theorem Gj {x:Str}:∀ {t:Tok} {k:Nat},Grow s { s with toks:=k }∧Rep wsC ok s.heap (.str x t) (.str x):=⟨.tok _,.str ..⟩
theorem RepL.rep {h:Heap} {vs:List Value} {ds:List D} (r:RepL wsC ok h vs ds):∀ k,RepL wsC ok h (List.replicate k vs).flatten (List.replicate k ds).flatten:=by
 intro k
 induction k with
 | zero =>
   exact .nil
 | succ k ih =>
   rw [List.replicate_succ,List.replicate_succ,List.flatten_cons,List.flatten_cons]; exact r.append (ih)
theorem OD {l:Addr} {items:Array Value} {k:Nat} {x:Int} {u:Tok} {Q:Value→Shared→Prop} (hl:s.heap.get? l=some { cls := .type "list",dict:=none,data := .seq items k,slots:=#[] })
  (hlo:-(2 ^ 63:Int)≤x) (hhi:x < 2 ^ 63) (hsz:items.size*x.toNat≤2 ^ 24)
  (h:Q (.ref s.heap.objs.size) { s with heap:=s.heap.push { cls := .type "list",data := .seq (List.foldl (fun x1 x2=>x1++x2) #[] (List.replicate (if items.isEmpty=true then 0 else x.toNat) items)) } }) :
  Wp prog w A (binaryOp .Mult (.ref l) (.int x u)) s Q :=
 wpAny_binaryOp_repeat_ref (T := "list") (U := "int") (by decide) ⟨_,hl,rfl⟩ (fun s'=>typeIs_int s' x u) noFill_list_mul F.fills_int_mul F.slot_int_rmul repeat_list F.slot_int_index.lookup
  (call_meets F.slot_int_rmul (typeIs_int s x u) F.entry_int_rmul (F.args_int_rmul_2 _ _) (int___rmul___int_list x u l items k)
   ⟨hl,rfl,⟨_,hl,rfl⟩,call_meets F.slot_list_mul ⟨_,hl,rfl⟩ F.entry_list_mul (F.args_list_mul_2 _ _)
    (AutoListH.list___mul___list_int_3 l items k x u (by simp [Builtin.List.listFitsIndex]; omega) (by omega) (by simp [Builtin.List.listTooLong,sizeLine]; omega (config:={})))
    ⟨hl,h⟩⟩)
section
variable {op:Operator} {a b:Value} {d e r:D} {t u:Tok}
theorem O8 {i j:Int} (h:W8 op i j=some r):aL prog w A s wsC ok (binaryOp op (.int i t) (.int j u)) r:=by
 induction op using Operator.casesOn with
 | Add=>obtain rfl:=aj h; exact PyProof.Rows.add_int j0
 | Sub=>obtain rfl:=aj h; exact PyProof.Rows.sub_int j0
 | Mult =>
  obtain ⟨hc,rfl⟩:=ak h
  exact PyProof.Rows.mul_int j0 (DP (cI hc))
 | Mod =>
  obtain ⟨hc,rfl⟩:=ak h
  exact PyProof.Rows.mod_int (cI hc) j0
 | FloorDiv =>
  obtain ⟨hc,rfl⟩:=ak h
  have hc:=bj hc
  exact PyProof.Rows.floordiv_int (cI hc.1) j0 (.inl ((Bool.not_eq_true' _).mp hc.2))
 | Div =>
  obtain ⟨hc,rfl⟩:=ak h
  have hc:=bj hc
  exact AutoIntOps.truediv_2 (by simpa using cI hc.1) (bnf hc.2) jz
 | Pow =>
  obtain ⟨hc,rfl⟩:=ak h
  have hc:=bj hc
  obtain rfl:i=10:=cI hc.1
  obtain rfl:j=6:=cI hc.2
  exact AutoIntOps.pow_4 (by decide) (by decide) (by decide) (by decide) (by decide +kernel) j0
 | _=>exact aO h
theorem Pz {x y:UInt64} (hh:A.handled=none) (h:Yk op x y=some r):aL prog w A s wsC ok (binaryOp op (.float x t) (.float y u)) r:=by
 induction op using Operator.casesOn with
 | Add=>obtain rfl:=aj h; exact PyProof.Rows.add_float jz
 | Sub=>obtain rfl:=aj h; exact PyProof.Rows.sub_float jz
 | Mult=>obtain rfl:=aj h; exact PyProof.Rows.mul_float jz
 | Div =>
  obtain ⟨hc,rfl⟩:=ak h
  exact PyProof.Rows.truediv_float_or hh (fun q=>by simp [q] at hc) fun _=>jz
 | Mod =>
  obtain ⟨hc,rfl⟩:=ak h
  exact Flt.mod_ff hh (fun q=>by simp [q] at hc) fun _=>jz
 | _=>exact aO h
theorem Sh {x:UInt64} {j:Int} (h:Xy op x j=some r):aL prog w A s wsC ok (binaryOp op (.float x t) (.int j u)) r:=by
 induction op using Operator.casesOn with
 | Add =>
  obtain ⟨hc,rfl⟩:=ak h
  exact AutoFloatOps.add_fi_1 (bnf hc) jz
 | Sub =>
  obtain ⟨hc,rfl⟩:=ak h
  exact AutoFloatOps.sub_fi_1 (bnf hc) jz
 | _=>exact aO h
theorem QT {x:UInt64} {j:Int} (h:Xd op j x=some r):aL prog w A s wsC ok (binaryOp op (.int j t) (.float x u)) r:=by
 induction op using Operator.casesOn with
 | Mult =>
  obtain ⟨hc,rfl⟩:=ak h
  exact AutoFloatOps.mul_if_1 (bnf hc) jz
 | _=>exact aO h
theorem Ql {x y:Str} (h:Xi op x y=some r):aL prog w A s wsC ok (binaryOp op (.str x t) (.str y u)) r:=by
 induction op using Operator.casesOn with
 | Add =>
  obtain ⟨hc,rfl⟩:=ak h
  exact PyProof.Rows.add_str (fun _ _=>Gj) (cI hc)
 | _=>exact aO h
theorem Qa {x:Str} {j:Int} (h:W9 op x j=some r):aL prog w A s wsC ok (binaryOp op (.str x t) (.int j u)) r:=by
 induction op using Operator.casesOn with
 | Mult =>
  obtain ⟨hc,rfl⟩:=ak h
  obtain ⟨hc,h3⟩:=bj hc
  obtain ⟨h1,h2⟩:=bj hc
  exact Ij (cI h1) (cI h2) (cI h3) fun _ _=>Gj
 | _=>exact aO h
theorem Qv {xs ys:List D} {a1 a2:Addr} {vs1 vs2:List Value} {n1 n2:Nat} (hf:Fresh ok s.heap) (q1:SeqRep "list" wsC ok s.heap xs a1 vs1 n1) (q2:SeqRep "list" wsC ok s.heap ys a2 vs2 n2) (h:XC op xs ys=some r) :
  aL prog w A s wsC ok (binaryOp op (.ref a1) (.ref a2)) r:=by
 induction op using Operator.casesOn with
 | Add =>
  obtain ⟨hc,rfl⟩:=ak h
  refine P.add_list (items:=List.toArray vs1) (items2:=List.toArray vs2) q1.g q2.g ?_ (by have:=q1.r.length; have:=q2.r.length; have:=cI hc; simp; omega)
  have hk:∀ p o,s.heap.get? p=some o→(s.heap.push { cls := .type "list",data := .seq (List.toArray vs1++List.toArray vs2) }).get? p=some o:=fun _ _ e=>aQ _ e
  refine ⟨.push _ _,.list (vs:=vs1++vs2) (n:=0) hf.new ?_ ((q1.r.append q2.r).keep hk)⟩
  rw [bw _ rfl]; simp
 | _=>exact aO h
theorem Oi {xs:List D} {k:Int} {a1:Addr} {vs:List Value} {n1:Nat} (hf:Fresh ok s.heap) (q1:SeqRep "list" wsC ok s.heap xs a1 vs n1) (h:Yi op xs k=some r) :
  aL prog w A s wsC ok (binaryOp op (.ref a1) (.int k u)) r:=by
 induction op using Operator.casesOn with
 | Mult =>
  obtain ⟨hc,rfl⟩:=ak h
  rw [Bool.and_eq_true,Bool.and_eq_true,Bool.and_eq_true,decide_eq_true_eq,decide_eq_true_eq,decide_eq_true_eq,decide_eq_true_eq] at hc
  obtain ⟨⟨⟨h0,h1⟩,h2⟩,h3⟩:=hc
  have hlen:=q1.r.length
  have hne:vs≠[]:=fun q=>h3 (List.eq_nil_of_length_eq_zero (by rw [← hlen,q]; rfl))
  have hi:(List.toArray vs).isEmpty=false:=by induction vs using List.casesOn with | nil=>exact absurd rfl hne | cons=>rfl
  refine OD q1.g (Int.le_trans (by decide) h0) (Int.lt_of_le_of_lt h1 (by decide)) ?_ ?_
  ·rw [List.size_toArray,hlen]
   have:xs.length*k.toNat≤1000*1000:=Nat.mul_le_mul h2 (by omega)
   exact aF this (by decide)
  ·rw [hi,if_neg (by decide),listMul_foldl]
   have hk:∀ p o,s.heap.get? p=some o→(s.heap.push { cls := .type "list",data := .seq (([]:List Value)++(List.replicate k.toNat vs).flatten).toArray }).get? p=some o:=fun _ _ e=>aQ _ e
   refine ⟨.push _ _,.list (vs:=(List.replicate k.toNat vs).flatten) (n:=0) hf.new ?_ ((RepL.rep q1.r _).keep hk)⟩
   rw [bw _ rfl]; simp
 | _=>exact aO h
theorem I3 {i:Int} (hb:Rep wsC ok s.heap b e) (h:bin op (.int i) e=some r):aL prog w A s wsC ok (binaryOp op (.int i t) b) r:=by
 induction e using D.casesOn with
 | int j=>obtain ⟨u,rfl⟩:=hb.int_inv; exact O8 h
 | float j=>obtain ⟨u,rfl⟩:=hb.float_inv; exact QT h
 | _=>exact aO h
theorem CV {i:UInt64} (hh:A.handled=none) (hb:Rep wsC ok s.heap b e) (h:bin op (.float i) e=some r):aL prog w A s wsC ok (binaryOp op (.float i t) b) r:=by
 induction e using D.casesOn with
 | int j=>obtain ⟨u,rfl⟩:=hb.int_inv; exact Sh h
 | float j=>obtain ⟨u,rfl⟩:=hb.float_inv; exact Pz hh h
 | _=>exact aO h
theorem G8 {i:Str} (hb:Rep wsC ok s.heap b e) (h:bin op (.str i) e=some r):aL prog w A s wsC ok (binaryOp op (.str i t) b) r:=by
 induction e using D.casesOn with
 | int j=>obtain ⟨u,rfl⟩:=hb.int_inv; exact Qa h
 | str j=>obtain ⟨u,rfl⟩:=hb.str_inv; exact Ql h
 | _=>exact aO h
theorem Gm {i:List D} {a1:Addr} {vs1:List Value} {n1:Nat} (hf:Fresh ok s.heap) (q1:SeqRep "list" wsC ok s.heap i a1 vs1 n1) (hb:Rep wsC ok s.heap b e) (h:bin op (.list i) e=some r):aL prog w A s wsC ok (binaryOp op (.ref a1) b) r:=by
 induction e using D.casesOn with
 | int j=>obtain ⟨u,rfl⟩:=hb.int_inv; exact Oi hf q1 h
 | list j=>obtain ⟨a2,vs2,n2,rfl,q2⟩:=hb.list_inv; exact Qv hf q1 q2 h
 | _=>exact aO h
theorem ZW (hh:A.handled=none) (hf:Fresh ok s.heap) (ha:Rep wsC ok s.heap a d) (hb:Rep wsC ok s.heap b e) (h:bin op d e=some r):aL prog w A s wsC ok (binaryOp op a b) r:=by
 induction d using D.casesOn with
 | int i=>obtain ⟨t,rfl⟩:=ha.int_inv; exact I3 hb h
 | float i=>obtain ⟨t,rfl⟩:=ha.float_inv; exact CV hh hb h
 | str i=>obtain ⟨t,rfl⟩:=ha.str_inv; exact G8 hb h
 | list i=>obtain ⟨a1,vs1,n1,rfl,q1⟩:=ha.list_inv; exact Gm hf q1 hb h
 | _=>exact aO h
end
end
noncomputable def intsOf:List D→Option (List Int)
 | []=>some []
 | .int i :: r=>(intsOf r).map (i :: ·)
 | _ :: _=>none
theorem d8 {ds:List D}:∀ {ns:List Int},intsOf ds=some ns→ds=ns.map D.int:=by
 induction ds with
 | nil=>intro ns h; obtain rfl:=aj h; rfl
 | cons d r ih =>
  intro ns h
  induction d using D.casesOn with
  | int i =>
   obtain ⟨ms,hm,rfl⟩:=Option.map_eq_some_iff.mp h
   rw [ih hm]; rfl
  | _=>exact aO h
mutual
noncomputable def toPy:D→Option PyData
 | .none=>some .none
 | .bool b=>some (.bool b)
 | .int i=>some (.int i)
 | .str x=>some (.str x)
 | .list xs=>(toPys xs).map .list
 | .tup xs=>(toPys xs).map .tuple
 | _=>none
noncomputable def toPys:List D→Option (List PyData)
 | []=>some []
 | d :: r=>(toPy d).bind fun a=>(toPys r).bind fun b=>some (a :: b)
end
noncomputable def X5 (op:CmpOp) (a b:Int):Option Bool:=match op with
 | .Eq=>some (a==b)
 | .NotEq=>some (a != b)
 | .Lt=>some (decide (a < b))
 | .LtE=>some (decide (a≤b))
 | .Gt=>some (decide (a > b))
 | .GtE=>some (decide (a≥b))
 | _=>none
noncomputable def Xq (op:CmpOp) (a b:UInt64):Option Bool:=match op with
 | .Eq=>some (Float64.cmp a b==some .eq)
 | .Lt=>some (Float64.cmp a b==some .lt)
 | .LtE=>some (Float64.cmp a b==some .lt||Float64.cmp a b==some .eq)
 | _=>none
noncomputable def Yg (op:CmpOp) (x y:Str):Option Bool:=match op with
 | .Eq=>some (x==y)
 | .NotEq=>some (x != y)
 | .LtE=>some (!decide (y.cps.toList < x.cps.toList))
 | _=>none
noncomputable def Xe (op:CmpOp) (a:Int) (xs:List D):Option Bool:=match op with
 | .In=>(intsOf xs).map fun ns=>ns.contains a
 | .NotIn=>(intsOf xs).map fun ns=>!ns.contains a
 | _=>none
noncomputable def Yd (op:CmpOp) (a b:Bool):Option Bool:=match op with
 | .Is=>some (a==b)
 | .IsNot=>some (!(a==b))
 | _=>none
noncomputable def pyEq (xs ys:List D):Option Bool:=(toPys xs).bind fun a=>(toPys ys).bind fun b=>au (SeqAt.shaped (.list a)&&SeqAt.shaped (.list b)) (PyData.eqvAll a b)
noncomputable def ints2 (x y:Option (List Int)) (f:List Int→List Int→Bool) (z:Option Bool):Option Bool:=match x with
 | some a=>(match y with | some b=>some (f a b) | none=>z)
 | none=>z
noncomputable def Jx (op:CmpOp) (xs ys:List D):Option Bool:=match op with
 | .Eq=>ints2 (intsOf xs) (intsOf ys) (fun a b=>decide (a=b)) (pyEq xs ys)
 | .NotEq=>ints2 (intsOf xs) (intsOf ys) (fun a b=>!decide (a=b)) ((pyEq xs ys).map (!·))
 | _=>none
noncomputable def cmpIn (op:CmpOp) (b:Bool):Option Bool:=match op with
 | .In=>some b
 | _=>none
noncomputable def Er (op:CmpOp) (b:Bool):Option Bool:=match op with
 | .IsNot=>some b
 | _=>none
noncomputable def cmp (op:CmpOp) (d e:D):Option Bool:=match d with
 | .int a=>(match e with | .int b=>X5 op a b | .list xs=>Xe op a xs | .iset S=>cmpIn op (S a) | _=>none)
 | .float a=>(match e with | .float b=>Xq op a b | _=>none)
 | .str x=>(match e with | .str y=>Yg op x y | .none=>Er op true | _=>none)
 | .bool a=>(match e with | .bool b=>Yd op a b | _=>none)
 | .none=>(match e with | .none=>Er op false | _=>none)
 | .list xs=>(match e with | .list ys=>Jx op xs ys | _=>none)
 | _=>none
section
variable {wsC:Fix} {ok:AP} {h:Heap}
theorem Hp {v:Value} {vs:List Value} {d:D} {ds:List D} {ps:List PyData} (ia:∀ p,toPy d=some p→∃ as,Reads h v p as) (ib:∀ ps,toPys ds=some ps→∃ as,ReadsAll h vs ps as) (e:toPys (d :: ds)=some ps):∃ as,ReadsAll h (v :: vs) ps as:=by
 obtain ⟨p,h1,e⟩:=Option.bind_eq_some_iff.mp (show (toPy d).bind (fun a=>(toPys ds).bind fun b=>some (a :: b))=some ps from e)
 obtain ⟨qs,h2,e⟩:=Option.bind_eq_some_iff.mp e
 obtain rfl:p :: qs=ps:=aj e
 obtain ⟨as,ha⟩:=ia p h1
 obtain ⟨bs,hb⟩:=ib qs h2
 exact ⟨_,.cons ha hb⟩
theorem Rep.reads {v:Value} {d:D} {p:PyData} (r:Rep wsC ok h v d) (e:toPy d=some p):∃ as,Reads h v p as :=
 D.rec (motive_1:=fun d=>∀ v,Rep wsC ok h v d→∀ p,toPy d=some p→∃ as,Reads h v p as) (motive_2:=fun ds=>∀ vs,RepL wsC ok h vs ds→∀ ps,toPys ds=some ps→∃ as,ReadsAll h vs ps as)
  (fun _ r p e=>by obtain rfl:=r.none_inv; exact aj e▸⟨_,.none⟩) (fun b _ r p e=>by obtain rfl:=r.bool_inv; exact aj e▸⟨_,.bool b⟩) (fun i _ r p e=>by obtain ⟨t,rfl⟩:=r.int_inv; exact aj e▸⟨_,.int i t⟩) (fun _ _ _ _ e=>aO e) (fun x _ r p e=>by obtain ⟨t,rfl⟩:=r.str_inv; exact aj e▸⟨_,.str x t⟩)
  (fun _ ih _ r p e=>by
   obtain ⟨ps,hp,rfl⟩:=Option.map_eq_some_iff.mp (show (toPys _).map PyData.list=some p from e)
   obtain ⟨a,vs,n,rfl,q⟩:=r.list_inv
   obtain ⟨as,ha⟩:=ih _ q.r _ hp
   exact ⟨_,.list q.g rfl rfl (by simpa using ha)⟩)
  (fun _ ih _ r p e=>by
   obtain ⟨ps,hp,rfl⟩:=Option.map_eq_some_iff.mp (show (toPys _).map PyData.tuple=some p from e)
   obtain ⟨a,vs,n,rfl,q⟩:=r.tup_inv
   obtain ⟨as,ha⟩:=ih _ q.r _ hp
   exact ⟨_,.tuple q.g rfl rfl (by simpa using ha)⟩)
  (fun _ _ _ _ _ e=>aO e) (fun _ _ _ _ e=>aO e) (fun _ _ _ _ e=>aO e) (fun _ _ _ _ e=>aO e) (fun _ _ _ _ e=>aO e)
  (fun _ r ps e=>by obtain rfl:=r.nil_inv; exact aj e▸⟨_,.nil⟩) (fun _ _ ia ib _ r ps e=>by obtain ⟨v,vs',rfl,a,b⟩:=r.cons_inv; exact Hp (ia _ a) (ib _ b) e) d v r p e
theorem countP_isInt (k:Int) {vs:List Value} {ns:List Int} (h:IntsAre vs ns):vs.any (isInt k)=ns.contains k:=by
 induction h with
 | nil=>rfl
 | cons n t r ih =>
  rw [List.any_cons,ih,List.contains_cons]
  show (n==k||_)=(k==n||_)
  rw [show (n==k)=(k==n) from by rw [Bool.eq_iff_iff,beq_iff_eq,beq_iff_eq,eq_comm]]
end
section
variable {prog:Program} {w:World} {A:Around} {s:Shared} {wsC:Fix} {ok:AP}
noncomputable abbrev BX (prog:Program) (w:World) (A:Around) (s:Shared) (op:CmpOp) (a b:Value) (r:Bool):Prop:=Wp prog w A (compareOp op a b) s fun v s'=>Grow s s'∧v=.bool r
section
variable {op:CmpOp} {a b:Value} {d e:D} {r:Bool} {t u:Tok}
theorem jl:Grow s s∧Value.bool r=.bool r:=⟨.refl _,rfl⟩
theorem Qq {i j:Int} (h:X5 op i j=some r):BX prog w A s op (.int i t) (.int j u) r:=by
 induction op using CmpOp.casesOn with
 | Eq=>obtain rfl:=aj h; exact PyProof.Rows.eq_int jl
 | NotEq=>obtain rfl:=aj h; exact P.ne_int jl
 | Lt=>obtain rfl:=aj h; exact PyProof.Rows.lt_int jl
 | LtE=>obtain rfl:=aj h; exact PyProof.Rows.le_int jl
 | Gt=>obtain rfl:=aj h; exact P.gt_int jl
 | GtE=>obtain rfl:=aj h; exact P.ge_int jl
 | _=>exact aO h
theorem Py {i j:UInt64} (h:Xq op i j=some r):BX prog w A s op (.float i t) (.float j u) r:=by
 induction op using CmpOp.casesOn with
 | Eq=>obtain rfl:=aj h; exact AutoFloatOps.eq_0 jl
 | Lt=>obtain rfl:=aj h; exact AutoFloatOps.lt_0 jl
 | LtE=>obtain rfl:=aj h; exact AutoFloatOps.le_0 jl
 | _=>exact aO h
theorem Ss {i j:Str} (h:Yg op i j=some r):BX prog w A s op (.str i t) (.str j u) r:=by
 induction op using CmpOp.casesOn with
 | Eq=>obtain rfl:=aj h; exact PyProof.Rows.eq_str jl
 | NotEq=>obtain rfl:=aj h; exact PyProof.Rows.ne_str jl
 | LtE=>obtain rfl:=aj h; exact P.le_str jl
 | _=>exact aO h
theorem Nx {k:Int} {xs:List D} {a2:Addr} {vs2:List Value} {n2:Nat} (q:SeqRep "list" wsC ok s.heap xs a2 vs2 n2) (h:Xe op k xs=some r):BX prog w A s op (.int k t) (.ref a2) r:=by
 induction op using CmpOp.casesOn with
 | In =>
  obtain ⟨ns,hn,rfl⟩:=Option.map_eq_some_iff.mp h
  have q:=q.r
  have g:=‹SeqRep "list" wsC ok s.heap xs a2 vs2 n2›.g
  rw [d8 hn] at q
  have iv:=q.toInts
  refine SeqAt.in_listAt (isInt k) ⟨_,g,rfl,_,rfl⟩ (fun y hy=>(eq_isInt k t iv y (by simpa using hy)).at _ _) ⟨.refl _,?_⟩
  rw [← countP_isInt k iv]; simp
 | NotIn =>
  obtain ⟨ns,hn,rfl⟩:=Option.map_eq_some_iff.mp h
  have q:=q.r
  have g:=‹SeqRep "list" wsC ok s.heap xs a2 vs2 n2›.g
  rw [d8 hn] at q
  have iv:=q.toInts
  refine SeqAt.notIn_listAt (isInt k) ⟨_,g,rfl,_,rfl⟩ (fun y hy=>(eq_isInt k t iv y (by simpa using hy)).at _ _) ⟨.refl _,?_⟩
  rw [← countP_isInt k iv]; simp
 | _=>exact aO h
theorem Ng {x y:Bool} (h:Yd op x y=some r):BX prog w A s op (.bool x) (.bool y) r:=by
 induction op using CmpOp.casesOn with
 | Is =>
  obtain rfl:=aj h
  refine wpAny_is_plain rfl ⟨.refl _,?_⟩
  cases x <;> cases y <;> rfl
 | IsNot =>
  obtain rfl:=aj h
  refine wpAny_isNot_plain rfl ⟨.refl _,?_⟩
  cases x <;> cases y <;> rfl
 | _=>exact aO h
theorem zO {xs ys:List D} (h:pyEq xs ys=some r):∃ p q,toPy (.list xs)=some (.list p)∧toPy (.list ys)=some (.list q)∧SeqAt.shaped (.list p)=true∧SeqAt.shaped (.list q)=true∧PyData.eqvAll p q=r:=by
 obtain ⟨p,hp,h⟩:=Option.bind_eq_some_iff.mp h
 obtain ⟨q,hq,h⟩:=Option.bind_eq_some_iff.mp h
 obtain ⟨hc,h⟩:=ak h
 have hc:=bj hc
 exact ⟨p,q,by show (toPys xs).map PyData.list=_; rw [hp]; rfl,by show (toPys ys).map PyData.list=_; rw [hq]; rfl,hc.1,hc.2,h⟩
theorem zR {x y:Option (List Int)} {f:List Int→List Int→Bool} {z:Option Bool} (h:ints2 x y f z=some r):(∃ a b,x=some a∧y=some b∧f a b=r)∨z=some r:=by
 induction x using Option.casesOn with
 | none=>exact .inr h
 | some a =>
  induction y using Option.casesOn with
  | none=>exact .inr h
  | some b=>exact .inl ⟨_,_,rfl,rfl,aj h⟩
theorem Qd {xs ys:List D} {a1 a2:Addr} {vs1 vs2:List Value} {n1 n2:Nat} (hu:A.units+64 < cLine) (q1:SeqRep "list" wsC ok s.heap xs a1 vs1 n1) (q2:SeqRep "list" wsC ok s.heap ys a2 vs2 n2) (h:Jx op xs ys=some r) :
  BX prog w A s op (.ref a1) (.ref a2) r:=by
 have ha:Rep wsC ok s.heap (.ref a1) (.list xs) := .list q1.o q1.g q1.r
 have hb:Rep wsC ok s.heap (.ref a2) (.list ys) := .list q2.o q2.g q2.r
 have r1:=q1.r
 have r2:=q2.r
 induction op using CmpOp.casesOn with
 | Eq =>
  obtain ⟨ns,ms,hn,hm,rfl⟩ | h:=zR h
  ·rw [d8 hn] at r1; rw [d8 hm] at r2
   exact ke_eq_ints ⟨_,q1.g,rfl,_,rfl⟩ ⟨_,q2.g,rfl,_,rfl⟩ r1.toInts r2.toInts hu jl
  ·obtain ⟨p,q,hp,hq,h1,h2,rfl⟩:=zO h
   obtain ⟨as,ra⟩:=ha.reads hp
   obtain ⟨bs,rb⟩:=hb.reads hq
   exact eq_dataH ra rb h1 h2 hu jl
 | NotEq =>
  obtain ⟨ns,ms,hn,hm,rfl⟩ | h:=zR h
  ·rw [d8 hn] at r1; rw [d8 hm] at r2
   exact ke_ne_ints ⟨_,q1.g,rfl,_,rfl⟩ ⟨_,q2.g,rfl,_,rfl⟩ r1.toInts r2.toInts hu jl
  ·obtain ⟨r',h',rfl⟩:=Option.map_eq_some_iff.mp h
   obtain ⟨p,q,hp,hq,h1,h2,rfl⟩:=zO h'
   obtain ⟨as,ra⟩:=ha.reads hp
   obtain ⟨bs,rb⟩:=hb.reads hq
   exact ne_dataH ra rb h1 h2 hu jl
 | _=>exact aO h
theorem Ha {K:Frag} (fx:FixOk K wsC) (hK:K.In s.heap) {i:Int} (hb:Rep wsC ok s.heap b e) (h:cmp op (.int i) e=some r):BX prog w A s op (.int i t) b r:=by
 induction e using D.casesOn with
 | int j=>obtain ⟨u,rfl⟩:=hb.int_inv; exact Qq h
 | list j=>obtain ⟨a2,vs2,n2,rfl,q2⟩:=hb.list_inv; exact Nx q2 h
 | iset S =>
  obtain ⟨a,rfl,hs⟩:=hb.iset_inv
  induction op using CmpOp.casesOn with
  | In =>
   obtain rfl:=aj h
   obtain ⟨o,ho,m,hm,hS⟩:=fx.set _ _ hs
   exact wpAny_inSet_of (intKind_is prog w _ t) rfl ((hS prog w).setOf (hK _ _ ho) hm) ⟨.tok _,rfl⟩
  | _=>exact aO h
 | _=>exact aO h
theorem Hs {i:Str} (hb:Rep wsC ok s.heap b e) (h:cmp op (.str i) e=some r):BX prog w A s op (.str i t) b r:=by
 induction e using D.casesOn with
 | str j=>obtain ⟨u,rfl⟩:=hb.str_inv; exact Ss h
 | none =>
  obtain rfl:=hb.none_inv
  induction op using CmpOp.casesOn with
  | IsNot =>
   obtain rfl:=aj h
   refine wpAny_isNot_plain rfl ⟨.refl _,?_⟩
   simp
  | _=>exact aO h
 | _=>exact aO h
theorem H4 {K:Frag} (fx:FixOk K wsC) (hK:K.In s.heap) {n:Nat} (hA:OkA A n) (ha:Rep wsC ok s.heap a d) (hb:Rep wsC ok s.heap b e) (h:cmp op d e=some r):BX prog w A s op a b r:=by
 induction d using D.casesOn with
 | int i=>obtain ⟨t,rfl⟩:=ha.int_inv; exact Ha fx hK hb h
 | str i=>obtain ⟨t,rfl⟩:=ha.str_inv; exact Hs hb h
 | float i =>
  obtain ⟨t,rfl⟩:=ha.float_inv
  induction e using D.casesOn with
  | float j=>obtain ⟨u,rfl⟩:=hb.float_inv; exact Py h
  | _=>exact aO h
 | bool i =>
  obtain rfl:=ha.bool_inv
  induction e using D.casesOn with
  | bool j=>obtain rfl:=hb.bool_inv; exact Ng h
  | _=>exact aO h
 | none =>
  obtain rfl:=ha.none_inv
  induction e using D.casesOn with
  | none =>
   obtain rfl:=hb.none_inv
   induction op using CmpOp.casesOn with
   | IsNot=>obtain rfl:=aj h; exact wpAny_isNot_plain rfl ⟨.refl _,rfl⟩
   | _=>exact aO h
  | _=>exact aO h
 | list i =>
  obtain ⟨a1,vs1,n1,rfl,q1⟩:=ha.list_inv
  induction e using D.casesOn with
  | list j=>obtain ⟨a2,vs2,n2,rfl,q2⟩:=hb.list_inv; exact Qd (by have:=hA.u; have:cLine=9900:=rfl; omega) q1 q2 h
  | _=>exact aO h
 | _=>exact aO h
end
end
noncomputable def eF (lo hi:Int):List D:=(List.range (hi-lo).toNat).map fun i=>D.int (lo+(i:Nat))
noncomputable def itemsOf:D→Option (List D)
 | .list xs=>some xs
 | .tup xs=>some xs
 | .str x=>some (x.cps.toList.map fun c=>D.str ⟨#[c]⟩)
 | .range lo hi=>au (decide (0≤lo∧lo < 2 ^ 24∧hi < 2 ^ 24 ∧ -2 ^ 24 < hi)) (eF lo hi)
 | _=>none
structure Iter (prog:Program) (w:World) (A:Around) (wsC:Fix) (ok:AP) (h0:Heap) (I:Addr) (fp wr:List Addr) (items:List D) (P:Nat→Value→Prop) (St:Nat→Heap→Prop) (h:Heap):Prop where
 walks:Walks prog w A I fp wr items.length P St
 st:St 0 h
 there:∀ b∈fp,∃ o,h.get? b=some o
 new:∀ b∈wr,h0.get? b=none
 okay:∀ b∈fp,b∈wr∨(ok b∧∃ o,h0.get? b=some o)
 item:∀ i v,P i v→∃ d,items[i]? = some d∧Rep wsC ok h0 v d
 here:∀ i h',St i h'→∀ b∈wr,∃ o,h'.get? b=some o
section
variable {prog:Program} {w:World} {A:Around} {s:Shared} {wsC:Fix} {ok:AP}
theorem oF {lo hi:Int} (h:0≤lo∧lo < 2 ^ 24∧hi < 2 ^ 24 ∧ -2 ^ 24 < hi):Builtin.Range.small lo hi 1=true∧Builtin.Range.rangeSize lo hi 1=((hi-lo).toNat:Int):=by
 have e:Builtin.Range.rangeSize lo hi 1=((hi-lo).toNat:Int):=by
  unfold Builtin.Range.rangeSize
  simp; omega
 refine ⟨?_,e⟩
 unfold Builtin.Range.small Builtin.Range.rangeFitsLong
 rw [e]
 simp
 omega (config:={})
theorem q8 {lo hi:Int} {i:Nat} (h:i < (hi-lo).toNat):(eF lo hi)[i]? = some (.int (lo+(i:Nat))):=by
 unfold eF
 rw [List.getElem?_map,List.getElem?_range h]; rfl
theorem jL {lo hi:Int}:(eF lo hi).length=(hi-lo).toNat:=by unfold eF; simp
theorem Ey {I:Addr} {fp wr:List Addr} {n:Nat} {P:Nat→Value→Prop} {St:Nat→Heap→Prop} (W:Walks prog w A I fp wr n P St):Walks prog w A I fp wr n (fun i v=>i < n∧P i v) St where
 sub:=W.sub
 frame:=W.frame
 item:=fun i s Q E hi st hQ=>W.item i s Q E hi st fun v h' tk hp=>hQ v h' tk ⟨hi,hp⟩
 done:=W.done
 self:=W.self
theorem xf {h0:Heap} {I:Addr} {items:List D} {P:Nat→Value→Prop} {St:Nat→Heap→Prop} {h:Heap} (W:Walks prog w A I [I] [I] items.length P St) (st:St 0 h) (there:∃ o,h.get? I=some o) (new:h0.get? I=none)
  (item:∀ i v,i < items.length→P i v→∃ d,items[i]? = some d∧Rep wsC ok h0 v d) (here:∀ i h',St i h'→∃ o,h'.get? I=some o):Iter prog w A wsC ok h0 I [I] [I] items (fun i v=>i < items.length∧P i v) St h :=
 ⟨Ey W,st,fun b hb=>by rw [List.mem_singleton] at hb; subst hb; exact there,fun b hb=>by rw [List.mem_singleton] at hb; subst hb; exact new,fun b hb => .inl hb,fun i v hv=>item i v hv.1 hv.2,fun i h' st b hb=>by rw [List.mem_singleton] at hb; subst hb; exact here i h' st⟩
theorem Fq {a:Addr} {vs:List Value} {items:List D} {o:Obj} {h':Heap} {St:Nat→Heap→Prop} (hk:∀ b o,s.heap.get? b=some o→h'.get? b=some o) (hI:∃ o,h'.get? s.heap.objs.size=some o) (ha:ok a) (g:s.heap.get? a=some o) (rl:RepL wsC ok s.heap vs items)
  (W:Walks prog w A s.heap.objs.size [s.heap.objs.size,a] [s.heap.objs.size] (List.toArray vs).size (fun i v=>(List.toArray vs)[i]? = some v) St) (st:St 0 h') (here:∀ i h,St i h→∃ o,h.get? s.heap.objs.size=some o) :
  Iter prog w A wsC ok s.heap s.heap.objs.size [s.heap.objs.size,a] [s.heap.objs.size] items (fun i v=>(List.toArray vs)[i]? = some v) St h':=by
 rw [show (List.toArray vs).size=items.length from by simp [rl.length]] at W
 refine ⟨W,st,fun b hb=>?_,fun b hb=>?_,fun b hb=>?_,fun i v hv=>rl.getV (by simpa using hv),fun i h st b hb=>?_⟩
 ·rcases cM hb with rfl | hb
  ·exact hI
  ·rw [List.mem_singleton] at hb; subst hb; exact ⟨_,hk _ _ g⟩
 ·rw [List.mem_singleton] at hb; subst hb; exact dW (Nat.le_refl _)
 ·rcases cM hb with rfl | hb
  ·exact .inl (List.mem_singleton.mpr rfl)
  ·rw [List.mem_singleton] at hb; subst hb; exact .inr ⟨ha,_,g⟩
 ·rw [List.mem_singleton] at hb; subst hb; exact here i h st
inductive IterIs (prog:Program) (w:World) (A:Around) (wsC:Fix) (ok:AP) (items:List D) (s:Shared) (it:Value) (s':Shared):Prop where
 | mk (g:Grow s s') (I:Addr) (fp wr:List Addr) (P:Nat→Value→Prop) (St:Nat→Heap→Prop) (e:it=.ref I) (i:Iter prog w A wsC ok s.heap I fp wr items P St s'.heap):IterIs prog w A wsC ok items s it s'
theorem jy {v:Value} {d:D} {items:List D} (hh:A.handled=none) (r:Rep wsC ok s.heap v d) (h:itemsOf d=some items) :
  Wp prog w A (pyIter v) s fun it s'=>IterIs prog w A wsC ok items s it s':=by
 have hnew:∀ b∈[s.heap.objs.size],s.heap.get? b=none:=fun b hb=>by
  rw [List.mem_singleton] at hb; subst hb; exact dW (Nat.le_refl _)
 induction d using D.casesOn with
 | none | bool | int | float | ws | iset | imap | obj=>exact aO h
 | list xs =>
  obtain rfl:xs=items:=aj h
  obtain ⟨a,vs,n,rfl,o,g,rl⟩:=r.list_inv
  have hne:a≠s.heap.objs.size:=Nat.ne_of_lt (Heap.lt_size g)
  have hl:s.heap.IsList a (List.toArray vs):=⟨_,g,rfl,_,rfl⟩
  exact wpAny_pyIter_list hl ⟨.push _ _,_,_,_,_,_,rfl,Fq (fun b o e=>aQ _ e) ⟨_,bw _ rfl⟩ o g rl (Walks.list hh s.heap.objs.size a hne (List.toArray vs)) ⟨⟨_,bw _ rfl,rfl,rfl⟩,hl.push _⟩ fun i h st=>by obtain ⟨o,e,_⟩:=st.1; exact ⟨o,e⟩⟩
 | tup xs =>
  obtain rfl:xs=items:=aj h
  obtain ⟨a,vs,n,rfl,o,g,rl⟩:=r.tup_inv
  have hne:a≠s.heap.objs.size:=Nat.ne_of_lt (Heap.lt_size g)
  have hl:s.heap.IsTuple a (List.toArray vs):=⟨_,g,rfl,_,rfl⟩
  exact wpAny_pyIter_tuple hl ⟨.push _ _,_,_,_,_,_,rfl,Fq (fun b o e=>aQ _ e) ⟨_,bw _ rfl⟩ o g rl (Walks.tuple hh s.heap.objs.size a hne (List.toArray vs)) ⟨⟨_,bw _ rfl,rfl,rfl⟩,hl.push _⟩ fun i h st=>by obtain ⟨o,e,_⟩:=st.1; exact ⟨o,e⟩⟩
 | range lo hi =>
  obtain ⟨hc,rfl⟩:=ak h
  have hb:=oF (cI hc)
  obtain ⟨a,t1,t2,t3,rfl,o,g⟩:=r.range_inv
  refine wpAny_pyIter_range g hb.1 ⟨.push _ _,s.heap.objs.size,[s.heap.objs.size],[s.heap.objs.size],_,_,rfl,xf (by rw [jL]; exact Walks.range (prog:=prog) (w:=w) hh s.heap.objs.size lo 1 (hi-lo).toNat) ?_ ⟨_,bw _ rfl⟩ (hnew _ (by simp)) ?_ (fun i h' st=>⟨_,st⟩)⟩
  ·rw [hb.2]
   show IsRangeIter _ _ (lo+((0:Nat):Int)*1) (((hi-lo).toNat:Int)-((0:Nat):Int)) 1
   rw [show lo+((0:Nat):Int)*1=lo by simp,show (((hi-lo).toNat:Int)-((0:Nat):Int))=((hi-lo).toNat:Int) by simp]
   exact bw _ rfl
  ·rintro i v hi ⟨t,rfl⟩
   rw [jL] at hi
   refine ⟨_,q8 hi,?_⟩
   rw [Int.mul_one]; exact .int _ _
 | str x =>
  obtain rfl:=aj h
  obtain ⟨t,rfl⟩:=r.str_inv
  have hlen:(x.cps.toList.map fun c=>D.str ⟨#[c]⟩).length=x.cps.size:=by simp
  have hitem:∀ i v,i < (x.cps.toList.map fun c=>D.str ⟨#[c]⟩).length→SignAt x i v→∃ d,(x.cps.toList.map fun c=>D.str ⟨#[c]⟩)[i]? = some d∧Rep wsC ok s.heap v d:=by
   rintro i v hi ⟨c,u,hc,rfl⟩
   refine ⟨_,?_,.str _ _⟩
   rw [List.getElem?_map,Array.getElem?_toList,hc]; rfl
  cases ha:x.cps.all (· < 128)
  ·exact wpAny_pyIter_wide ha ⟨.push _ _,s.heap.objs.size,[s.heap.objs.size],[s.heap.objs.size],_,_,rfl,xf (St:=fun i h=>h.IsStrIter s.heap.objs.size "str_iterator" x t i) (by rw [hlen]; exact Walks.strWide hh _ x t) ⟨_,bw _ rfl,rfl,rfl⟩ ⟨_,bw _ rfl⟩ (hnew _ (by simp)) hitem (fun i h' st=>by obtain ⟨o,e,_⟩:=st; exact ⟨o,e⟩)⟩
  ·exact wpAny_pyIter_ascii ha ⟨.push _ _,s.heap.objs.size,[s.heap.objs.size],[s.heap.objs.size],_,_,rfl,xf (St:=fun i h=>h.IsStrIter s.heap.objs.size "str_ascii_iterator" x t i) (by rw [hlen]; exact Walks.strAscii hh _ x t) ⟨_,bw _ rfl,rfl,rfl⟩ ⟨_,bw _ rfl⟩ (hnew _ (by simp)) hitem (fun i h' st=>by obtain ⟨o,e,_⟩:=st; exact ⟨o,e⟩)⟩
end
inductive Bn | chr | ord | len | max | min | abs | round | int | range | list | sum | tuple
 deriving DecidableEq
noncomputable def Bn.name:Bn→Str
 | .chr => "chr" | .ord => "ord" | .len => "len" | .max => "max" | .min => "min" | .abs => "abs" | .round => "round" | .int => "int" | .range => "range" | .list => "list" | .sum => "sum" | .tuple => "tuple"
noncomputable def Bn.val:Bn→Value
 | .chr => .builtin "chr" | .ord => .builtin "ord" | .len => .builtin "len" | .max => .builtin "max" | .min => .builtin "min" | .abs => .builtin "abs" | .round => .builtin "round"
 | .int => .type "int" | .range => .type "range" | .list => .type "list" | .sum => .builtin "sum" | .tuple => .type "tuple"
theorem Bn.boot:∀ b:Bn,bootBuiltins b.name=some b.val
 | .chr=>by decide +kernel | .ord=>by decide +kernel | .len=>by decide +kernel | .max=>by decide +kernel | .min=>by decide +kernel | .abs=>by decide +kernel | .round=>by decide +kernel
 | .int=>by decide +kernel | .range=>by decide +kernel | .list=>by decide +kernel | .sum=>by decide +kernel | .tuple=>by decide +kernel
noncomputable def fmax (a b:UInt64):UInt64:=if Float64.cmp a b==some .lt then b else a
noncomputable def fmin (a b:UInt64):UInt64:=if Float64.cmp b a==some .lt then b else a
noncomputable def ju:List Int→Int
 | []=>0
 | a :: r=>r.foldl (fun a b=>if b > a then b else a) a
noncomputable def je:List Int→Int
 | []=>0
 | a :: r=>r.foldl (fun a b=>if b < a then b else a) a
noncomputable def CQ (d:D) (F:List Int→Option D):Option D:=match d with
 | .list xs=>(intsOf xs).bind F
 | _=>none
noncomputable def Gr:D→Option Int | .int a=>some a | _=>none
noncomputable def asS:D→Option Str | .str a=>some a | _=>none
noncomputable def asF:D→Option UInt64 | .float a=>some a | _=>none
noncomputable def asL:D→Option (List D) | .list a=>some a | _=>none
noncomputable def asW:D→Option Ws | .ws a=>some a | _=>none
theorem ir {a:D} {x:Int} (h:Gr a=some x):a=.int x:=by induction a using D.casesOn with
 | int j=>exact congrArg _ (aj h)
 | _=>exact aO h
theorem CT {a:D} {x:Str} (h:asS a=some x):a=.str x:=by induction a using D.casesOn with
 | str j=>exact congrArg _ (aj h)
 | _=>exact aO h
theorem CG {a:D} {x:UInt64} (h:asF a=some x):a=.float x:=by induction a using D.casesOn with
 | float j=>exact congrArg _ (aj h)
 | _=>exact aO h
theorem Df {a:D} {x:List D} (h:asL a=some x):a=.list x:=by induction a using D.casesOn with
 | list j=>exact congrArg _ (aj h)
 | _=>exact aO h
theorem wG {a:D} {x:Ws} (h:asW a=some x):a=.ws x:=by induction a using D.casesOn with
 | ws j=>exact congrArg _ (aj h)
 | _=>exact aO h
noncomputable def Un {α:Type} (p:D→Option α) (F:α→List D→Option D):List D→Option D
 | []=>none
 | a :: r=>(p a).bind fun x=>F x r
noncomputable def Wy (o:Option D):List D→Option D
 | []=>o
 | _ :: _=>none
theorem Hb {α:Type} {p:D→Option α} {c:α→D} (hp:∀ {a x},p a=some x→a=c x) {F:α→List D→Option D} {ds:List D} {d:D} (h:Un p F ds=some d):∃ x r,ds=c x :: r∧F x r=some d:=by
 induction ds using List.casesOn with
 | nil=>exact aO h
 | cons a r =>
  obtain ⟨x,e,h⟩:=Option.bind_eq_some_iff.mp h
  exact ⟨x,r,congrArg (· :: r) (hp e),h⟩
theorem Gy {o:Option D} {ds:List D} {d:D} (h:Wy o ds=some d):ds=[]∧o=some d:=by
 induction ds using List.casesOn with
 | nil=>exact ⟨rfl,h⟩
 | cons a r=>exact aO h
noncomputable def arg1 {α:Type} (p:D→Option α) (F:α→Option D):List D→Option D:=Un p fun x=>Wy (F x)
noncomputable def arg2 {α β:Type} (p:D→Option α) (q:D→Option β) (F:α→β→Option D):List D→Option D:=Un p fun x=>arg1 q (F x)
noncomputable def arg3 {α β γ:Type} (p:D→Option α) (q:D→Option β) (r:D→Option γ) (F:α→β→γ→Option D):List D→Option D:=Un p fun x=>arg2 q r (F x)
theorem mV {α:Type} {p:D→Option α} {c:α→D} (hp:∀ {a x},p a=some x→a=c x) {F:α→Option D} {ds:List D} {d:D} (h:arg1 p F ds=some d):∃ x,ds=[c x]∧F x=some d:=by
 obtain ⟨x,r,e1,h1⟩:=Hb hp h
 obtain ⟨rfl,h2⟩:=Gy h1
 exact ⟨x,e1,h2⟩
theorem Be {α β:Type} {p:D→Option α} {q:D→Option β} {c:α→D} {e:β→D} (hp:∀ {a x},p a=some x→a=c x) (hq:∀ {a x},q a=some x→a=e x) {F:α→β→Option D} {ds:List D} {d:D} (h:arg2 p q F ds=some d):∃ x y,ds=[c x,e y]∧F x y=some d:=by
 obtain ⟨x,r,e1,h1⟩:=Hb hp h
 obtain ⟨y,rfl,h2⟩:=mV hq h1
 exact ⟨x,y,e1,h2⟩
theorem arg3_c {α β γ:Type} {p:D→Option α} {q:D→Option β} {r:D→Option γ} {c:α→D} {e:β→D} {f:γ→D} (hp:∀ {a x},p a=some x→a=c x) (hq:∀ {a x},q a=some x→a=e x) (hr:∀ {a x},r a=some x→a=f x) {F:α→β→γ→Option D} {ds:List D} {d:D} (h:arg3 p q r F ds=some d) :
  ∃ x y z,ds=[c x,e y,f z]∧F x y z=some d:=by
 obtain ⟨x,l,e1,h1⟩:=Hb hp h
 obtain ⟨y,z,rfl,h2⟩:=Be hq hr h1
 exact ⟨x,y,z,e1,h2⟩
noncomputable def one (ds:List D) (F:D→Option D):Option D:=arg1 some F ds
noncomputable def two (ds:List D) (F:Int→Int→Option D):Option D:=arg2 Gr Gr F ds
noncomputable def IW (ds:List D) (F:UInt64→UInt64→UInt64→D):Option D:=arg3 asF asF asF (fun a b c=>some (F a b c)) ds
noncomputable def chrB (d:D):Option D:=match d with
 | .int i=>au (decide (0≤i∧i≤1114111)) (.str ⟨#[i.toNat]⟩)
 | _=>none
noncomputable def ordB (d:D):Option D:=match d with
 | .str x=>au (decide (x.length=1)) (.int (x.cps.getD 0 0:Nat))
 | _=>none
noncomputable def lenB (d:D):Option D:=match d with
 | .list xs=>au (decide (xs.length < 2 ^ 62)) (.int xs.length)
 | .tup xs=>au (decide (xs.length < 2 ^ 62)) (.int xs.length)
 | .str x=>au (decide (x.length < 2 ^ 62)) (.int x.length)
 | _=>none
noncomputable def absB (d:D):Option D:=match d with
 | .int a=>some (.int (if a < 0 then -a else a))
 | _=>none
noncomputable def QM (d:D):Option D:=match d with
 | .float x=>au (Float64.isFinite x) (.int (Flt.toInt Float64.nearestOf x))
 | _=>none
noncomputable def intB (d:D):Option D:=match d with
 | .float x=>au (Float64.isFinite x) (.int (Flt.toInt Float64.truncOf x))
 | _=>none
noncomputable def Oc (ds:List D):Option D:=match ds with
 | []=>none
 | d :: r=>(Gr d).bind fun a=>match r with
  | []=>some (.range 0 a)
  | e :: q=>(Gr e).bind fun b=>Wy (some (.range a b)) q
noncomputable def W7 (d:D):Option D:=match d with
 | .range lo hi=>au (decide (0≤lo∧lo < 2 ^ 24∧hi < 2 ^ 24 ∧ -2 ^ 24 < hi)) (.list (eF lo hi))
 | _=>none
noncomputable def R5 (d:D):Option D:=match d with
 | .list xs=>au (decide (xs.length≤sizeLine)) (.tup xs)
 | _=>none
noncomputable def maxB (ds:List D):Option D:=match ds with
 | []=>none
 | d :: r=>(match r with
  | []=>CQ d fun ns=>au (decide (ns≠[])) (.int (ju ns))
  | _ :: q=>(match q with
   | []=>two ds fun a b=>some (.int (if b > a then b else a))
   | _ :: _=>IW ds fun a b c => .float (fmax (fmax a b) c)))
noncomputable def minB (ds:List D):Option D:=match ds with
 | []=>none
 | d :: r=>(match r with
  | []=>CQ d fun ns=>au (decide (ns≠[])) (.int (je ns))
  | _ :: q=>(match q with
   | []=>two ds fun a b=>some (.int (if b < a then b else a))
   | _ :: _=>IW ds fun a b c => .float (fmin (fmin a b) c)))
noncomputable def dK (b:Bn) (ds:List D):Option D:=match b with
 | .chr=>one ds chrB
 | .ord=>one ds ordB
 | .len=>one ds lenB
 | .max=>maxB ds
 | .min=>minB ds
 | .abs=>one ds absB
 | .round=>one ds QM
 | .int=>one ds intB
 | .range=>Oc ds
 | .list=>one ds W7
 | .sum=>one ds fun d=>CQ d fun ns=>some (.int ns.sum)
 | .tuple=>one ds R5
section
variable {prog:Program} {w:World} {A:Around} {s:Shared} {wsC:Fix} {ok:AP}
theorem pF {x:UInt64} (h:Float64.isFinite x=true):∃ sg m e,Float64.decode x=.fin sg m e:=by
 unfold Float64.isFinite at h
 cases hd:Float64.decode x with
 | fin sg m e=>exact ⟨sg,m,e,rfl⟩
 | nan=>rw [hd] at h; exact dM h
 | inf=>rw [hd] at h; exact dM h
noncomputable def Qy (g:UInt64→UInt64→Bool) (a b:UInt64):UInt64:=if g a b=true then b else a
theorem W5 {g:UInt64→UInt64→Bool} {f:Nat→Nat→Bool} {a b c:UInt64} {t u x:Tok} {v:Value} (h10:f 1 0=g a b) (h20:f 2 0=g a c) (h21:f 2 1=g b c) (hP:(#[Value.float a t,.float b u,.float c x])[argBest f 2]? = some v):∃ t',v=.float (Qy g (Qy g a b) c) t':=by
 have e:argBest f 2=if f 2 (if f 1 0=true then 1 else 0)=true then 2 else if f 1 0=true then 1 else 0:=rfl
 rw [e,h10] at hP
 unfold Qy
 cases hb:g a b with
 | true =>
  rw [hb] at hP
  have hP:(#[Value.float a t,.float b u,.float c x])[if f 2 1=true then 2 else 1]? = some v:=hP
  rw [h21] at hP
  rw [if_pos rfl]
  cases hc:g b c with
  | true=>rw [hc] at hP; exact ⟨x,(aj hP).symm⟩
  | false=>rw [hc] at hP; exact ⟨u,(aj hP).symm⟩
 | false =>
  rw [hb] at hP
  have hP:(#[Value.float a t,.float b u,.float c x])[if f 2 0=true then 2 else 0]? = some v:=hP
  rw [h20] at hP
  rw [if_neg Bool.false_ne_true]
  cases hc:g a c with
  | true=>rw [hc] at hP; exact ⟨x,(aj hP).symm⟩
  | false=>rw [hc] at hP; exact ⟨t,(aj hP).symm⟩
theorem Vn {a b c:UInt64} {t u x:Tok} {R:Value→Shared→Prop} (hh:A.handled=none)
  (h:∀ h' tk t',(∀ d o,s.heap.get? d=some o→h'.get? d=some o)→R (.float (fmax (fmax a b) c) t') { s with heap:=h',toks:=tk }) :
  Wp prog w A (call (.builtin "max") [.float a t,.float b u,.float c x]) s R:=by
 have hT:(s.heap.push { cls := .type "tuple",data := .seq #[.float a t,.float b u,.float c x] }).IsTuple s.heap.objs.size #[.float a t,.float b u,.float c x]:=⟨_,bw _ rfl,rfl,0,rfl⟩
 refine call_max_three (wpAny_pyIter_tuple hT ?_)
 have hsz:(s.heap.push { cls := .type "tuple",data := .seq #[.float a t,.float b u,.float c x] }).objs.size=s.heap.objs.size+1:=Heap.size_push ..
 refine ⟨_,[_,s.heap.objs.size],[_],_,_,_,_,rfl,Walks.tuple (A:=A.in1) hh _ s.heap.objs.size (by rw [hsz]; exact Nat.ne_of_lt (Nat.lt_succ_self _)) #[.float a t,.float b u,.float c x],
  ⟨⟨_,bw _ rfl,rfl,rfl⟩,hT.push _⟩,fun d hd=>?_,by simp,Flt.cmpOf_gt #[.float a t,.float b u,.float c x] (by
   intro v hv
   simp at hv
   rcases hv with rfl | rfl | rfl <;> exact .float _ _),fun v h' tk hP hk=>?_⟩
 ·show d < ((s.heap.push _).push _).objs.size
  rw [Heap.size_push,hsz]
  rcases cM hd with rfl | hd
  ·rw [hsz]; exact Nat.lt_succ_self _
  ·rcases cM hd with rfl | hd
   ·exact Nat.lt_succ_of_lt (Nat.lt_succ_self _)
   ·cases hd
 ·have hold:∀ d o,s.heap.get? d=some o→h'.get? d=some o:=fun d o e=>by
   refine hk d o (fun hm=>?_) (aQ _ (aQ _ e))
   rcases cM hm with e1 | hm
   ·have:=Heap.lt_size e; rw [e1,hsz] at this; exact Nat.lt_irrefl _ (Nat.lt_of_succ_lt this)
   ·cases hm
  have hv:∃ t',v=.float (fmax (fmax a b) c) t':=W5 (g:=fun a b=>Float64.cmp a b==some .lt) rfl rfl rfl hP
  obtain ⟨t',rfl⟩:=hv
  exact h h' tk t' hold
theorem Vm {a b c:UInt64} {t u x:Tok} {R:Value→Shared→Prop} (hh:A.handled=none)
  (h:∀ h' tk t',(∀ d o,s.heap.get? d=some o→h'.get? d=some o)→R (.float (fmin (fmin a b) c) t') { s with heap:=h',toks:=tk }) :
  Wp prog w A (call (.builtin "min") [.float a t,.float b u,.float c x]) s R:=by
 have hT:(s.heap.push { cls := .type "tuple",data := .seq #[.float a t,.float b u,.float c x] }).IsTuple s.heap.objs.size #[.float a t,.float b u,.float c x]:=⟨_,bw _ rfl,rfl,0,rfl⟩
 refine call_min_three (wpAny_pyIter_tuple hT ?_)
 have hsz:(s.heap.push { cls := .type "tuple",data := .seq #[.float a t,.float b u,.float c x] }).objs.size=s.heap.objs.size+1:=Heap.size_push ..
 refine ⟨_,[_,s.heap.objs.size],[_],_,_,_,_,rfl,Walks.tuple (A:=A.in1) hh _ s.heap.objs.size (by rw [hsz]; exact Nat.ne_of_lt (Nat.lt_succ_self _)) #[.float a t,.float b u,.float c x],
  ⟨⟨_,bw _ rfl,rfl,rfl⟩,hT.push _⟩,fun d hd=>?_,by simp,Flt.cmpOf_lt #[.float a t,.float b u,.float c x] (by
   intro v hv
   simp at hv
   rcases hv with rfl | rfl | rfl <;> exact .float _ _),fun v h' tk hP hk=>?_⟩
 ·show d < ((s.heap.push _).push _).objs.size
  rw [Heap.size_push,hsz]
  rcases cM hd with rfl | hd
  ·rw [hsz]; exact Nat.lt_succ_self _
  ·rcases cM hd with rfl | hd
   ·exact Nat.lt_succ_of_lt (Nat.lt_succ_self _)
   ·cases hd
 ·have hold:∀ d o,s.heap.get? d=some o→h'.get? d=some o:=fun d o e=>by
   refine hk d o (fun hm=>?_) (aQ _ (aQ _ e))
   rcases cM hm with e1 | hm
   ·have:=Heap.lt_size e; rw [e1,hsz] at this; exact Nat.lt_irrefl _ (Nat.lt_of_succ_lt this)
   ·cases hm
  have hv:∃ t',v=.float (fmin (fmin a b) c) t':=W5 (g:=fun a b=>Float64.cmp b a==some .lt) rfl rfl rfl hP
  obtain ⟨t',rfl⟩:=hv
  exact h h' tk t' hold
theorem yu (p:Int→Int→Bool):∀ (r:List Int) (a:Int),r.foldl (fun a b=>if p b a then b else a) a∈a :: r:=by
 intro r
 induction r with
 | nil =>
   intro a
   simp
 | cons b r ih =>
   intro a
   rw [List.foldl_cons]
   have:=ih (if p b a then b else a)
   rcases cM this with e | e
   ·rw [e]; split <;> simp
   ·simp [e]
theorem yq {ns:List Int} (h:ns≠[]):ju ns∈ns:=by
 induction ns using List.casesOn with
 | nil=>exact absurd rfl h
 | cons a r=>exact (yu (fun b a=>decide (b > a)) r a |> fun h=>by simpa [ju] using h)
theorem CP:∀ (r:List Int) (a:Int),∀ x∈a :: r,x≤r.foldl (fun a b=>if b > a then b else a) a:=by
 intro r
 induction r with
 | nil =>
   intro a x hx
   simp at hx; simp [hx]
 | cons b r ih =>
   intro a x hx
   rw [List.foldl_cons]
   have h1:=ih (if b > a then b else a)
   have h2:=h1 _ aH
   rcases cM hx with rfl | hx
   ·refine Int.le_trans ?_ h2; split <;> omega
   ·rcases cM hx with rfl | hx
    ·refine Int.le_trans ?_ h2; split <;> omega
    ·exact h1 x (cJ _ hx)
theorem wN {ns:List Int}:∀ x∈ns,x≤ju ns:=by
 induction ns using List.casesOn with
 | nil=>intro x hx; cases hx
 | cons a r=>exact CP r a
theorem En {ns:List Int} (h:ns≠[]):je ns∈ns:=by
 induction ns using List.casesOn with
 | nil=>exact absurd rfl h
 | cons a r=>exact (yu (fun b a=>decide (b < a)) r a |> fun h=>by simpa [je] using h)
theorem Bl:∀ (r:List Int) (a:Int),∀ x∈a :: r,r.foldl (fun a b=>if b < a then b else a) a≤x:=by
 intro r
 induction r with
 | nil =>
   intro a x hx
   simp at hx; simp [hx]
 | cons b r ih =>
   intro a x hx
   rw [List.foldl_cons]
   have h1:=ih (if b < a then b else a)
   have h2:=h1 _ aH
   rcases cM hx with rfl | hx
   ·refine Int.le_trans h2 ?_; split <;> omega
   ·rcases cM hx with rfl | hx
    ·refine Int.le_trans h2 ?_; split <;> omega
    ·exact h1 x (cJ _ hx)
theorem Ao {ns:List Int}:∀ x∈ns,je ns≤x:=by
 induction ns using List.casesOn with
 | nil=>intro x hx; cases hx
 | cons a r=>exact Bl r a
theorem lW {v:Value} {ns:List Int} {i:Nat} (h:∃ d,(ns.map D.int)[i]? = some d∧Rep wsC ok s.heap v d):i < ns.length∧∃ t,v=.int (ns.getD i 0) t:=by
 obtain ⟨d,hd,r⟩:=h
 rw [List.getElem?_map,Option.map_eq_some_iff] at hd
 obtain ⟨n,hn,rfl⟩:=hd
 have hl:i < ns.length:=(List.getElem?_eq_some_iff.mp hn).1
 obtain ⟨t,rfl⟩:=r.int_inv
 exact ⟨hl,t,by rw [List.getD_eq_getElem?_getD,hn]; rfl⟩
theorem Dq (ns:List Int):∀ k,k≤ns.length→preSum (fun i=>ns.getD i 0) k=(ns.take k).sum:=by
 intro k
 induction k with
 | zero =>
   intro _
   simp [preSum]
 | succ k ih =>
   intro h
   have ih:=ih (Nat.le_of_succ_le h)
   have hk:k < ns.length:=h
   rw [List.take_add_one,List.sum_append,← ih]
   simp [preSum,List.getD_eq_getElem?_getD,List.getElem?_eq_getElem hk]
theorem RepL.ofGet {h:Heap} {ds:List D}:∀ {vs:List Value},vs.length=ds.length→(∀ (i:Nat) (v:Value),vs[i]? = some v→∃ d,ds[i]? = some d∧Rep wsC ok h v d)→RepL wsC ok h vs ds:=by
 induction ds with
 | nil=>intro vs h _; rw [List.eq_nil_of_length_eq_zero h]; exact .nil
 | cons d ds ih =>
  intro vs hl h
  induction vs using List.casesOn with
  | nil=>exact nomatch hl
  | cons v vs =>
   refine .cons ?_ (ih (Nat.succ.inj hl) fun i v e=>h (i+1) v e)
   obtain ⟨d',h1,r⟩:=h 0 v rfl
   obtain rfl:=aj h1
   exact r
theorem Iter.old {s s₂:Shared} {I:Addr} {fp wr:List Addr} {items:List D} {P:Nat→Value→Prop} {St:Nat→Heap→Prop} {h:Heap} {h':Heap} {tk:Nat}
  (it:Iter prog w A wsC ok s.heap I fp wr items P St h) (gr:Grow s s₂) (hk:∀ b o,b ∉ wr→s₂.heap.get? b=some o→h'.get? b=some o):Grow s { s₂ with heap:=h',toks:=tk } :=
 ⟨fun b o e=>hk b o (fun hm=>by rw [it.new b hm] at e; exact aO e) (gr.keep b o e),gr.gens,gr.os⟩
section
variable {vs:List Value} {v:Value} {ds:List D} {d e:D}
theorem gF {F:D→Option D} (r:RepL wsC ok s.heap vs ds) (h:one ds F=some d):∃ v e,vs=[v]∧Rep wsC ok s.heap v e∧F e=some d:=by
 obtain ⟨e,rfl,h⟩:=mV (c:=id) (fun e=>aj e) h
 obtain ⟨v,rfl,a⟩:=r.one_inv
 exact ⟨v,_,rfl,a,h⟩
theorem n7 {F:List Int→Option D} (h:CQ e F=some d):∃ ns,e=.list (ns.map .int)∧F ns=some d:=by
 induction e using D.casesOn with
 | list xs =>
  obtain ⟨ns,hn,h⟩:=Option.bind_eq_some_iff.mp h
  exact ⟨ns,by rw [d8 hn],h⟩
 | _=>exact aO h
theorem Dw {F:Int→Int→Option D} (r:RepL wsC ok s.heap vs ds) (h:two ds F=some d):∃ a b t u,vs=[.int a t,.int b u]∧F a b=some d:=by
 obtain ⟨a,b,rfl,h⟩:=Be ir ir h
 obtain ⟨v,u,rfl,a,b⟩:=r.two_inv
 obtain ⟨t,rfl⟩:=a.int_inv
 obtain ⟨u,rfl⟩:=b.int_inv
 exact ⟨_,_,_,_,rfl,h⟩
theorem v6 {F:UInt64→UInt64→UInt64→D} (r:RepL wsC ok s.heap vs ds) (h:IW ds F=some d):∃ a b c t u x,vs=[.float a t,.float b u,.float c x]∧F a b c=d:=by
 obtain ⟨a,b,c,rfl,h⟩:=arg3_c CG CG CG h
 obtain ⟨v,u,x,rfl,a,b,c⟩:=r.three_inv
 obtain ⟨t,rfl⟩:=a.float_inv
 obtain ⟨u,rfl⟩:=b.float_inv
 obtain ⟨x,rfl⟩:=c.float_inv
 exact ⟨_,_,_,_,_,_,rfl,aj h⟩
theorem Vw (a:Rep wsC ok s.heap v e) (h:chrB e=some d):aL prog w A s wsC ok (call Bn.chr.val [v]) d:=by
 induction e using D.casesOn with
 | int i =>
  obtain ⟨t,rfl⟩:=a.int_inv
  obtain ⟨hc,rfl⟩:=ak h
  have hc:=cI hc
  exact chr_of_range hc.1 hc.2 Gj
 | _=>exact aO h
theorem Vc (a:Rep wsC ok s.heap v e) (h:ordB e=some d):aL prog w A s wsC ok (call Bn.ord.val [v]) d:=by
 induction e using D.casesOn with
 | str i =>
  obtain ⟨t,rfl⟩:=a.str_inv
  obtain ⟨hc,rfl⟩:=ak h
  exact ord_of_one (cI hc) j0
 | _=>exact aO h
theorem Wi (a:Rep wsC ok s.heap v e) (h:lenB e=some d):aL prog w A s wsC ok (call Bn.len.val [v]) d:=by
 induction e using D.casesOn with
 | list i =>
  obtain ⟨a1,vs1,n1,rfl,q⟩:=a.list_inv
  obtain ⟨hc,rfl⟩:=ak h
  have hc:=cI hc
  have hl:=q.r.length
  refine call_len_list ⟨_,q.g,rfl,_,rfl⟩ (by simp; omega) ?_
  rw [List.size_toArray,hl]
  exact j0
 | tup i =>
  obtain ⟨a1,vs1,n1,rfl,q⟩:=a.tup_inv
  obtain ⟨hc,rfl⟩:=ak h
  have hc:=cI hc
  have hl:=q.r.length
  refine P.len_tuple q.g (by simp; omega) ?_
  rw [List.size_toArray,hl]
  exact j0
 | str i =>
  obtain ⟨t,rfl⟩:=a.str_inv
  obtain ⟨hc,rfl⟩:=ak h
  have hc:=cI hc
  exact P.len_str (by omega) j0
 | _=>exact aO h
theorem T6 (a:Rep wsC ok s.heap v e) (h:absB e=some d):aL prog w A s wsC ok (call Bn.abs.val [v]) d:=by
 induction e using D.casesOn with
 | int i =>
  obtain ⟨t,rfl⟩:=a.int_inv
  obtain rfl:=aj h
  exact call_abs_int fun u tk=>j0
 | _=>exact aO h
theorem Lj (hh:A.handled=none) (a:Rep wsC ok s.heap v e) (h:QM e=some d):aL prog w A s wsC ok (call Bn.round.val [v]) d:=by
 induction e using D.casesOn with
 | float x =>
  obtain ⟨t,rfl⟩:=a.float_inv
  obtain ⟨hc,rfl⟩:=ak h
  obtain ⟨sg,m,e,hd⟩:=pF hc
  refine Flt.call_round_float hh (fun q=>?_) (fun q=>?_) fun _=>j0
  ·unfold Float64.isNaN at q; rw [hd] at q; exact dM q
  ·unfold Float64.isInf at q; rw [hd] at q; exact dM q
 | _=>exact aO h
theorem WD (hh:A.handled=none) (a:Rep wsC ok s.heap v e) (h:intB e=some d):aL prog w A s wsC ok (call Bn.int.val [v]) d:=by
 induction e using D.casesOn with
 | float x =>
  obtain ⟨t,rfl⟩:=a.float_inv
  obtain ⟨hc,rfl⟩:=ak h
  obtain ⟨sg,m,e,hd⟩:=pF hc
  refine Flt.call_int_float3 hh (fun q=>?_) (fun q=>?_) fun _=>j0
  ·unfold Float64.isNaN at q; rw [hd] at q; exact dM q
  ·unfold Float64.isInf at q; rw [hd] at q; exact dM q
 | _=>exact aO h
theorem MJ (hf:Fresh ok s.heap) (r:RepL wsC ok s.heap vs ds) (h:Oc ds=some d):aL prog w A s wsC ok (call Bn.range.val vs) d:=by
 induction ds using List.casesOn with
 | nil=>exact aO h
 | cons d1 r1 =>
  obtain ⟨a,ha,h⟩:=Option.bind_eq_some_iff.mp h
  obtain rfl:=ir ha
  induction r1 using List.casesOn with
  | nil =>
   obtain rfl:D.range 0 a=d:=aj h
   obtain ⟨v,rfl,a⟩:=r.one_inv
   obtain ⟨t,rfl⟩:=a.int_inv
   exact call_range_1 ⟨.push _ _,.range hf.new (IsRange.new _ _ _ _ _ _ _)⟩
  | cons e q =>
   obtain ⟨b,hb,h⟩:=Option.bind_eq_some_iff.mp h
   obtain rfl:=ir hb
   obtain ⟨rfl,h⟩:=Gy h
   obtain rfl:D.range a b=d:=aj h
   obtain ⟨v,u,rfl,a,b⟩:=r.two_inv
   obtain ⟨t,rfl⟩:=a.int_inv
   obtain ⟨u,rfl⟩:=b.int_inv
   exact call_range_2 ⟨.push _ _,.range hf.new (IsRange.new _ _ _ _ _ _ _)⟩
theorem Ru (hh:A.handled=none) (hf:Fresh ok s.heap) (a:Rep wsC ok s.heap v e) (h:W7 e=some d):aL prog w A s wsC ok (call Bn.list.val [v]) d:=by
 induction e using D.casesOn with
 | range lo hi =>
  obtain ⟨a1,t,u,x,rfl,o,g⟩:=a.range_inv
  obtain ⟨hc,rfl⟩:=ak h
  have hc:=cI hc
  have hb:=oF hc
  refine call_list_range hh g hb.1 hb.2 (by omega (config:={})) fun h' tk acc' c' hk he hi=>⟨.heap _ hk,.list (vs:=acc'.toList) hf.new (by simpa using he) (RepL.ofGet ?_ fun i v hv=>?_)⟩
  ·rw [jL,Array.length_toList,hi.1]
  ·have hlt:i < acc'.toList.length:=(List.getElem?_eq_some_iff.mp hv).1
   rw [Array.length_toList,hi.1] at hlt
   obtain ⟨t,rfl⟩:=hi.2 i v (by simpa using hv)
   refine ⟨_,q8 hlt,?_⟩
   rw [Int.mul_one]; exact .int _ _
 | _=>exact aO h
theorem Ma (hf:Fresh ok s.heap) (a:Rep wsC ok s.heap v e) (h:R5 e=some d):aL prog w A s wsC ok (call Bn.tuple.val [v]) d:=by
 induction e using D.casesOn with
 | list xs =>
  obtain ⟨a1,vs,n,rfl,q⟩:=a.list_inv
  obtain ⟨hc,rfl⟩:=ak h
  have hc:=cI hc
  refine call_tuple_list ⟨_,q.g,rfl,_,rfl⟩ (fun h' hk=>?_) (by rw [List.size_toArray,q.r.length]; exact hc)
  have hk':∀ b o,s.heap.get? b=some o→(h'.push { cls := .type "tuple",data := .seq (List.toArray vs) }).get? b=some o:=fun b o e=>aQ _ (hk b o e)
  exact ⟨.heap _ hk',.tup (hf.keep hk).new (bw _ rfl) (q.r.keep hk')⟩
 | _=>exact aO h
theorem Vj (hh:A.handled=none) {ns:List Int} (a:Rep wsC ok s.heap v (.list (ns.map .int))) (hc:ns≠[]):aL prog w A s wsC ok (call Bn.max.val [v]) (.int (ju ns)):=by
 refine call_max_walk (wpAny_mono (jy (A:=A.in1) hh a rfl) (fun it s₂ hi=>?_) fun _ _ e=>e)
 obtain ⟨gr,I,fp,wr,P,St,rfl,it⟩:=hi
 have hn:0 < ns.length:=List.length_pos_iff.mpr hc
 have hw:=it.walks
 rw [List.length_map] at hw
 refine ⟨I,fp,wr,ns.length,P,St,_,rfl,hw,it.st,fun b hb=>by obtain ⟨o,e⟩:=it.there b hb; exact Heap.lt_size e,hn,CmpOf.ints_gt (fun i=>ns.getD i 0) (fun i v hv=>(lW (it.item i v hv)).2),fun v h' tk hP hk=>?_⟩
 obtain ⟨hb,t,rfl⟩:=lW (it.item _ _ hP)
 have hbest:=argBest_gt (fun i=>ns.getD i 0) (ns.length-1)
 have he:ns.getD (argBest (fun i j=>decide (ns.getD i 0 > ns.getD j 0)) (ns.length-1)) 0=ju ns:=by
  apply Int.le_antisymm
  ·refine wN _ ?_
   rw [List.getD_eq_getElem?_getD,List.getElem?_eq_getElem hb]; exact List.getElem_mem _
  ·obtain ⟨j,hj,e⟩:=List.getElem_of_mem (yq hc)
   have:=hbest.2 j (by omega)
   rw [← e]
   simpa only [List.getD_eq_getElem?_getD,List.getElem?_eq_getElem hj,Option.getD_some] using this
 rw [he]
 exact ⟨it.old gr hk,.int _ _⟩
theorem Vz (hh:A.handled=none) (r:RepL wsC ok s.heap vs ds) (h:maxB ds=some d):aL prog w A s wsC ok (call Bn.max.val vs) d:=by
 induction ds using List.casesOn with
 | nil=>exact aO h
 | cons e1 r1=>induction r1 using List.casesOn with
  | nil =>
   obtain ⟨v,rfl,a⟩:=r.one_inv
   obtain ⟨ns,rfl,h'⟩:=n7 h
   obtain ⟨hc,rfl⟩:=ak h'
   exact Vj hh a (cI hc)
  | cons e2 r2=>induction r2 using List.casesOn with
   | nil =>
    obtain ⟨a,b,t,u,rfl,h⟩:=Dw r h
    obtain rfl:=aj h
    refine max_two_ints hh fun h' tk hk=>⟨.heap _ hk,?_⟩
    split <;> exact .int _ _
   | cons e3 r3 =>
    obtain ⟨a,b,c,t,u,x,rfl,rfl⟩:=v6 r h
    exact Vn hh fun h' tk t' hk=>⟨.heap _ hk,.float _ _⟩
theorem Uk (hh:A.handled=none) {ns:List Int} (a:Rep wsC ok s.heap v (.list (ns.map .int))) (hc:ns≠[]):aL prog w A s wsC ok (call Bn.min.val [v]) (.int (je ns)):=by
 refine call_min_walk (wpAny_mono (jy (A:=A.in1) hh a rfl) (fun it s₂ hi=>?_) fun _ _ e=>e)
 obtain ⟨gr,I,fp,wr,P,St,rfl,it⟩:=hi
 have hn:0 < ns.length:=List.length_pos_iff.mpr hc
 have hw:=it.walks
 rw [List.length_map] at hw
 refine ⟨I,fp,wr,ns.length,P,St,_,rfl,hw,it.st,fun b hb=>by obtain ⟨o,e⟩:=it.there b hb; exact Heap.lt_size e,hn,CmpOf.ints_lt (fun i=>ns.getD i 0) (fun i v hv=>(lW (it.item i v hv)).2),fun v h' tk hP hk=>?_⟩
 obtain ⟨hb,t,rfl⟩:=lW (it.item _ _ hP)
 have hbest:=argBest_lt (fun i=>ns.getD i 0) (ns.length-1)
 have he:ns.getD (argBest (fun i j=>decide (ns.getD i 0 < ns.getD j 0)) (ns.length-1)) 0=je ns:=by
  apply Int.le_antisymm
  ·obtain ⟨j,hj,e⟩:=List.getElem_of_mem (En hc)
   have:=hbest.2 j (by omega)
   rw [← e]
   simpa only [List.getD_eq_getElem?_getD,List.getElem?_eq_getElem hj,Option.getD_some] using this
  ·refine Ao _ ?_
   rw [List.getD_eq_getElem?_getD,List.getElem?_eq_getElem hb]; exact List.getElem_mem _
 rw [he]
 exact ⟨it.old gr hk,.int _ _⟩
theorem Ul (hh:A.handled=none) (r:RepL wsC ok s.heap vs ds) (h:minB ds=some d):aL prog w A s wsC ok (call Bn.min.val vs) d:=by
 induction ds using List.casesOn with
 | nil=>exact aO h
 | cons e1 r1=>induction r1 using List.casesOn with
  | nil =>
   obtain ⟨v,rfl,a⟩:=r.one_inv
   obtain ⟨ns,rfl,h'⟩:=n7 h
   obtain ⟨hc,rfl⟩:=ak h'
   exact Uk hh a (cI hc)
  | cons e2 r2=>induction r2 using List.casesOn with
   | nil =>
    obtain ⟨a,b,t,u,rfl,h⟩:=Dw r h
    obtain rfl:=aj h
    refine min_two_ints hh fun h' tk hk=>⟨.heap _ hk,?_⟩
    split <;> exact .int _ _
   | cons e3 r3 =>
    obtain ⟨a,b,c,t,u,x,rfl,rfl⟩:=v6 r h
    exact Vm hh fun h' tk t' hk=>⟨.heap _ hk,.float _ _⟩
theorem U8 (hh:A.handled=none) {ns:List Int} (a:Rep wsC ok s.heap v (.list (ns.map .int))):aL prog w A s wsC ok (call Bn.sum.val [v]) (.int ns.sum):=by
 refine call_sum_walkG (wpAny_mono (jy (A:=A.in1) hh a rfl) (fun it s₂ hi=>?_) fun _ _ e=>e)
 obtain ⟨gr,I,fp,wr,P,St,rfl,it⟩:=hi
 have hw:=it.walks
 rw [List.length_map] at hw
 refine ⟨I,fp,wr,ns.length,P,St,(fun i=>ns.getD i 0),rfl,hw,it.st,fun b hb=>by obtain ⟨o,e⟩:=it.there b hb; exact Heap.lt_size e,(fun i v hv=>(lW (it.item i v hv)).2),fun h' tk t' hk=>?_⟩
 have:=Dq ns ns.length (Nat.le_refl _)
 rw [List.take_length] at this
 rw [this]
 exact ⟨it.old gr hk,.int _ _⟩
theorem Sx {b:Bn} {n:Nat} (hA:OkA A n) (hf:Fresh ok s.heap) (r:RepL wsC ok s.heap vs ds) (h:dK b ds=some d):aL prog w A s wsC ok (call b.val vs) d:=by
 have hh:=hA.h
 cases b with
 | chr=>obtain ⟨v,e,rfl,a,h⟩:=gF r h; exact Vw a h
 | ord=>obtain ⟨v,e,rfl,a,h⟩:=gF r h; exact Vc a h
 | len=>obtain ⟨v,e,rfl,a,h⟩:=gF r h; exact Wi a h
 | abs=>obtain ⟨v,e,rfl,a,h⟩:=gF r h; exact T6 a h
 | round=>obtain ⟨v,e,rfl,a,h⟩:=gF r h; exact Lj hh a h
 | int=>obtain ⟨v,e,rfl,a,h⟩:=gF r h; exact WD hh a h
 | list=>obtain ⟨v,e,rfl,a,h⟩:=gF r h; exact Ru hh hf a h
 | tuple=>obtain ⟨v,e,rfl,a,h⟩:=gF r h; exact Ma hf a h
 | max=>exact Vz hh r h
 | min=>exact Ul hh r h
 | range=>exact MJ hf r h
 | sum =>
  obtain ⟨v,e,rfl,a,h⟩:=gF r h
  obtain ⟨ns,rfl,h'⟩:=n7 h
  obtain rfl:=aj h'
  exact U8 hh a
end
end
noncomputable def small (k:Int):Bool:=decide (0≤k∧k < 2 ^ 62)
noncomputable def jW:D→D→Option D
 | .list xs,.int k=>au (small k) () >>= fun _=>xs[k.toNat]?
 | .tup xs,.int k=>au (small k&&decide (xs.length < 2 ^ 62)) () >>= fun _=>xs[k.toNat]?
 | _,_=>none
noncomputable def mK (d:D) (lo hi:Option Int):Option D :=
 match d with
 | .list xs=>au (decide (xs.length≤sizeLine)&&lo.all small&&hi.all small)
   (.list ((xs.drop ((lo.elim 0 Int.toNat))).take (hi.elim xs.length Int.toNat-lo.elim 0 Int.toNat)))
 | _=>none
noncomputable def strsOf:List D→Option (List Str)
 | []=>some []
 | .str i :: r=>(strsOf r).map (i :: ·)
 | _=>none
theorem MP {ds:List D}:∀ {ns:List Str},strsOf ds=some ns→ds=ns.map D.str:=by
 induction ds with
 | nil=>intro ns h; obtain rfl:=aj h; rfl
 | cons d r ih =>
  intro ns h
  induction d using D.casesOn with
  | str i =>
   obtain ⟨m,hm,rfl⟩:=Option.map_eq_some_iff.mp h
   rw [ih hm]; rfl
  | _=>exact aO h
inductive Mt | join | lower | count | get
 deriving DecidableEq
noncomputable def Mt.name:Mt→Str | .join => "join" | .lower => "lower" | .count => "count" | .get => "get"
noncomputable def Mt.id:Mt→String | .join => "str.join" | .lower => "str.lower" | .count => "list.count" | .get => "dict.get"
noncomputable def Mt.ty:Mt→String | .join => "str" | .lower => "str" | .count => "list" | .get => "dict"
noncomputable def xT (m:Str):Option Mt:=if m==Mt.name .join then some .join else if m==Mt.name .lower then some .lower else if m==Mt.name .count then some .count else if m==Mt.name .get then some .get else none
theorem J6 {m:Str} {t:Mt} (h:xT m=some t):m=t.name:=by
 unfold xT at h
 split at h
 ·obtain rfl:=aj h; rename_i q; simpa using q
 ·split at h
  ·obtain rfl:=aj h; rename_i q; simpa using q
  ·split at h
   ·obtain rfl:=aj h; rename_i q; simpa using q
   ·split at h
    ·obtain rfl:=aj h; rename_i q; simpa using q
    ·exact aO h
noncomputable def joinM (sep:Str) (ds:List D):Option D :=
 arg1 asL (fun xs=>(strsOf xs).bind fun ts=>au (!Builtin.Str.tooLong (ts.toArray.foldl (fun a p=>a+p.length+sep.length) 0)&&decide ((Txt.join sep ts).length≤sizeLine)) (.str (Txt.join sep ts))) ds
noncomputable def Nh (x:Str) (ds:List D):Option D:=Wy (au (!Builtin.Str.tooLong (Txt.lower x).length) (.str (Txt.lower x))) ds
noncomputable def countM (xs:List D) (ds:List D):Option D:=arg1 Gr (fun k=>(intsOf xs).bind fun ns=>some (.int (ns.count k:Nat))) ds
noncomputable def getM (f:Int→Option Str) (ds:List D):Option D:=arg1 Gr (fun k=>some (match f k with | some x => .str x | none => .none)) ds
noncomputable def uw (m:Mt) (d:D) (ds:List D):Option D:=match m with
 | .join=>(match d with | .str sep=>joinM sep ds | _=>none)
 | .lower=>(match d with | .str x=>Nh x ds | _=>none)
 | .count=>(match d with | .list xs=>countM xs ds | _=>none)
 | .get=>(match d with | .imap f=>getM f ds | _=>none)
section
variable {prog:Program} {w:World} {A:Around} {s:Shared} {wsC:Fix} {ok:AP}
theorem Et {h:Heap} {ns:List Str}:∀ {vs:List Value},RepL wsC ok h vs (ns.map D.str)→∃ l:List (Str × Tok),vs=strValues l∧l.map (·.1)=ns:=by
 induction ns with
 | nil=>intro vs r; rw [r.nil_inv]; exact ⟨[],rfl,rfl⟩
 | cons n ns ih =>
  intro vs r
  obtain ⟨v,vs',rfl,a,b⟩:=r.cons_inv
  obtain ⟨t,rfl⟩:=a.str_inv
  obtain ⟨l,rfl,e⟩:=ih b
  exact ⟨(n,t) :: l,rfl,by simp [e]⟩
theorem Yw {value slice:Expr} {a b:Value} {d e r:D} (hs:subscripted slice false a b=operate [a,b] (getItem a b)) (ha:Rep wsC ok s.heap a d) (hb:Rep wsC ok s.heap b e) (h:jW d e=some r) :
  aL prog w A s wsC ok (subscriptTail value slice a b) r:=by
 induction d using D.casesOn with
 | list xs =>
  induction e using D.casesOn with
  | int k =>
   obtain ⟨_,hg,h⟩:=Option.bind_eq_some_iff.mp h
   have hk:=cI (ak hg).1
   obtain ⟨a1,vs1,n1,rfl,o,g,rl⟩:=ha.list_inv
   obtain ⟨t,rfl⟩:=hb.int_inv
   obtain ⟨v,hv,rv⟩:=rl.get h
   exact tail_any (Heap.IsList.typeIs ⟨_,g,rfl,_,rfl⟩) slot_list_getitem.lookup (wpAny_getItem_list ⟨_,g,rfl,_,rfl⟩ hk.1 (Int.lt_trans hk.2 (by decide)) (by simpa using hv) ⟨.refl _,rv⟩) hs
  | _=>exact aO h
 | tup xs =>
  induction e using D.casesOn with
  | int k =>
   obtain ⟨_,hg,h⟩:=Option.bind_eq_some_iff.mp h
   obtain ⟨hk,hl⟩:=bj (ak hg).1
   have hk:=cI hk
   obtain ⟨a1,vs1,n1,rfl,o,g,rl⟩:=ha.tup_inv
   obtain ⟨t,rfl⟩:=hb.int_inv
   obtain ⟨v,hv,rv⟩:=rl.get h
   have hlt:k.toNat < xs.length:=(List.getElem?_eq_some_iff.mp h).1
   have hT:IsTup s.heap _ (List.toArray _):=⟨_,g,rfl,_,rfl⟩
   refine tail_any hT.typeIs slot_tuple_getitem.lookup (getItem_tuple hT (Int.le_trans (by decide) hk.1) (Int.lt_trans hk.2 (by decide)) (j:=k.toNat) ?_ (by simpa using hv) ⟨.refl _,rv⟩) hs
   unfold seqIndex?
   rw [List.size_toArray,rl.length]
   have h1:¬ (k < 0):=by omega
   simp only [h1,if_false]
   first
   | (rw [if_pos (by omega)])
   | (simp; omega)
  | _=>exact aO h
 | _=>exact aO h
theorem wY {n:Nat} {k:Int} (h:small k=true):clipAt n k=min k.toNat n:=by
 have hk:=cI h
 have e:k=((k.toNat:Nat):Int):=by omega
 conv=>lhs; rw [e]
 exact clipAt_nat _ _
theorem Ph {value:Expr} {lower upper:Option Expr} {p:Pos} {sl:Addr} {a vl vu:Value} {d r:D} {lo hi:Option Int} (hf:Fresh ok s.heap) (ha:Rep wsC ok s.heap a d)
  (hs:s.heap.IsSliceOf sl vl vu .none) (hl:IsPart vl lo) (hu:IsPart vu hi) (h:mK d lo hi=some r) :
  aL prog w A s wsC ok (subscriptTail value (.Slice lower upper none p) a (.ref sl)) r:=by
 induction d using D.casesOn with
 | list xs =>
  obtain ⟨hg,rfl⟩:=ak h
  rw [Bool.and_eq_true,Bool.and_eq_true,decide_eq_true_eq] at hg
  obtain ⟨⟨hz,hlo⟩,hhi⟩:=hg
  obtain ⟨a',vs,n,rfl,o,g,rl⟩:=ha.list_inv
  have hL:s.heap.IsList a' (List.toArray vs):=⟨_,g,rfl,_,rfl⟩
  refine tail_any hL.typeIs slot_list_getitem.lookup (wpAny_getItem_list_slice hL hs hl hu .none (by simp) ⟨.push _ _,?_⟩ (by rw [List.size_toArray,rl.length]; exact hz)) rfl
  have e:slicePick (List.toArray vs) lo hi none=List.toArray ((vs.drop (lo.elim 0 Int.toNat)).take (hi.elim vs.length Int.toNat-lo.elim 0 Int.toNat)):=by
   rw [slicePick_plain]
   congr 1
   rw [List.size_toArray]
   have e1:lo.elim 0 (clipAt vs.length)=min (lo.elim 0 Int.toNat) vs.length:=by
    induction lo using Option.casesOn with
    | none=>simp
    | some k=>exact wY hlo
   have e2:hi.elim vs.length (clipAt vs.length)=min (hi.elim vs.length Int.toNat) vs.length:=by
    induction hi using Option.casesOn with
    | none=>simp
    | some k=>exact wY hhi
   rw [e1,e2]
   generalize lo.elim 0 Int.toNat=x
   generalize hi.elim vs.length Int.toNat=y
   apply List.ext_getElem?
   intro i
   simp only [List.getElem?_take,List.getElem?_drop]
   by_cases hx:x≤vs.length
   ·rw [Nat.min_eq_left hx]
    by_cases hy:y≤vs.length
    ·rw [Nat.min_eq_left hy]
    ·rw [Nat.min_eq_right (Nat.le_of_lt (Nat.not_le.mp hy))]
     by_cases hi:i < vs.length-x
     ·rw [if_pos hi,if_pos (by omega)]
     ·rw [if_neg hi]
      split
      ·rw [List.getElem?_eq_none (by omega)]
      ·rfl
   ·rw [Nat.min_eq_right (by exact Nat.le_of_lt (Nat.not_le.mp hx):vs.length≤x)]
    have n1:vs[vs.length+i]? = none:=List.getElem?_eq_none (Nat.le_add_right _ _)
    have n2:vs[x+i]? = none:=List.getElem?_eq_none (by omega)
    rw [n1,n2]; simp
  rw [e,← rl.length]
  exact .list hf.new (by exact bw _ rfl) ((RepL.take _ (RepL.drop _ rl)).keep fun b o=>aQ _)
 | _=>exact aO h
section
variable {v:Value} {vs:List Value} {d:D} {ds:List D} {r:D}
theorem O4 {sep:Str} {t:Tok} (hr:RepL wsC ok s.heap vs ds) (h:joinM sep ds=some r):aL prog w A s wsC ok (call (.builtin "str.join") (.str sep t :: vs)) r:=by
 obtain ⟨xs,rfl,h⟩:=mV Df h
 obtain ⟨v,rfl,a⟩:=hr.one_inv
 obtain ⟨ts,hts,h⟩:=Option.bind_eq_some_iff.mp h
 obtain ⟨hg,rfl⟩:=ak h
 obtain ⟨h1,h2⟩:=bj hg
 have:=MP hts
 subst this
 obtain ⟨a1,vs1,n1,rfl,q⟩:=a.list_inv
 obtain ⟨l,rfl,hl⟩:=Et q.r
 subst hl
 refine call_meets F.slot_str_join (typeIs_str _ _ _) F.entry_str_join (F.args_str_join_2 _ _) (meets_str_join_list _ _ _ _ ((Bool.not_eq_true' _).mp h1)) ⟨⟨_,q.g,rfl,_,rfl⟩,?_⟩
 exact post_join _ ⟨cI h2,fun t' k=>Gj⟩
theorem Ly {x:Str} {t:Tok} (hr:RepL wsC ok s.heap vs ds) (h:Nh x ds=some r):aL prog w A s wsC ok (call (.builtin "str.lower") (.str x t :: vs)) r:=by
 obtain ⟨rfl,h⟩:=Gy h
 obtain ⟨hg,rfl⟩:=ak h
 obtain rfl:=hr.nil_inv
 exact SC.lower ((Bool.not_eq_true' _).mp hg) Gj
theorem Ko {xs:List D} {a:Addr} {us:List Value} {n:Nat} (q:SeqRep "list" wsC ok s.heap xs a us n) (hr:RepL wsC ok s.heap vs ds) (h:countM xs ds=some r):aL prog w A s wsC ok (call (.builtin "list.count") (.ref a :: vs)) r:=by
 obtain ⟨k,rfl,h⟩:=mV ir h
 obtain ⟨ns,hns,h⟩:=Option.bind_eq_some_iff.mp h
 obtain rfl:=aj h
 obtain ⟨o,g,rl⟩:=q
 have:=d8 hns
 subst this
 obtain ⟨v,rfl,a⟩:=hr.one_inv
 obtain ⟨t,rfl⟩:=a.int_inv
 have hI:=rl.toInts
 refine call_meets F.slot_list_count (Heap.IsList.typeIs ⟨_,g,rfl,_,rfl⟩) F.entry_list_count (F.args_list_count_2 _ _) (MeetsSeq.list_count _ _ _ _ (isInt _) (fun y hy=>eq_isInt _ _ hI y (by simpa using hy))) ⟨g,?_⟩
 rw [List.toList_toArray,PyProof.Rows.countP_isInt _ hI]
 exact j0
theorem Th {K:Frag} (fx:FixOk K wsC) (hK:K.In s.heap) {f:Int→Option Str} {a:Addr} (hm:wsC.map a f) (hr:RepL wsC ok s.heap vs ds) (h:getM f ds=some r):aL prog w A s wsC ok (call (.builtin "dict.get") (.ref a :: vs)) r:=by
 obtain ⟨k,rfl,h⟩:=mV ir h
 obtain rfl:=aj h
 obtain ⟨v,rfl,b⟩:=hr.one_inv
 obtain ⟨t,rfl⟩:=b.int_inv
 obtain ⟨hsys,o,ho,hex,es,ep,hd,hk,hf⟩:=fx.map _ _ hm
 have ht:s.TypeIs (.ref a) "dict" := ⟨o,hK _ _ ho,hex.1⟩
 refine call_meetsIn F.slot_dict_get ht F.entry_dict_get (F.args_dict_get_2 _ _) (meets_dict_get (intKind prog w) a (intKind_is prog w k t) hsys) ⟨fun k=>findBy Value.isInt es k,⟨o,es,ep,hK _ _ ho,hex,hd,hk prog w,fun _=>rfl⟩,?_⟩
 have:=hf k
 refine ⟨.tok _,?_⟩
 cases hfk:f k with
 | none =>
  rw [hfk] at this
  dsimp only at this ⊢
  rw [this]; exact .none
 | some x =>
  rw [hfk] at this
  dsimp only at this ⊢
  obtain ⟨t',e⟩:=this
  rw [e]; exact .str _ _
theorem SJ {K:Frag} (fx:FixOk K wsC) (hK:K.In s.heap) {m:Mt} (hh:A.handled=none) (hd:Rep wsC ok s.heap v d) (hr:RepL wsC ok s.heap vs ds) (h:uw m d ds=some r):aL prog w A s wsC ok (call (.builtin m.id) (v :: vs)) r:=by
 induction m using Mt.casesOn with
 | join=>induction d using D.casesOn with
  | str sep=>obtain ⟨t,rfl⟩:=hd.str_inv; exact O4 hr h
  | _=>exact aO h
 | lower=>induction d using D.casesOn with
  | str sep=>obtain ⟨t,rfl⟩:=hd.str_inv; exact Ly hr h
  | _=>exact aO h
 | count=>induction d using D.casesOn with
  | list xs=>obtain ⟨a,us,n,rfl,q⟩:=hd.list_inv; exact Ko q hr h
  | _=>exact aO h
 | get=>induction d using D.casesOn with
  | imap f=>obtain ⟨a,rfl,hm⟩:=hd.imap_inv; exact Th fx hK hm hr h
  | _=>exact aO h
end
end
noncomputable abbrev Fn:=List D→Option D
structure Ctx where
 fns:List (Str × Fn)
 vals:List (Str × D)
 meths:List (Str × Fn)
noncomputable def Ov (prog:Program) (w:World) (K:Frag) (mg:Str→Option Value) (wsC:Fix) (n:Nat) (v:Value) (F:Fn):Prop :=
 ∀ {A:Around} {s:Shared} {ok:AP} {vs:List Value} {ds:List D} {d:D},OkA A n→Gl K mg s.heap→Fresh ok s.heap→RepL wsC ok s.heap vs ds→F ds=some d→aL prog w A s wsC ok (call v vs) d
noncomputable def attrNames:List Str:=["raw","n","nt","norm","is_simple"]
structure CtxOk (prog:Program) (w:World) (K:Frag) (mg:Str→Option Value) (wsC:Fix) (n:Nat) (G:Ctx):Prop where
 fn:∀ x F,G.fns.lookup x=some F→∃ v,mg x=some v∧keepIn K v=true∧Ov prog w K mg wsC n v F
 val:∀ x d,G.vals.lookup x=some d→∃ v,mg x=some v∧∀ ok h,Rep wsC ok h v d
 bn:∀ b:Bn,mg b.name=none
 zip:mg "zip" = none
 fix:FixOk K wsC
 hga:findIn K (.ref wsC.ws) "__getattribute__" = some (some (.builtin "object.__getattribute__"))
 hgk:findIn K (.ref wsC.ws) "__getattr__" = some none
 hhd:hasDictIn K wsC.ws=true
 attrs:∀ a∈attrNames,findIn K (.ref wsC.ws) a=some none
 meth:∀ x F,G.meths.lookup x=some F→x∈meths∧∃ f,findIn K (.ref wsC.ws) x=some (some (.ref f))∧typeIn K (.ref f)=some (.type "function")∧keepIn K (.ref f)=true∧Ov prog w K mg wsC n (.ref f) F
noncomputable abbrev aJ:=List (Str × D)
noncomputable abbrev Sc:=List (Str × NameKind)
noncomputable def NameVal (env:Env) (h:Heap) (x:Str) (v:Value):Prop :=
 (env.kindOf x=some .local∧∃ m,h.Ns env.locals m∧m x=some v) ∨
 ((env.kindOf x=some .cell∨env.kindOf x=some .free)∧∃ c,env.cells.lookup x=some c∧h.IsCell c (some v))
theorem NameVal.keep {env:Env} {h h':Heap} {x:Str} {v:Value} (X:NameVal env h x v) (hk:∀ b o,h.get? b=some o→h'.get? b=some o):NameVal env h' x v:=by
 rcases X with ⟨a,m,b,c⟩ | ⟨a,c,b,d⟩
 ·exact .inl ⟨a,m,b.keeps hk,c⟩
 ·exact .inr ⟨a,c,b,d.keeps hk⟩
structure EnvOk (wsC:Fix) (ok:AP) (env:Env) (h:Heap) (sc:Sc) (ρ:aJ):Prop where
 names:env.scope.names=sc
 kind:env.scope.kind=.function
 glob:env.globals=mainGlobals
 bi:env.builtins=builtinsNs
 cells:∀ n,(sc.lookup n=some .cell∨sc.lookup n=some .free)→∃ c,env.cells.lookup n=some c
 vals:∀ x d,ρ.lookup x=some d→∃ v,NameVal env h x v∧Rep wsC ok h v d
structure StA (K:Frag) (mg:Str→Option Value) (wsC:Fix) (ok:AP) (env:Env) (h:Heap) (sc:Sc) (ρ:aJ):Prop where
 gl:Gl K mg h
 fresh:Fresh ok h
 env:EnvOk wsC ok env h sc ρ
theorem StA.keep {K:Frag} {mg:Str→Option Value} {wsC:Fix} {ok:AP} {env:Env} {h h':Heap} {sc:Sc} {ρ:aJ} (X:StA K mg wsC ok env h sc ρ) (hk:∀ b o,h.get? b=some o→h'.get? b=some o):StA K mg wsC ok env h' sc ρ :=
 ⟨X.gl.keep hk,X.fresh.keep hk,X.env.names,X.env.kind,X.env.glob,X.env.bi,X.env.cells,fun x d e=>by obtain ⟨v,a,b⟩:=X.env.vals x d e; exact ⟨v,a.keep hk,b.keep hk⟩⟩
noncomputable def bW (x:Str):Bool:=!(x==("__debug__" : Str))&&!(x==("__classdict__" : Str))
noncomputable def oR (G:Ctx) (sc:Sc) (ρ:aJ) (x:Str):Option D :=
 au (bW x) () >>= fun _=>match ρ.lookup x with
  | some d=>some d
  | none=>match sc.lookup x with
   | some .globalImplicit=>G.vals.lookup x
   | _=>none
noncomputable def Rx (x:Ws) (a:Str):Option D :=
 if a == "raw" then some (.str x.raw) else if a == "n" then some (.int x.n) else if a == "nt" then some (.int x.nt)
 else if a == "norm" then some (.tup [.tup (x.count.map D.int),.int x.b]) else if a == "is_simple" then some (.bool (decide (x.count.length≤1))) else none
noncomputable def Br (d:D) (a:Str):Option D:=match d with | .ws x=>Rx x a | _=>none
noncomputable def HH:Const→Option D
 | .none=>some .none
 | .bool b=>some (.bool b)
 | .int i=>some (.int i)
 | .float x=>some (.float x)
 | .str x=>some (.str x)
 | _=>none
noncomputable def plainBase:Expr→Bool
 | .Call (.Name _ _) [] [] _=>false
 | _=>true
theorem dh {o:Expr} {a:Str} {env:Env} {t:Sem Value} (h:plainBase o=true):attributeBase o a env t=t:=by
 induction o using Expr.casesOn with
 | Call f as ks p=>induction f using Expr.casesOn with
  | Name id q=>induction as using List.casesOn with
   | nil=>induction ks using List.casesOn with
    | nil=>exact nomatch h
    | cons _ _=>rfl
   | cons _ _=>rfl
  | _=>rfl
 | _=>rfl
section
variable {prog:Program} {w:World} {A:Around} {s:Shared} {wsC:Fix} {ok:AP} {K:Frag} {mg:Str→Option Value} {G:Ctx} {env:Env} {sc:Sc} {ρ:aJ} {n:Nat}
theorem Rq {c:Const} {k:Nat} {pos:Pos} {d:D} (h:HH c=some d):aL prog w A s wsC ok (eval (.Constant c k pos) env) d:=by
 cases c with
 | none=>obtain rfl:D.none=d:=aj h; exact wpAny_Constant_none ⟨.refl _,.none⟩
 | bool b=>obtain rfl:D.bool b=d:=aj h; exact wpAny_Constant_bool ⟨.refl _,.bool _⟩
 | int b=>obtain rfl:D.int b=d:=aj h; exact wpAny_Constant_int ⟨.tok _,.int _ _⟩
 | float b=>obtain rfl:D.float b=d:=aj h; exact wpAny_Constant_float ⟨.tok _,.float _ _⟩
 | str b=>obtain rfl:D.str b=d:=aj h; exact wpAny_Constant_str ⟨.tok _,.str _ _⟩
 | _=>exact nomatch h
theorem jt {x:Str} {v:Value} {Q:Value→Shared→Prop} (hk:env.scope.kind=.function) (hx:bW x=true) (X:NameVal env s.heap x v) (h:Q v s):Wp prog w A (loadName env x) s Q:=by
 rcases X with ⟨a,m,b,c⟩ | ⟨a | a,c,b,d⟩
 ·exact wpAny_loadName_local hk a b c h
 ·exact wpAny_loadName_cell hk a b d h
 ·refine wpAny_loadName_free hk a b d h ?_
  unfold bW at hx
  simpa using (bj hx).2
theorem oK {x:Str} {pos:Pos} {v:Value} {Q:Value→Shared→Prop} (X:StA K mg wsC ok env s.heap sc ρ) (hx:bW x=true) (hs:sc.lookup x=some .globalImplicit) (hv:mg x=some v) (h:Q v s) :
  Wp prog w A (eval (.Name x pos) env) s Q:=by
 refine Name_function_global X.env.kind (by unfold Env.kindOf; rw [X.env.names]; exact hs) (loadGlobal_global (by rw [X.env.glob]; exact X.gl.g) hv h) ?_
 unfold bW at hx
 simpa using (bj hx).1
theorem Cq {b:Bn} {pos:Pos} {Q:Value→Shared→Prop} (C:mg b.name=none) (X:StA K mg wsC ok env s.heap sc ρ) (hs:sc.lookup b.name=some .globalImplicit) (h:Q b.val s) :
  Wp prog w A (eval (.Name b.name pos) env) s Q:=by
 obtain ⟨mb,hb,he⟩:=X.gl.b
 refine Name_function_global X.env.kind (by unfold Env.kindOf; rw [X.env.names]; exact hs) (loadGlobal_builtin (by rw [X.env.glob]; exact X.gl.g) C (by rw [X.env.bi]; exact hb) ?_ h) (by cases b <;> decide)
 rw [he _ (by cases b <;> decide),b.boot]
theorem UJ {x:Str} {pos:Pos} {d:D} (C:CtxOk prog w K mg wsC n G) (X:StA K mg wsC ok env s.heap sc ρ) (h:oR G sc ρ x=some d):aL prog w A s wsC ok (eval (.Name x pos) env) d:=by
 unfold oR at h
 rw [Option.bind_eq_bind,Option.bind_eq_some_iff] at h
 obtain ⟨_,hg,h⟩:=h
 have hx:=(ak hg).1
 split at h
 ·rename_i d' hd
  obtain rfl:=aj h
  obtain ⟨v,a,b⟩:=X.env.vals x _ hd
  refine wpAny_Name (jt X.env.kind hx a ⟨.refl _,b⟩) ?_
  unfold bW at hx
  simpa using (bj hx).1
 ·split at h
  ·rename_i hs
   obtain ⟨v,a,b⟩:=C.val x d h
   exact oK X hx hs a ⟨.refl _,b _ _⟩
  ·exact aO h
theorem zZ {h:Heap} {a:Addr} {x:Ws} (r:IsWs wsC ok h a x):∃ ox es n',InstAt h a ox wsC.ws (some (dictOf es n')) ∧
  (∀ at' d,Rx x at'=some d→at'∈attrNames∧∃ v,getL at' es=some (some v)∧handedIn v=true∧Rep wsC ok h v d)∧∀ m∈meths,getL m es=some none:=by
 obtain ⟨dx,ct,nm,es,n,n1,n2,vs,t1,t2,t3,t4,sl,o1,o2,o3,o4,g1,g2,r1,r2,r3,r4,r5,r6,g3,g4,iv⟩:=r
 refine ⟨_,es,n,⟨g1,rfl,rfl,g2⟩,fun a d hd=>?_,r6⟩
 have ht:Rep wsC ok h (.ref nm) (.tup [.tup (x.count.map D.int),.int x.b]) := .tup (vs:=[.ref ct,.int x.b t4]) o4 g3 (.cons (.tup o3 g4 (RepL.ints iv)) (.cons (.int _ _) .nil))
 unfold Rx at hd
 split at hd
 ·rename_i q; obtain rfl:=aj hd; have q:a = "raw" := by simpa using q
  subst q; exact ⟨by decide,_,r1,rfl,.str _ _⟩
 ·split at hd
  ·rename_i q; obtain rfl:=aj hd; have q:a = "n" := by simpa using q
   subst q; exact ⟨by decide,_,r2,rfl,.int _ _⟩
  ·split at hd
   ·rename_i q; obtain rfl:=aj hd; have q:a = "nt" := by simpa using q
    subst q; exact ⟨by decide,_,r3,rfl,.int _ _⟩
   ·split at hd
    ·rename_i q; obtain rfl:=aj hd; have q:a = "norm" := by simpa using q
     subst q; exact ⟨by decide,_,r4,rfl,ht⟩
    ·split at hd
     ·rename_i q; obtain rfl:=aj hd; have q:a = "is_simple" := by simpa using q
      subst q; exact ⟨by decide,_,r5,rfl,.bool _⟩
     ·exact aO hd
theorem V9 {o:Expr} {a:Str} {pos:Pos} {d r:D} (C:CtxOk prog w K mg wsC n G) (X:Gl K mg s.heap) (hb:plainBase o=true)
  (ho:aL prog w A s wsC ok (eval o env) d) (h:Br d a=some r):aL prog w A s wsC ok (eval (.Attribute o a pos) env) r:=by
 rw [arm_eval_Attribute,dh hb]
 refine wpAny_bind (wpAny_mono ho (fun v s₁ h₁=>wpAny_bind (wpAny_standAt (wpAny_bind (wpAny_holding ?_)))) fun _ _ x=>x)
 obtain ⟨gr,hr⟩:=h₁
 induction d using D.casesOn with
 | ws x =>
  obtain ⟨_,rfl,hw⟩:=hr.ws_inv
  obtain ⟨ox,es,n',I,ha,_⟩:=zZ hw
  obtain ⟨hm,v,hv,hh,rv⟩:=ha a r h
  have X₁:=(X.keep gr.keep).X
  refine get_value (K:=K) (C:=wsC.ws) X₁ I C.hga (findObj_own C.hhd (C.attrs a hm) rfl (by rw [lookIn_dict]; exact hv)) hh ?_
  exact wpAny_bind (wpAny_letTemporaryGo (wpAny_pure ⟨gr.trans (.tok _),rv⟩))
 | _=>exact aO h
end
noncomputable def cU (env:Env):Sc→List (Str × Addr)→List (Str × Addr)
 | [],cs=>cs
 | (n,k) :: r,cs=>cU env r (if k==NameKind.free then (n,(env.cells.lookup n).getD 0) :: cs else cs)
theorem mW {env:Env}:∀ (names:Sc) (cs:List (Str × Addr)),(∀ p∈names,p.2=.free→∃ c,env.cells.lookup p.1=some c) →
  (forIn names cs (fun (x:Str × NameKind) (r:List (Str × Addr))=>if (x.2==NameKind.free)=true then (cellOf env x.1 >>= fun a=>pure (ForInStep.yield ((x.1,a) :: r))) else pure (ForInStep.yield r)):Sem _)=pure (cU env names cs)
 | [],cs,_=>rfl
 | (n,k) :: r,cs,h=>by
  rw [List.forIn_cons]
  cases hk:(k==NameKind.free) with
  | false =>
   simp only [hk,Bool.false_eq_true,if_false,cU]
   rw [pure_bind]
   exact mW r cs fun p hp=>h p (cJ _ hp)
  | true =>
   have hk':k=.free:=by simpa using hk
   obtain ⟨c,hc⟩:=h (n,k) aH hk'
   simp only [hk,if_true,cU,hc,Option.getD_some]
   have:cellOf env n=pure c:=by unfold cellOf; rw [show env.cells.lookup n=some c from hc]
   rw [this,pure_bind,pure_bind]
   exact mW r _ fun p hp=>h p (cJ _ hp)
theorem xj {scope:Scope} {env:Env} (h:∀ p∈scope.names,p.2=.free→∃ c,env.cells.lookup p.1=some c):closureFor scope env=pure (cU env scope.names []):=by
 unfold closureFor
 have:=mW scope.names [] h
 first
 | (rw [this]; rfl)
 | (show (forIn _ _ _ >>= _)=_; rw [show (forIn scope.names ([]:List (Str × Addr)) _:Sem _)=pure (cU env scope.names []) from this]; rfl)
theorem pI {env:Env} {n:Str} {c:Addr} (hc:env.cells.lookup n=some c):∀ (names:Sc) (cs:List (Str × Addr)),(cs.lookup n=some c∨(cs.lookup n=none∧(n,NameKind.free)∈names))→(cU env names cs).lookup n=some c
 | [],cs,h=>by
  rcases h with h | ⟨_,h⟩
  ·exact h
  ·cases h
 | (m,k) :: r,cs,h=>by
  unfold cU
  refine pI hc r _ ?_
  cases hk:(k==NameKind.free) with
  | false =>
   simp only [Bool.false_eq_true,if_false]
   rcases h with h | ⟨a,h⟩
   ·exact .inl h
   ·rcases cM h with h | h
    ·cases h; simp at hk
    ·exact .inr ⟨a,h⟩
  | true =>
   simp only [if_true,List.lookup_cons]
   cases hm:(n==m) with
   | true =>
    have hm':n=m:=by simpa using hm
    subst hm'
    exact .inl (by rw [hc]; rfl)
   | false =>
    rcases h with h | ⟨a,h⟩
    ·exact .inl h
    ·rcases cM h with h | h
     ·cases h; simp at hm
     ·exact .inr ⟨a,h⟩
section
variable {prog:Program} {w:World} {A:Around} {s:Shared} {wsC:Fix} {ok:AP} {K:Frag} {mg:Str→Option Value} {G:Ctx} {env:Env} {sc:Sc} {ρ:aJ} {n:Nat}
theorem tK {elt:Expr} {gens:List Comprehension} {scope:Scope} {pos p:Pos} {depth:Nat} {I:Addr} {acc:Value} {cenv:Env} {fp wr:List Addr} {n:Nat} {P:Nat→Value→Prop} {St:Nat→Heap→Prop}
  {body:Value→Sem Unit} {R:Result→Shared→Prop}
  (heq:compTurn (.ListComp elt gens scope pos) depth (.ref I) acc cenv=(standAt p >>= fun _=>pyNext (.ref I) >>= fun r=>match r with
   | none=>pure (.done .next)
   | some v=>body v >>= fun _=>again (.compLoop (.ListComp elt gens scope pos) depth (.ref I) acc cenv)))
  (W:Walks prog w A I fp wr n P St) (Inv:Nat→Shared→Prop)
  (turn:∀ i v s,i < n→P i v→St (i+1) s.heap→Inv i s→Wp prog w A (body v) s (fun _ s'=>Inv (i+1) s'∧∀ b∈fp,∀ o,s.heap.get? b=some o→s'.heap.get? b=some o))
  (next:∀ i s h' tk,Inv i s→(∀ b o,b ∉ wr→s.heap.get? b=some o→h'.get? b=some o)→Inv i { s with heap:=h',toks:=tk })
  (hR:∀ s',Inv n s'→R (.ok .next) s') (hst:St 0 s.heap) (h0:Inv 0 s) :
  codeAny (model prog w) A (.compLoop (.ListComp elt gens scope pos) depth (.ref I) acc cenv) R s:=by
 refine codeAny_loop rfl (fun k s'=>∃ i,k=n-i∧i≤n∧St i s'.heap∧Inv i s') (fun k s' hI=>?_) n ⟨0,rfl,Nat.zero_le _,hst,h0⟩
 obtain ⟨i,rfl,hi,hs,hv⟩:=hI
 show wpAny _ A ((compTurn (.ListComp elt gens scope pos) depth (.ref I) acc cenv).onRaise (fun x=>do noteFrame x cenv; theTreesLotGoes x)) _ _ s'
 refine wpAny_noted ?_
 rw [heq]
 refine wpAny_bind (wpAny_standAt (wpAny_bind ?_))
 rcases Nat.lt_or_ge i n with hlt | hge
 ·refine W.item i _ _ _ hlt hs fun v h' tk hp hst' hk=>?_
  refine wpAny_bind (wpAny_mono (turn i v _ hlt hp hst' (next i _ h' tk hv hk)) (fun _ s'' h''=>wpAny_pure ⟨rfl,n-(i+1),by omega (config:={}),i+1,rfl,hlt,W.frame _ _ _ hst' h''.2,h''.1⟩) fun _ _ e=>e.elim)
 ·have:i=n:=by omega
  subst this
  exact W.done _ _ _ hs fun h' tk hk=>wpAny_pure (hR _ (next _ _ h' tk hv hk))
end
noncomputable def zJ (elt:Expr) (x:Str) (px:Pos) (ifs:List Expr) (it acc:Value) (env:Env) (v:Value):Sem Unit:=do
 letOwnedTupleGo (.Name x px) it v
 assign (.Name x px) env v
 let ok ← forIn ifs true fun c r=>if r=true then do let ok ← isTrue c env (eval c env); pure (ForInStep.yield ok) else pure (ForInStep.yield r)
 if ok=true then (do let y ← eval elt env; let _ ← call (.builtin "list.append") [acc,y]; pure ()) else pure ()
theorem xX (elt iter:Expr) (x:Str) (px:Pos) (ifs:List Expr) (scope:Scope) (pos:Pos) (it acc:Value) (env:Env) :
  compTurn (.ListComp elt [⟨.Name x px,iter,ifs,0⟩] scope pos) 0 it acc env=(standAt iter.pos >>= fun _=>pyNext it >>= fun r=>match r with
   | none=>pure (.done .next)
   | some v=>zJ elt x px ifs it acc env v >>= fun _=>again (.compLoop (.ListComp elt [⟨.Name x px,iter,ifs,0⟩] scope pos) 0 it acc env)):=by
 rw [compTurn_list]
 congr 1; funext _
 congr 1; funext r
 induction r using Option.casesOn with
 | none=>rfl
 | some v =>
  simp only [zJ,bind_assoc]
  congr 1; funext _
  congr 1; funext _
  congr 1; funext ok
  cases ok <;> simp
theorem ap {A B:Prop} (a:A) (f:A→B):B:=f a
noncomputable def il {α:Type} (e:Expr) (g:Str→Pos→Option α) (d:Option α):Option α:=match e with
 | .Name y p=>g y p
 | _=>d
theorem Su {α:Type} {e:Expr} {g:Str→Pos→Option α} {d:Option α} {a:α} {P:Expr→Prop} (hk:∀ y p,g y p=some a→P (.Name y p)):il e g d=some a→(d=some a→P e)→P e:=by
 induction e using Expr.casesOn with
 | Name y p=>exact fun h _=>hk y p h
 | _=>exact ap (A:=d=some a)
theorem dY {α:Type} {e:Expr} {g:Str→Pos→Option α} {d:Option α} {a:α} {Q:Prop} (hk:∀ y p,e=.Name y p→g y p=some a→Q) (h:il e g d=some a) (k':d=some a→Q):Q :=
 Su (P:=fun x=>e=x→Q) (fun y p h q=>hk y p q h) h (fun h _=>k' h) rfl
noncomputable def wz {α:Type} (e:Expr) (g:List Expr→Nat→Pos→Option α) (d:Option α):Option α:=match e with
 | .Tuple ts k p=>g ts k p
 | _=>d
theorem Lx {α:Type} {e:Expr} {g:List Expr→Nat→Pos→Option α} {d:Option α} {a:α} {P:Expr→Prop} (hk:∀ ts k p,g ts k p=some a→P (.Tuple ts k p)):wz e g d=some a→(d=some a→P e)→P e:=by
 induction e using Expr.casesOn with
 | Tuple ts k p=>exact fun h _=>hk ts k p h
 | _=>exact ap (A:=d=some a)
theorem Af {α:Type} {e:Expr} {g:List Expr→Nat→Pos→Option α} {d:Option α} {a:α} {Q:Prop} (hk:∀ ts k p,e=.Tuple ts k p→g ts k p=some a→Q) (h:wz e g d=some a) (k':d=some a→Q):Q :=
 Lx (P:=fun x=>e=x→Q) (fun ts k p h q=>hk ts k p q h) h (fun h _=>k' h) rfl
noncomputable def Rh {α:Type} (e:Expr) (g:Expr→Expr→Pos→Option α) (d:Option α):Option α:=match e with
 | .Subscript o i p=>g o i p
 | _=>d
theorem Ui {α:Type} {e:Expr} {g:Expr→Expr→Pos→Option α} {d:Option α} {a:α} {P:Expr→Prop} (hk:∀ o i p,g o i p=some a→P (.Subscript o i p)):Rh e g d=some a→(d=some a→P e)→P e:=by
 induction e using Expr.casesOn with
 | Subscript o i p=>exact fun h _=>hk o i p h
 | _=>exact ap (A:=d=some a)
theorem Uu {α:Type} {e:Expr} {g:Expr→Expr→Pos→Option α} {d:Option α} {a:α} {Q:Prop} (hk:∀ o i p,e=.Subscript o i p→g o i p=some a→Q) (h:Rh e g d=some a) (k':d=some a→Q):Q :=
 Ui (P:=fun x=>e=x→Q) (fun o i p h q=>hk o i p q h) h (fun h _=>k' h) rfl
noncomputable def BL {α:Type} (e:Expr) (g:Expr→Str→Pos→Option α) (d:Option α):Option α:=match e with
 | .Attribute o m p=>g o m p
 | _=>d
theorem Q8 {α:Type} {e:Expr} {g:Expr→Str→Pos→Option α} {d:Option α} {a:α} {P:Expr→Prop} (hk:∀ o m p,g o m p=some a→P (.Attribute o m p)):BL e g d=some a→(d=some a→P e)→P e:=by
 induction e using Expr.casesOn with
 | Attribute o m p=>exact fun h _=>hk o m p h
 | _=>exact ap (A:=d=some a)
theorem DY {α:Type} {e:Expr} {g:Expr→Str→Pos→Option α} {d:Option α} {a:α} {Q:Prop} (hk:∀ o m p,e=.Attribute o m p→g o m p=some a→Q) (h:BL e g d=some a) (k':d=some a→Q):Q :=
 Q8 (P:=fun x=>e=x→Q) (fun o m p h q=>hk o m p q h) h (fun h _=>k' h) rfl
noncomputable def HW {α:Type} (e:Expr) (g:Expr→List Expr→List Keyword→Pos→Option α) (d:Option α):Option α:=match e with
 | .Call f as ks p=>g f as ks p
 | _=>d
theorem O9 {α:Type} {e:Expr} {g:Expr→List Expr→List Keyword→Pos→Option α} {d:Option α} {a:α} {P:Expr→Prop} (hk:∀ f as ks p,g f as ks p=some a→P (.Call f as ks p)):HW e g d=some a→(d=some a→P e)→P e:=by
 induction e using Expr.casesOn with
 | Call f as ks p=>exact fun h _=>hk f as ks p h
 | _=>exact ap (A:=d=some a)
theorem RG {α:Type} {e:Expr} {g:Expr→List Expr→List Keyword→Pos→Option α} {d:Option α} {a:α} {Q:Prop} (hk:∀ f as ks p,e=.Call f as ks p→g f as ks p=some a→Q) (h:HW e g d=some a) (k':d=some a→Q):Q :=
 O9 (P:=fun x=>e=x→Q) (fun f as ks p h q=>hk f as ks p q h) h (fun h _=>k' h) rfl
noncomputable def Hn {α:Type} (e:Expr) (g:List Expr→Pos→Option α) (d:Option α):Option α:=match e with
 | .List es p=>g es p
 | _=>d
theorem QV {α:Type} {e:Expr} {g:List Expr→Pos→Option α} {d:Option α} {a:α} {P:Expr→Prop} (hk:∀ es p,g es p=some a→P (.List es p)):Hn e g d=some a→(d=some a→P e)→P e:=by
 induction e using Expr.casesOn with
 | List es p=>exact fun h _=>hk es p h
 | _=>exact ap (A:=d=some a)
theorem R4 {α:Type} {e:Expr} {g:List Expr→Pos→Option α} {d:Option α} {a:α} {Q:Prop} (hk:∀ es p,e=.List es p→g es p=some a→Q) (h:Hn e g d=some a) (k':d=some a→Q):Q :=
 QV (P:=fun x=>e=x→Q) (fun es p h q=>hk es p q h) h (fun h _=>k' h) rfl
noncomputable def NT {α:Type} (e:Expr) (g:Expr→Operator→Expr→Pos→Option α) (d:Option α):Option α:=match e with
 | .BinOp l op r p=>g l op r p
 | _=>d
theorem VJ {α:Type} {e:Expr} {g:Expr→Operator→Expr→Pos→Option α} {d:Option α} {a:α} {P:Expr→Prop} (hk:∀ l op r p,g l op r p=some a→P (.BinOp l op r p)):NT e g d=some a→(d=some a→P e)→P e:=by
 induction e using Expr.casesOn with
 | BinOp l op r p=>exact fun h _=>hk l op r p h
 | _=>exact ap (A:=d=some a)
theorem VV {α:Type} {e:Expr} {g:Expr→Operator→Expr→Pos→Option α} {d:Option α} {a:α} {Q:Prop} (hk:∀ l op r p,e=.BinOp l op r p→g l op r p=some a→Q) (h:NT e g d=some a) (k':d=some a→Q):Q :=
 VJ (P:=fun x=>e=x→Q) (fun l op r p h q=>hk l op r p q h) h (fun h _=>k' h) rfl
noncomputable def onWs {α:Type} (d:D) (g:Ws→Option α) (z:Option α):Option α:=match d with
 | .ws x=>g x
 | _=>z
theorem Y4 {α:Type} {d:D} {g:Ws→Option α} {z:Option α} {a:α} {P:Prop} (k':z=some a→P):onWs d g z=some a→(∀ x,d=.ws x→g x=some a→P)→P:=by
 induction d using D.casesOn with
 | ws x=>exact fun h k=>k x rfl h
 | _=>exact fun h _=>k' h
structure R where
 E:Sc→aJ→Expr→Option D
 T:Sc→aJ→Expr→Option Bool
noncomputable def evs (r:R) (sc:Sc) (ρ:aJ):List Expr→Option (List D)
 | []=>some []
 | e :: es=>(r.E sc ρ e).bind fun d=>(evs r sc ρ es).map (d :: ·)
noncomputable def yX (r:R) (sc:Sc) (ρ:aJ):List Expr→Option Bool
 | []=>some true
 | c :: cs=>(r.T sc ρ c).bind fun b=>if b=true then yX r sc ρ cs else some false
noncomputable def Sw (r:R) (sc:Sc) (ρ:aJ) (op:BoolOp):List Expr→Option Bool
 | []=>some (op == .And)
 | c :: cs=>(r.T sc ρ c).bind fun b=>match op,b with
  | .And,false=>some false
  | .Or,true=>some true
  | _,_=>Sw r sc ρ op cs
noncomputable def unD:UnaryOp→D→Option D
 | .USub,.int a=>some (.int (-a))
 | _,_=>none
noncomputable def BZ (sc:Sc) (n:Str) (k:NameKind):NameKind:=match k with
 | .free=>match sc.lookup n with | some .cell => .cell | _ => .free
 | _=>k
noncomputable def gR (names sc:Sc):Sc:=names.map fun p=>(p.1,BZ sc p.1 p.2)
noncomputable def mR (scope:Scope) (sc:Sc) (xs:List Str):Bool :=
 scope.kind == .function&&xs.all (fun x=>scope.names.lookup x==some .local||scope.names.lookup x==some .cell) &&
  scope.names.all (fun p=>(p.2 != .cell||scope.names.lookup p.1==some .cell)&&(p.2 != .local||scope.names.lookup p.1==some .local)&&(p.2 != .free||(sc.lookup p.1==some .cell||sc.lookup p.1==some .free)&&scope.names.lookup p.1==some .free))
noncomputable def dj (scope:Scope) (ρ:aJ):aJ:=ρ.filter fun p=>scope.names.lookup p.1==some .free
noncomputable def bk (r:R) (sc:Sc) (ρ:aJ) (x:Str) (elt:Expr) (ifs:List Expr):List D→Option (List D)
 | []=>some []
 | d :: ds=>(yX r sc ((x,d) :: ρ) ifs).bind fun b=>if b=true then (r.E sc ((x,d) :: ρ) elt).bind fun y=>(bk r sc ρ x elt ifs ds).map (y :: ·) else bk r sc ρ x elt ifs ds
noncomputable def dO (f:D→Option (List D)):List D→Option (List D)
 | []=>some []
 | d :: ds=>(f d).bind fun a=>(dO f ds).map (a++·)
noncomputable def lY (r:R) (sc:Sc) (ρ:aJ) (x y:Str) (it elt:Expr) (ifs:List Expr) (d:D):Option (List D) :=
 (r.E sc ((x,d) :: ρ) it).bind fun src=>(itemsOf src).bind fun items=>bk r sc ((x,d) :: ρ) y elt ifs items
noncomputable def srcOf (r:R) (sc:Sc) (ρ:aJ) (iter:Expr):Option (List D):=(r.E sc ρ iter).bind fun src=>(itemsOf src).bind fun items=>au (decide (items.length≤sizeLine)) items
noncomputable def XD (r:R) (sc:Sc) (ρ:aJ) (elt:Expr) (scope:Scope) (t iter:Expr) (ifs:List Expr) (k:Int):Option D:=il t (fun x _=>if k=0 then (au (mR scope sc [x]) ()).bind fun _=>(srcOf r sc ρ iter).bind fun items =>
   (bk r (gR scope.names sc) (dj scope ρ) x elt ifs items).map .list else none) none
noncomputable def QQ (r:R) (sc:Sc) (ρ:aJ) (elt:Expr) (scope:Scope) (t iter:Expr) (ifs:List Expr) (k:Int) (t2 iter2:Expr) (ifs2:List Expr) (k2:Int):Option D:=il t (fun x _=>il t2 (fun y _ =>
  (au (k==0&&k2==0&&ifs.isEmpty&&x != y&&mR scope sc [x,y]) ()).bind fun _=>(srcOf r sc ρ iter).bind fun items =>
   (dO (lY r (gR scope.names sc) (dj scope ρ) x y iter2 elt ifs2) items).bind fun ds=>au (decide (ds.length≤sizeLine)) (.list ds)) none) none
noncomputable def Fx (r:R) (sc:Sc) (ρ:aJ) (elt:Expr) (gens:List Comprehension) (scope:Scope):Option D :=
 match gens with
 | []=>none
 | g :: gs=>(match gs with
  | []=>(match g with | ⟨t,iter,ifs,k⟩=>XD r sc ρ elt scope t iter ifs k)
  | g2 :: gs=>(match gs with
   | []=>(match g with | ⟨t,iter,ifs,k⟩=>(match g2 with | ⟨t2,iter2,ifs2,k2⟩=>QQ r sc ρ elt scope t iter ifs k t2 iter2 ifs2 k2))
   | _ :: _=>none))
noncomputable def IV (f:Str):Option Bn:=[Bn.chr,.ord,.len,.max,.min,.abs,.round,.int,.range,.list,.sum,.tuple].find? fun b=>b.name==f
noncomputable def iH (G:Ctx) (sc:Sc) (f:Str) (ds:List D):Option D :=
 (au (bW f&&sc.lookup f==some .globalImplicit) ()).bind fun _=>match G.fns.lookup f with
  | some F=>F ds
  | none=>(IV f).bind fun b=>dK b ds
noncomputable def vL (G:Ctx) (m:Str) (d:D) (ds:List D):Option D:=onWs d (fun x=>(G.meths.lookup m).bind fun F=>F (.ws x :: ds)) ((xT m).bind fun t=>uw t d ds)
noncomputable def W6 (G:Ctx) (r:R) (sc:Sc) (ρ:aJ) (f:Expr) (args:List Expr) (pos:Pos):Option D :=
 il f (fun x _=>(evs r sc ρ args).bind fun ds=>iH G sc x ds) <|
 BL f (fun o m apos=>(au (plainBase o&&apos.endLine==pos.line&&decide (args.length < 29)) ()).bind fun _=>(r.E sc ρ o).bind fun d=>(evs r sc ρ args).bind fun ds=>vL G m d ds) none
noncomputable def RB (r:R) (sc:Sc) (ρ:aJ):Option Expr→Option (Option Int)
 | none=>some none
 | some e=>(r.E sc ρ e).bind fun d=>(Gr d).map some
noncomputable def QJ (r:R) (sc:Sc) (ρ:aJ) (v sl:Expr):Option D :=
 match sl with
 | .Slice lo hi none _=>(r.E sc ρ v).bind fun d=>(RB r sc ρ lo).bind fun l=>(RB r sc ρ hi).bind fun u=>mK d l u
 | .Slice _ _ (some _) _=>none
 | _=>(r.E sc ρ v).bind fun d=>(r.E sc ρ sl).bind fun i=>jW d i
noncomputable def Ei (r:R) (sc:Sc) (ρ:aJ) (l:Expr) (op:CmpOp) (rr:Expr):Option Bool :=
 (au (!behindInMarks op rr) ()).bind fun _=>(r.E sc ρ l).bind fun a=>(r.E sc ρ rr).bind fun b=>cmp op a b
noncomputable def FW (r:R) (sc:Sc) (ρ:aJ) (l:Expr) (op1 op2:CmpOp) (r1 r2:Expr):Option Bool :=
 (au (!behindInMarks op2 r2) ()).bind fun _=>(r.E sc ρ l).bind fun a=>(r.E sc ρ r1).bind fun b=>(cmp op1 a b).bind fun c=>if c=true then (r.E sc ρ r2).bind fun d=>cmp op2 b d else some false
noncomputable def boolOf:D→Option Bool
 | .bool b=>some b
 | _=>none
noncomputable def one1 {α:Type} (ops:List CmpOp) (rs:List Expr) (F:CmpOp→Expr→Option α):Option α:=match ops with
 | [op]=>(match rs with | [rr]=>F op rr | _=>none)
 | _=>none
noncomputable def two1 {α:Type} (ops:List CmpOp) (rs:List Expr) (F:CmpOp→CmpOp→Expr→Expr→Option α):Option α:=match ops with
 | [o1,o2]=>(match rs with | [r1,r2]=>F o1 o2 r1 r2 | _=>none)
 | _=>none
noncomputable def cmpT (r:R) (sc:Sc) (ρ:aJ) (l:Expr) (ops:List CmpOp) (rs:List Expr):Option Bool:=match ops with
 | [_]=>one1 ops rs fun op rr=>Ei r sc ρ l op rr
 | _=>two1 ops rs fun o1 o2 r1 r2=>FW r sc ρ l o1 o2 r1 r2
noncomputable def Rd (G:Ctx) (r:R) (sc:Sc) (ρ:aJ) (e:Expr):Option D :=
 match e with
 | .Constant c _ _=>HH c
 | .Name x _=>oR G sc ρ x
 | .BinOp l op rr _=>(r.E sc ρ l).bind fun a=>(r.E sc ρ rr).bind fun b=>bin op a b
 | .UnaryOp op x _=>(r.E sc ρ x).bind fun a=>unD op a
 | .IfExp t b o _=>(r.T sc ρ t).bind fun c=>if c=true then r.E sc ρ b else r.E sc ρ o
 | .Compare l ops rs _=>one1 ops rs fun op rr=>(Ei r sc ρ l op rr).map .bool
 | .List es _=>(evs r sc ρ es).bind fun ds=>au (decide (ds.length≤sizeLine)) (.list ds)
 | .Tuple es _ _=>(evs r sc ρ es).bind fun ds=>au (decide (ds.length≤sizeLine)) (.tup ds)
 | .Subscript v sl _=>QJ r sc ρ v sl
 | .Attribute o a _=>(au (plainBase o) ()).bind fun _=>(r.E sc ρ o).bind fun d=>Br d a
 | .Call f args kws pos=>(match kws with | []=>W6 G r sc ρ f args pos | _=>none)
 | .ListComp elt gens scope _=>Fx r sc ρ elt gens scope
 | _=>none
noncomputable def stepT (G:Ctx) (r:R) (sc:Sc) (ρ:aJ) (e:Expr):Option Bool :=
 match e with
 | .UnaryOp op x _=>(match op with | .Not=>(r.T sc ρ x).map (!·) | _=>none)
 | .BoolOp op vs _=>Sw r sc ρ op vs
 | .Compare l ops rs _=>cmpT r sc ρ l ops rs
 | .Name x p=>(r.E sc ρ (.Name x p)).bind boolOf
 | .Call f a k p=>(r.E sc ρ (.Call f a k p)).bind boolOf
 | .Attribute o a p=>(r.E sc ρ (.Attribute o a p)).bind boolOf
 | .Subscript o a p=>(r.E sc ρ (.Subscript o a p)).bind boolOf
 | _=>none
noncomputable def cP (G:Ctx):Nat→R
 | 0=>⟨fun _ _ _=>none,fun _ _ _=>none⟩
 | k+1=>⟨Rd G (cP G k),stepT G (cP G k)⟩
structure Sound (prog:Program) (w:World) (K:Frag) (mg:Str→Option Value) (wsC:Fix) (n:Nat) (r:R):Prop where
 star:∀ sc ρ e p,r.E sc ρ (.Starred e p)=none
 set:∀ sc ρ e k p,r.E sc ρ (.Set e k p)=none
 slice:∀ sc ρ e k t p,r.E sc ρ (.Slice e k t p)=none
 E:∀ {env:Env} {A:Around} {s:Shared} {ok:AP} {sc:Sc} {ρ:aJ} {e:Expr} {d:D},OkA A n→StA K mg wsC ok env s.heap sc ρ→r.E sc ρ e=some d→aL prog w A s wsC ok (eval e env) d
 T:∀ {env:Env} {A:Around} {s:Shared} {ok:AP} {sc:Sc} {ρ:aJ} {e:Expr} {b:Bool},OkA A n→StA K mg wsC ok env s.heap sc ρ→r.T sc ρ e=some b →
  Wp prog w A (isTrue e env (eval e env)) s fun b' s'=>Grow s s'∧b'=b
section
variable {prog:Program} {w:World} {A:Around} {s:Shared} {wsC:Fix} {ok:AP} {K:Frag} {mg:Str→Option Value} {G:Ctx} {env:Env} {sc:Sc} {ρ:aJ} {n:Nat} {r:R}
inductive BindIs {α β:Type} (x:Option α) (f:α→Option β) (b:β):Prop where
 | mk (a:α) (e:x=some a) (h:f a=some b):BindIs x f b
inductive MapIs {α β:Type} (x:Option α) (f:α→β) (b:β):Prop where
 | mk (a:α) (e:x=some a) (h:f a=b):MapIs x f b
theorem aa {α β:Type} {x:Option α} {f:α→Option β} {b:β} (h:x.bind f=some b):BindIs x f b:=by obtain ⟨a,e,q⟩:=Option.bind_eq_some_iff.mp h; exact ⟨a,e,q⟩
theorem bA {α β:Type} {x:Option α} {f:α→β} {b:β} (h:x.map f=some b):MapIs x f b:=by obtain ⟨a,e,q⟩:=Option.map_eq_some_iff.mp h; exact ⟨a,e,q⟩
theorem jV (S:Sound prog w K mg wsC n r) {e:Expr} {es:List Expr} {d:D} (h:r.E sc ρ e=some d):starEach (e :: es) env=(false,eval e env) :: starEach es env:=by
 induction e using Expr.casesOn with
 | Starred e p=>rw [S.star] at h; exact aO h
 | _=>rfl
theorem Ii (S:Sound prog w K mg wsC n r) (hA:OkA A n) {pos:Pos}:∀ {es:List Expr} {ds:List D} {s:Shared},StA K mg wsC ok env s.heap sc ρ→evs r sc ρ es=some ds →
  Wp prog w A (spliced (backTo pos (starEach es env))) s fun vs s'=>Grow s s'∧RepL wsC ok s'.heap vs ds:=by
 intro es
 induction es with
 | nil =>
   intro ds s X h
   obtain rfl:=aj h; exact wpAny_items_nil ⟨.refl _,.nil⟩
 | cons e es ih =>
   intro ds s X h
   obtain ⟨d,hd,h⟩:=aa h
   obtain ⟨ds',hds,rfl⟩:=bA h
   refine wpAny_items_cons (wpAny_mono (S.E hA X hd) (fun v s₁ h₁=>?_) fun _ _ x=>x) (jV S hd)
   refine wpAny_mono (ih (X.keep h₁.1.keep) hds) (fun vs s₂ h₂=>?_) fun _ _ x=>x
   exact ⟨h₁.1.trans h₂.1,.cons (h₁.2.keep h₂.1.keep) h₂.2⟩
theorem vm (S:Sound prog w K mg wsC n r) {pos:Pos}:∀ {es:List Expr} {ds:List D},evs r sc ρ es=some ds→(backTo pos (starEach es env)).any (·.1)=false∧(starEach es env).length=es.length:=by
 intro es
 induction es with
 | nil =>
   intro ds h
   exact ⟨rfl,rfl⟩
 | cons e es ih =>
   intro ds h
   obtain ⟨d,hd,h⟩:=aa h
   obtain ⟨ds',hds,rfl⟩:=bA h
   rw [jV S hd]
   have ih:=ih hds
   exact ⟨by show (false||(backTo pos (starEach es env)).any (·.1))=false; rw [Bool.false_or]; exact ih.1,by simp [ih.2]⟩
theorem Hd {f:Expr→Sem Bool}:∀ (ifs:List Expr),(forIn ifs false fun c r=>if r=true then do let ok ← f c; pure (ForInStep.yield ok) else pure (ForInStep.yield r):Sem Bool)=pure false:=by
 intro ifs
 induction ifs with
 | nil =>
   exact rfl
 | cons c cs ih =>
   rw [List.forIn_cons]; simp only [Bool.false_eq_true,if_false,pure_bind]; exact ih
theorem TY (S:Sound prog w K mg wsC n r) (hA:OkA A n):∀ {ifs:List Expr} {b:Bool} {s:Shared},StA K mg wsC ok env s.heap sc ρ→yX r sc ρ ifs=some b →
  Wp prog w A (forIn ifs true fun c r=>if r=true then do let ok ← isTrue c env (eval c env); pure (ForInStep.yield ok) else pure (ForInStep.yield r)) s fun b' s'=>Grow s s'∧b'=b:=by
 intro ifs
 induction ifs with
 | nil =>
   intro b s X h
   cases h; exact wpAny_pure ⟨.refl _,rfl⟩
 | cons c cs ih =>
   intro b s X h
   obtain ⟨t,ht,h⟩:=aa h
   rw [List.forIn_cons]
   simp only [if_true]
   refine wpAny_bind (wpAny_bind (wpAny_mono (S.T hA X ht) (fun b' s₁ h₁=>wpAny_pure ?_) fun _ _ x=>x))
   obtain ⟨g,rfl⟩:=h₁
   dsimp only
   induction b' using Bool.casesOn with
   | true =>
    simp only [if_true] at h
    exact wpAny_mono (ih (X.keep g.keep) h) (fun b'' s₂ h₂=>⟨g.trans h₂.1,h₂.2⟩) fun _ _ x=>x
   | false =>
    simp only [Bool.false_eq_true,if_false] at h
    cases h
    have e:=Hd (f:=fun c=>isTrue c env (eval c env)) cs
    exact wpAny_of_eq e ⟨g,rfl⟩
theorem Y8 (S:Sound prog w K mg wsC n r) (hA:OkA A n) {op:BoolOp}:∀ {vs:List Expr} {b:Bool} {s:Shared},StA K mg wsC ok env s.heap sc ρ→Sw r sc ρ op vs=some b →
  Wp prog w A (allTrue op vs env) s fun b' s'=>Grow s s'∧b'=b:=by
 intro vs
 induction vs with
 | nil =>
   intro b s X h
   cases h
   cases op
   ·exact wpAny_allTrue_And_nil ⟨.refl _,rfl⟩
   ·exact wpAny_allTrue_Or_nil ⟨.refl _,rfl⟩
 | cons c cs ih =>
   intro b s X h
   obtain ⟨t,ht,h⟩:=aa h
   cases op
   ·refine wpAny_allTrue_And_cons (wpAny_mono (S.T hA X ht) (fun b' s₁ h₁=>?_) fun _ _ x=>x)
    obtain ⟨g,rfl⟩:=h₁
    induction b' using Bool.casesOn with
    | true=>exact wpAny_mono (ih (X.keep g.keep) h) (fun b'' s₂ h₂=>⟨g.trans h₂.1,h₂.2⟩) fun _ _ x=>x
    | false=>obtain rfl:=aj h; exact ⟨g,rfl⟩
   ·refine wpAny_allTrue_Or_cons (wpAny_mono (S.T hA X ht) (fun b' s₁ h₁=>?_) fun _ _ x=>x)
    obtain ⟨g,rfl⟩:=h₁
    induction b' using Bool.casesOn with
    | false=>exact wpAny_mono (ih (X.keep g.keep) h) (fun b'' s₂ h₂=>⟨g.trans h₂.1,h₂.2⟩) fun _ _ x=>x
    | true=>obtain rfl:=aj h; exact ⟨g,rfl⟩
theorem Jc (fx:FixOk K wsC) (S:Sound prog w K mg wsC n r) (hA:OkA A n) (X:StA K mg wsC ok env s.heap sc ρ) {l rr:Expr} {op:CmpOp} {b:Bool} (h:Ei r sc ρ l op rr=some b) :
  behindInMarks op rr=false∧Wp prog w A (eval l env) s fun a s₁=>Wp prog w A (eval rr env) s₁ fun c s₂=>Wp prog w A (compareOp op a c) s₂ fun v s₃=>Grow s s₃∧v=.bool b:=by
 obtain ⟨_,hg,h⟩:=aa h
 obtain ⟨a,ha,h⟩:=aa h
 obtain ⟨c,hc,h⟩:=aa h
 refine ⟨by simpa using (ak hg).1,wpAny_mono (S.E hA X ha) (fun va s₁ h₁=>wpAny_mono (S.E hA (X.keep h₁.1.keep) hc) (fun vc s₂ h₂=>?_) fun _ _ x=>x) fun _ _ x=>x⟩
 exact wpAny_mono (H4 fx ((X.gl.keep h₁.1.keep).keep h₂.1.keep).X hA (h₁.2.keep h₂.1.keep) h₂.2 h) (fun v s₃ h₃=>⟨h₁.1.trans (h₂.1.trans h₃.1),h₃.2⟩) fun _ _ x=>x
theorem lu {scope:Scope} (hn:env.scope.names=sc) (hk:env.scope.kind=.function):(relabel scope env).names=gR scope.names sc:=by
 unfold relabel gR Env.kindOf
 rw [hn,hk]
 show scope.names.map _=scope.names.map _
 apply List.map_congr_left
 rintro ⟨n,k⟩ _
 unfold BZ
 cases k <;> first | rfl | skip
 cases h:sc.lookup n with
 | none=>simp [h]
 | some q=>cases q <;> simp [h]
theorem dG {x:Str}:∀ {names:Sc},(gR names sc).lookup x=(names.lookup x).map (BZ sc x)
 | []=>rfl
 | (m,k) :: rest=>by
  unfold gR
  rw [List.map_cons]
  simp only [List.lookup_cons]
  cases hx:(x==m) with
  | true =>
   have hm:x=m:=by simpa using hx
   subst hm; rfl
  | false=>exact dG
theorem vC {x:Str} {names:Sc} (h:names.lookup x=some .free):(gR names sc).lookup x=some .cell∨(gR names sc).lookup x=some .free:=by
 rw [dG,h]
 show some (BZ sc x .free)=_∨some (BZ sc x .free)=_
 unfold BZ
 dsimp only
 split
 ·exact .inl rfl
 ·exact .inr rfl
theorem tu {x:Str} {names:Sc} (h:names.lookup x=some .local):(gR names sc).lookup x=some .local:=by rw [dG,h]; rfl
theorem dz {x:Str} {k:NameKind}:∀ {names:Sc},names.lookup x=some k→(x,k)∈names
 | [],h=>by exact aO h
 | (m,k') :: rest,h=>by
  simp only [List.lookup_cons] at h
  cases hx:(x==m) with
  | true =>
   have hm:x=m:=by simpa using hx
   subst hm
   rw [hx] at h; obtain rfl:=aj h; exact aH
  | false=>rw [hx] at h; exact cJ _ (dz h)
theorem Fg {x:Str} {k:NameKind} {names:Sc} (h:(gR names sc).lookup x=some k):∃ k₀,(x,k₀)∈names∧(k₀=k∨(k₀=.free∧k=.cell)):=by
 rw [dG] at h
 obtain ⟨k₀,a,b⟩:=bA h
 refine ⟨k₀,dz a,?_⟩
 unfold BZ at b
 split at b
 ·split at b
  ·exact .inr ⟨rfl,b.symm⟩
  ·exact .inl b
 ·exact .inl b
theorem eO {p:Str→Bool} {x:Str} {d:D}:∀ {ρ:aJ},(ρ.filter fun q=>p q.1).lookup x=some d→ρ.lookup x=some d∧p x=true
 | [],h=>by exact aO h
 | (m,e) :: rest,h=>by
  rw [List.filter_cons] at h
  cases hp:p m with
  | true =>
   rw [hp,if_pos rfl] at h
   simp only [List.lookup_cons] at h ⊢
   cases hx:(x==m) with
   | true =>
    have hm:x=m:=by simpa using hx
    subst hm
    rw [hx] at h
    exact ⟨h,hp⟩
   | false=>rw [hx] at h; exact eO h
  | false =>
   rw [hp] at h
   simp only [Bool.false_eq_true,if_false] at h
   obtain ⟨a,b⟩:=eO h
   refine ⟨?_,b⟩
   simp only [List.lookup_cons]
   cases hx:(x==m) with
   | true =>
    have hm:x=m:=by simpa using hx
    subst hm
    rw [hp] at b; exact dM b
   | false=>exact a
structure CompOk (scope:Scope) (sc:Sc) (xs:List Str):Prop where
 kind:scope.kind=.function
 x:∀ x∈xs,scope.names.lookup x=some .local∨scope.names.lookup x=some .cell
 cell:∀ y∈scope.names,y.2=.cell→scope.names.lookup y.1=some .cell
 names:∀ y∈scope.names,y.2=.local→scope.names.lookup y.1=some .local
 free:∀ y∈scope.names,y.2=.free→(sc.lookup y.1=some .cell∨sc.lookup y.1=some .free)∧scope.names.lookup y.1=some .free
theorem Aa {scope:Scope} {xs:List Str} (h:mR scope sc xs=true):CompOk scope sc xs:=by
 obtain ⟨h,h3⟩:=bj h
 obtain ⟨h1,h2⟩:=bj h
 rw [List.all_eq_true] at h2 h3
 refine ⟨eq_of_beq h1,fun x hx=>?_,fun y hy hl=>?_,fun y hy hl=>?_,fun y hy hl=>?_⟩
 ·simpa using h2 x hx
 all_goals
  have:=h3 y hy
  rw [hl] at this
  simp at this
  exact this
structure COwn (scope:Scope) (s₀:Heap) (D' C:Addr) (cs:List (Str × Addr)):Prop where
 dc:D'≠C
 d0:s₀.get? D'=none
 c0:s₀.get? C=none
 cell:∀ n c,cs.lookup n=some c→s₀.get? c=none∧c≠C∧c≠D'
 apart:∀ x y c,cs.lookup x=some c→cs.lookup y=some c→x=y
 has:∀ n,scope.names.lookup n=some .cell→∃ c,cs.lookup n=some c
 only:∀ n c,cs.lookup n=some c→scope.names.lookup n=some .cell
noncomputable def TVal (scope:Scope) (cs:List (Str × Addr)) (C:Addr) (h:Heap) (y:Str) (v:Value):Prop :=
 (scope.names.lookup y=some .local∧∃ m,h.Ns C m∧m y=some v)∨∃ c,cs.lookup y=some c∧h.IsCell c (some v)
theorem xZ {ok':AP} {scope:Scope} {xs:List Str} {D' C:Addr} {cs:List (Str × Addr)} {h h':Heap} {ρe:aJ} (c:CompOk scope sc xs) (O:COwn scope h D' C cs) (X:StA K mg wsC ok env h sc ρ)
  (hk:∀ b o,h.get? b=some o→h'.get? b=some o) (hok:∀ b o,ok b→h.get? b=some o→ok' b) (hf:Fresh ok' h') (he:∀ y d,ρe.lookup y=some d→∃ v,TVal scope cs C h' y v∧Rep wsC ok' h' v d) :
  StA K mg wsC ok' (compEnvC scope (cs++cU env scope.names []) C env) h' (gR scope.names sc) (ρe++dj scope ρ):=by
 have hkind:∀ y,(compEnvC scope (cs++cU env scope.names []) C env).kindOf y=(gR scope.names sc).lookup y:=fun y=>by
  show (relabel scope env).names.lookup y=_
  rw [lu X.env.names X.env.kind]
 have hcells:∀ y,(y,NameKind.free)∈scope.names→∃ c,env.cells.lookup y=some c∧(cs++cU env scope.names []).lookup y=some c:=fun y hy=>by
  obtain ⟨c',hc'⟩:=X.env.cells y (c.free _ hy rfl).1
  refine ⟨c',hc',?_⟩
  rw [List.lookup_append]
  cases e:cs.lookup y with
  | none=>exact pI hc' _ _ (.inr ⟨rfl,hy⟩)
  | some a=>exact nomatch (O.only y a e).symm.trans (c.free _ hy rfl).2
 refine ⟨X.gl.keep hk,hf,?_,c.kind,X.env.glob,X.env.bi,fun y hy=>?_,fun y e hy=>?_⟩
 ·exact lu X.env.names X.env.kind
 ·have hy':(y,NameKind.free)∈scope.names∨(y,NameKind.cell)∈scope.names:=by
   rcases hy with hy | hy
   ·obtain ⟨k₀,a,b⟩:=Fg hy
    rcases b with rfl | ⟨rfl,_⟩
    ·exact .inr a
    ·exact .inl a
   ·obtain ⟨k₀,a,b⟩:=Fg hy
    rcases b with rfl | ⟨_,q⟩
    ·exact .inl a
    ·exact nomatch q
  rcases hy' with hy' | hy'
  ·obtain ⟨c',_,hc'⟩:=hcells y hy'
   exact ⟨c',hc'⟩
  ·obtain ⟨c',hc'⟩:=O.has y (c.cell _ hy' rfl)
   refine ⟨c',?_⟩
   show (cs++cU env scope.names []).lookup y=some c'
   rw [List.lookup_append,hc']; rfl
 ·rw [List.lookup_append] at hy
  cases hx:ρe.lookup y with
  | some d =>
   rw [hx] at hy
   obtain rfl:d=e:=aj hy
   obtain ⟨v,hv,hr⟩:=he y d hx
   refine ⟨v,?_,hr⟩
   rcases hv with ⟨hl,m,hm,hv⟩ | ⟨c',hc',hv⟩
   ·exact .inl ⟨by rw [hkind]; exact tu hl,m,hm,hv⟩
   ·refine .inr ⟨.inl ?_,c',?_,hv⟩
    ·rw [hkind,dG,O.only y c' hc']; rfl
    ·show (cs++cU env scope.names []).lookup y=some c'
     rw [List.lookup_append,hc']; rfl
  | none =>
   rw [hx] at hy
   obtain ⟨a,b⟩:=eO (p:=fun q=>scope.names.lookup q==some .free) hy
   have b:scope.names.lookup y=some .free:=by simpa using b
   obtain ⟨u,hu,ru⟩:=X.env.vals y e a
   have hmem:=dz b
   obtain ⟨c',hc1,hc2⟩:=hcells y hmem
   refine ⟨u,.inr ⟨?_,c',hc2,?_⟩,ru.mono fun p o a e=>⟨hok p o a e,hk p o e⟩⟩
   ·rw [hkind]; exact vC b
   ·rcases hu with ⟨q,_⟩ | ⟨_,c'',q1,q2⟩
    ·have:=(c.free _ hmem rfl).1
     unfold Env.kindOf at q
     rw [X.env.names] at q
     rw [q] at this
     rcases this with t | t <;> exact nomatch t
    ·rw [hc1] at q1; obtain rfl:=aj q1
     exact q2.keeps hk
end
section
variable {r:R} {sc:Sc} {ρ:aJ} {x:Str} {elt:Expr} {ifs:List Expr}
noncomputable def tW (r:R) (sc:Sc) (ρ:aJ) (x:Str) (elt:Expr) (ifs:List Expr) (d:D):Option (List D) :=
 (yX r sc ((x,d) :: ρ) ifs).bind fun b=>if b=true then (r.E sc ((x,d) :: ρ) elt).map fun y=>[y] else some []
theorem oH {d:D} {ds:List D}:bk r sc ρ x elt ifs (d :: ds)=(tW r sc ρ x elt ifs d).bind fun a=>(bk r sc ρ x elt ifs ds).map (a++·):=by
 unfold tW
 show (yX r sc ((x,d) :: ρ) ifs).bind (fun b=>if b=true then (r.E sc ((x,d) :: ρ) elt).bind fun y=>(bk r sc ρ x elt ifs ds).map (y :: ·) else bk r sc ρ x elt ifs ds)=_
 cases yX r sc ((x,d) :: ρ) ifs with
 | none=>rfl
 | some b =>
  induction b using Bool.casesOn with
  | true =>
   simp only [Option.bind_some,if_true]
   cases r.E sc ((x,d) :: ρ) elt <;> simp
  | false =>
   simp only [Option.bind_some,Bool.false_eq_true,if_false]
   cases bk r sc ρ x elt ifs ds <;> simp
theorem jx {f:D→Option (List D)} {xs:List D}:∀ {ys:List D},dO f (xs++ys)=(dO f xs).bind fun a=>(dO f ys).map (a++·):=by
 induction xs with
 | nil =>
  intro ys
  show dO f ys=(dO f ys).map ([]++·)
  cases dO f ys <;> rfl
 | cons d xs ih =>
  intro ys
  show (f d).bind (fun a=>(dO f (xs++ys)).map (a++·))=((f d).bind fun a=>(dO f xs).map (a++·)).bind fun a=>(dO f ys).map (a++·)
  rw [ih]
  cases f d with
  | none=>rfl
  | some a =>
   cases dO f xs with
   | none=>rfl
   | some b=>cases dO f ys <;> simp
theorem Gf {f:D→Option (List D)} {items ds:List D} (h:dO f items=some ds) {i:Nat} {d:D} (hi:items[i]? = some d) {a:List D} (ha:dO f (items.take i)=some a) :
  ∃ l,f d=some l∧dO f (items.take (i+1))=some (a++l):=by
 have e2:items.take (i+1)=items.take i++[d]:=by rw [List.take_add_one,hi]; rfl
 rw [← List.take_append_drop (i+1) items,e2,jx,jx,ha] at h
 obtain ⟨b,hb,h⟩:=aa h
 obtain ⟨c,hc,hb⟩:=aa hb
 obtain rfl:=aj hc
 obtain ⟨l,hl,rfl⟩:=bA hb
 obtain ⟨l',h1,h2⟩:=aa (show (f d).bind (fun a=>(dO f []).map (a++·))=some l from hl)
 refine ⟨l',h1,?_⟩
 rw [e2,jx,ha]
 show Option.map _ ((f d).bind fun a=>(some []).map (a++·))=_
 rw [h1]; simp
theorem xJ {f:D→Option (List D)} {items ds:List D} (h:dO f items=some ds) {i:Nat} {a:List D} (ha:dO f (items.take i)=some a):a.length≤ds.length:=by
 rw [← List.take_append_drop i items,jx,ha] at h
 obtain ⟨b,hb,h⟩:=aa h
 obtain ⟨c,hc,rfl⟩:=bA h
 obtain rfl:=aj hb
 rw [List.length_append]; exact Nat.le_add_right _ _
theorem ou {items:List D}:bk r sc ρ x elt ifs items=dO (tW r sc ρ x elt ifs) items:=by
 induction items with
 | nil=>rfl
 | cons d items ih=>rw [oH,ih]; rfl
theorem Ar {items ds:List D} (h:bk r sc ρ x elt ifs items=some ds) {i:Nat} {d:D} (hi:items[i]? = some d) {a:List D} (ha:bk r sc ρ x elt ifs (items.take i)=some a) :
  ∃ l,tW r sc ρ x elt ifs d=some l∧bk r sc ρ x elt ifs (items.take (i+1))=some (a++l):=by
 rw [ou] at h ha ⊢
 exact Gf h hi ha
theorem xQ {items ds:List D} (h:bk r sc ρ x elt ifs items=some ds) {i:Nat} {a:List D} (ha:bk r sc ρ x elt ifs (items.take i)=some a):a.length≤ds.length:=by
 rw [ou] at h ha
 exact xJ h ha
theorem uU {r:R}:∀ {items ds:List D},bk r sc ρ x elt ifs items=some ds→ds.length≤items.length:=by
 intro items
 induction items with
 | nil =>
   intro ds h
   obtain rfl:=aj h; exact Nat.le_refl _
 | cons d items ih =>
   intro ds h
   rw [oH] at h
   obtain ⟨a,ha,h⟩:=aa h
   obtain ⟨b,hb,rfl⟩:=bA h
   have ih:=ih hb
   have:a.length≤1:=by
    unfold tW at ha
    obtain ⟨t,_,ha⟩:=aa ha
    split at ha
    ·obtain ⟨y,_,rfl⟩:=bA ha; exact Nat.le_refl _
    ·obtain rfl:=aj ha; exact Nat.zero_le _
   rw [List.length_append,List.length_cons]; omega
end
section
variable {prog:Program} {w:World} {A:Around} {s:Shared} {wsC:Fix} {ok:AP} {K:Frag} {mg:Str→Option Value} {G:Ctx} {env:Env} {sc:Sc} {ρ:aJ} {n:Nat} {r:R}
theorem Cp (S:Sound prog w K mg wsC n r) {e:Expr} {d:D} (h:r.E sc ρ e=some d) (x:Value):foldedSetIterable e env x=pure x:=by
 induction e using Expr.casesOn with
 | Set a k p=>rw [S.set] at h; exact aO h
 | _=>rfl
noncomputable def dq (D' C:Addr) (cs:List (Str × Addr)) (b:Addr):Prop:=b=C∨b=D'∨∃ n,cs.lookup n=some b
noncomputable def vy (ok:AP) (D' C:Addr) (cs:List (Str × Addr)) (L:List Addr):AP:=fun b=>ok b∧¬ dq D' C cs b∧b ∉ L
inductive CSt (wsC:Fix) (ok₁:AP) (hb:Heap) (s₀:Shared) (scope:Scope) (D' C:Addr) (cs:List (Str × Addr)) (ρe:aJ) (out:List D) (s:Shared):Prop where
 | mk (old:∀ b o,¬ dq D' C cs b→hb.get? b=some o→s.heap.get? b=some o) (gens:gd s=gd s₀) (os:s.os=s₀.os) (m:Str→Option Value) (loc:s.heap.Ns C m) (cell:∀ n c,cs.lookup n=some c→∃ v,s.heap.IsCell c v)
  (vals:∀ y d,ρe.lookup y=some d→∃ v,TVal scope cs C s.heap y v∧Rep wsC ok₁ s.heap v d) (ys:List Value) (n:Nat) (l:s.heap.get? D'=some { cls := .type "list",data := .seq (List.toArray ys) n }) (rr:RepL wsC ok₁ s.heap ys out) :
  CSt wsC ok₁ hb s₀ scope D' C cs ρe out s
section
variable {ok₁:AP} {hb h h':Heap} {s₀ s s':Shared} {scope:Scope} {D' C:Addr} {cs:List (Str × Addr)} {ρe:aJ} {out:List D}
theorem TVal.next {y:Str} {v:Value} (V:TVal scope cs C h y v) (hk:∀ b o,dq D' C cs b→h.get? b=some o→h'.get? b=some o):TVal scope cs C h' y v:=by
 rcases V with ⟨a,m,b,e⟩ | ⟨c,a,o,e,q⟩
 ·exact .inl ⟨a,m,b.at' fun o e=>hk _ o (.inl rfl) e,e⟩
 ·exact .inr ⟨c,a,o,hk c o (.inr (.inr ⟨y,a⟩)) e,q⟩
theorem CSt.next (V:CSt wsC ok₁ hb s₀ scope D' C cs ρe out s) (hg:gd s'=gd s) (ho:s'.os=s.os) (hk:∀ b o,dq D' C cs b∨ok₁ b∨(¬ dq D' C cs b∧∃ o,hb.get? b=some o)→s.heap.get? b=some o→s'.heap.get? b=some o) :
  CSt wsC ok₁ hb s₀ scope D' C cs ρe out s':=by
 obtain ⟨old,g,o,m,loc,cell,vals,ys,n,l,rr⟩:=V
 refine ⟨fun b o hm e=>hk b o (.inr (.inr ⟨hm,o,e⟩)) (old b o hm e),hg.trans g,ho.trans o,m,loc.at' fun o e=>hk _ o (.inl (.inl rfl)) e,fun n c hc=>?_,fun y d e=>?_,ys,n,hk _ _ (.inl (.inr (.inl rfl))) l,rr.mono fun b o hb e=>⟨hb,hk b o (.inr (.inl hb)) e⟩⟩
 ·obtain ⟨v,o,e,q⟩:=cell n c hc
  exact ⟨v,o,hk c o (.inl (.inr (.inr ⟨n,hc⟩))) e,q⟩
 ·obtain ⟨v,a,b⟩:=vals y d e
  exact ⟨v,a.next fun b o hm=>hk b o (.inl hm),b.mono fun b o hb e=>⟨hb,hk b o (.inr (.inl hb)) e⟩⟩
theorem CSt.grow (V:CSt wsC ok₁ hb s₀ scope D' C cs ρe out s) (g:Grow s s'):CSt wsC ok₁ hb s₀ scope D' C cs ρe out s':=V.next g.gens g.os fun b o _=>g.keep b o
theorem CSt.drop {y:Str} {d:D} (V:CSt wsC ok₁ hb s₀ scope D' C cs ((y,d) :: ρe) out s) (hy:ρe.lookup y=none):CSt wsC ok₁ hb s₀ scope D' C cs ρe out s:=by
 obtain ⟨old,g,o,m,loc,cell,vals,ys,n,l,rr⟩:=V
 refine ⟨old,g,o,m,loc,cell,fun z e hz=>vals z e ?_,ys,n,l,rr⟩
 have hne:z≠y:=fun q=>aO (hy.symm.trans (q▸hz))
 rw [List.lookup_cons,beq_eq_false_iff_ne.mpr hne]; exact hz
theorem CSt.here (V:CSt wsC ok₁ hb s₀ scope D' C cs ρe out s) {b:Addr} (hm:dq D' C cs b):∃ o,s.heap.get? b=some o:=by
 obtain ⟨old,g,o,m,loc,cell,vals,ys,n,l,rr⟩:=V
 rcases hm with rfl | rfl | ⟨n,hc⟩
 ·obtain ⟨o,_,_,e,_⟩:=loc; exact ⟨o,e⟩
 ·exact ⟨_,l⟩
 ·obtain ⟨v,o,e,q⟩:=cell n b hc; exact ⟨o,e⟩
theorem CSt.push {y:D} {v:Value} (n1:∀ b,ok₁ b→¬ dq D' C cs b) (O:COwn scope h D' C cs) (V:CSt wsC ok₁ hb s₀ scope D' C cs ρe out s) (hv:Rep wsC ok₁ s.heap v y) (hsz:out.length≤sizeLine) {Q:Value→Shared→Prop}
  (hQ:∀ s',CSt wsC ok₁ hb s₀ scope D' C cs ρe (out++[y]) s'→(∀ b o,b≠D'→s.heap.get? b=some o→s'.heap.get? b=some o)→Q .none s'):Wp prog w A (call (.builtin "list.append") [.ref D',v]) s Q:=by
 obtain ⟨old,g,o,m,loc,cell,vals,ys,n,l,rr⟩:=V
 refine wpAny_list_append_plain (l:=D') (items:=List.toArray ys) ⟨n,l⟩ (fun h₅ hl₅ hs₅=>hQ _ ?_ fun b o hb e=>hs₅.extBut b o hb e) (by rw [List.size_toArray,rr.length]; exact hsz)
 obtain ⟨n5,hl₅⟩:=hl₅
 have hk:∀ b o,ok₁ b→s.heap.get? b=some o→ok₁ b∧h₅.get? b=some o:=fun b o hb e=>⟨hb,hs₅.extBut b o (fun q=>n1 b hb (.inr (.inl q))) e⟩
 refine ⟨fun b o hm e=>hs₅.extBut b o (fun q=>hm (.inr (.inl q))) (old b o hm e),g,o,m,loc.sameBut hs₅ (Ne.symm O.dc),fun n c hc=>?_,fun z d e=>?_,ys++[v],n5,by rw [hl₅,List.push_toArray],RepL.snoc (rr.mono hk) (hv.mono hk)⟩
 ·obtain ⟨u,q⟩:=cell n c hc
  exact ⟨u,q.sameBut hs₅ (O.cell n c hc).2.2⟩
 ·obtain ⟨u,a,b⟩:=vals z d e
  refine ⟨u,?_,b.mono hk⟩
  rcases a with ⟨a,m',b,e⟩ | ⟨c,a,q⟩
  ·exact .inl ⟨a,m',b.sameBut hs₅ (Ne.symm O.dc),e⟩
  ·exact .inr ⟨c,a,q.sameBut hs₅ (O.cell z c a).2.2⟩
end
section
variable {xs:List Str} {ok₁:AP} {hb h:Heap} {s₀ s:Shared} {scope:Scope} {D' C:Addr} {cs cl:List (Str × Addr)} {ρe:aJ} {out:List D}
theorem CSt.store {y:Str} {py:Pos} {d:D} {v:Value} (c:CompOk scope sc xs) (O:COwn scope h D' C cs) (hn:env.scope.names=sc) (hkf:env.scope.kind=.function) (hy:y∈xs) (n1:∀ b,ok₁ b→¬ dq D' C cs b) (V:CSt wsC ok₁ hb s₀ scope D' C cs ρe out s)
  (hr:Rep wsC ok₁ s.heap v d):Wp prog w A (assign (.Name y py) (compEnvC scope (cs++cl) C env) v) s fun _ s'=>CSt wsC ok₁ hb s₀ scope D' C cs ((y,d) :: ρe) out s'∧∀ b o,¬ dq D' C cs b→s.heap.get? b=some o→s'.heap.get? b=some o:=by
 obtain ⟨old,g,o,m,loc,cell,vals,ys,n,l,rr⟩:=V
 have hkind:∀ k,scope.names.lookup y=some k→k ≠ .free→(compEnvC scope (cs++cl) C env).kindOf y=some k:=fun k hk hf=>by
  show (relabel scope env).names.lookup y=_
  rw [lu hn hkf,dG,hk]
  show some (BZ sc y k)=some k
  cases k <;> first | rfl | exact absurd rfl hf
 rcases c.x y hy with hl | hl
 ·refine wpAny_assign_Name (wpAny_storeName_local (m:=m) (hkind _ hl (by decide)) loc (fun h₂ hn₂ hs₂=>?_) (by show (scope.kind == .class||(scope.kind == .module&&_))=false; rw [c.kind]; rfl))
  have hk:∀ b o,ok₁ b→s.heap.get? b=some o→ok₁ b∧h₂.get? b=some o:=fun b o hb e=>⟨hb,hs₂.extBut b o (fun (q:b=C)=>n1 b hb (.inl q)) e⟩
  refine ⟨⟨fun b o hm e=>hs₂.extBut b o (fun (q:b=C)=>hm (.inl q)) (old b o hm e),g,o,_,hn₂,fun n c hc=>?_,fun z e hz=>?_,ys,n,hs₂.extBut _ _ O.dc l,rr.mono hk⟩,fun b o hm e=>hs₂.extBut b o (fun (q:b=C)=>hm (.inl q)) e⟩
  ·obtain ⟨u,q⟩:=cell n c hc
   exact ⟨u,q.sameBut hs₂ (O.cell n c hc).2.1⟩
  ·rw [List.lookup_cons] at hz
   by_cases hzy:z=y
   ·rw [hzy,beq_self_eq_true] at hz
    obtain rfl:=aj hz
    exact ⟨v,.inl ⟨hzy▸hl,_,hn₂,by simp only [hzy,if_true]⟩,hr.mono hk⟩
   ·rw [beq_eq_false_iff_ne.mpr hzy] at hz
    obtain ⟨u,a,b⟩:=vals z e hz
    refine ⟨u,?_,b.mono hk⟩
    rcases a with ⟨a,m',b,e⟩ | ⟨c,a,q⟩
    ·refine .inl ⟨a,_,hn₂,?_⟩
     have:=(Heap.Ns.eq_nsMap b).trans (Heap.Ns.eq_nsMap loc).symm
     show (if z=y then some v else m z)=some u
     rw [if_neg hzy,← this]; exact e
    ·exact .inr ⟨c,a,q.sameBut hs₂ (O.cell z c a).2.1⟩
 ·obtain ⟨cx,hcx⟩:=O.has y hl
  obtain ⟨v₀,hv₀⟩:=cell y cx hcx
  refine wpAny_assign_Name (wpAny_storeName_cell c.kind (hkind _ hl (by decide)) (c:=cx) (v₀:=v₀) (by show (cs++cl).lookup y=some cx; rw [List.lookup_append,hcx]; rfl) hv₀ fun h₂ hv₂ hs₂=>?_)
  have hmc:dq D' C cs cx := .inr (.inr ⟨y,hcx⟩)
  have hk:∀ b o,ok₁ b→s.heap.get? b=some o→ok₁ b∧h₂.get? b=some o:=fun b o hb e=>⟨hb,hs₂.extBut b o (fun q=>n1 b hb (q▸hmc)) e⟩
  have hCc:C≠cx:=fun q=>(O.cell y cx hcx).2.1 q.symm
  refine ⟨⟨fun b o hm e=>hs₂.extBut b o (fun q=>hm (q▸hmc)) (old b o hm e),g,o,m,loc.sameBut hs₂ hCc,fun n c hc=>?_,fun z e hz=>?_,ys,n,hs₂.extBut _ _ (fun q=>(O.cell y cx hcx).2.2 q.symm) l,rr.mono hk⟩,fun b o hm e=>hs₂.extBut b o (fun q=>hm (q▸hmc)) e⟩
  ·by_cases hcc:c=cx
   ·exact ⟨_,hcc▸hv₂⟩
   ·obtain ⟨u,q⟩:=cell n c hc
    exact ⟨u,q.sameBut hs₂ hcc⟩
  ·rw [List.lookup_cons] at hz
   by_cases hzy:z=y
   ·rw [hzy,beq_self_eq_true] at hz
    obtain rfl:=aj hz
    exact ⟨v,.inr ⟨cx,hzy▸hcx,hv₂⟩,hr.mono hk⟩
   ·rw [beq_eq_false_iff_ne.mpr hzy] at hz
    obtain ⟨u,a,b⟩:=vals z e hz
    refine ⟨u,?_,b.mono hk⟩
    rcases a with ⟨a,m',b,e⟩ | ⟨c,a,q⟩
    ·exact .inl ⟨a,m',b.sameBut hs₂ hCc,e⟩
    ·exact .inr ⟨c,a,q.sameBut hs₂ fun t=>hzy (O.apart z y cx (t▸a) hcx)⟩
end
theorem z8 {xs:List Str} {scope:Scope} {D' C:Addr} {cs:List (Str × Addr)} {s₀ s₁:Shared} {hb:Heap} {okb:AP} {I:Addr} {fp wr L:List Addr} {items base ds:List D} {P:Nat→Value→Prop} {Stt:Nat→Heap→Prop}
  (S:Sound prog w K mg wsC n r) (hA:OkA A n) (X:StA K mg wsC ok env s₀.heap sc ρ) (c:CompOk scope sc xs) (O:COwn scope s₀.heap D' C cs) (it:Iter prog w A wsC okb hb I fp wr items P Stt s₁.heap)
  (b0:∀ b o,s₀.heap.get? b=some o→¬ dq D' C cs b∧hb.get? b=some o) (hL:∀ b∈L,b∈wr∨(¬ dq D' C cs b∧∃ o,hb.get? b=some o)) (hwL:∀ b∈wr,b∈L) (l0:∀ b∈L,s₀.heap.get? b=none)
  (Dn:∀ b o,okb b→hb.get? b=some o→vy ok D' C cs L b) (fpm:∀ b∈fp,¬ dq D' C cs b) {elt:Expr} {ifs:List Expr} {y:Str} {py p pos:Pos} {gens:List Comprehension} {depth:Nat} {ρe:aJ} (hy:y∈xs) (hyρ:ρe.lookup y=none)
  (hsz:base.length+ds.length≤sizeLine) (hit:bk r (gR scope.names sc) (ρe++dj scope ρ) y elt ifs items=some ds)
  (heq:compTurn (.ListComp elt gens scope pos) depth (.ref I) (.ref D') (compEnvC scope (cs++cU env scope.names []) C env)=(standAt p >>= fun _=>pyNext (.ref I) >>= fun r=>match r with
   | none=>pure (.done .next)
   | some v=>zJ elt y py ifs (.ref I) (.ref D') (compEnvC scope (cs++cU env scope.names []) C env) v >>= fun _=>again (.compLoop (.ListComp elt gens scope pos) depth (.ref I) (.ref D') (compEnvC scope (cs++cU env scope.names []) C env))))
  (V:CSt wsC (vy ok D' C cs L) hb s₀ scope D' C cs ρe base s₁) {R:Result→Shared→Prop} (hR:∀ s',CSt wsC (vy ok D' C cs L) hb s₀ scope D' C cs ρe (base++ds) s'→R (.ok .next) s') :
  codeAny (model prog w) A (.compLoop (.ListComp elt gens scope pos) depth (.ref I) (.ref D') (compEnvC scope (cs++cU env scope.names []) C env)) R s₁:=by
 have n1:∀ b,vy ok D' C cs L b→¬ dq D' C cs b:=fun b q=>q.2.1
 have wm:∀ b∈wr,¬ dq D' C cs b:=fun b q=>fpm b (it.walks.sub b q)
 refine tK heq it.walks (fun i s=>∃ out,CSt wsC (vy ok D' C cs L) hb s₀ scope D' C cs ρe (base++out) s∧bk r (gR scope.names sc) (ρe++dj scope ρ) y elt ifs (items.take i)=some out) ?turn ?next ?fin it.st ⟨[],by rw [List.append_nil]; exact V,rfl⟩
 case next =>
  rintro i s' h' tk ⟨out,V,ho⟩ hk
  refine ⟨out,V.next (s':={ s' with heap:=h',toks:=tk }) rfl rfl fun b o hb e=>hk b o (fun hm=>?_) e,ho⟩
  rcases hb with hb | hb | ⟨_,o',hb⟩
  ·exact wm b hm hb
  ·exact hb.2.2 (hwL b hm)
  ·exact aO ((it.new b hm).symm.trans hb)
 case fin =>
  rintro s' ⟨out,V,ho⟩
  rw [List.take_length,hit] at ho
  obtain rfl:=aj ho
  exact hR _ V
 case turn =>
  rintro i v s' hi hP hst' ⟨out,V,ho⟩
  obtain ⟨d,hd,hrep⟩:=it.item i v hP
  obtain ⟨l,hl,ho'⟩:=Ar hit hd ho
  have hbk:∀ b o,¬ dq D' C cs b→hb.get? b=some o→s'.heap.get? b=some o:=by obtain ⟨old,_⟩:=V; exact old
  unfold zJ
  refine wpAny_bind (wpAny_of_eq (show letOwnedTupleGo (.Name y py) (.ref I) v=pure () from rfl) ?_)
  refine wpAny_bind (wpAny_mono (V.store (y:=y) (py:=py) (cl:=cU env scope.names []) c O X.env.names X.env.kind hy n1 (hrep.mono fun b o q e=>⟨Dn b o q e,hbk b o (Dn b o q e).2.1 e⟩)) (fun _ s₂ h₂=>?_) fun _ _ e=>e)
  obtain ⟨V₂,k₂⟩:=h₂
  have hold₂:∀ b o,¬ dq D' C cs b→hb.get? b=some o→s₂.heap.get? b=some o:=fun b o hm e=>k₂ b o hm (hbk b o hm e)
  have hfresh:Fresh (vy ok D' C cs L) s₂.heap:=fun a ha=>by
   refine ⟨(X.fresh.keep fun b o e=>hold₂ b o (b0 b o e).1 (b0 b o e).2) a ha,fun q=>?_,fun hm=>?_⟩
   ·obtain ⟨o,e⟩:=V₂.here q; exact aO (ha.symm.trans e)
   ·rcases hL a hm with q | ⟨q,o,e⟩
    ·obtain ⟨o,e⟩:=it.here _ _ hst' a q; exact aO (ha.symm.trans (k₂ a o (wm a q) e))
    ·exact aO (ha.symm.trans (hold₂ a o q e))
  have X₂:StA K mg wsC (vy ok D' C cs L) (compEnvC scope (cs++cU env scope.names []) C env) s₂.heap (gR scope.names sc) (((y,d) :: ρe)++dj scope ρ) :=
   xZ c O X (fun b o e=>hold₂ b o (b0 b o e).1 (b0 b o e).2) (fun b o q e=>⟨q,(b0 b o e).1,fun hm=>aO ((l0 b hm).symm.trans e)⟩) hfresh (by obtain ⟨_,_,_,_,_,_,vals,_⟩:=V₂; exact vals)
  obtain ⟨b,hb',hl⟩:=aa hl
  refine wpAny_bind (wpAny_mono (TY S hA X₂ hb') (fun b' s₃ h₃=>?_) fun _ _ e=>e)
  obtain ⟨g₃,rfl⟩:=h₃
  have V₃:=V₂.grow g₃
  induction b' using Bool.casesOn with
  | false =>
   simp only [Bool.false_eq_true,if_false] at hl ⊢
   obtain rfl:=aj hl
   rw [List.append_nil] at ho'
   exact wpAny_pure ⟨⟨out,V₃.drop hyρ,ho'⟩,fun b hb o e=>g₃.keep _ _ (k₂ b o (fpm b hb) e)⟩
  | true =>
   simp only [if_true] at hl ⊢
   obtain ⟨z,hz,rfl⟩:=bA hl
   refine wpAny_bind (wpAny_mono (S.E hA (X₂.keep g₃.keep) hz) (fun vz s₄ h₄=>?_) fun _ _ e=>e)
   obtain ⟨g₄,rz⟩:=h₄
   have hlen:=xQ hit ho
   refine wpAny_bind ((V₃.grow g₄).push n1 O rz (by rw [List.length_append]; exact aF (Nat.add_le_add_left hlen _) hsz) fun s₅ V₅ k₅=>wpAny_pure ?_)
   exact ⟨⟨out++[z],by rw [← List.append_assoc]; exact V₅.drop hyρ,ho'⟩,fun b hb o e=>k₅ b o (fun q=>fpm b hb (.inr (.inl q))) (g₄.keep _ _ (g₃.keep _ _ (k₂ b o (fpm b hb) e)))⟩
theorem Dj {cl:List (Str × Addr)} {names:List (Str × NameKind)}:∀ {k:Nat} {a:List (Str × Addr)},cellsFrom k names (a++cl)=cellsFrom k names a++cl:=by
 induction names with
 | nil=>intro k a; rfl
 | cons p r ih =>
  intro k a
  show (if p.2 == .cell then cellsFrom (k+1) r ((p.1,k) :: (a++cl)) else cellsFrom k r (a++cl))=(if p.2 == .cell then cellsFrom (k+1) r ((p.1,k) :: a) else cellsFrom k r a)++cl
  by_cases h:(p.2==NameKind.cell)=true
  ·rw [if_pos h,if_pos h]; exact ih (a:=(p.1,k) :: a)
  ·rw [if_neg h,if_neg h]; exact ih
theorem Mu {n:Str} {c:Addr} {names:List (Str × NameKind)}:∀ {k:Nat} {a:List (Str × Addr)},(n,c)∈cellsFrom k names a→(n,c)∈a∨(n,NameKind.cell)∈names:=by
 induction names with
 | nil=>intro k a h; exact .inl h
 | cons p r ih =>
  intro k a h
  have h:(n,c)∈(if p.2 == .cell then cellsFrom (k+1) r ((p.1,k) :: a) else cellsFrom k r a):=h
  by_cases hp:(p.2==NameKind.cell)=true
  ·rw [if_pos hp] at h
   rcases ih h with h | h
   ·rcases cM h with h | h
    ·obtain ⟨m,q⟩:=p
     obtain ⟨rfl,rfl⟩:=Prod.mk.inj h
     exact .inr (by rw [← eq_of_beq hp]; exact aH)
    ·exact .inl h
   ·exact .inr (cJ _ h)
  ·rw [if_neg hp] at h
   rcases ih h with h | h
   ·exact .inl h
   ·exact .inr (cJ _ h)
theorem Lp {n:Str} {names:List (Str × NameKind)}:∀ {k:Nat} {a:List (Str × Addr)},(n,NameKind.cell)∈names∨(∃ c,a.lookup n=some c)→∃ c,(cellsFrom k names a).lookup n=some c:=by
 induction names with
 | nil=>intro k a h; exact h.resolve_left (List.not_mem_nil)
 | cons p r ih =>
  intro k a h
  show ∃ c,(if p.2 == .cell then cellsFrom (k+1) r ((p.1,k) :: a) else cellsFrom k r a).lookup n=some c
  by_cases hp:(p.2==NameKind.cell)=true
  ·rw [if_pos hp]
   refine ih ?_
   by_cases hn:n=p.1
   ·exact .inr ⟨k,by rw [List.lookup_cons,hn,beq_self_eq_true]⟩
   ·rcases h with h | ⟨c,h⟩
    ·rcases cM h with h | h
     ·exact absurd (congrArg Prod.fst h) hn
     ·exact .inl h
    ·exact .inr ⟨c,by rw [List.lookup_cons,beq_eq_false_iff_ne.mpr hn]; exact h⟩
  ·rw [if_neg hp]
   refine ih ?_
   rcases h with h | h
   ·rcases cM h with h | h
    ·rw [← h] at hp; exact absurd rfl hp
    ·exact .inl h
   ·exact .inr h
theorem Qt {M:Model} {E:Value→Shared→Prop} {scope:Scope} {globals:Addr} {cl:List (Str × Addr)} {qual:Str} {Q:Env→Shared→Prop}
  (h:Q { scope:=scope,locals:=s.heap.objs.size,globals:=globals,cells:=cellsFrom (s.heap.objs.size+1) scope.names []++cl,qual:=qual,func:=none,code:=env.code,frame:=env.frame,builtins:=env.builtins }
   {s with heap:=pushCells (s.heap.push { cls := .type "dict",data := .dict #[] }) scope.names }):wpAny M A (newFunctionEnv scope globals cl [] qual none .none (some env)) Q E s:=by
 simp only [newFunctionEnv,Option.isSome_some,if_true]
 refine wpAny_bind (wpAny_alloc ?_)
 refine wpAny_bind (wpAny_layCells _ (fun name kind cells=>by cases hkc:kind==NameKind.cell <;> simp [hkc]) _ _ _ _ ?_)
 rw [show ({ s with heap:=s.heap.push { cls := .type "dict",data := .dict #[] } }:Shared).heap.objs.size=s.heap.objs.size+1 from Heap.size_push ..]
 rw [← Dj,List.nil_append] at h
 rw [List.forIn_nil]
 exact wpAny_bind (wpAny_pure (wpAny_pure h))
theorem yj {xs:List Str} {scope:Scope} {s₀ s₂:Shared} (gr:Grow s₀ s₂) (X:StA K mg wsC ok env s₀.heap sc ρ) {I:Addr} {fp wr:List Addr} {items:List D} {P:Nat→Value→Prop} {Stt:Nat→Heap→Prop}
  (it:Iter prog w A wsC ok s₀.heap I fp wr items P Stt s₂.heap) (c:CompOk scope sc xs) {elt t iter:Expr} {ifs:List Expr} {rest:List Comprehension} {pos:Pos} {RR:Value→Addr→Result→Shared→Prop}
  (loop:∀ D' C cs s₃,COwn scope s₀.heap D' C cs→CSt wsC (vy ok D' C cs wr) s₀.heap s₀ scope D' C cs [] [] s₃→Iter prog w A wsC ok s₀.heap I fp wr items P Stt s₃.heap→(∀ b∈fp,¬ dq D' C cs b)→(∀ b o,s₀.heap.get? b=some o→¬ dq D' C cs b) →
   codeAny (model prog w) A (.compLoop (.ListComp elt (⟨t,iter,ifs,0⟩ :: rest) scope pos) 0 (.ref I) (.ref D') (compEnvC scope (cs++cU env scope.names []) C env)) (RR (.ref D') C) s₃) :
  Wp prog w A (newList []) s₂ fun acc s₃=>Wp prog w A (newFunctionEnv scope env.globals (cU env scope.names []) [] env.qual none .none (some env)) s₃ fun cenv s₄ =>
   codeAny (model prog w) A (.compStart (.ListComp elt (⟨t,iter,ifs,0⟩ :: rest) scope pos) 0 (.ref I) acc { cenv with scope:=relabel scope env }) (RR acc cenv.locals) s₄:=by
 refine wpAny_newObj_type (Qt ?_)
 dsimp only
 generalize hH2:s₂.heap.push { cls := .type "list",dict:=none,data := .seq ([]:List Value).toArray }=H2
 have hC:H2.objs.size=s₂.heap.objs.size+1:=by rw [← hH2,Heap.size_push]
 have h3:(H2.push { cls := .type "dict",data := .dict #[] }).objs.size=H2.objs.size+1:=Heap.size_push ..
 have ck:=cellsFrom_ok scope.names (H2.push { cls := .type "dict",data := .dict #[] }) (H2.objs.size+1) [] ⟨fun _ _ hm=>(nomatch hm),List.Pairwise.nil⟩ (by rw [h3]; exact Nat.le_refl _)
 rw [h3] at ck
 have kp:∀ b o,s₂.heap.get? b=some o→(pushCells (H2.push { cls := .type "dict",data := .dict #[] }) scope.names).get? b=some o:=fun b o e=>pushCells_keeps _ _ b o (aQ _ (hH2▸aQ _ e))
 have big:∀ b,dq s₂.heap.objs.size H2.objs.size (cellsFrom (H2.objs.size+1) scope.names []) b→s₂.heap.objs.size≤b:=fun b q=>by
  rcases q with rfl | rfl | ⟨n,q⟩
  ·rw [hC]; exact Nat.le_succ _
  ·exact Nat.le_refl _
  ·have:=(ck.empty n b (mem_of_lookup q)).2; rw [hC] at this; exact aF (Nat.le_succ _) (aF (Nat.le_succ _) this)
 have nm:∀ b o,s₂.heap.get? b=some o→¬ dq s₂.heap.objs.size H2.objs.size (cellsFrom (H2.objs.size+1) scope.names []) b:=fun b o e q=>Nat.lt_irrefl _ (Nat.lt_of_lt_of_le (Heap.lt_size e) (big b q))
 have none₀:∀ b,dq s₂.heap.objs.size H2.objs.size (cellsFrom (H2.objs.size+1) scope.names []) b→s₀.heap.get? b=none:=fun b q=>by
  cases e:s₀.heap.get? b with
  | none=>rfl
  | some o=>exact absurd q (nm b o (gr.keep b o e))
 have O:COwn scope s₀.heap s₂.heap.objs.size H2.objs.size (cellsFrom (H2.objs.size+1) scope.names []) :=
  ⟨by rw [hC]; exact Nat.ne_of_lt (Nat.lt_succ_self _),none₀ _ (.inr (.inl rfl)),none₀ _ (.inl rfl),fun n c q=>⟨none₀ c (.inr (.inr ⟨n,q⟩)),Nat.ne_of_gt (ck.empty n c (mem_of_lookup q)).2,by
   have:=(ck.empty n c (mem_of_lookup q)).2; rw [hC] at this; exact Nat.ne_of_gt (Nat.lt_of_lt_of_le (Nat.lt_succ_of_lt (Nat.lt_succ_self _)) this)⟩,
   fun x y c q1 q2=>name_of_addr ck.apart (mem_of_lookup q1) (mem_of_lookup q2),fun n q=>Lp (.inl (dz q)),fun n c' q=>c.cell _ ((Mu (mem_of_lookup q)).resolve_left List.not_mem_nil) rfl⟩
 have L:∀ s₃:Shared,s₃={ s₂ with heap:=pushCells (H2.push { cls := .type "dict",data := .dict #[] }) scope.names } →
   codeAny (model prog w) A (.compLoop (.ListComp elt (⟨t,iter,ifs,0⟩ :: rest) scope pos) 0 (.ref I) (.ref s₂.heap.objs.size) (compEnvC scope (cellsFrom (H2.objs.size+1) scope.names []++cU env scope.names []) H2.objs.size env)) (RR (.ref s₂.heap.objs.size) H2.objs.size) s₃:=by
  rintro s₃ rfl
  refine loop _ _ _ _ O ⟨fun b o _ e=>kp b o (gr.keep b o e),gr.gens,gr.os,_,(Heap.Ns.new H2 (.type "dict")).keeps (pushCells_keeps _ _),fun n c q=>⟨_,(ck.empty n c (mem_of_lookup q)).1⟩,fun y d e=>aO e,[],0,pushCells_keeps _ _ _ _ (aQ _ (hH2▸bw _ rfl)),.nil⟩
   ⟨it.walks,it.walks.frame _ _ _ it.st fun b _ o e=>kp b o e,fun b q=>?_,it.new,it.okay,it.item,it.here⟩ (fun b q=>?_) fun b o e=>nm b o (gr.keep b o e)
  ·obtain ⟨o,e⟩:=it.there b q; exact ⟨o,kp b o e⟩
  ·obtain ⟨o,e⟩:=it.there b q; exact nm b o e
 exact codeAny_compStart_list (L _ rfl) (it.walks.self 0 _ _ _ (it.walks.frame _ _ _ it.st fun b _ o e=>kp b o e) (L _ rfl))
theorem MN {scope:Scope} {s₀ s₂:Shared} (S:Sound prog w K mg wsC n r) (hA:OkA A n) (gr:Grow s₀ s₂) (X:StA K mg wsC ok env s₀.heap sc ρ) {I:Addr} {fp wr:List Addr} {items ds:List D} {P:Nat→Value→Prop} {Stt:Nat→Heap→Prop}
  (it:Iter prog w A wsC ok s₀.heap I fp wr items P Stt s₂.heap) {elt iter:Expr} {x:Str} {px pos:Pos} {ifs:List Expr} (c:CompOk scope sc [x]) (hsz:items.length≤sizeLine)
  (hit:bk r (gR scope.names sc) (dj scope ρ) x elt ifs items=some ds) {RR:Value→Addr→Result→Shared→Prop}
  (hRR:∀ D' C cs s',COwn scope s₀.heap D' C cs→(∀ b o,s₀.heap.get? b=some o→¬ dq D' C cs b)→CSt wsC (vy ok D' C cs wr) s₀.heap s₀ scope D' C cs [] ds s'→RR (.ref D') C (.ok .next) s') :
  Wp prog w A (newList []) s₂ fun acc s₃=>Wp prog w A (newFunctionEnv scope env.globals (cU env scope.names []) [] env.qual none .none (some env)) s₃ fun cenv s₄ =>
   codeAny (model prog w) A (.compStart (.ListComp elt [⟨.Name x px,iter,ifs,0⟩] scope pos) 0 (.ref I) acc { cenv with scope:=relabel scope env }) (RR acc cenv.locals) s₄ :=
 yj gr X it c fun D' C cs s₃ O V it nf nm=>z8 (base:=[]) S hA X c O it (fun b o e=>⟨nm b o e,e⟩) (fun b q => .inl q) (fun b q=>q) (fun b q=>it.new b q)
  (fun b o q e=>⟨q,nm b o e,fun hm=>aO ((it.new b hm).symm.trans e)⟩) nf aH rfl (by rw [List.length_nil,Nat.zero_add]; exact aF (uU hit) hsz) hit (xX elt iter x px ifs scope pos _ _ _) V fun s' V'=>hRR D' C cs s' O nm V'
noncomputable def NP (elt:Expr) (gens:List Comprehension) (scope:Scope) (pos:Pos) (x:Str) (px:Pos) (iter2:Expr) (it acc:Value) (env:Env) (v:Value):Sem Unit:=do
 letOwnedTupleGo (.Name x px) it v
 assign (.Name x px) env v
 let u ← eval iter2 env
 standAt iter2.pos
 let u ← foldedSetIterable iter2 env u
 let _ ← runOwn (.compStart (.ListComp elt gens scope pos) 1 (← holding [u] (pyIter u)) acc env) env
theorem wW (elt iter iter2:Expr) (x y:Str) (px py:Pos) (ifs:List Expr) (scope:Scope) (pos:Pos) (it acc:Value) (env:Env) :
  compTurn (.ListComp elt [⟨.Name x px,iter,[],0⟩,⟨.Name y py,iter2,ifs,0⟩] scope pos) 0 it acc env=(standAt iter.pos >>= fun _=>pyNext it >>= fun r=>match r with
   | none=>pure (.done .next)
   | some v=>NP elt [⟨.Name x px,iter,[],0⟩,⟨.Name y py,iter2,ifs,0⟩] scope pos x px iter2 it acc env v >>= fun _=>again (.compLoop (.ListComp elt [⟨.Name x px,iter,[],0⟩,⟨.Name y py,iter2,ifs,0⟩] scope pos) 0 it acc env)):=by
 have e:compTurn (.ListComp elt [⟨.Name x px,iter,[],0⟩,⟨.Name y py,iter2,ifs,0⟩] scope pos) 0 it acc env=(do
   standAt iter.pos
   match ← pyNext it with
   | none=>pure (.done .next)
   | some v =>
    letOwnedTupleGo (.Name x px) it v
    assign (.Name x px) env v
    let u ← eval iter2 env
    standAt iter2.pos
    let u ← foldedSetIterable iter2 env u
    let _ ← runOwn (.compStart (.ListComp elt [⟨.Name x px,iter,[],0⟩,⟨.Name y py,iter2,ifs,0⟩] scope pos) 1 (← holding [u] (pyIter u)) acc env) env
    again (.compLoop (.ListComp elt [⟨.Name x px,iter,[],0⟩,⟨.Name y py,iter2,ifs,0⟩] scope pos) 0 it acc env)):=by rfl
 rw [e]
 congr 1; funext _
 congr 1; funext r
 cases r with
 | none=>rfl
 | some v=>simp only [NP,bind_assoc,pure_bind]
theorem v8 (elt iter iter2:Expr) (x y:Str) (px py:Pos) (ifs:List Expr) (scope:Scope) (pos:Pos) (it acc:Value) (env:Env) :
  compTurn (.ListComp elt [⟨.Name x px,iter,[],0⟩,⟨.Name y py,iter2,ifs,0⟩] scope pos) 1 it acc env=(standAt iter2.pos >>= fun _=>pyNext it >>= fun r=>match r with
   | none=>pure (.done .next)
   | some v=>zJ elt y py ifs it acc env v >>= fun _=>again (.compLoop (.ListComp elt [⟨.Name x px,iter,[],0⟩,⟨.Name y py,iter2,ifs,0⟩] scope pos) 1 it acc env)):=by
 have e:compTurn (.ListComp elt [⟨.Name x px,iter,[],0⟩,⟨.Name y py,iter2,ifs,0⟩] scope pos) 1 it acc env=(do
   standAt iter2.pos
   match ← pyNext it with
   | none=>pure (.done .next)
   | some v =>
    letOwnedTupleGo (.Name y py) it v
    assign (.Name y py) env v
    let mut ok:=true
    for c in ifs do
     if ok then ok ← isTrue c env (eval c env)
    if ok then
     (do let _ ← call (.builtin "list.append") [acc,← eval elt env])
    again (.compLoop (.ListComp elt [⟨.Name x px,iter,[],0⟩,⟨.Name y py,iter2,ifs,0⟩] scope pos) 1 it acc env)):=by rfl
 rw [e]
 congr 1; funext _
 congr 1; funext r
 induction r using Option.casesOn with
 | none=>rfl
 | some v =>
  simp only [zJ,bind_assoc]
  congr 1; funext _
  congr 1; funext _
  congr 1; funext ok
  cases ok <;> simp
theorem rO {elt t1 iter1 t2 iter2:Expr} {ifs1 ifs2:List Expr} {scope:Scope} {pos:Pos} {it acc:Value} {env:Env} {R:Result→Shared→Prop}
  (h0:codeAny (model prog w) A (.compLoop (.ListComp elt [⟨t1,iter1,ifs1,0⟩,⟨t2,iter2,ifs2,0⟩] scope pos) 1 it acc env) R s)
  (h:wpAny (model prog w) A (pyIter it) (fun it' s'=>codeAny (model prog w) A (.compLoop (.ListComp elt [⟨t1,iter1,ifs1,0⟩,⟨t2,iter2,ifs2,0⟩] scope pos) 1 it' acc env) R s') (notedBy (model prog w) A env fun x s'=>R (.error x) s') s) :
  codeAny (model prog w) A (.compStart (.ListComp elt [⟨t1,iter1,ifs1,0⟩,⟨t2,iter2,ifs2,0⟩] scope pos) 1 it acc env) R s:=by
 refine codeAny_of_tree ?_
 show wpAny _ _ ((compStart (.ListComp elt [⟨t1,iter1,ifs1,0⟩,⟨t2,iter2,ifs2,0⟩] scope pos) 1 it acc env).onRaise (fun x=>do noteFrame x env; standAt theWindowsPlace)) _ _ s
 refine wpAny_notedAt ?_
 unfold compStart
 show wpAny _ _ (ask >>= _) _ _ s
 refine wpAny_bind (wpAny_askSetting (wpAny_ite ?_))
 split
 ·first
   | exact wpAny_bind (wpAny_pure (wpAny_pure (And.intro rfl h0)))
   | exact wpAny_pure (And.intro rfl h0)
 ·first
   | exact wpAny_bind (wpAny_rule (wpAny_bind (wpAny_standAt (wpAny_bind (wpAny_mono h (fun it' s' h'=>wpAny_pure (And.intro rfl h')) fun _ _ x=>x)))))
   | (refine wpAny_bind (wpAny_rule ?_); show wpAny _ _ (standAt iter2.pos >>= _) _ _ s; exact wpAny_bind (wpAny_standAt (wpAny_bind (wpAny_mono h (fun it' s' h'=>wpAny_pure (And.intro rfl h')) fun _ _ x=>x))))
theorem CSt.rebase {hb:Heap} {s₀ s s':Shared} {scope:Scope} {D' C:Addr} {cs:List (Str × Addr)} {ρe:aJ} {out:List D} {wr wr2:List Addr} (V:CSt wsC (vy ok D' C cs wr) hb s₀ scope D' C cs ρe out s) (g:Grow s s') (n2:∀ b∈wr2,s.heap.get? b=none) :
  CSt wsC (vy ok D' C cs (wr2++wr)) s.heap s₀ scope D' C cs ρe out s':=by
 have hk:∀ b o,vy ok D' C cs wr b→s.heap.get? b=some o→vy ok D' C cs (wr2++wr) b∧s'.heap.get? b=some o:=fun b o q e=>⟨⟨q.1,q.2.1,fun hm=>(List.mem_append.mp hm).elim (fun hm=>aO ((n2 b hm).symm.trans e)) q.2.2⟩,g.keep b o e⟩
 obtain ⟨old,gg,o,m,loc,cell,vals,ys,n,l,rr⟩:=V
 refine ⟨fun b o _ e=>g.keep b o e,g.gens.trans gg,g.os.trans o,m,loc.keeps g.keep,fun n c hc=>?_,fun y d e=>?_,ys,n,g.keep _ _ l,rr.mono hk⟩
 ·obtain ⟨v,q⟩:=cell n c hc
  exact ⟨v,q.keeps g.keep⟩
 ·obtain ⟨v,a,b⟩:=vals y d e
  exact ⟨v,a.next (D':=D') fun b o _=>g.keep b o,b.mono hk⟩
theorem CSt.unbase {hb hb2:Heap} {s₀ s:Shared} {scope:Scope} {D' C:Addr} {cs:List (Str × Addr)} {ρe:aJ} {out:List D} {wr wr2:List Addr} (V:CSt wsC (vy ok D' C cs (wr2++wr)) hb2 s₀ scope D' C cs ρe out s) (hk:∀ b o,¬ dq D' C cs b→hb.get? b=some o→hb2.get? b=some o) :
  CSt wsC (vy ok D' C cs wr) hb s₀ scope D' C cs ρe out s:=by
 have hw:∀ b o,s.heap.get? b=some o→vy ok D' C cs (wr2++wr) b→vy ok D' C cs wr b:=fun b o _ q=>⟨q.1,q.2.1,fun hm=>q.2.2 (List.mem_append_right _ hm)⟩
 obtain ⟨old,gg,o,m,loc,cell,vals,ys,n,l,rr⟩:=V
 refine ⟨fun b o hm e=>old b o hm (hk b o hm e),gg,o,m,loc,cell,fun y d e=>?_,ys,n,l,rr.weak hw⟩
 obtain ⟨v,a,b⟩:=vals y d e
 exact ⟨v,a,b.weak hw⟩
theorem Hk {scope:Scope} {s₀ s₂:Shared} (S:Sound prog w K mg wsC n r) (hA:OkA A n) (gr:Grow s₀ s₂) (X:StA K mg wsC ok env s₀.heap sc ρ) {I:Addr} {fp wr:List Addr} {items ds:List D} {P:Nat→Value→Prop} {Stt:Nat→Heap→Prop}
  (it:Iter prog w A wsC ok s₀.heap I fp wr items P Stt s₂.heap) {elt iter iter2:Expr} {x y:Str} {px py pos:Pos} {ifs:List Expr} (c:CompOk scope sc [x,y]) (hxy:x≠y) (hsz:ds.length≤sizeLine)
  (hit:dO (lY r (gR scope.names sc) (dj scope ρ) x y iter2 elt ifs) items=some ds) {RR:Value→Addr→Result→Shared→Prop}
  (hRR:∀ D' C cs s',COwn scope s₀.heap D' C cs→(∀ b o,s₀.heap.get? b=some o→¬ dq D' C cs b)→CSt wsC (vy ok D' C cs wr) s₀.heap s₀ scope D' C cs [] ds s'→RR (.ref D') C (.ok .next) s') :
  Wp prog w A (newList []) s₂ fun acc s₃=>Wp prog w A (newFunctionEnv scope env.globals (cU env scope.names []) [] env.qual none .none (some env)) s₃ fun cenv s₄ =>
   codeAny (model prog w) A (.compStart (.ListComp elt [⟨.Name x px,iter,[],0⟩,⟨.Name y py,iter2,ifs,0⟩] scope pos) 0 (.ref I) acc { cenv with scope:=relabel scope env }) (RR acc cenv.locals) s₄:=by
 refine yj gr X it c fun D' C cs s₃ O V it nf nm=>?_
 have n1:∀ b,vy ok D' C cs wr b→¬ dq D' C cs b:=fun b q=>q.2.1
 have wm:∀ b∈wr,¬ dq D' C cs b:=fun b q=>nf b (it.walks.sub b q)
 refine tK (wW elt iter iter2 x y px py ifs scope pos _ _ _) it.walks (fun i s=>∃ out,CSt wsC (vy ok D' C cs wr) s₀.heap s₀ scope D' C cs [] out s∧dO (lY r (gR scope.names sc) (dj scope ρ) x y iter2 elt ifs) (items.take i)=some out) ?turn ?next ?fin it.st ⟨[],V,rfl⟩
 case next =>
  rintro i s' h' tk ⟨out,V,ho⟩ hk
  refine ⟨out,V.next (s':={ s' with heap:=h',toks:=tk }) rfl rfl fun b o hb e=>hk b o (fun hm=>?_) e,ho⟩
  rcases hb with hb | hb | ⟨_,o',hb⟩
  ·exact wm b hm hb
  ·exact hb.2.2 hm
  ·exact aO ((it.new b hm).symm.trans hb)
 case fin =>
  rintro s' ⟨out,V,ho⟩
  rw [List.take_length,hit] at ho
  obtain rfl:=aj ho
  exact hRR _ _ _ _ O nm V
 case turn =>
  rintro i v s' hi hP hst' ⟨out,V,ho⟩
  obtain ⟨d,hd,hrep⟩:=it.item i v hP
  obtain ⟨l,hl,ho'⟩:=Gf hit hd ho
  have hbk:∀ b o,¬ dq D' C cs b→s₀.heap.get? b=some o→s'.heap.get? b=some o:=by obtain ⟨old,_⟩:=V; exact old
  unfold NP
  refine wpAny_bind (wpAny_of_eq (show letOwnedTupleGo (.Name x px) (.ref I) v=pure () from rfl) ?_)
  refine wpAny_bind (wpAny_mono (V.store (y:=x) (py:=px) (cl:=cU env scope.names []) c O X.env.names X.env.kind aH n1 (hrep.mono fun b o q e=>⟨⟨q,nm b o e,fun hm=>aO ((it.new b hm).symm.trans e)⟩,hbk b o (nm b o e) e⟩)) (fun _ s₂ h₂=>?_) fun _ _ e=>e)
  obtain ⟨V₂,k₂⟩:=h₂
  have hold₂:∀ b o,s₀.heap.get? b=some o→s₂.heap.get? b=some o:=fun b o e=>k₂ b o (nm b o e) (hbk b o (nm b o e) e)
  have hfresh:Fresh (vy ok D' C cs wr) s₂.heap:=fun a ha=>by
   refine ⟨X.fresh.keep hold₂ a ha,fun q=>?_,fun hm=>?_⟩
   ·obtain ⟨o,e⟩:=V₂.here q; exact aO (ha.symm.trans e)
   ·obtain ⟨o,e⟩:=it.here _ _ hst' a hm; exact aO (ha.symm.trans (k₂ a o (wm a hm) e))
  have X₂:StA K mg wsC (vy ok D' C cs wr) (compEnvC scope (cs++cU env scope.names []) C env) s₂.heap (gR scope.names sc) ([(x,d)]++dj scope ρ) :=
   xZ c O X hold₂ (fun b o q e=>⟨q,nm b o e,fun hm=>aO ((it.new b hm).symm.trans e)⟩) hfresh (by obtain ⟨_,_,_,_,_,_,vals,_⟩:=V₂; exact vals)
  obtain ⟨src,hsrc,hl⟩:=aa hl
  obtain ⟨items2,hit2,hl⟩:=aa hl
  refine wpAny_bind (wpAny_mono (S.E hA X₂ hsrc) (fun u s₃ h₃=>?_) fun _ _ e=>e)
  obtain ⟨g₃,ru⟩:=h₃
  have V₃:=V₂.grow g₃
  refine wpAny_bind (wpAny_standAt (wpAny_bind (wpAny_of_eq (Cp S hsrc u) ?_)))
  refine wpAny_bind (wpAny_holding (wpAny_mono (jy hA.h ru hit2) (fun itv s₄ h₄=>?_) fun _ _ e=>e))
  obtain ⟨g₄,I2,fp2,wr2,P2,St2,rfl,it2⟩:=h₄
  have V₄:=V₃.rebase (wr2:=wr2) g₄ it2.new
  have old₃:∀ b o,¬ dq D' C cs b→s₀.heap.get? b=some o→s₃.heap.get? b=some o:=by obtain ⟨old,_⟩:=V₃; exact old
  have f2:∀ b∈fp2,¬ dq D' C cs b:=fun b hb hm=>by
   rcases it2.okay b hb with q | ⟨q,_⟩
   ·obtain ⟨o,e⟩:=V₃.here hm; exact aO ((it2.new b q).symm.trans e)
   ·exact q.2.1 hm
  refine wpAny_bind (wpAny_runOwn (by
   rw [Around.mark_none]
   have run:∀ {R:Result→Shared→Prop},(∀ s',CSt wsC (vy ok D' C cs (wr2++wr)) s₃.heap s₀ scope D' C cs [(x,d)] (out++l) s'→R (.ok .next) s') →
     codeAny (model prog w) A (.compLoop (.ListComp elt [⟨.Name x px,iter,[],0⟩,⟨.Name y py,iter2,ifs,0⟩] scope pos) 1 (.ref I2) (.ref D') (compEnvC scope (cs++cU env scope.names []) C env)) R s₄:=fun {R} hR =>
    z8 (base:=out) S hA X c O it2 (fun b o e=>⟨nm b o e,old₃ b o (nm b o e) e⟩) (fun b hb=>(List.mem_append.mp hb).elim .inl fun q => .inr ⟨wm b q,by
      obtain ⟨o,e⟩:=it.here _ _ hst' b q
      exact ⟨o,g₃.keep _ _ (k₂ b o (wm b q) e)⟩⟩) (fun b q=>List.mem_append_left _ q)
     (fun b hb=>(List.mem_append.mp hb).elim (fun q=>by
      cases e:s₀.heap.get? b with
      | none=>rfl
      | some o=>exact aO ((it2.new b q).symm.trans (old₃ b o (nm b o e) e))) fun q=>it.new b q)
     (fun b o q e=>⟨q.1,q.2.1,fun hm=>(List.mem_append.mp hm).elim (fun hm=>aO ((it2.new b hm).symm.trans e)) q.2.2⟩) f2 (cJ _ aH)
     (by rw [List.lookup_cons,beq_eq_false_iff_ne.mpr (Ne.symm hxy)]; rfl) (by have:=xJ hit ho'; rw [List.length_append] at this; exact aF this hsz) hl (v8 elt iter iter2 x y px py ifs scope pos _ _ _) V₄ hR
   refine rO (run fun s' V'=>?_) (it2.walks.self 0 _ _ _ it2.st (run fun s' V'=>?_)) <;>
   ·refine wpAny_pure ⟨⟨out++l,(V'.unbase old₃).drop rfl,ho'⟩,fun b hb o e=>?_⟩
    obtain ⟨old,_⟩:=V'
    exact old b o (nf b hb) (g₃.keep _ _ (k₂ b o (nf b hb) e))))
end
section
variable {prog:Program} {w:World} {A:Around} {s:Shared} {wsC:Fix} {ok:AP} {K:Frag} {mg:Str→Option Value} {G:Ctx} {env:Env} {sc:Sc} {ρ:aJ} {n:Nat} {r:R}
theorem yf {iter:Expr} {items:List D} (h:srcOf r sc ρ iter=some items):∃ src,r.E sc ρ iter=some src∧itemsOf src=some items∧items.length≤sizeLine:=by
 obtain ⟨src,h1,h⟩:=aa h
 obtain ⟨its,h2,h⟩:=aa h
 obtain ⟨hz,rfl⟩:=ak h
 exact ⟨src,h1,h2,cI hz⟩
inductive CompIs (prog:Program) (w:World) (K:Frag) (mg:Str→Option Value) (wsC:Fix) (n:Nat) (r:R) (sc:Sc) (ρ:aJ) (elt:Expr) (gens:List Comprehension) (scope:Scope) (d:D):Prop where
 | mk (t iter:Expr) (ifs:List Expr) (gs:List Comprehension) (eg:gens=⟨t,iter,ifs,0⟩ :: gs) (xs:List Str) (c:CompOk scope sc xs) (src:D) (hs:r.E sc ρ iter=some src) (items:List D) (hi:itemsOf src=some items) (ds:List D) (ed:d=.list ds)
  (core:∀ {A:Around} {s₀ s₂:Shared} {ok:AP} {env:Env} {I:Addr} {fp wr:List Addr} {P:Nat→Value→Prop} {Stt:Nat→Heap→Prop} {pos:Pos} {RR:Value→Addr→Result→Shared→Prop},OkA A n→Grow s₀ s₂→StA K mg wsC ok env s₀.heap sc ρ→Iter prog w A wsC ok s₀.heap I fp wr items P Stt s₂.heap →
   (∀ D' C cs s',COwn scope s₀.heap D' C cs→(∀ b o,s₀.heap.get? b=some o→¬ dq D' C cs b)→CSt wsC (vy ok D' C cs wr) s₀.heap s₀ scope D' C cs [] ds s'→RR (.ref D') C (.ok .next) s') →
   Wp prog w A (newList []) s₂ fun acc s₃=>Wp prog w A (newFunctionEnv scope env.globals (cU env scope.names []) [] env.qual none .none (some env)) s₃ fun cenv s₄ =>
    codeAny (model prog w) A (.compStart (.ListComp elt gens scope pos) 0 (.ref I) acc { cenv with scope:=relabel scope env }) (RR acc cenv.locals) s₄):CompIs prog w K mg wsC n r sc ρ elt gens scope d
theorem xH (S:Sound prog w K mg wsC n r) {elt:Expr} {gens:List Comprehension} {scope:Scope} {d:D} (h:Fx r sc ρ elt gens scope=some d):CompIs prog w K mg wsC n r sc ρ elt gens scope d:=by
 induction gens using List.casesOn with
 | nil=>exact aO h
 | cons g gs =>
  obtain ⟨t,iter,ifs,k⟩:=g
  induction gs using List.casesOn with
  | nil =>
   refine dY (fun x px q h1=>?_) (show XD r sc ρ elt scope t iter ifs k=some d from h) aO
   clear h; subst q
   by_cases hk:k=0
   ·subst hk
    rw [if_pos rfl] at h1
    obtain ⟨_,hg,h⟩:=aa h1
    obtain ⟨items,hit,h⟩:=aa h
    obtain ⟨ds,hds,e⟩:=bA h
    obtain ⟨src,hsrc,hi,hz⟩:=yf hit
    have c:=Aa (ak hg).1
    exact ⟨_,iter,ifs,[],rfl,[x],c,src,hsrc,items,hi,ds,e.symm,fun hA gr X it hRR=>MN S hA gr X it c hz hds hRR⟩
   ·rw [if_neg hk] at h1; exact aO h1
  | cons g2 gs =>
   obtain ⟨t2,iter2,ifs2,k2⟩:=g2
   induction gs using List.casesOn with
   | cons _ _=>exact aO h
   | nil =>
    refine dY (fun x px q h1=>dY (fun y py q2 h2=>?_) h1 aO) (show QQ r sc ρ elt scope t iter ifs k t2 iter2 ifs2 k2=some d from h) aO
    clear h h1; subst q q2
    obtain ⟨_,hg,h⟩:=aa h2
    obtain ⟨items,hit,h⟩:=aa h
    obtain ⟨ds,hds,h⟩:=aa h
    obtain ⟨hz,rfl⟩:=ak h
    obtain ⟨src,hsrc,hi,_⟩:=yf hit
    obtain ⟨hg,g1⟩:=bj (ak hg).1
    obtain ⟨hg,g2⟩:=bj hg
    obtain ⟨hg,g3⟩:=bj hg
    obtain ⟨g5,g4⟩:=bj hg
    obtain rfl:=eq_of_beq g4
    obtain rfl:=eq_of_beq g5
    obtain rfl:=List.isEmpty_iff.mp g3
    have c:=Aa g1
    exact ⟨_,iter,[],_,rfl,[x,y],c,src,hsrc,items,hi,ds,rfl,fun hA gr X it hRR=>Hk S hA gr X it c (bne_iff_ne.mp g2) (cI hz) hds hRR⟩
theorem Qp (S:Sound prog w K mg wsC n r) (hA:OkA A n) (X:StA K mg wsC ok env s.heap sc ρ) {elt:Expr} {gens:List Comprehension} {scope:Scope} {pos:Pos} {d:D}
  (h:Fx r sc ρ elt gens scope=some d):aL prog w A s wsC ok (eval (.ListComp elt gens scope pos) env) d:=by
 obtain ⟨t,iter,ifs,gs,rfl,xs,c,src,hsrc,items,hitems,ds,rfl,core⟩:=xH S h
 rw [eval_ListComp]
 refine wpAny_comprehension_free (use:=none) rfl (Cp S hsrc) (xj fun p hp hf=>X.env.cells p.1 (c.free p hp hf).1) c.kind c.names
  (wpAny_mono (S.E hA X hsrc) (fun xv s₁ h₁=>wpAny_mono (jy hA.h h₁.2 hitems) (fun itv s₂ h₂=>?_) fun _ _ e=>e) fun _ _ e=>e)
 obtain ⟨g₂,I,fp,wr,P,Stt,rfl,it⟩:=h₂
 refine core hA g₂ (X.keep h₁.1.keep) it fun D' C cs s' O nm V=>?_
 obtain ⟨old,gens,os,m,loc,cell,vals,ys,n',l,rr⟩:=V
 refine ⟨m,loc,fun h'' hs=>⟨⟨fun b o e=>?_,gens.trans h₁.1.gens,os.trans h₁.1.os⟩,?_⟩⟩
 ·have e1:=h₁.1.keep b o e
  exact hs.extBut b o (fun q=>nm b o e1 (.inl q)) (old b o (nm b o e1) e1)
 ·exact .list ((X.fresh.keep h₁.1.keep) _ O.d0) (hs.extBut _ _ O.dc l) (rr.mono fun b o hb e=>⟨hb.1,hs.extBut b o (fun q=>hb.2.1 (.inl q)) e⟩)
theorem vR (S:Sound prog w K mg wsC n r) (hA:OkA A n) (X:StA K mg wsC ok env s.heap sc ρ) {f:Value} {pos:Pos} {args:List Expr} {ds:List D} (h:evs r sc ρ args=some ds) :
  Wp prog w A (evalArgs f true (backTo pos (starEach args env)) []) s fun a s'=>Grow s s'∧a.kw=[]∧RepL wsC ok s'.heap a.pos ds:=by
 induction args using List.casesOn with
 | nil=>obtain rfl:=aj h; exact evalArgs_nil3 ⟨.refl _,rfl,.nil⟩
 | cons e es =>
  have h0:=h
  obtain ⟨d,hd,_⟩:=aa h
  have hb:=Ii S hA (pos:=pos) X h0
  rw [jV S hd] at hb ⊢
  exact evalArgs_plain (wpAny_mono hb (fun vs s' h'=>⟨h'.1,rfl,h'.2⟩) fun _ _ e=>e)
noncomputable def yH (M:Model) (f:Value) (P:Heap→Prop):Prop:=∀ h,P h→∃ k,(k=Keeper.frame∨k=Keeper.machine∨k=Keeper.boundFrame)∧Looks M h (keeperOf f) k
theorem nU (S:Sound prog w K mg wsC n r) (hA:OkA A n) (X:StA K mg wsC ok env s.heap sc ρ) {f:Value} {first:List Value} {fds:List D} {pos:Pos} {args:List Expr} {ds:List D} {d:D} (h:evs r sc ρ args=some ds)
  (hfirst:RepL wsC ok s.heap first fds) (hk:yH (model prog w) f K.In)
  (hc:∀ {s':Shared} {vs:List Value},Grow s s'→RepL wsC ok s'.heap vs (fds++ds)→aL prog w A s' wsC ok (call f vs) d) :
  aL prog w A s wsC ok (callWith pos f first (backTo pos (starEach args env)) []) d:=by
 refine callWith_of (P:=K.In) (by rw [(vm S h).1]; rfl) hk (wpAny_mono (vR S hA X h) (fun a s₁ h₁=>⟨(X.gl.keep h₁.1.keep).X,?_⟩) fun _ _ e=>e)
 obtain ⟨g,hkw,hr⟩:=h₁
 rw [hkw]
 exact wpAny_mono (hc g ((hfirst.keep g.keep).append hr)) (fun v s' h'=>⟨g.trans h'.1,h'.2⟩) fun _ _ e=>e
theorem Vh (b:Bn):yH (model prog w) b.val K.In:=fun h _=>by
 refine ⟨.machine,.inr (.inl rfl),?_⟩
 cases b <;> exact Looks.of_pure rfl
theorem U7 (m:Mt):yH (model prog w) (.builtin m.id) K.In:=fun h _=>⟨.machine,.inr (.inl rfl),Looks.of_pure rfl⟩
theorem J9 {f:Str} {b:Bn} (h:IV f=some b):f=b.name:=by
 unfold IV at h
 have:=List.find?_some h
 simpa using Eq.symm (by simpa using this)
theorem Ft (C:CtxOk prog w K mg wsC n G) (S:Sound prog w K mg wsC n r) (hA:OkA A n) (X:StA K mg wsC ok env s.heap sc ρ) {x:Str} {p pos:Pos} {args:List Expr} {ds:List D} {d:D} (ha:evs r sc ρ args=some ds)
  (h:iH G sc x ds=some d):aL prog w A s wsC ok (eval (.Call (.Name x p) args [] pos) env) d:=by
 unfold iH at h
 obtain ⟨_,hg,h⟩:=aa h
 obtain ⟨h1,h2⟩:=bj (ak hg).1
 have h2:sc.lookup x=some .globalImplicit:=by simpa using h2
 refine wpAny_Call_Name_kw ?_
 split at h
 ·rename_i F hF
  obtain ⟨v,hv,hk,hf⟩:=C.fn x F hF
  refine oK X h1 h2 hv ?_
  exact nU S hA X ha .nil (keeps_K hk) fun g hr=>hf hA (X.gl.keep g.keep) (X.fresh.keep g.keep) hr h
 ·obtain ⟨b,hb,hcall⟩:=aa h
  have:=J9 hb
  subst this
  refine Cq (C.bn b) X h2 ?_
  exact nU S hA X ha .nil (Vh b) fun g hr=>Sx hA (X.fresh.keep g.keep) hr hcall
theorem Tr (fx:FixOk K wsC) (hK:K.In s.heap) {m:Mt} {v:Value} {d:D} {ds:List D} {e:D} (hd:Rep wsC ok s.heap v d) (h:uw m d ds=some e):s.TypeIs v m.ty∧∀ a,v=.ref a→∃ ob,s.heap.get? a=some ob∧ob.dict=none:=by
 have st:∀ {x:Str} {t:Tok},s.TypeIs (.str x t) "str" ∧ ∀ a,Value.str x t=.ref a→∃ ob,s.heap.get? a=some ob∧ob.dict=none:=fun {x t}=>⟨rfl,fun _ e=>(nomatch e)⟩
 induction m using Mt.casesOn with
 | join=>induction d using D.casesOn with
  | str x=>obtain ⟨t,rfl⟩:=hd.str_inv; exact st
  | _=>exact aO h
 | lower=>induction d using D.casesOn with
  | str x=>obtain ⟨t,rfl⟩:=hd.str_inv; exact st
  | _=>exact aO h
 | count=>induction d using D.casesOn with
  | list x =>
   obtain ⟨a,vs,n,rfl,o,g,rl⟩:=hd.list_inv
   exact ⟨Heap.IsList.typeIs ⟨_,g,rfl,_,rfl⟩,fun b e=>by cases e; exact ⟨_,g,rfl⟩⟩
  | _=>exact aO h
 | get=>induction d using D.casesOn with
  | imap f =>
   obtain ⟨a,rfl,hm⟩:=hd.imap_inv
   obtain ⟨_,o,ho,hex,_⟩:=fx.map _ _ hm
   exact ⟨⟨o,hK _ _ ho,hex.1⟩,fun b e=>by cases e; exact ⟨_,hK _ _ ho,hex.2.1⟩⟩
  | _=>exact aO h
theorem Ri:∀ m:Mt,PlainAttrs m.ty
 | .join=>F.plainAttrs_str | .lower=>F.plainAttrs_str | .count=>F.plainAttrs_list | .get=>F.plainAttrs_dict
theorem Ve:∀ m:Mt,Slot m.ty m.name m.id
 | .join=>F.slot_str_join | .lower=>F.slot_str_lower | .count=>F.slot_list_count | .get=>F.slot_dict_get
theorem K4:∀ m:Mt,typeOf (.builtin m.id)=pure (.type "method_descriptor")
 | .join=>F.type_str_join | .lower=>F.type_str_lower | .count=>F.type_list_count | .get=>F.type_dict_get
theorem JN {pos:Pos} {args:List Expr} (hlen:args.length < 29) (this:(backTo pos (starEach args env)).any (·.1)=false):methodCallForm (args.length+([]:List Keyword).length) (backTo pos (starEach args env)) (backToKw pos (keywordEach [] env))=true:=by
 unfold methodCallForm
 have e1:(backTo pos (starEach args env)).all (!·.1)=true:=by
  rw [List.all_eq_true]
  intro x hx
  rw [List.any_eq_false] at this
  simpa using this x hx
 rw [e1]
 show (true&&true&&decide (args.length+0+0 < 30))=true
 simp; exact Nat.lt_of_lt_pred hlen
theorem Lk (C:CtxOk prog w K mg wsC n G) (S:Sound prog w K mg wsC n r) (hA:OkA A n) (X:StA K mg wsC ok env s.heap sc ρ) {o:Expr} {m:Str} {apos pos:Pos} {args:List Expr} {d e:D} {ds:List D}
  (hb:plainBase o=true) (hl:(apos.endLine==pos.line)=true) (hlen:args.length < 29) (hd:r.E sc ρ o=some d) (ha:evs r sc ρ args=some ds)
  (h:vL G m d ds=some e):aL prog w A s wsC ok (eval (.Call (.Attribute o m apos) args [] pos) env) e:=by
 rw [arm_eval_Call,dh hb]
 refine wpAny_bind (wpAny_mono (S.E hA X hd) (fun ov s₁ h₁=>wpAny_bind (wpAny_standAt ?_)) fun _ _ e=>e)
 obtain ⟨g,hr⟩:=h₁
 have X₁:=X.keep g.keep
 have hpos:methodCallPos true o env apos pos=pure pos:=by unfold methodCallPos; simp [hl]
 unfold methodCall
 rw [JN hlen (vm (pos:=pos) (env:=env) S ha).1]
 have fin:∀ {f:Value},yH (model prog w) f K.In→(∀ {s':Shared} {vs:List Value},Grow s₁ s'→RepL wsC ok s'.heap vs ([d]++ds)→aL prog w A s' wsC ok (call f vs) e) →
   Wp prog w A (methodCallPos true o env apos pos >>= fun callPos=>callWith callPos f [ov] (backTo pos (starEach args env)) (backToKw pos (keywordEach [] env))) s₁ fun v s'=>Grow s s'∧Rep wsC ok s'.heap v e:=fun hk hc=>by
  rw [hpos,pure_bind]
  exact wpAny_mono (nU S hA X₁ ha (.cons hr .nil) hk hc) (fun v s' h'=>⟨g.trans h'.1,h'.2⟩) fun _ _ e=>e
 have other:∀ {t:Mt},xT m=some t→uw t d ds=some e→Wp prog w A (holding [ov] (calleeOf true o env ov m) >>= fun p=>methodCallPos true o env apos pos >>= fun callPos=>callWith callPos p.1 p.2 (backTo pos (starEach args env)) (backToKw pos (keywordEach [] env))) s₁ fun v s'=>Grow s s'∧Rep wsC ok s'.heap v e:=fun ht hc=>by
  have:=J6 ht
  subst this
  obtain ⟨hT,hdict⟩:=Tr C.fix X₁.gl.X hr hc
  refine wpAny_bind (wpAny_holding (getMethod_builtin hT (Ri _) (Ve _) (K4 _) hdict ?_))
  refine fin (U7 _) fun g' hr'=>?_
  obtain ⟨v1,vs1,rfl,a,b⟩:=hr'.cons_inv
  exact SJ C.fix (X₁.gl.keep g'.keep).X hA.h a b hc
 refine Y4 (fun h=>?_) h fun x q h1=>?_
 ·obtain ⟨t,ht,h⟩:=aa h; exact other ht h
 ·clear other h
  subst q
  obtain ⟨F,hF,h⟩:=aa h1
  obtain ⟨hm,f,hf,ht,hk,hfn⟩:=C.meth m F hF
  obtain ⟨xa,rfl,hw⟩:=hr.ws_inv
  obtain ⟨ox,es,n',I,_,hmeth⟩:=zZ hw
  refine wpAny_bind (wpAny_holding (method_fn (K:=K) (C:=wsC.ws) X₁.gl.X I C.hga C.hgk hf ht (by show (lookIn m (dictOf es n')).map _=_; rw [lookIn_dict,hmeth m hm]; rfl) ?_))
  exact fin (keeps_K hk) fun g' hr'=>hfn hA (X₁.gl.keep g'.keep) (X₁.fresh.keep g'.keep) hr' h
theorem I6 (S:Sound prog w K mg wsC n r) (hA:OkA A n) (X:StA K mg wsC ok env s.heap sc ρ) {e:Option Expr} {k:Option Int} (h:RB r sc ρ e=some k) :
  Wp prog w A (evalPart e env) s fun v s'=>Grow s s'∧IsPart v k:=by
 induction e using Option.casesOn with
 | none=>obtain rfl:=aj h; rw [evalPart_none]; exact wpAny_pure ⟨.refl _,.none⟩
 | some e =>
  obtain ⟨d,hd,h⟩:=aa h
  have hE:=S.E hA X hd
  obtain ⟨i,hi,rfl⟩:=bA h
  obtain rfl:=ir hi
  exact wpAny_mono hE (fun v s' h'=>by obtain ⟨g,hr⟩:=h'; obtain ⟨t,rfl⟩:=hr.int_inv; exact ⟨g,.int _ _⟩) fun _ _ e=>e
theorem Va (S:Sound prog w K mg wsC n r) (hA:OkA A n) (X:StA K mg wsC ok env s.heap sc ρ) {v sl:Expr} {pos:Pos} {d:D} (h:QJ r sc ρ v sl=some d) :
  aL prog w A s wsC ok (eval (.Subscript v sl pos) env) d:=by
 have idx:(∀ a b,subscripted sl false a b=operate [a,b] (getItem a b))→((r.E sc ρ v).bind fun d=>(r.E sc ρ sl).bind fun i=>jW d i)=some d→aL prog w A s wsC ok (eval (.Subscript v sl pos) env) d:=fun hns h=>by
  obtain ⟨a,ha,h⟩:=aa h
  obtain ⟨b,hb,h⟩:=aa h
  refine Subscript_ (wpAny_mono (S.E hA X ha) (fun va s₁ h₁=>wpAny_mono (S.E hA (X.keep h₁.1.keep) hb) (fun vb s₂ h₂=>?_) fun _ _ e=>e) fun _ _ e=>e)
  exact wpAny_mono (Yw (hns _ _) (h₁.2.keep h₂.1.keep) h₂.2 h) (fun v s' h'=>⟨h₁.1.trans (h₂.1.trans h'.1),h'.2⟩) fun _ _ e=>e
 induction sl using Expr.casesOn with
 | Slice lo hi st p =>
  clear idx
  induction st using Option.casesOn with
  | some st=>exact aO h
  | none =>
   obtain ⟨a,ha,h⟩:=aa h
   obtain ⟨l,hl,h⟩:=aa h
   obtain ⟨u,hu,h⟩:=aa h
   refine Subscript_ (wpAny_mono (S.E hA X ha) (fun va s₁ h₁=>wpAny_Slice (wpAny_mono (I6 S hA (X.keep h₁.1.keep) hl) (fun vl s₂ h₂=>wpAny_mono (I6 S hA ((X.keep h₁.1.keep).keep h₂.1.keep) hu) (fun vu s₃ h₃=>?_) fun _ _ e=>e) fun _ _ e=>e)) fun _ _ e=>e)
   rw [evalPart_none]
   refine wpAny_pure ?_
   have X₃:=(((X.keep h₁.1.keep).keep h₂.1.keep).keep h₃.1.keep)
   have ra:=(((h₁.2.keep h₂.1.keep).keep h₃.1.keep).keep (h':=s₃.heap.push { cls := .type "slice",data := .fields #[vl,vu,.none] }) fun b o e=>aQ _ e)
   have hf:=X₃.fresh.keep (h':=s₃.heap.push { cls := .type "slice",data := .fields #[vl,vu,.none] }) fun b o e=>aQ _ e
   exact wpAny_mono (Ph (s:={ s₃ with heap:=s₃.heap.push { cls := .type "slice",data := .fields #[vl,vu,.none] } }) hf ra (Heap.IsSliceOf.new ..) h₂.2 h₃.2 h)
    (fun v s' h'=>⟨h₁.1.trans (h₂.1.trans (h₃.1.trans ((Grow.push _ _).trans h'.1))),h'.2⟩) fun _ _ e=>e
 | _=>exact idx (fun _ _=>rfl) h
theorem zG {α:Type} {ops:List CmpOp} {rs:List Expr} {F:CmpOp→Expr→Option α} {d:α} (h:one1 ops rs F=some d):∃ op rr,ops=[op]∧rs=[rr]∧F op rr=some d:=by
 induction ops using List.casesOn with
 | nil=>exact aO h
 | cons o os =>
  induction os using List.casesOn with
  | cons _ _=>exact aO h
  | nil =>
   induction rs using List.casesOn with
   | nil=>exact aO h
   | cons r1 rs =>
    induction rs using List.casesOn with
    | cons _ _=>exact aO h
    | nil=>exact ⟨_,_,rfl,rfl,h⟩
theorem JZ {α:Type} {ops:List CmpOp} {rs:List Expr} {F:CmpOp→CmpOp→Expr→Expr→Option α} {d:α} (h:two1 ops rs F=some d):∃ o1 o2 r1 r2,ops=[o1,o2]∧rs=[r1,r2]∧F o1 o2 r1 r2=some d:=by
 induction ops using List.casesOn with
 | nil=>exact aO h
 | cons o os =>
  induction os using List.casesOn with
  | nil=>exact aO h
  | cons o2 os =>
   induction os using List.casesOn with
   | cons _ _=>exact aO h
   | nil =>
    induction rs using List.casesOn with
    | nil=>exact aO h
    | cons r1 rs =>
     induction rs using List.casesOn with
     | nil=>exact aO h
     | cons r2 rs =>
      induction rs using List.casesOn with
      | cons _ _=>exact aO h
      | nil=>exact ⟨_,_,_,_,rfl,rfl,h⟩
theorem RD (C:CtxOk prog w K mg wsC n G) (S:Sound prog w K mg wsC n r) (hA:OkA A n) (X:StA K mg wsC ok env s.heap sc ρ) {e:Expr} {d:D} (h:Rd G r sc ρ e=some d) :
  aL prog w A s wsC ok (eval e env) d:=by
 induction e using Expr.casesOn with
 | Constant c kk p =>
  exact Rq h
 | Name x p =>
  exact UJ C X h
 | BinOp l op rr p =>
  obtain ⟨a,ha,h⟩:=aa h
  obtain ⟨b,hb,h⟩:=aa h
  refine wpAny_BinOp (wpAny_mono (S.E hA X ha) (fun va s₁ h₁=>wpAny_mono (S.E hA (X.keep h₁.1.keep) hb) (fun vb s₂ h₂=>?_) fun _ _ e=>e) fun _ _ e=>e)
  exact wpAny_mono (ZW hA.h ((X.keep h₁.1.keep).keep h₂.1.keep).fresh (h₁.2.keep h₂.1.keep) h₂.2 h) (fun v s' h'=>⟨h₁.1.trans (h₂.1.trans h'.1),h'.2⟩) fun _ _ e=>e
 | UnaryOp op x p =>
  obtain ⟨a,ha,h⟩:=aa h
  refine wpAny_UnaryOp (wpAny_mono (S.E hA X ha) (fun va s₁ h₁=>?_) fun _ _ e=>e)
  obtain ⟨g,hr⟩:=h₁
  induction op using UnaryOp.casesOn with
  | USub=>induction a using D.casesOn with
   | int i =>
    obtain rfl:D.int (-i)=d:=aj h; obtain ⟨t,rfl⟩:=hr.int_inv
    exact PyProof.Rows.neg_int ⟨g.trans (.tok _),.int _ _⟩
   | _=>exact aO h
  | _=>exact aO h
 | IfExp t b o p =>
  obtain ⟨c,hc,h⟩:=aa h
  refine wpAny_IfExp (wpAny_mono (S.T hA X hc) (fun b s₁ h₁=>?_) fun _ _ e=>e)
  obtain ⟨g,rfl⟩:=h₁
  induction b using Bool.casesOn with
  | true=>exact wpAny_mono (S.E hA (X.keep g.keep) h) (fun v s' h'=>⟨g.trans h'.1,h'.2⟩) fun _ _ e=>e
  | false=>exact wpAny_mono (S.E hA (X.keep g.keep) h) (fun v s' h'=>⟨g.trans h'.1,h'.2⟩) fun _ _ e=>e
 | Compare l ops rs p =>
  obtain ⟨op,rr,rfl,rfl,h⟩:=zG h
  obtain ⟨b,hb,rfl⟩:=bA h
  obtain ⟨hm,hw⟩:=Jc C.fix S hA X hb
  exact wpAny_Compare1 (wpAny_mono hw (fun va s₁ h₁=>wpAny_mono h₁ (fun vb s₂ h₂=>wpAny_mono h₂ (fun v s₃ h₃=>⟨h₃.1,by rw [h₃.2]; exact .bool _⟩) fun _ _ e=>e) fun _ _ e=>e) fun _ _ e=>e) hm
 | List es p =>
  obtain ⟨ds,hds,h⟩:=aa h
  obtain ⟨hz,rfl⟩:=ak h
  have hz:=cI hz
  refine wpAny_List (wpAny_mono (Ii S hA X hds) (fun vs s₁ h₁=>⟨by rw [h₁.2.length]; exact hz,h₁.1.trans (.push _ _),.list (X.keep h₁.1.keep).fresh.new (bw _ rfl) (h₁.2.keep fun b o e=>aQ _ e)⟩) fun _ _ e=>e)
 | Tuple es kk p =>
  obtain ⟨ds,hds,h⟩:=aa h
  obtain ⟨hz,rfl⟩:=ak h
  have hz:=cI hz
  refine wpAny_Tuple (wpAny_mono (Ii S hA X hds) (fun vs s₁ h₁=>⟨by rw [h₁.2.length]; exact hz,h₁.1.trans (.push _ _),.tup (X.keep h₁.1.keep).fresh.new (bw _ rfl) (h₁.2.keep fun b o e=>aQ _ e)⟩) fun _ _ e=>e)
 | Subscript v sl p =>
  exact Va S hA X h
 | Attribute o a p =>
  obtain ⟨_,hg,h⟩:=aa h
  obtain ⟨d',hd,h⟩:=aa h
  exact V9 C X.gl (ak hg).1 (S.E hA X hd) h
 | Call f args kws p =>
  induction kws using List.casesOn with
  | cons _ _=>exact aO h
  | nil =>
  refine dY (fun x np q h1=>?_) (show W6 G r sc ρ f args p=some d from h) fun h2=>DY (fun o m apos q h1=>?_) h2 aO
  ·clear h; subst q
   obtain ⟨ds,hds,h⟩:=aa h1
   exact Ft C S hA X hds h
  ·clear h h2; subst q
   obtain ⟨_,hg,h⟩:=aa h1
   obtain ⟨d',hd,h⟩:=aa h
   obtain ⟨ds,hds,h⟩:=aa h
   have hg:=(ak hg).1
   rw [Bool.and_eq_true,Bool.and_eq_true,decide_eq_true_eq] at hg
   exact Lk C S hA X hg.1.1 hg.1.2 hg.2 hd hds h
 | ListComp elt gens scope p =>
  exact Qp S hA X h
 | _=>exact aO h
theorem Ef {d:D} {b:Bool} (h:boolOf d=some b):d=.bool b:=by
 induction d using D.casesOn with
 | bool c=>cases h; rfl
 | _=>exact aO h
theorem wH (S:Sound prog w K mg wsC n r) (hA:OkA A n) (X:StA K mg wsC ok env s.heap sc ρ) {e:Expr} {b:Bool} (h:(r.E sc ρ e).bind boolOf=some b)
  (he:isTrue e env (eval e env)=(do let v ← eval e env; standAt e.pos; holding [v] (truthy v))):Wp prog w A (isTrue e env (eval e env)) s fun b' s'=>Grow s s'∧b'=b:=by
 obtain ⟨d,hd,h⟩:=aa h
 have:=Ef h
 subst this
 refine wpAny_isTrue_value (wpAny_mono (S.E hA X hd) (fun v s₁ h₁=>?_) fun _ _ e=>e) he
 obtain ⟨g,hr⟩:=h₁
 obtain rfl:=hr.bool_inv
 exact wpAny_truthy_bool ⟨g,rfl⟩
theorem VB (C:CtxOk prog w K mg wsC n G) (S:Sound prog w K mg wsC n r) (hA:OkA A n) (X:StA K mg wsC ok env s.heap sc ρ) {l r1 r2:Expr} {op1 op2:CmpOp} {pos:Pos} {b:Bool} (h:FW r sc ρ l op1 op2 r1 r2=some b) :
  Wp prog w A (isTrue (.Compare l [op1,op2] [r1,r2] pos) env (eval (.Compare l [op1,op2] [r1,r2] pos) env)) s fun b' s'=>Grow s s'∧b'=b:=by
 obtain ⟨_,hg,h⟩:=aa h
 obtain ⟨a,ha,h⟩:=aa h
 obtain ⟨b1,hb1,h⟩:=aa h
 obtain ⟨c,hc,h⟩:=aa h
 have hm:behindInMarks op2 r2=false:=by simpa using (ak hg).1
 refine isTrue_chain (wpAny_mono (S.E hA X ha) (fun va s₁ h₁=>?_) fun _ _ e=>e) (by simpa [lastMarks] using hm)
 have X₁:=X.keep h₁.1.keep
 refine wpAny_bind (wpAny_holding (wpAny_mono (S.E hA X₁ hb1) (fun vb s₂ h₂=>wpAny_bind (wpAny_standAt (wpAny_bind (wpAny_holding ?_)))) fun _ _ e=>e))
 have X₂:=X₁.keep h₂.1.keep
 refine wpAny_mono (H4 C.fix X₂.gl.X hA (h₁.2.keep h₂.1.keep) h₂.2 hc) (fun vc s₃ h₃=>?_) fun _ _ e=>e
 obtain ⟨g₃,rfl⟩:=h₃
 have X₃:=X₂.keep g₃.keep
 refine wpAny_bind (wpAny_release' (wpAny_bind (wpAny_holding (wpAny_truthy_bool ?_))))
 induction c using Bool.casesOn with
 | false =>
  simp only [Bool.false_eq_true,if_false] at h ⊢
  cases h
  exact wpAny_pure ⟨h₁.1.trans (h₂.1.trans g₃),rfl⟩
 | true =>
  simp only [if_true] at h ⊢
  obtain ⟨d,hd,h⟩:=aa h
  refine wpAny_bind (wpAny_holding (wpAny_mono (S.E hA X₃ hd) (fun vd s₄ h₄=>wpAny_bind (wpAny_standAt (wpAny_bind (wpAny_operate' ?_)))) fun _ _ e=>e))
  refine wpAny_mono (H4 C.fix (X₃.keep h₄.1.keep).gl.X hA ((h₂.2.keep g₃.keep).keep h₄.1.keep) h₄.2 h) (fun ve s₅ h₅=>?_) fun _ _ e=>e
  obtain ⟨g₅,rfl⟩:=h₅
  exact wpAny_holding (wpAny_truthy_bool ⟨h₁.1.trans (h₂.1.trans (g₃.trans (h₄.1.trans g₅))),rfl⟩)
theorem Rb (C:CtxOk prog w K mg wsC n G) (S:Sound prog w K mg wsC n r) (hA:OkA A n) (X:StA K mg wsC ok env s.heap sc ρ) {e:Expr} {b:Bool} (h:stepT G r sc ρ e=some b) :
  Wp prog w A (isTrue e env (eval e env)) s fun b' s'=>Grow s s'∧b'=b:=by
 induction e using Expr.casesOn with
 | UnaryOp op x p =>
  induction op using UnaryOp.casesOn with
  | Not =>
   obtain ⟨c,hc,rfl⟩:=bA h
   exact wpAny_isTrue_Not (wpAny_mono (S.T hA X hc) (fun b' s₁ h₁=>⟨h₁.1,by rw [h₁.2]⟩) fun _ _ e=>e)
  | _=>exact aO h
 | BoolOp op vs p =>
  exact wpAny_isTrue_BoolOp (Y8 S hA X h)
 | Compare l ops rs p =>
  have h:cmpT r sc ρ l ops rs=some b:=h
  induction ops using List.casesOn with
  | nil=>exact aO h
  | cons o1 os =>
   induction os using List.casesOn with
   | nil =>
    obtain ⟨op,rr,e,rfl,h⟩:=zG (ops:=[o1]) (rs:=rs) (F:=fun op rr=>Ei r sc ρ l op rr) h
    cases e
    obtain ⟨hm,hw⟩:=Jc C.fix S hA X h
    exact wpAny_isTrue_Compare1 (wpAny_mono hw (fun va s₁ h₁=>wpAny_mono h₁ (fun vb s₂ h₂=>wpAny_mono h₂ (fun v s₃ h₃=>by rw [h₃.2]; exact wpAny_truthy_bool ⟨h₃.1,rfl⟩) fun _ _ e=>e) fun _ _ e=>e) fun _ _ e=>e) hm
   | cons o2 os =>
    obtain ⟨o1',o2',r1,r2,e,rfl,h⟩:=JZ (ops:=o1 :: o2 :: os) (rs:=rs) (F:=fun o1 o2 r1 r2=>FW r sc ρ l o1 o2 r1 r2) h
    cases e
    exact VB C S hA X h
 | Name x p =>
  exact wH S hA X h rfl
 | Call f a k p =>
  exact wH S hA X h rfl
 | Attribute o a p =>
  exact wH S hA X h rfl
 | Subscript o a p =>
  exact wH S hA X h rfl
 | _=>exact aO h
theorem jD (C:CtxOk prog w K mg wsC n G):∀ k,Sound prog w K mg wsC n (cP G k):=by
 intro k
 induction k with
 | zero =>
   exact ⟨fun _ _ _ _=>rfl,fun _ _ _ _ _=>rfl,fun _ _ _ _ _ _=>rfl,(fun _ _ h=>nomatch h),(fun _ _ h=>nomatch h)⟩
 | succ k ih =>
   exact ⟨fun _ _ _ _=>rfl,fun _ _ _ _ _=>rfl,fun _ _ _ _ _ _=>rfl,fun hA X h=>RD C (ih) hA X h,fun hA X h=>Rb C (ih) hA X h⟩
end
inductive Fl where
 | next
 | brk
 | ret (d:D)
noncomputable def dD:aJ→Str→D→aJ
 | [],x,d=>[(x,d)]
 | (y,e) :: r,x,d=>if y==x then (y,d) :: r else (y,e) :: dD r x d
noncomputable def scalar:D→Option D
 | .none=>some .none
 | .bool b=>some (.bool b)
 | .int i=>some (.int i)
 | .float x=>some (.float x)
 | .str x=>some (.str x)
 | _=>none
noncomputable def inR (W:List Str) (ρ:aJ):aJ:=ρ.filter fun p=>!W.contains p.1
noncomputable def lQ (r:R) (sc:Sc) (W:List Str) (ρ:aJ) (e:Expr):Option D :=
 match r.E sc (inR W ρ) e with
 | some d=>some d
 | none=>(r.E sc ρ e).bind scalar
noncomputable def bD (sc:Sc) (W:List Str) (x:Str):Bool:=(sc.lookup x==some .local||sc.lookup x==some .cell)&&!W.contains x
noncomputable def namesOf:List Expr→Option (List Str)
 | []=>some []
 | e :: r=>il e (fun x _=>(namesOf r).map (x :: ·)) none
noncomputable def bindAll (sc:Sc) (W:List Str):List Str→List D→aJ→Option aJ
 | [],[],ρ=>some ρ
 | x :: xs,d :: ds,ρ=>(au (bD sc W x) ()).bind fun _=>bindAll sc W xs ds (dD ρ x d)
 | _,_,_=>none
noncomputable def K9:D→Option (List D)
 | .list xs=>some xs
 | .tup xs=>some xs
 | _=>none
noncomputable def uo (sc:Sc) (W:List Str) (tgt:Expr) (d:D) (ρ:aJ):Option aJ :=
 il tgt (fun x _=>(au (bD sc W x) ()).bind fun _=>some (dD ρ x d)) <|
 wz tgt (fun ts _ _=>(namesOf ts).bind fun xs=>(K9 d).bind fun ds=>bindAll sc W xs ds ρ) none
noncomputable def yQ (x:Stmt→aJ→Option (Fl × aJ)):List Stmt→aJ→Option (Fl × aJ)
 | [],ρ=>some (.next,ρ)
 | st :: r,ρ=>(x st ρ).bind fun p=>match p.1 with
  | .next=>yQ x r p.2
  | f=>some (f,p.2)
noncomputable def forLoop (sc:Sc) (W:List Str) (x:Stmt→aJ→Option (Fl × aJ)) (tgt:Expr) (body:List Stmt):List D→aJ→Option (Fl × aJ)
 | [],ρ=>some (.next,ρ)
 | d :: ds,ρ=>(uo sc W tgt d ρ).bind fun ρ1=>(yQ x body ρ1).bind fun p=>match p.1 with
  | .next=>forLoop sc W x tgt body ds p.2
  | .brk=>some (.next,p.2)
  | .ret e=>some (.ret e,p.2)
noncomputable def dU:Expr→Bool
 | .ListComp ..=>false
 | .SetComp ..=>false
 | .DictComp ..=>false
 | _=>true
noncomputable def notTuple:Expr→Bool
 | .Tuple ..=>false
 | _=>true
noncomputable def uf:Expr→Bool
 | .ListComp ..=>true
 | _=>false
noncomputable def iterE (r:R) (sc:Sc) (ρ:aJ) (e:Expr):Option (List D):=(r.E sc ρ e).bind itemsOf
noncomputable def pK (sc:Sc) (y:Str):Bool:=sc.lookup y==some .local||sc.lookup y==some .cell
noncomputable def Hq (o:Option D):Option (List D):=o.bind asL
noncomputable def Tq (ds:List D) (d:D):Option (List D):=(asL d).bind fun xs=>(intsOf xs).bind fun ns=>(au (decide (ds.length+ns.length≤sizeLine)) ()).bind fun _=>some (ds++ns.map .int)
noncomputable def extX (r:R) (sc:Sc) (ρ:aJ) (y:Str) (l:Expr) (e:Expr):Option (Fl × aJ):=il l (fun z _=>(au (pK sc y&&z==y&&bW y) ()).bind fun _=>(Hq (ρ.lookup y)).bind fun ds=>(r.E sc ρ e).bind fun d=>(Tq ds d).bind fun l=>some (.next,dD ρ y (.list l))) none
noncomputable def Um (r:R) (sc:Sc) (ρ:aJ) (y:Str) (v:Expr):Option (Fl × aJ) :=
 Hn v (fun es _=>match es with | []=>(au (pK sc y) ()).bind fun _=>some (.next,dD ρ y (.list [])) | _=>none) <|
 NT v (fun l op e _=>match op with | .Add=>extX r sc ρ y l e | _=>none) none
noncomputable def Qm (ρ:aJ) (y:Str) (ds:List D) (d i:D):Option (Fl × aJ):=(Gr i).bind fun k=>(au (small k&&decide (k.toNat < ds.length)) ()).bind fun _=>some (.next,dD ρ y (.list (ds.set k.toNat d)))
noncomputable def asgX (r:R) (sc:Sc) (W:List Str) (ρ:aJ) (t v:Expr):Option (Fl × aJ) :=
 il t (fun y _=>if W.contains y then Um r sc ρ y v else (au (bD sc W y&&(dU v||uf v)) ()).bind fun _=>(lQ r sc W ρ v).bind fun d=>some (.next,dD ρ y d)) <|
 wz t (fun ts k p=>(au (dU v&&notTuple v) ()).bind fun _=>(lQ r sc W ρ v).bind fun d=>(uo sc W (.Tuple ts k p) d ρ).map fun ρ'=>(.next,ρ')) <|
 Rh t (fun o i _=>il o (fun y _=>(au (W.contains y&&bW y&&dU v) ()).bind fun _=>(Hq (ρ.lookup y)).bind fun ds=>(lQ r sc W ρ v).bind fun d=>(r.E sc ρ i).bind fun j=>Qm ρ y ds d j) none) none
noncomputable def forX (r:R) (sc:Sc) (W:List Str) (x:Stmt→aJ→Option (Fl × aJ)) (t iter:Expr) (body:List Stmt) (ρ:aJ):Option (Fl × aJ) :=
 il t (fun y py=>(iterE r sc (inR W ρ) iter).bind fun items=>forLoop sc W x (.Name y py) body items ρ) none
noncomputable def on2 {α:Type} (args:List Expr) (g:Expr→Expr→Option α) (d:Option α):Option α:=match args with
 | []=>d
 | a :: as=>(match as with | []=>d | b :: bs=>(match bs with | []=>g a b | _ :: _=>d))
noncomputable def tE (r:R) (sc:Sc) (W:List Str) (ρ:aJ) (i e:Expr) (ds:List D):Option (List D) :=
 (evs r sc (inR W ρ) [i,e]).bind fun vs=>(vs.head?.bind Gr).bind fun k=>(vs.tail.head?).bind fun d=>au (decide (0≤k)&&decide (k.toNat≤ds.length)&&decide (ds.length≤1000)) (ds.take k.toNat++d :: ds.drop k.toNat)
noncomputable def appX (r:R) (sc:Sc) (W:List Str) (ρ:aJ) (f:Expr) (args:List Expr) (pos:Pos):Option (Fl × aJ) :=
 BL f (fun o m apos=>il o (fun y _=>on2 args
  (fun i e=>(au (m == "insert" && W.contains y&&apos.endLine==pos.line&&bW y) ()).bind fun _=>(Hq (ρ.lookup y)).bind fun ds=>(tE r sc W ρ i e ds).bind fun ds'=>some (.next,dD ρ y (.list ds')))
none) none) none
noncomputable def Xp (r:R) (sc:Sc) (W:List Str) (ρ:aJ) (e:Expr):Option (Fl × aJ):=HW e (fun f args kws pos=>match kws with | []=>appX r sc W ρ f args pos | _=>none) none
noncomputable def Yb (r:R) (sc:Sc) (W:List Str) (x:Stmt→aJ→Option (Fl × aJ)) (st:Stmt) (ρ:aJ):Option (Fl × aJ) :=
 match st with
 | .Assign ts v _=>(match ts with | [t]=>asgX r sc W ρ t v | _=>none)
 | .If t b o _=>(r.T sc ρ t).bind fun c=>if c=true then yQ x b ρ else yQ x o ρ
 | .For t iter body els _=>(match els with | []=>forX r sc W x t iter body ρ | _=>none)
 | .Return e _=>(match e with | some e=>(r.E sc ρ e).bind fun d=>some (.ret d,ρ) | none=>none)
 | .Break _=>some (.brk,ρ)
 | .Expr e _=>Xp r sc W ρ e
 | _=>none
noncomputable def wC (r:R) (sc:Sc) (W:List Str):Nat→Stmt→aJ→Option (Fl × aJ)
 | 0=>fun _ _=>none
 | k+1=>Yb r sc W (wC r sc W k)
noncomputable def resD:Option (Fl × aJ)→Option D
 | some (.ret d,_)=>some d
 | _=>none
noncomputable def runF (pn:List Str) (run:aJ→Option D):Fn:=fun ds=>(au (decide (ds.length=pn.length)) ()).bind fun _=>run (pn.zip ds)
noncomputable def Ou (G:Ctx) (ke kx:Nat) (sc:Sc) (W:List Str) (body:List Stmt) (ρ:aJ):Option D:=resD (yQ (wC (cP G ke) sc W kx) body ρ)
noncomputable def eE (G:Ctx) (ke kx:Nat) (sc:Sc) (W pn:List Str) (body:List Stmt):Fn:=runF pn (Ou G ke kx sc W body)
noncomputable def vO (env:Env) (os:List Addr) (b:Addr):Prop:=b=env.locals∨(∃ x,env.cells.lookup x=some b)∨b∈os
noncomputable def okIn (ok:AP) (env:Env) (os:List Addr):AP:=fun b=>ok b∧¬ vO env os b
structure EnvSt (env:Env) (sc:Sc):Prop where
 names:env.scope.names=sc
 kind:env.scope.kind=.function
 glob:env.globals=mainGlobals
 bi:env.builtins=builtinsNs
 cells:∀ n,(sc.lookup n=some .cell∨sc.lookup n=some .free)→∃ c,env.cells.lookup n=some c
 apart:∀ x y c,env.cells.lookup x=some c→env.cells.lookup y=some c→x=y
 sep:∀ x,env.cells.lookup x≠some env.locals
inductive Wal (wsC:Fix) (ok:AP) (env:Env) (h:Heap) (a:Addr) (os:List Addr) (x:Str) (d:D):Prop where
 | mk (nv:NameVal env h x (.ref a)) (b:a∈os) (ds:List D) (vs:List Value) (n:Nat) (c:d=.list ds) (l:h.get? a=some { cls := .type "list",data := .seq (List.toArray vs) n }) (f:RepL wsC (okIn ok env os) h vs ds):Wal wsC ok env h a os x d
theorem Wal.mem {wsC:Fix} {ok:AP} {env:Env} {h:Heap} {a:Addr} {os:List Addr} {x:Str} {d:D} (w:Wal wsC ok env h a os x d):a∈os:=by obtain ⟨_,b,_,_,_,_,_,_⟩:=w; exact b
theorem Wal.nv {wsC:Fix} {ok:AP} {env:Env} {h:Heap} {a:Addr} {os:List Addr} {x:Str} {d:D} (w:Wal wsC ok env h a os x d):NameVal env h x (.ref a):=by obtain ⟨b,_,_,_,_,_,_,_⟩:=w; exact b
theorem Wal.not {wsC:Fix} {ok:AP} {env:Env} {h:Heap} {a:Addr} {os:List Addr} {x:Str} {d:D} (w:Wal wsC ok env h a os x d) {P:Prop} (e:h.get? a=none):P:=by obtain ⟨_,_,_,_,_,_,l,_⟩:=w; exact nomatch e.symm.trans l
structure XS (wsC:Fix) (ok:AP) (env:Env) (base h:Heap) (W:List Str) (ρ:aJ) (own:Str→Addr) (os:List Addr):Prop where
 keep:∀ b o,base.get? b=some o→h.get? b=some o
 new:∀ b,vO env os b→base.get? b=none
 here:∀ b,vO env os b→∃ o,h.get? b=some o
 loc:∃ m,h.Ns env.locals m
 cell:∀ x c,env.cells.lookup x=some c→∃ v,h.IsCell c v
 osep:∀ a∈os,a≠env.locals∧∀ x,env.cells.lookup x≠some a
 val:∀ x d,ρ.lookup x=some d→x ∉ W→∃ v,NameVal env h x v∧Rep wsC (okIn ok env os) h v d
 wal:∀ x d,ρ.lookup x=some d→x∈W→Wal wsC ok env h (own x) os x d
 inj:∀ x y d e,ρ.lookup x=some d→ρ.lookup y=some e→x∈W→y∈W→own x=own y→x=y
theorem bM {ρ:aJ} {x z:Str} {d:D}:(dD ρ x d).lookup z=if z==x then some d else ρ.lookup z:=by
 induction ρ with
 | nil=>simp only [dD,List.lookup_cons]; cases z==x <;> rfl
 | cons p r ih =>
  obtain ⟨y,e⟩:=p
  unfold dD
  cases hy:(y==x) with
  | true =>
   have hy':y=x:=by simpa using hy
   subst hy'
   simp only [if_true,List.lookup_cons]
   cases z==y <;> rfl
  | false =>
   simp only [Bool.false_eq_true,if_false,List.lookup_cons,ih]
   cases hz:(z==y) with
   | true =>
    have hz':z=y:=by simpa using hz
    subst hz'
    rw [hy]; rfl
   | false=>rfl
section
variable {prog:Program} {w:World} {A:Around} {s:Shared} {wsC:Fix} {ok:AP} {K:Frag} {mg:Str→Option Value} {G:Ctx} {env:Env} {sc:Sc} {ρ:aJ} {n:Nat} {r:R} {W:List Str} {own:Str→Addr} {os:List Addr} {base h h':Heap}
theorem XS.fresh (X:XS wsC ok env base h W ρ own os) (hf:Fresh ok base):Fresh ok h:=hf.keep X.keep
theorem XS.freshIn (X:XS wsC ok env base h W ρ own os) (hf:Fresh ok base):Fresh (okIn ok env os) h:=fun a ha=>⟨X.fresh hf a ha,fun q=>by obtain ⟨o,e⟩:=X.here a q; rw [e] at ha; cases ha⟩
theorem XS.grow (X:XS wsC ok env base h W ρ own os) (hk:∀ b o,h.get? b=some o→h'.get? b=some o):XS wsC ok env base h' W ρ own os where
 keep:=fun b o e=>hk b o (X.keep b o e)
 new:=X.new
 here:=fun b q=>by obtain ⟨o,e⟩:=X.here b q; exact ⟨o,hk b o e⟩
 loc:=by obtain ⟨m,e⟩:=X.loc; exact ⟨m,e.keeps hk⟩
 cell:=fun x c e=>by obtain ⟨v,q⟩:=X.cell x c e; exact ⟨v,q.keeps hk⟩
 osep:=X.osep
 val:=fun x d e q=>by obtain ⟨v,a,b⟩:=X.val x d e q; exact ⟨v,a.keep hk,b.keep hk⟩
 wal:=fun x d e q=>by obtain ⟨a,b,ds,vs,n,c,d,f⟩:=X.wal x d e q; exact ⟨a.keep hk,b,ds,vs,n,c,hk _ _ d,f.keep hk⟩
 inj:=X.inj
theorem XS.inner (X:XS wsC ok env base h W ρ own os) (S:EnvSt env sc) (gl:Gl K mg base) (hf:Fresh ok base):StA K mg wsC (okIn ok env os) env h sc (inR W ρ) :=
 ⟨gl.keep X.keep,X.freshIn hf,S.names,S.kind,S.glob,S.bi,S.cells,fun x d e=>by
  obtain ⟨a,b⟩:=eO (p:=fun q=>!W.contains q) e
  exact X.val x d a (by simpa using b)⟩
theorem XS.outer (X:XS wsC ok env base h W ρ own os) (S:EnvSt env sc) (gl:Gl K mg base) (hf:Fresh ok base):StA K mg wsC ok env h sc ρ :=
 ⟨gl.keep X.keep,X.fresh hf,S.names,S.kind,S.glob,S.bi,S.cells,fun x d e=>by
  by_cases hx:x∈W
  ·obtain ⟨a,b,ds,vs,n,rfl,c,f⟩:=X.wal x d e hx
   exact ⟨_,a,.list (X.fresh hf |> fun _=>hf _ (X.new _ (.inr (.inr b)))) c (f.weak fun b o _ q=>q.1)⟩
  ·obtain ⟨v,a,b⟩:=X.val x d e hx
   exact ⟨v,a,b.weak fun b o _ q=>q.1⟩⟩
theorem Ie {ok':AP} {v:Value} {d e:D} (h1:scalar d=some e) (hr:Rep wsC ok h v d):Rep wsC ok' h v e:=by
 induction d using D.casesOn with
 | none=>obtain rfl:D.none=e:=aj h1; obtain rfl:=hr.none_inv; exact .none
 | bool b=>obtain rfl:D.bool b=e:=aj h1; obtain rfl:=hr.bool_inv; exact .bool b
 | int i=>obtain rfl:D.int i=e:=aj h1; obtain ⟨t,rfl⟩:=hr.int_inv; exact .int i t
 | float i=>obtain rfl:D.float i=e:=aj h1; obtain ⟨t,rfl⟩:=hr.float_inv; exact .float i t
 | str i=>obtain rfl:D.str i=e:=aj h1; obtain ⟨t,rfl⟩:=hr.str_inv; exact .str i t
 | _=>exact aO h1
theorem Aj (S:Sound prog w K mg wsC n r) (hA:OkA A n) (X:XS wsC ok env base s.heap W ρ own os) (Se:EnvSt env sc) (gl:Gl K mg base) (hf:Fresh ok base) {e:Expr} {d:D} (h:lQ r sc W ρ e=some d) :
  aL prog w A s wsC (okIn ok env os) (eval e env) d:=by
 unfold lQ at h
 split at h
 ·rename_i d' hd
  obtain rfl:=aj h
  exact S.E hA (X.inner Se gl hf) hd
 ·obtain ⟨d',hd,h⟩:=aa h
  exact wpAny_mono (S.E hA (X.outer Se gl hf) hd) (fun v s' h'=>⟨h'.1,Ie h h'.2⟩) fun _ _ e=>e
end
noncomputable def mutA (env:Env) (W:List Str) (ρ:aJ) (own:Str→Addr) (b:Addr):Prop:=b=env.locals∨(∃ x,env.cells.lookup x=some b)∨∃ z d,z∈W∧ρ.lookup z=some d∧own z=b
noncomputable def OwnStep (W:List Str) (ρ:aJ) (own:Str→Addr) (s:Shared) (ρ':aJ) (own':Str→Addr):Prop :=
 ∀ z d,z∈W→ρ'.lookup z=some d→((∃ e,ρ.lookup z=some e)∧own' z=own z)∨s.heap.get? (own' z)=none
theorem OwnStep.refl {W:List Str} {ρ:aJ} {own:Str→Addr} {s:Shared}:OwnStep W ρ own s ρ own:=fun z d _ e => .inl ⟨⟨d,e⟩,rfl⟩
theorem OwnStep.set {W:List Str} {ρ:aJ} {own:Str→Addr} {s:Shared} {x:Str} {d:D} (hx:x ∉ W):OwnStep W ρ own s (dD ρ x d) own:=fun z e hz h=>by
 rw [bM,if_neg (by simpa using fun q:z=x=>hx (q▸hz))] at h
 exact .inl ⟨⟨e,h⟩,rfl⟩
theorem OwnStep.trans {W:List Str} {a b c:aJ} {o1 o2 o3:Str→Addr} {s s':Shared} (x:OwnStep W a o1 s b o2) (y:OwnStep W b o2 s' c o3) (ht:∀ p o,s.heap.get? p=some o→∃ o',s'.heap.get? p=some o'):OwnStep W a o1 s c o3:=fun z d hz h=>by
 rcases y z d hz h with ⟨⟨e,he⟩,q⟩ | q
 ·rcases x z e hz he with ⟨p,q'⟩ | q'
  ·exact .inl ⟨p,q.trans q'⟩
  ·exact .inr (q▸q')
 ·cases h':s.heap.get? (o3 z) with
  | none=>exact .inr rfl
  | some o=>obtain ⟨o',e⟩:=ht _ o h'; rw [e] at q; cases q
structure Step (env:Env) (W:List Str) (ρ:aJ) (own:Str→Addr) (os:List Addr) (s:Shared) (ρ':aJ) (own':Str→Addr) (os':List Addr) (s':Shared):Prop where
 up:∀ a∈os,a∈os'
 new:∀ a∈os',a∈os∨s.heap.get? a=none
 keep:∀ b o,s.heap.get? b=some o→¬ mutA env W ρ own b→s'.heap.get? b=some o
 there:∀ b o,s.heap.get? b=some o→∃ o',s'.heap.get? b=some o'
 gens:gd s'=gd s
 os:s'.os=s.os
 ow:OwnStep W ρ own s ρ' own'
theorem Step.refl {env:Env} {W:List Str} {ρ:aJ} {own:Str→Addr} {os:List Addr} (s:Shared):Step env W ρ own os s ρ own os s:=⟨fun _ h=>h,fun _ h => .inl h,fun _ _ e _=>e,fun _ o e=>⟨o,e⟩,rfl,rfl,.refl⟩
theorem Step.grow {env:Env} {W:List Str} {ρ:aJ} {own:Str→Addr} {os:List Addr} {s s':Shared} (g:Grow s s'):Step env W ρ own os s ρ own os s':=⟨fun _ h=>h,fun _ h => .inl h,fun b o e _=>g.keep b o e,fun b o e=>⟨o,g.keep b o e⟩,g.gens,g.os,.refl⟩
theorem Rn {env:Env} {os os':List Addr} (h:∀ a∈os,a∈os') {b:Addr} (x:vO env os b):vO env os' b:=by
 rcases x with x | x | x
 ·exact .inl x
 ·exact .inr (.inl x)
 ·exact .inr (.inr (h b x))
theorem Step.trans {env:Env} {W:List Str} {r1 r2 r3:aJ} {w1 w2 w3:Str→Addr} {o1 o2 o3:List Addr} {a b c:Shared} (x:Step env W r1 w1 o1 a r2 w2 o2 b) (y:Step env W r2 w2 o2 b r3 w3 o3 c):Step env W r1 w1 o1 a r3 w3 o3 c where
 up:=fun p h=>y.up p (x.up p h)
 new:=fun p h=>by
  rcases y.new p h with q | q
  ·exact x.new p q
  ·cases e:a.heap.get? p with
   | none=>exact .inr rfl
   | some o=>obtain ⟨o',e'⟩:=x.there p o e; rw [e'] at q; cases q
 keep:=fun p o e hs=>y.keep p o (x.keep p o e hs) fun q=>by
  rcases q with q | q | ⟨z,d,hz,hd,q⟩
  ·exact hs (.inl q)
  ·exact hs (.inr (.inl q))
  ·rcases x.ow z d hz hd with ⟨⟨e',he'⟩,t⟩ | t
   ·exact hs (.inr (.inr ⟨z,e',hz,he',t▸q⟩))
   ·rw [q,e] at t; cases t
 there:=fun p o e=>by obtain ⟨o',e'⟩:=x.there p o e; exact y.there p o' e'
 gens:=y.gens.trans x.gens
 os:=y.os.trans x.os
 ow:=x.ow.trans y.ow x.there
section
variable {prog:Program} {w:World} {A:Around} {s:Shared} {wsC:Fix} {ok:AP} {K:Frag} {mg:Str→Option Value} {G:Ctx} {env:Env} {sc:Sc} {ρ:aJ} {n:Nat} {r:R} {W:List Str} {own:Str→Addr} {os:List Addr} {base h h':Heap}
theorem jE {c:Addr} {v:Value} {d:D} (hs:Heap.SameBut c h h') (hc:vO env os c) (hr:Rep wsC (okIn ok env os) h v d):Rep wsC (okIn ok env os) h' v d :=
 hr.mono fun b o q e=>⟨q,hs.extBut b o (fun x=>q.2 (x▸hc)) e⟩
theorem jM {c:Addr} {v:List Value} {d:List D} (hs:Heap.SameBut c h h') (hc:vO env os c) (hr:RepL wsC (okIn ok env os) h v d):RepL wsC (okIn ok env os) h' v d :=
 hr.mono fun b o q e=>⟨q,hs.extBut b o (fun x=>q.2 (x▸hc)) e⟩
noncomputable def Tc (ρ:aJ) (x:Str):aJ:=ρ.filter fun p=>!(p.1==x)
theorem bV {ρ:aJ} {x z:Str} {d:D} (h:(Tc ρ x).lookup z=some d):ρ.lookup z=some d∧z≠x:=by
 obtain ⟨a,b⟩:=eO (p:=fun q=>!(q==x)) h
 exact ⟨a,by simpa using b⟩
theorem mO {ρ:aJ} {x z:Str} {d:D} (h:ρ.lookup z=some d) (hz:z≠x):(Tc ρ x).lookup z=some d:=by
 induction ρ with
 | nil=>exact aO h
 | cons p r ih =>
  obtain ⟨y,e⟩:=p
  unfold Tc at ih ⊢
  rw [List.filter_cons]
  simp only [List.lookup_cons] at h
  cases hy:(z==y) with
  | true =>
   have hy':z=y:=by simpa using hy
   subst hy'
   rw [hy] at h
   have:(!(z==x))=true:=by simpa using hz
   rw [if_pos this]
   simp only [List.lookup_cons,hy]; exact h
  | false =>
   rw [hy] at h
   split
   ·simp only [List.lookup_cons,hy]; exact ih h
   ·exact ih h
theorem XS.rm (X:XS wsC ok env base h W ρ own os) (x:Str):XS wsC ok env base h W (Tc ρ x) own os :=
 {X with
  val:=fun y d e q=>X.val y d (bV e).1 q
  wal:=fun y d e q=>X.wal y d (bV e).1 q
  inj:=fun y z d e h1 h2 h3 h4 h5=>X.inj y z d e (bV h1).1 (bV h2).1 h3 h4 h5 }
theorem XS.setVal {x:Str} {v:Value} {d:D} (X:XS wsC ok env base h W (Tc ρ x) own os) (hx:x ∉ W) (hn:NameVal env h x v) (hr:Rep wsC (okIn ok env os) h v d):XS wsC ok env base h W (dD ρ x d) own os :=
 {X with
  val:=fun y e hy hyW=>by
   rw [bM] at hy
   by_cases hyx:y=x
   ·subst hyx
    rw [if_pos (by simp)] at hy
    obtain rfl:=aj hy
    exact ⟨v,hn,hr⟩
   ·rw [if_neg (by simpa using hyx)] at hy
    exact X.val y e (mO hy hyx) hyW
  wal:=fun y e hy hyW=>by
   have hyx:y≠x:=fun q=>hx (q▸hyW)
   rw [bM,if_neg (by simpa using hyx)] at hy
   exact X.wal y e (mO hy hyx) hyW
  inj:=fun y z e f hy hz hyW hzW q=>by
   have h1:y≠x:=fun q=>hx (q▸hyW)
   have h2:z≠x:=fun q=>hx (q▸hzW)
   rw [bM,if_neg (by simpa using h1)] at hy
   rw [bM,if_neg (by simpa using h2)] at hz
   exact X.inj y z e f (mO hy h1) (mO hz h2) hyW hzW q }
theorem XS.setOwn {x:Str} {a:Addr} {ds:List D} {vs:List Value} {m:Nat} (X:XS wsC ok env base h W (Tc ρ x) own os) (hx:x∈W) (hn:NameVal env h x (.ref a)) (ha:a∈os)
  (hl:h.get? a=some { cls := .type "list",data := .seq (List.toArray vs) m }) (hr:RepL wsC (okIn ok env os) h vs ds) (hi:∀ z d,ρ.lookup z=some d→z∈W→z≠x→own z≠a) :
  XS wsC ok env base h W (dD ρ x (.list ds)) (fun z=>if z=x then a else own z) os :=
 {X with
  val:=fun y e hy hyW=>by
   have hyx:y≠x:=fun q=>hyW (q▸hx)
   rw [bM,if_neg (by simpa using hyx)] at hy
   exact X.val y e (mO hy hyx) hyW
  wal:=fun y e hy hyW=>by
   rw [bM] at hy
   by_cases hyx:y=x
   ·subst hyx
    rw [if_pos (by simp)] at hy
    obtain rfl:=aj hy
    simp only [if_true]
    exact ⟨hn,ha,ds,vs,m,rfl,hl,hr⟩
   ·rw [if_neg (by simpa using hyx)] at hy
    simp only [if_neg hyx]
    exact X.wal y e (mO hy hyx) hyW
  inj:=fun y z e f hy hz hyW hzW q=>by
   rw [bM] at hy hz
   by_cases h1:y=x
   ·by_cases h2:z=x
    ·rw [h1,h2]
    ·simp only [if_pos h1,if_neg h2] at q
     rw [if_neg (by simpa using h2)] at hz
     exact absurd q.symm (hi z f hz hzW h2)
   ·by_cases h2:z=x
    ·simp only [if_neg h1,if_pos h2] at q
     rw [if_neg (by simpa using h1)] at hy
     exact absurd q (hi y e hy hyW h1)
    ·simp only [if_neg h1,if_neg h2] at q
     rw [if_neg (by simpa using h1)] at hy
     rw [if_neg (by simpa using h2)] at hz
     exact X.inj y z e f (mO hy h1) (mO hz h2) hyW hzW q }
theorem XS.addOs {a:Addr} {h₀:Heap} (X:XS wsC ok env base h₀ W ρ own os) (hk:∀ b o,h₀.get? b=some o→h.get? b=some o) (ha:h₀.get? a=none) (hb:∃ o,h.get? a=some o):XS wsC ok env base h W ρ own (a :: os) :=
 have Y:=X.grow hk
 have w:∀ {b o},okIn ok env os b→h₀.get? b=some o→okIn ok env (a :: os) b:=fun {b o} q e=>⟨q.1,fun t=>q.2 (by
  rcases t with t | t | t
  ·exact .inl t
  ·exact .inr (.inl t)
  ·rcases cM t with t | t
   ·rw [t,ha] at e; exact aO e
   ·exact .inr (.inr t))⟩
 {Y with
  new:=fun b t=>by
   rcases t with t | t | t
   ·exact X.new b (.inl t)
   ·exact X.new b (.inr (.inl t))
   ·rcases cM t with t | t
    ·rw [t]; cases e:base.get? a with
     | none=>rfl
     | some o=>rw [X.keep a o e] at ha; cases ha
    ·exact X.new b (.inr (.inr t))
  here:=fun b t=>by
   rcases t with t | t | t
   ·exact Y.here b (.inl t)
   ·exact Y.here b (.inr (.inl t))
   ·rcases cM t with t | t
    ·rw [t]; exact hb
    ·exact Y.here b (.inr (.inr t))
  osep:=fun b t=>by
   rcases cM t with t | t
   ·refine ⟨fun q=>?_,fun x q=>?_⟩
    ·obtain ⟨o,e⟩:=X.here env.locals (.inl rfl); rw [← q,t,ha] at e; exact aO e
    ·obtain ⟨o,e⟩:=X.here b (.inr (.inl ⟨x,q⟩)); rw [t,ha] at e; exact aO e
   ·exact X.osep b t
  val:=fun y d e q=>by obtain ⟨v,n,r⟩:=X.val y d e q; exact ⟨v,n.keep hk,r.mono fun b o p e=>⟨w p e,hk b o e⟩⟩
  wal:=fun y d e q=>by obtain ⟨n,b,ds,vs,m,c,l,r⟩:=X.wal y d e q; exact ⟨n.keep hk,cJ _ b,ds,vs,m,c,hk _ _ l,r.mono fun b o p e=>⟨w p e,hk b o e⟩⟩ }
theorem XS.sameOs {a:Addr} (X:XS wsC ok env base h W ρ own os) (ha:a∈os) (hs:Heap.SameBut a h h') (hh:∃ o,h'.get? a=some o) (hi:∀ z d,ρ.lookup z=some d→z∈W→own z≠a):XS wsC ok env base h' W ρ own os :=
 have hS:vO env os a := .inr (.inr ha)
 have nv:∀ {y:Str} {u:Value},NameVal env h y u→NameVal env h' y u:=fun {y u} q=>by
  rcases q with ⟨p,m',b,c'⟩ | ⟨p,c',b,e⟩
  ·exact .inl ⟨p,m',b.sameBut hs (Ne.symm (X.osep a ha).1),c'⟩
  ·exact .inr ⟨p,c',b,e.sameBut hs fun q=>(X.osep a ha).2 y (q▸b)⟩
 {keep:=fun b o e=>hs.extBut b o (fun q=>by rw [q,X.new _ hS] at e; exact aO e) (X.keep b o e)
  new:=X.new
  here:=fun b t=>by
   by_cases hb:b=a
   ·rw [hb]; exact hh
   ·obtain ⟨o,e⟩:=X.here b t; exact ⟨o,hs.extBut b o hb e⟩
  loc:=by obtain ⟨m,hm⟩:=X.loc; exact ⟨m,hm.sameBut hs (Ne.symm (X.osep a ha).1)⟩
  cell:=fun y c hc=>by obtain ⟨v,hv⟩:=X.cell y c hc; exact ⟨v,hv.sameBut hs fun q=>(X.osep a ha).2 y (q▸hc)⟩
  osep:=X.osep
  val:=fun y d e q=>by obtain ⟨v,n,r⟩:=X.val y d e q; exact ⟨v,nv n,jE hs hS r⟩
  wal:=fun y d e q=>by obtain ⟨n,b,ds,vs,m,c,l,r⟩:=X.wal y d e q; exact ⟨nv n,b,ds,vs,m,c,hs.extBut _ _ (hi y d e q) l,jM hs hS r⟩
  inj:=X.inj }
theorem XS.letGo {a:Addr} (X:XS wsC ok env base h W ρ own (a :: os)) (ha:a ∉ os) (hs:Heap.SameBut a h h') (hw:∀ y d,ρ.lookup y=some d→y∈W→own y∈os):XS wsC ok env base h' W ρ own os :=
 have hS:vO env (a :: os) a := .inr (.inr aH)
 have up:∀ {b},vO env os b→vO env (a :: os) b:=fun {b} t=>Rn (fun _ q=>cJ _ q) t
 have sep:=X.osep a aH
 have nv:∀ {y:Str} {u:Value},NameVal env h y u→NameVal env h' y u:=fun {y u} q=>by
  rcases q with ⟨p,m',b,c'⟩ | ⟨p,c',b,e⟩
  ·exact .inl ⟨p,m',b.sameBut hs (Ne.symm sep.1),c'⟩
  ·exact .inr ⟨p,c',b,e.sameBut hs fun q=>sep.2 y (q▸b)⟩
 {keep:=fun b o e=>hs.extBut b o (fun q=>by rw [q,X.new _ hS] at e; exact aO e) (X.keep b o e)
  new:=fun b t=>X.new b (up t)
  here:=fun b t=>by
   obtain ⟨o,e⟩:=X.here b (up t)
   refine ⟨o,hs.extBut b o (fun q=>?_) e⟩
   rw [q] at t
   rcases t with t | t | t
   ·exact sep.1 t
   ·obtain ⟨x,hx⟩:=t; exact sep.2 x hx
   ·exact ha t
  loc:=by obtain ⟨m,hm⟩:=X.loc; exact ⟨m,hm.sameBut hs (Ne.symm sep.1)⟩
  cell:=fun y c hc=>by obtain ⟨v,hv⟩:=X.cell y c hc; exact ⟨v,hv.sameBut hs fun q=>sep.2 y (q▸hc)⟩
  osep:=fun b t=>X.osep b (cJ _ t)
  val:=fun y d e q=>by obtain ⟨v,n,r⟩:=X.val y d e q; exact ⟨v,nv n,(jE hs hS r).weak fun b o _ p=>⟨p.1,fun t=>p.2 (up t)⟩⟩
  wal:=fun y d e q=>by obtain ⟨n,b,ds,vs,m,c,l,r⟩:=X.wal y d e q; exact ⟨nv n,hw y d e q,ds,vs,m,c,hs.extBut _ _ (fun t=>ha (t▸hw y d e q)) l,(jM hs hS r).weak fun b o _ p=>⟨p.1,fun t=>p.2 (up t)⟩⟩
  inj:=X.inj }
theorem XS.move {wr os':List Addr} (X:XS wsC ok env base h W ρ own os) (hwr:∀ a∈wr,a∈os) (hk:∀ b o,b ∉ wr→h.get? b=some o→h'.get? b=some o) (hown:∀ z d,ρ.lookup z=some d→z∈W→own z ∉ wr)
  (h1:∀ a∈os',a∈os) (h2:∀ a∈os',∃ o,h'.get? a=some o) (h3:∀ a∈os,a ∉ wr→a∈os'):XS wsC ok env base h' W ρ own os' :=
 have up:∀ {b},vO env os' b→vO env os b:=fun {b} t=>Rn h1 t
 have nw:∀ {b:Addr},okIn ok env os b→b ∉ wr:=fun {b} q t=>q.2 (.inr (.inr (hwr b t)))
 have locw:env.locals ∉ wr:=fun t=>(X.osep _ (hwr _ t)).1 rfl
 have cellw:∀ {y c},env.cells.lookup y=some c→c ∉ wr:=fun {y c} q t=>(X.osep c (hwr c t)).2 y q
 have nv:∀ {y:Str} {u:Value},NameVal env h y u→NameVal env h' y u:=fun {y u} q=>by
  rcases q with ⟨p,m',b,c'⟩ | ⟨p,c',b,o,e,e2⟩
  ·exact .inl ⟨p,m',b.at' fun o e=>hk _ o locw e,c'⟩
  ·exact .inr ⟨p,c',b,o,hk _ o (cellw b) e,e2⟩
 {keep:=fun b o e=>hk b o (fun t=>by rw [X.new b (.inr (.inr (hwr b t)))] at e; exact aO e) (X.keep b o e)
  new:=fun b t=>X.new b (up t)
  here:=fun b t=>by
   rcases t with t | t | t
   ·obtain ⟨o,e⟩:=X.here b (.inl t); exact ⟨o,hk b o (t▸locw) e⟩
   ·obtain ⟨o,e⟩:=X.here b (.inr (.inl t)); obtain ⟨x,hx⟩:=t; exact ⟨o,hk b o (cellw hx) e⟩
   ·exact h2 b t
  loc:=by obtain ⟨m,hm⟩:=X.loc; exact ⟨m,hm.at' fun o e=>hk _ o locw e⟩
  cell:=fun y c hc=>by obtain ⟨v,o,e,e2⟩:=X.cell y c hc; exact ⟨v,o,hk _ o (cellw hc) e,e2⟩
  osep:=fun b t=>X.osep b (h1 b t)
  val:=fun y d e q=>by obtain ⟨v,n,r⟩:=X.val y d e q; exact ⟨v,nv n,r.mono fun b o p e=>⟨⟨p.1,fun t=>p.2 (up t)⟩,hk b o (nw p) e⟩⟩
  wal:=fun y d e q=>by obtain ⟨n,b,ds,vs,m,c,l,r⟩:=X.wal y d e q; exact ⟨nv n,h3 _ b (hown y d e q),ds,vs,m,c,hk _ _ (hown y d e q) l,r.mono fun b o p e=>⟨⟨p.1,fun t=>p.2 (up t)⟩,hk b o (nw p) e⟩⟩
  inj:=X.inj }
theorem XS.addAll {h₀:Heap} (X:XS wsC ok env base h₀ W ρ own os) (hk:∀ b o,h₀.get? b=some o→h.get? b=some o):∀ (wr:List Addr),(∀ a∈wr,h₀.get? a=none)→(∀ a∈wr,∃ o,h.get? a=some o) →
  XS wsC ok env base h W ρ own (wr++os):=by
 intro wr
 induction wr with
 | nil =>
   intro _ _
   exact X.grow hk
 | cons a wr ih =>
   intro h1 h2
   have Y:=ih (fun b q=>h1 b (cJ _ q)) (fun b q=>h2 b (cJ _ q))
   by_cases ha:a∈wr
   ·have e:∀ b,(b∈a :: wr++os↔b∈wr++os):=fun b=>by
     simp only [List.cons_append,List.mem_cons,List.mem_append]
     constructor
     ·rintro (rfl | q)
      ·exact .inl ha
      ·exact q
     ·exact .inr
    exact XS.move (wr:=[]) Y (fun _ q=>nomatch q) (fun b o _ e=>e) (fun _ _ _ _ q=>nomatch q) (fun b q=>(e b).mp q) (fun b q=>Y.here b (.inr (.inr ((e b).mp q)))) (fun b q _=>(e b).mpr q)
   ·have na:=h1 a aH
    have up:∀ {b o},h₀.get? b=some o→okIn ok env os b→okIn ok env (a :: wr++os) b:=fun {b o} e q=>⟨q.1,fun t=>by
     rcases t with t | t | t
     ·exact q.2 (.inl t)
     ·exact q.2 (.inr (.inl t))
     ·rcases List.mem_append.mp t with t | t
      ·rw [h1 b t] at e; exact aO e
      ·exact q.2 (.inr (.inr t))⟩
    exact
    {Y with
     new:=fun b t=>by
      rcases t with t | t | t
      ·exact X.new b (.inl t)
      ·exact X.new b (.inr (.inl t))
      ·rcases List.mem_append.mp t with t | t
       ·cases e:base.get? b with
        | none=>rfl
        | some o=>have:=X.keep b o e; rw [h1 b t] at this; exact aO this
       ·exact X.new b (.inr (.inr t))
     here:=fun b t=>by
      rcases t with t | t | t
      ·exact Y.here b (.inl t)
      ·exact Y.here b (.inr (.inl t))
      ·rcases List.mem_append.mp t with t | t
       ·exact h2 b t
       ·exact Y.here b (.inr (.inr (List.mem_append_right _ t)))
     osep:=fun b t=>by
      rcases List.mem_append.mp t with t | t
      ·refine ⟨fun q=>?_,fun x q=>?_⟩
       ·obtain ⟨o,e⟩:=X.here env.locals (.inl rfl); rw [← q,h1 b t] at e; exact aO e
       ·obtain ⟨o,e⟩:=X.here b (.inr (.inl ⟨x,q⟩)); rw [h1 b t] at e; exact aO e
      ·exact X.osep b t
     val:=fun y d e q=>by obtain ⟨v,n,r⟩:=X.val y d e q; exact ⟨v,n.keep hk,r.mono fun b o p e=>⟨up e p,hk b o e⟩⟩
     wal:=fun y d e q=>by obtain ⟨n,b,ds,vs,m,c,l,r⟩:=X.wal y d e q; exact ⟨n.keep hk,List.mem_append_right _ b,ds,vs,m,c,hk _ _ l,r.mono fun b o p e=>⟨up e p,hk b o e⟩⟩ }
theorem oX {x:Str} {v:Value} (X:XS wsC ok env base s.heap W ρ own os) (Se:EnvSt env sc) (hkind:sc.lookup x=some .local∨sc.lookup x=some .cell) :
  Wp prog w A (storeName env x v) s fun _ s'=>XS wsC ok env base s'.heap W (Tc ρ x) own os∧Step env W ρ own os s (Tc ρ x) own os s'∧NameVal env s'.heap x v∧∃ c,(c=env.locals∨∃ y,env.cells.lookup y=some c)∧Heap.SameBut c s.heap s'.heap:=by
 have kindOf:∀ y,env.kindOf y=sc.lookup y:=fun y=>by unfold Env.kindOf; rw [Se.names]
 have old:∀ {c:Addr} {h':Heap},vO env os c→Heap.SameBut c s.heap h'→∀ b o,base.get? b=some o→h'.get? b=some o:=fun hc hs b o e =>
  hs.extBut b o (fun q=>by rw [q,X.new _ hc] at e; exact aO e) (X.keep b o e)
 have step:∀ {c:Addr} {h':Heap} {tk:Nat},(c=env.locals∨∃ y,env.cells.lookup y=some c)→(∃ o,h'.get? c=some o)→Heap.SameBut c s.heap h'→Step env W ρ own os s (Tc ρ x) own os { s with heap:=h',toks:=tk }:=fun {c h' tk} hc hh hs =>
  ⟨fun _ q=>q,fun _ q => .inl q,fun b o e q=>hs.extBut b o (fun t=>q (hc.elim (fun u => .inl (t▸u)) fun u => .inr (.inl (t▸u)))) e,fun b o e=>by
   by_cases hb:b=c
   ·subst hb; exact hh
   ·exact ⟨o,hs.extBut b o hb e⟩,rfl,rfl,fun z d hz h => .inl ⟨⟨d,(bV h).1⟩,rfl⟩⟩
 rcases hkind with hl | hl
 ·obtain ⟨m,hm⟩:=X.loc
  refine wpAny_storeName_local (m:=m) (by rw [kindOf]; exact hl) hm (fun h₂ hn₂ hs₂=>?_) (by rw [Se.kind]; rfl)
  have hL:vO env os env.locals := .inl rfl
  have nv:∀ {y:Str} {u:Value},y≠x→NameVal env s.heap y u→NameVal env h₂ y u:=fun {y u} hy q=>by
   rcases q with ⟨a,m',b,c⟩ | ⟨a,c,b,e⟩
   ·refine .inl ⟨a,_,hn₂,?_⟩
    have:=(Heap.Ns.eq_nsMap b).trans (Heap.Ns.eq_nsMap hm).symm
    rw [if_neg hy,← this]; exact c
   ·exact .inr ⟨a,c,b,e.sameBut hs₂ fun q=>Se.sep y (q▸b)⟩
  refine ⟨⟨old hL hs₂,X.new,fun b hb=>?_,⟨_,hn₂⟩,fun y c hc=>by obtain ⟨u,q⟩:=X.cell y c hc; exact ⟨u,q.sameBut hs₂ fun q=>Se.sep y (q▸hc)⟩,X.osep,fun y e hy hyW=>?_,fun y e hy hyW=>?_,fun y z e f hy hz hyW hzW q=>?_⟩,step (.inl rfl) (by obtain ⟨o,_,_,e,_⟩:=hn₂; exact ⟨o,e⟩) hs₂,.inl ⟨by rw [kindOf]; exact hl,_,hn₂,by simp⟩,_,.inl rfl,hs₂⟩
  ·by_cases hb2:b=env.locals
   ·subst hb2; obtain ⟨o,_,_,e,_⟩:=hn₂; exact ⟨o,e⟩
   ·obtain ⟨o,e⟩:=X.here b hb; exact ⟨o,hs₂.extBut b o hb2 e⟩
  ·obtain ⟨hy,hyx⟩:=bV hy
   obtain ⟨u,a,b⟩:=X.val y e hy hyW
   exact ⟨u,nv hyx a,jE hs₂ hL b⟩
  ·obtain ⟨hy,hyx⟩:=bV hy
   obtain ⟨a,b,ds,vs,n,c,e',f⟩:=X.wal y e hy hyW
   exact ⟨nv hyx a,b,ds,vs,n,c,hs₂.extBut _ _ (X.osep _ b).1 e',jM hs₂ hL f⟩
  ·exact X.inj y z e f (bV hy).1 (bV hz).1 hyW hzW q
 ·obtain ⟨c,hc⟩:=Se.cells x (.inl hl)
  obtain ⟨v₀,hv₀⟩:=X.cell x c hc
  have hS:vO env os c := .inr (.inl ⟨x,hc⟩)
  refine wpAny_storeName_cell Se.kind (by rw [kindOf]; exact hl) hc hv₀ fun h₂ hv₂ hs₂=>?_
  have hcL:c≠env.locals:=fun q=>Se.sep x (q▸hc)
  obtain ⟨m,hm⟩:=X.loc
  have nv:∀ {y:Str} {u:Value},y≠x→NameVal env s.heap y u→NameVal env h₂ y u:=fun {y u} hy q=>by
   rcases q with ⟨a,m',b,c'⟩ | ⟨a,c',b,e⟩
   ·exact .inl ⟨a,m',b.sameBut hs₂ (Ne.symm hcL),c'⟩
   ·exact .inr ⟨a,c',b,e.sameBut hs₂ fun q=>hy (Se.apart y x c (q▸b) hc)⟩
  have st:=step (tk:=s.toks) (.inr ⟨x,hc⟩) (by obtain ⟨o,e,_⟩:=hv₂; exact ⟨o,e⟩) hs₂
  refine ⟨⟨old hS hs₂,X.new,fun b hb=>?_,⟨m,hm.sameBut hs₂ (Ne.symm hcL)⟩,fun y c' hc'=>?_,X.osep,fun y e hy hyW=>?_,fun y e hy hyW=>?_,fun y z e f hy hz hyW hzW q=>?_⟩,st,.inr ⟨.inl (by rw [kindOf]; exact hl),c,hc,hv₂⟩,_,.inr ⟨x,hc⟩,hs₂⟩
  ·obtain ⟨o,e⟩:=X.here b hb; exact st.there b o e
  ·by_cases q:c'=c
   ·subst q; exact ⟨_,hv₂⟩
   ·obtain ⟨u,hu⟩:=X.cell y c' hc'; exact ⟨u,hu.sameBut hs₂ q⟩
  ·obtain ⟨hy,hyx⟩:=bV hy
   obtain ⟨u,a,b⟩:=X.val y e hy hyW
   exact ⟨u,nv hyx a,jE hs₂ hS b⟩
  ·obtain ⟨hy,hyx⟩:=bV hy
   obtain ⟨a,b,ds,vs,n,c',e',f⟩:=X.wal y e hy hyW
   exact ⟨nv hyx a,b,ds,vs,n,c',hs₂.extBut _ _ (fun q=>(X.osep _ b).2 x (q▸hc)) e',jM hs₂ hS f⟩
  ·exact X.inj y z e f (bV hy).1 (bV hz).1 hyW hzW q
theorem gK {x:Str} {v:Value} {d:D} (X:XS wsC ok env base s.heap W ρ own os) (Se:EnvSt env sc) (hx:bD sc W x=true) (hr:Rep wsC (okIn ok env os) s.heap v d) :
  Wp prog w A (storeName env x v) s fun _ s'=>XS wsC ok env base s'.heap W (dD ρ x d) own os∧Step env W ρ own os s (dD ρ x d) own os s':=by
 unfold bD at hx
 obtain ⟨hk,hW⟩:=bj hx
 refine wpAny_mono (oX X Se (by simpa using hk)) (fun _ s' h'=>?_) fun _ _ e=>e
 obtain ⟨X',st,hn,c,hc,hs⟩:=h'
 have hS:vO env os c:=by
  rcases hc with q | q
  ·exact .inl q
  ·exact .inr (.inl q)
 exact ⟨X'.setVal (by simpa using hW) hn (jE hs hS hr),{ st with ow := .set (by simpa using hW) }⟩
end
noncomputable def flOk (wsC:Fix) (ok:AP) (fl:Fl) (f:Flow) (s':Shared):Prop:=match fl with
 | .next=>f=.next
 | .brk=>f=.brk
 | .ret d=>∃ v,f=.ret v∧Rep wsC ok s'.heap v d
inductive XRes (wsC:Fix) (ok:AP) (env:Env) (base:Heap) (W:List Str) (ρ:aJ) (own:Str→Addr) (os:List Addr) (s:Shared) (fl:Fl) (ρ':aJ) (f:Flow) (s':Shared):Prop where
 | mk (own':Str→Addr) (os':List Addr) (X:XS wsC ok env base s'.heap W ρ' own' os') (st:Step env W ρ own os s ρ' own' os' s') (hf:flOk wsC ok fl f s'):XRes wsC ok env base W ρ own os s fl ρ' f s'
section
variable {prog:Program} {w:World} {A:Around} {s:Shared} {wsC:Fix} {ok:AP} {K:Frag} {mg:Str→Option Value} {G:Ctx} {env:Env} {sc:Sc} {ρ:aJ} {n:Nat} {r:R} {W:List Str} {own:Str→Addr} {os:List Addr} {base h h':Heap}
theorem XRes.from {os':List Addr} {s₁ s₂:Shared} {fl:Fl} {ρ₁ ρ':aJ} {own₁:Str→Addr} {f:Flow} (x:Step env W ρ own os s ρ₁ own₁ os' s₁) (y:XRes wsC ok env base W ρ₁ own₁ os' s₁ fl ρ' f s₂):XRes wsC ok env base W ρ own os s fl ρ' f s₂ :=
 let ⟨own',os'',a,b,c⟩:=y; ⟨own',os'',a,x.trans b,c⟩
theorem XS.notMut (X:XS wsC ok env base h W ρ own os) {b:Addr} (hb:¬ vO env os b):¬ mutA env W ρ own b:=fun t=>hb (by
 rcases t with t | t | ⟨z,d,hz,hd,t⟩
 ·exact .inl t
 ·exact .inr (.inl t)
 ·exact .inr (.inr (t▸(X.wal z d hd hz).mem)))
theorem Step.okI {ρ':aJ} {own':Str→Addr} {os':List Addr} {s s':Shared} (X:XS wsC ok env base s.heap W ρ own os) (x:Step env W ρ own os s ρ' own' os' s') {b:Addr} {o:Obj} (q:okIn ok env os b) (e:s.heap.get? b=some o):okIn ok env os' b∧s'.heap.get? b=some o :=
 ⟨⟨q.1,fun t=>q.2 (by
  rcases t with t | t | t
  ·exact .inl t
  ·exact .inr (.inl t)
  ·rcases x.new b t with u | u
   ·exact .inr (.inr u)
   ·rw [e] at u; cases u)⟩,x.keep b o e (X.notMut q.2)⟩
theorem Step.rep {ρ':aJ} {own':Str→Addr} {os':List Addr} {s s':Shared} {v:Value} {d:D} (X:XS wsC ok env base s.heap W ρ own os) (x:Step env W ρ own os s ρ' own' os' s') (hr:Rep wsC (okIn ok env os) s.heap v d):Rep wsC (Mine.Internal.okIn ok env os') s'.heap v d :=
 hr.mono fun b o q e=>x.okI X q e
theorem Step.repL {ρ':aJ} {own':Str→Addr} {os':List Addr} {s s':Shared} {v:List Value} {d:List D} (X:XS wsC ok env base s.heap W ρ own os) (x:Step env W ρ own os s ρ' own' os' s') (hr:RepL wsC (okIn ok env os) s.heap v d):RepL wsC (Mine.Internal.okIn ok env os') s'.heap v d :=
 hr.mono fun b o q e=>x.okI X q e
theorem WW {I:Addr} {fp wr:List Addr} {m:Nat} {P:Nat→Value→Prop} {Stt:Nat→Heap→Prop} (Wk:Walks prog w A I fp wr m P Stt):∀ (k i:Nat) (s:Shared),i+k≤m→Stt i s.heap →
  Wp prog w A (draw (.ref I) k) s fun vs s'=>vs.length=k∧(∀ j v,vs[j]? = some v→P (i+j) v)∧Stt (i+k) s'.heap∧gd s'=gd s∧s'.os=s.os∧∀ b o,b ∉ wr→s.heap.get? b=some o→s'.heap.get? b=some o:=by
 intro k
 induction k with
 | zero =>
   intro i s _ hst
   exact wpAny_pure ⟨rfl,fun j v e=>by simp at e,hst,rfl,rfl,fun _ _ _ e=>e⟩
 | succ k ih =>
   intro i s hk hst
   show wpAny _ _ (pyNext (.ref I) >>= _) _ _ s
   refine wpAny_bind (Wk.item i _ _ _ (by omega) hst fun v h' tk hp hst' hkeep=>?_)
   refine wpAny_bind (wpAny_holding (wpAny_mono (ih (i+1) { s with heap:=h',toks:=tk } (by omega) hst') (fun vs s' h=>wpAny_pure ?_) fun _ _ e=>e))
   obtain ⟨h1,h2,h3,h4,h5,h6⟩:=h
   refine ⟨by simp [h1],fun j u e=>?_,by rw [show i+(k+1)=i+1+k by omega]; exact h3,h4,h5,fun b o hb e=>h6 b o hb (hkeep b o hb e)⟩
   induction j using Nat.casesAuxOn with
   | zero=>simp at e; subst e; exact hp
   | succ j=>have:=h2 j u (by simpa using e); rwa [show i+1+j=i+(j+1) by exact Nat.add_right_comm _ _ _] at this
theorem Eg {d:D} {items:List D} (h:K9 d=some items):d=.list items∨d=.tup items:=by
 induction d using D.casesOn with
 | list xs=>exact .inl (congrArg D.list (aj h))
 | tup xs=>exact .inr (congrArg D.tup (aj h))
 | _=>exact aO h
theorem T4 {v:Value} {d:D} {items:List D} {Q':Bool→Shared→Prop} (hr:Rep wsC ok s.heap v d) (hd:K9 d=some items) (hQ':Q' false s):Wp prog w A (notIterableAtAll v) s Q':=by
 unfold notIterableAtAll
 rcases Eg hd with rfl | rfl
 ·obtain ⟨_,_,_,rfl,_,g,_⟩:=hr.list_inv
  exact wpAny_bind (wpAny_specialOf (Heap.IsList.typeIs ⟨_,g,rfl,_,rfl⟩) F.slot_list_iter.lookup (wpAny_pure hQ'))
 ·obtain ⟨_,_,_,rfl,_,g,_⟩:=hr.tup_inv
  exact wpAny_bind (wpAny_specialOf (Heap.IsTuple.typeIs ⟨_,g,rfl,_,rfl⟩) F.slot_tuple_iter.lookup (wpAny_pure hQ'))
theorem oA {v:Value} {d:D} {items:List D} {k:Nat} {Q:List Value→Shared→Prop} (hh:A.handled=none) (hr:Rep wsC ok s.heap v d) (hd:K9 d=some items) (hk:k=items.length)
  (hq:∀ vs s',Grow s s'→RepL wsC ok s'.heap vs items→vs.length=items.length→Q vs s'):Wp prog w A (unpackItems v k none) s Q:=by
 subst hk
 have hit:itemsOf d=some items:=by rcases Eg hd with rfl | rfl <;> rfl
 unfold unpackItems
 refine wpAny_bind (T4 hr hd ?_)
 simp only [Bool.false_eq_true,if_false]
 refine wpAny_bind (wpAny_holding (wpAny_mono (jy hh hr hit) (fun itv s₁ h₁=>?_) fun _ _ e=>e))
 obtain ⟨g₁,I,fp,wr,P,Stt,rfl,it⟩:=h₁
 refine wpAny_bind (wpAny_holding (wpAny_mono (WW it.walks items.length 0 s₁ (by omega) it.st) (fun vs s₂ h₂=>?_) fun _ _ e=>e))
 obtain ⟨hl,hP,hst,hg,ho,hk⟩:=h₂
 rw [if_neg (by omega)]
 refine wpAny_bind (wpAny_holding (it.walks.done _ _ _ (by simpa using hst) fun h₃ tk hk₃=>?_))
 simp only [Option.isSome_none,Bool.false_eq_true,if_false]
 refine wpAny_pure ?_
 have old:∀ b o,s.heap.get? b=some o→h₃.get? b=some o:=fun b o e=>by
  have hb:b ∉ wr:=fun hm=>by rw [it.new b hm] at e; exact aO e
  exact hk₃ b o hb (hk b o hb (g₁.keep b o e))
 refine hq vs _ ⟨old,hg.trans g₁.gens,ho.trans g₁.os⟩ ?_ hl
 refine (RepL.ofGet (h:=s.heap) (by rw [hl]) fun i v hv=>?_).keep old
 have:=it.item i v (by simpa using hP i v hv)
 exact this
theorem Mp {v:Value} {d:D} {items:List D} {targets:List (Bool × (Value→Sem Unit))} {Q:Unit→Shared→Prop} (hh:A.handled=none) (hr:Rep wsC ok s.heap v d) (hd:K9 d=some items)
  (hlen:targets.length=items.length) (hstar:targets.findIdx? (·.1)=none)
  (hq:∀ vs s',Grow s s'→RepL wsC ok s'.heap vs items→vs.length=items.length→Wp prog w A (assignInOrder (targets.map (·.2)) vs) s' Q):Wp prog w A (unpack v targets) s Q:=by
 unfold unpack
 rw [hstar]
 exact wpAny_bind (wpAny_holding (oA hh hr hd hlen hq))
theorem tB {e:Expr} {ts:List Expr} {xs:List Str} (h:namesOf (e :: ts)=some xs):∃ x p ys,e=.Name x p∧namesOf ts=some ys∧xs=x :: ys:=by
 exact dY (fun x p q h1=>by clear h; subst q; obtain ⟨ys,hys,rfl⟩:=bA h1; exact ⟨x,p,ys,rfl,hys,rfl⟩) h aO
theorem Iu (Se:EnvSt env sc) {ts:List Expr}:∀ {xs:List Str} {ds:List D} {vs:List Value} {ρ ρ':aJ} {s:Shared},namesOf ts=some xs→bindAll sc W xs ds ρ=some ρ'→XS wsC ok env base s.heap W ρ own os →
  RepL wsC (okIn ok env os) s.heap vs ds→Wp prog w A (assignInOrder ((assignEach ts env).map (·.2)) vs) s fun _ s'=>XS wsC ok env base s'.heap W ρ' own os∧Step env W ρ own os s ρ' own os s':=by
 induction ts with
 | nil =>
  intro xs ds vs ρ ρ' s hn hb X hr
  obtain rfl:=aj hn
  induction ds using List.casesOn with
  | nil=>obtain rfl:=aj hb; obtain rfl:=hr.nil_inv; exact wpAny_pure ⟨X,.refl _⟩
  | cons=>exact aO hb
 | cons e ts ih =>
  intro xs ds vs ρ ρ' s hn hb X hr
  obtain ⟨x,p,ys,rfl,hys,rfl⟩:=tB hn
  induction ds using List.casesOn with
  | nil=>exact aO hb
  | cons d ds =>
   obtain ⟨_,hg,hb⟩:=aa hb
   obtain ⟨_,_,rfl,a,hr1⟩:=hr.cons_inv
   show wpAny _ _ (assignInOrder (assign (.Name x p) env :: (assignEach ts env).map (·.2)) (_ :: _)) _ _ _
   refine wpAny_bind (wpAny_holding (wpAny_assign_Name (wpAny_mono (gK X Se (ak hg).1 a) (fun _ s₁ h₁=>?_) fun _ _ e=>e)))
   exact wpAny_mono (ih hys hb h₁.1 (h₁.2.repL X hr1)) (fun _ s₂ h₂=>⟨h₂.1,h₁.2.trans h₂.2⟩) fun _ _ e=>e
theorem G6 {ts:List Expr}:∀ {xs:List Str},namesOf ts=some xs→(assignEach ts env).length=xs.length∧(assignEach ts env).findIdx? (·.1)=none:=by
 induction ts with
 | nil=>intro xs h; obtain rfl:=aj h; exact ⟨rfl,rfl⟩
 | cons e ts ih =>
  intro xs h
  obtain ⟨x,p,ys,rfl,hys,rfl⟩:=tB h
  obtain ⟨a,b⟩:=ih hys
  refine ⟨by show (assignEach ts env).length+1=_; rw [a]; rfl,?_⟩
  show List.findIdx? _ ((false,assign (.Name x p) env) :: assignEach ts env)=none
  rw [List.findIdx?_cons,b]; rfl
theorem vY:∀ {xs:List Str} {ds:List D} {ρ ρ':aJ},bindAll sc W xs ds ρ=some ρ'→xs.length=ds.length
 | [],[],_,_,_=>rfl
 | [],_ :: _,_,_,h=>by exact aO h
 | _ :: _,[],_,_,h=>by exact aO h
 | x :: xs,d :: ds,ρ,ρ',h=>by obtain ⟨_,_,h⟩:=aa h; rw [List.length_cons,List.length_cons,vY h]
theorem Em (hh:A.handled=none) (Se:EnvSt env sc) {tgt:Expr} {d:D} {v:Value} {ρ':aJ} (X:XS wsC ok env base s.heap W ρ own os) (hr:Rep wsC (okIn ok env os) s.heap v d) (h:uo sc W tgt d ρ=some ρ') :
  Wp prog w A (assign tgt env v) s fun _ s'=>XS wsC ok env base s'.heap W ρ' own os∧Step env W ρ own os s ρ' own os s':=by
 refine dY (fun x p q h1=>?_) h fun h2=>Af (fun ts k p q h1=>?_) h2 aO
 ·clear h; subst q
  obtain ⟨_,hg,h⟩:=aa h1
  obtain rfl:dD ρ x d=ρ':=aj h
  exact wpAny_assign_Name (gK X Se (ak hg).1 hr)
 ·clear h h2; subst q
  obtain ⟨xs,hxs,h⟩:=aa h1
  obtain ⟨ds,hds,h⟩:=aa h
  rw [arm_assign_Tuple]
  obtain ⟨a,b⟩:=G6 (env:=env) hxs
  refine wpAny_bind (wpAny_standAt (Mp hh hr hds (by rw [a,vY h]) b fun vs s' g hr' _=>?_))
  exact wpAny_mono (Iu Se hxs h (X.grow g.keep) hr') (fun _ s₂ h₂=>⟨h₂.1,(Step.grow g).trans h₂.2⟩) fun _ _ e=>e
noncomputable def qZ (prog:Program) (w:World) (A:Around) (wsC:Fix) (ok:AP) (env:Env) (base:Heap) (W:List Str) (x:Stmt→aJ→Option (Fl × aJ)):Prop :=
 ∀ {s:Shared} {ρ:aJ} {own:Str→Addr} {os:List Addr} {st:Stmt} {p:Fl × aJ},XS wsC ok env base s.heap W ρ own os→x st ρ=some p→Wp prog w A (exec st env) s (XRes wsC ok env base W ρ own os s p.1 p.2)
theorem vG {x:Stmt→aJ→Option (Fl × aJ)} (SX:qZ prog w A wsC ok env base W x):∀ {sts:List Stmt} {s:Shared} {ρ:aJ} {own:Str→Addr} {os:List Addr} {p:Fl × aJ},XS wsC ok env base s.heap W ρ own os →
  yQ x sts ρ=some p→Wp prog w A (execs sts env) s (XRes wsC ok env base W ρ own os s p.1 p.2):=by
 intro sts
 induction sts with
 | nil =>
   intro s ρ own os p X h
   obtain rfl:=aj h; exact wpAny_execs_nil ⟨own,os,X,.refl _,rfl⟩
 | cons st sts ih =>
   intro s ρ own os p X h
   obtain ⟨⟨fl,ρ1⟩,h1,h⟩:=aa h
   refine wpAny_execs_cons (wpAny_mono (SX X h1) (fun f s₁ h₁=>?_) fun _ _ e=>e)
   induction fl using Fl.casesOn with
   | next =>
    obtain ⟨own',os',X',st',hf⟩:=h₁
    have hf:f=.next:=hf
    subst hf
    exact wpAny_mono (ih X' h) (fun f s₂ h₂=>h₂.from st') fun _ _ e=>e
   | brk =>
    obtain rfl:=aj h
    obtain ⟨own',os',X',st',hf⟩:=h₁
    have hf:f=.brk:=hf
    subst hf
    exact ⟨own',os',X',st',rfl⟩
   | ret d =>
    obtain rfl:=aj h
    obtain ⟨own',os',X',st',v,hf,hv⟩:=h₁
    subst hf
    exact ⟨own',os',X',st',v,rfl,hv⟩
theorem ue {v:Expr} {t:Option Expr} {k:Nat} (h:dU v=true):swapsWith v t k env=pure false:=by
 cases v <;> first | rfl | exact dM h
theorem stor_notin {y:Str} (hy:bD sc W y=true):y ∉ W:=by
 unfold bD at hy
 simpa using (bj hy).2
theorem tU {y:Str} {p pos:Pos} {v:Expr} {d:D} (S:Sound prog w K mg wsC n r) (hA:OkA A n) (X:XS wsC ok env base s.heap W ρ own os) (Se:EnvSt env sc) (gl:Gl K mg base) (hf:Fresh ok base)
  (hy:bD sc W y=true) (hsw:swapsWith v (some (.Name y p)) pos.line env=pure false) (hv:lQ r sc W ρ v=some d) :
  Wp prog w A (exec (.Assign [.Name y p] v pos) env) s (XRes wsC ok env base W ρ own os s .next (dD ρ y d)):=by
 refine wpAny_Assign_Name (wpAny_mono (Aj S hA X Se gl hf hv) (fun u s₁ h₁=>?_) fun _ _ e=>e) hsw
 obtain ⟨g,hr⟩:=h₁
 exact wpAny_mono (gK (X.grow g.keep) Se hy hr) (fun _ s₂ h₂=>⟨own,os,h₂.1,(Step.grow g).trans h₂.2,rfl⟩) fun _ _ e=>e
theorem Ge {y:Str} {p pos:Pos} {elt:Expr} {gens:List Comprehension} {scope:Scope} {cpos:Pos} {d:D} (S:Sound prog w K mg wsC n r) (hE:∀ sc ρ d,r.E sc ρ (.ListComp elt gens scope cpos)=some d→∃ r':R,Sound prog w K mg wsC n r'∧Fx r' sc ρ elt gens scope=some d)
  (hA:OkA A n) (X:XS wsC ok env base s.heap W ρ own os) (Se:EnvSt env sc) (gl:Gl K mg base) (hf:Fresh ok base)
  (hy:bD sc W y=true) (hsw:swapsWith (.ListComp elt gens scope cpos) (some (.Name y p)) pos.line env=pure true) (hv:lQ r sc W ρ (.ListComp elt gens scope cpos)=some d) :
  Wp prog w A (exec (.Assign [.Name y p] (.ListComp elt gens scope cpos) pos) env) s (XRes wsC ok env base W ρ own os s .next (dD ρ y d)):=by
 have hd:r.E sc (inR W ρ) (.ListComp elt gens scope cpos)=some d:=by
  unfold lQ at hv
  split at hv
  ·rename_i e; obtain rfl:=aj hv; exact e
  ·obtain ⟨d',e,hv⟩:=aa hv
   obtain ⟨r',S',hc⟩:=hE _ _ _ e
   obtain ⟨_,_,_,_,_,_,_,_,_,_,_,_,rfl,_⟩:=xH S' hc
   exact nomatch hv
 obtain ⟨r',S',hc⟩:=hE _ _ _ hd
 obtain ⟨t,iter,ifs,gs,rfl,xs,c,src,hsrc,items,hitems,ds,rfl,core⟩:=xH S' hc
 have XI:=X.inner Se gl hf
 rw [exec_Assign_Name_used _ _ _ _ hsw]
 refine wpAny_bind (wpAny_standAt (wpAny_bind ?_))
 show wpAny _ A (do let _ ← comprehension (.ListComp elt (⟨t,iter,ifs,0⟩ :: gs) scope cpos) scope env _ (newList []) false (eval iter env) (some (assign (.Name y p) env))) _ _ s
 refine wpAny_bind (wpAny_mono (wpAny_comprehension_free (use:=some (assign (.Name y p) env)) (Q:=fun _ s'=>XRes wsC ok env base W ρ own os s .next (dD ρ y (.list ds)) .next s') rfl (Cp S' hsrc)
  (xj fun p hp hf=>Se.cells p.1 (c.free p hp hf).1) c.kind c.names
  (wpAny_mono (S'.E hA XI hsrc) (fun xv s₁ h₁=>wpAny_mono (jy hA.h h₁.2 hitems) (fun itv s₂ h₂=>?_) fun _ _ e=>e) fun _ _ e=>e)) (fun _ s' hq=>wpAny_pure (wpAny_pure hq)) fun _ _ e=>e)
 obtain ⟨g₂,I,fp,wr,P,Stt,rfl,it⟩:=h₂
 have X₁:=X.grow h₁.1.keep
 refine core hA g₂ (X₁.inner Se gl hf) it fun D' C cs s' O nm V=>?_
 obtain ⟨old,gens,gos,m',hm,cell,vals,ys,n',hl,hr⟩:=V
 have hD:=O.d0
 have hC:=O.c0
 have hDC:=O.dc
 have g':Grow s₁ s':=⟨fun b o e=>old b o (nm b o e) e,gens,gos⟩
 have hCh:∃ o,s'.heap.get? C=some o:=by obtain ⟨o,_,_,e,_⟩:=hm; exact ⟨o,e⟩
 have X₂:=X₁.addOs g'.keep hC hCh
 show Wp prog w A (assign (.Name y p) env (.ref D')) s' _
 have hdok:okIn ok env os D':=(X₁.freshIn hf) _ hD
 have hrep:Rep wsC (okIn ok env (C :: os)) s'.heap (.ref D') (.list ds):=by
  have lift:∀ b,okIn ok env os b→b≠C→okIn ok env (C :: os) b:=fun b q hb=>⟨q.1,fun t=>by
   rcases t with t | t | t
   ·exact q.2 (.inl t)
   ·exact q.2 (.inr (.inl t))
   ·rcases cM t with t | t
    ·exact hb t
    ·exact q.2 (.inr (.inr t))⟩
  exact .list (lift D' hdok hDC) hl (hr.weak fun b o _ q=>lift b q.1 fun t=>q.2.1 (.inl t))
 have hW:y ∉ W:=by
  unfold bD at hy
  simpa using (bj hy).2
 have hkd:sc.lookup y=some .local∨sc.lookup y=some .cell:=by
  unfold bD at hy
  simpa using (bj hy).1
 refine wpAny_assign_Name (wpAny_mono (oX X₂ Se hkd) (fun _ s₃ h₃=>?_) fun _ _ e=>e)
 obtain ⟨X₃,st,hn,c',hc',hs⟩:=h₃
 have hS:vO env (C :: os) c':=by
  rcases hc' with q | q
  ·exact .inl q
  ·exact .inr (.inl q)
 have X₄:=X₃.setVal hW hn (jE hs hS hrep)
 have sepC:=X₂.osep C aH
 have hCc:C≠c':=by
  rcases hc' with q | ⟨z,q⟩
  ·rw [q]; exact sepC.1
  ·exact fun t=>sepC.2 z (t▸q)
 refine ⟨m',hm.sameBut hs hCc,fun h'' hs''=>?_⟩
 have hCos:C ∉ os:=fun q=>by obtain ⟨o,e⟩:=X₁.here C (.inr (.inr q)); rw [hC] at e; exact aO e
 have absC:∀ b o,s.heap.get? b=some o→b≠C:=fun b o e q=>by
  have e1:=h₁.1.keep b o e
  rw [q,hC] at e1; exact aO e1
 refine ⟨own,os,X₄.letGo hCos hs'' (fun z d e q=>?_),⟨fun _ q=>q,fun _ q => .inl q,fun b o e q=>?_,fun b o e=>?_,?_,?_,.set hW⟩,rfl⟩
 ·rw [bM,if_neg (by simpa using fun t:z=y=>hW (t▸q))] at e
  exact (X₁.wal z d e q).mem
 ·exact hs''.extBut b o (absC b o e) (st.keep b o (g'.keep _ _ (h₁.1.keep b o e)) q)
 ·obtain ⟨o',e'⟩:=st.there b o (g'.keep _ _ (h₁.1.keep b o e))
  exact ⟨o',hs''.extBut b o' (absC b o e) e'⟩
 ·exact st.gens.trans (g'.gens.trans h₁.1.gens)
 ·exact st.os.trans (g'.os.trans h₁.1.os)
structure FInv (wsC:Fix) (ok:AP) (env:Env) (base:Heap) (W:List Str) (ρ:aJ) (own:Str→Addr) (os:List Addr) (s₁:Shared) (wr:List Addr) (ρ':aJ) (own':Str→Addr) (os':List Addr) (s':Shared):Prop where
 xs:XS wsC ok env base s'.heap W ρ' own' os'
 st:Step env W ρ own os s₁ ρ' own' os' s'
 wrs:∀ a∈wr,a∈os'
 nown:∀ z d,ρ'.lookup z=some d→z∈W→¬ own' z∈wr
section
variable {s₁ s₂ s' sA s₄:Shared} {wr os' os4:List Addr} {ρ' ρ2:aJ} {own' own4:Str→Addr} {h₁:Heap} {tk:Nat}
theorem FInv.init (X:XS wsC ok env base s₁.heap W ρ own os) (g:Grow s₁ s₂) (hwn:∀ a∈wr,s₁.heap.get? a=none) (hwh:∀ a∈wr,∃ o,s₂.heap.get? a=some o):FInv wsC ok env base W ρ own os s₁ wr ρ own (wr++os) s₂ where
 xs:=X.addAll g.keep wr hwn hwh
 st:=⟨fun _ q=>List.mem_append_right _ q,fun a q=>(List.mem_append.mp q).elim (fun q => .inr (hwn a q)) .inl,fun b o e _=>g.keep b o e,fun b o e=>⟨o,g.keep b o e⟩,g.gens,g.os,.refl⟩
 wrs:=fun _ q=>List.mem_append_left _ q
 nown:=fun z d e q t=>(X.wal z d e q).not (hwn _ t)
theorem tX (hwn:∀ a∈wr,s₁.heap.get? a=none) {b:Addr} {o:Obj} (e:s₁.heap.get? b=some o):b ∉ wr:=fun q=>nomatch (hwn b q).symm.trans e
theorem FInv.move (V:FInv wsC ok env base W ρ own os s₁ wr ρ' own' os' s') (hwn:∀ a∈wr,s₁.heap.get? a=none) (hk:∀ b o,b ∉ wr→s'.heap.get? b=some o→h₁.get? b=some o) (hwh:∀ a∈wr,∃ o,h₁.get? a=some o) :
  FInv wsC ok env base W ρ own os s₁ wr ρ' own' os' { s' with heap:=h₁,toks:=tk } where
 xs:=V.xs.move V.wrs hk V.nown (fun _ q=>q) (fun a q=>(Classical.em (a∈wr)).elim (hwh a) fun hw=>by obtain ⟨o,e⟩:=V.xs.here a (.inr (.inr q)); exact ⟨o,hk a o hw e⟩) (fun _ q _=>q)
 st:=⟨V.st.up,V.st.new,fun b o e q=>hk b o (tX hwn e) (V.st.keep b o e q),fun b o e=>by obtain ⟨o',e'⟩:=V.st.there b o e; exact ⟨o',hk b o' (tX hwn e) e'⟩,V.st.gens,V.st.os,V.st.ow⟩
 wrs:=V.wrs
 nown:=V.nown
theorem FInv.body (V:FInv wsC ok env base W ρ own os s₁ wr ρ' own' os' sA) (hwh:∀ a∈wr,∃ o,sA.heap.get? a=some o) (X4:XS wsC ok env base s₄.heap W ρ2 own4 os4) (st:Step env W ρ' own' os' sA ρ2 own4 os4 s₄):FInv wsC ok env base W ρ own os s₁ wr ρ2 own4 os4 s₄ where
 xs:=X4
 st:=V.st.trans st
 wrs:=fun a t=>st.up a (V.wrs a t)
 nown:=fun z e hz hW t=>(st.ow z e hW hz).elim (fun ⟨⟨e',he'⟩,u⟩=>V.nown z e' he' hW (u▸t)) fun u=>by obtain ⟨o,e⟩:=hwh _ t; exact nomatch u.symm.trans e
theorem FInv.keepF (X:XS wsC ok env base s₁.heap W ρ own os) (V:FInv wsC ok env base W ρ own os s₁ wr ρ' own' os' sA) (st:Step env W ρ' own' os' sA ρ2 own4 os4 s₄) {b:Addr} (hb:b∈wr∨(okIn ok env os b∧∃ o,s₁.heap.get? b=some o)) {o:Obj} (e:sA.heap.get? b=some o):s₄.heap.get? b=some o :=
 st.keep b o e fun t=>by
  rcases hb with hb | ⟨u,o₁,e₁⟩
  ·have sep:=V.xs.osep b (V.wrs b hb)
   rcases t with t | ⟨z,t⟩ | ⟨z,d,hz,hd,t⟩
   ·exact sep.1 t
   ·exact sep.2 z t
   ·exact V.nown z d hd hz (t▸hb)
  ·rcases t with t | t | ⟨z,d,hz,hd,t⟩
   ·exact u.2 (.inl t)
   ·exact u.2 (.inr (.inl t))
   ·subst t
    rcases V.st.ow z d hz hd with ⟨⟨e',he'⟩,u'⟩ | u'
    ·exact u.2 (.inr (.inr (u'.symm▸(X.wal z e' he' hz).mem)))
    ·exact nomatch u'.symm.trans e₁
theorem FInv.done (X:XS wsC ok env base s₁.heap W ρ own os) (V:FInv wsC ok env base W ρ own os s₁ wr ρ' own' os' s') (hwn:∀ a∈wr,s₁.heap.get? a=none) (hk:∀ b o,b ∉ wr→s'.heap.get? b=some o→h₁.get? b=some o) :
  XRes wsC ok env base W ρ own os s₁ .next ρ' .next { s' with heap:=h₁,toks:=tk } :=
 ⟨own',os'.filter fun a=>(h₁.get? a).isSome,V.xs.move V.wrs hk V.nown (fun _ q=>(List.mem_filter.mp q).1) (fun _ q=>Option.isSome_iff_exists.mp (List.mem_filter.mp q).2)
   (fun a q hw=>by obtain ⟨o,e⟩:=V.xs.here a (.inr (.inr q)); exact List.mem_filter.mpr ⟨q,Option.isSome_iff_exists.mpr ⟨o,hk a o hw e⟩⟩),
  ⟨fun a q=>by obtain ⟨o,e⟩:=X.here a (.inr (.inr q)); obtain ⟨o',e'⟩:=V.st.there a o e; exact List.mem_filter.mpr ⟨V.st.up a q,Option.isSome_iff_exists.mpr ⟨o',hk a o' (tX hwn e) e'⟩⟩,
   fun a q=>V.st.new a (List.mem_filter.mp q).1,fun b o e q=>hk b o (tX hwn e) (V.st.keep b o e q),fun b o e=>by obtain ⟨o',e'⟩:=V.st.there b o e; exact ⟨o',hk b o' (tX hwn e) e'⟩,V.st.gens,V.st.os,V.st.ow⟩,rfl⟩
theorem V6 {items:List D} {i:Nat} {d:D} (hd:items[i]? = some d):items.drop i=d :: items.drop (i+1):=by
 obtain ⟨hi',e⟩:=List.getElem?_eq_some_iff.mp hd
 rw [List.drop_eq_getElem_cons hi',e]
end
inductive FI (wsC:Fix) (ok:AP) (env:Env) (base:Heap) (W:List Str) (ρ:aJ) (own:Str→Addr) (os:List Addr) (s₁:Shared) (wr:List Addr) (sc:Sc) (x:Stmt→aJ→Option (Fl × aJ)) (tgt:Expr) (body:List Stmt) (items:List D) (p:Fl × aJ) (Stt:Nat→Heap→Prop) (k:Nat) (s':Shared):Prop where
 | mk (i:Nat) (ρ':aJ) (own':Str→Addr) (os':List Addr) (e:k=items.length-i) (hi:i≤items.length) (st:Stt i s'.heap) (V:FInv wsC ok env base W ρ own os s₁ wr ρ' own' os' s') (hf:forLoop sc W x tgt body (items.drop i) ρ'=some p) :
  FI wsC ok env base W ρ own os s₁ wr sc x tgt body items p Stt k s'
theorem FI.rest {s₁ s₄:Shared} {wr:List Addr} {x:Stmt→aJ→Option (Fl × aJ)} {tgt:Expr} {body:List Stmt} {items:List D} {p:Fl × aJ} {Stt:Nat→Heap→Prop} {i:Nat} {q:Fl × aJ} {own4:Str→Addr} {os4:List Addr} {f:Flow} {R:Result→Shared→Prop}
  (hR:∀ f s',XRes wsC ok env base W ρ own os s₁ p.1 p.2 f s'→R (.ok f) s') (hlt:i < items.length) (hst:Stt (i+1) s₄.heap) (V4:FInv wsC ok env base W ρ own os s₁ wr q.2 own4 os4 s₄) (hfl:flOk wsC ok q.1 f s₄)
  (hf:(match q.1 with
   | .next=>forLoop sc W x tgt body (items.drop (i+1)) q.2
   | .brk=>some (.next,q.2)
   | .ret e=>some (.ret e,q.2))=some p) :
  match (generalizing:=false) f with
   | .next | .cont=>∃ k',k' < items.length-i∧FI wsC ok env base W ρ own os s₁ wr sc x tgt body items p Stt k' s₄
   | .brk=>R (.ok .next) s₄
   | .ret v=>R (.ok (.ret v)) s₄:=by
 obtain ⟨fl,ρ2⟩:=q
 induction fl using Fl.casesOn with
 | next =>
  obtain rfl:f=.next:=hfl
  exact ⟨_,by omega (config:={}),i+1,ρ2,own4,os4,rfl,hlt,hst,V4,hf⟩
 | brk =>
  obtain rfl:f=.brk:=hfl
  obtain rfl:(Fl.next,ρ2)=p:=aj hf
  exact hR _ _ ⟨own4,os4,V4.xs,V4.st,rfl⟩
 | ret d' =>
  obtain rfl:(Fl.ret d',ρ2)=p:=aj hf
  obtain ⟨u,rfl,hu⟩:=hfl
  exact hR _ _ ⟨own4,os4,V4.xs,V4.st,u,rfl,hu⟩
theorem N5 {x:Stmt→aJ→Option (Fl × aJ)} (SX:qZ prog w A wsC ok env base W x) (hh:A.handled=none) (Se:EnvSt env sc) {s₁ s₂:Shared} {I:Addr} {fp wr:List Addr} {items:List D} {P:Nat→Value→Prop} {Stt:Nat→Heap→Prop}
  (X:XS wsC ok env base s₁.heap W ρ own os) (g:Grow s₁ s₂) (it:Iter prog w A wsC (okIn ok env os) s₁.heap I fp wr items P Stt s₂.heap) {y:Str} {py:Pos} {body:List Stmt} {p:Fl × aJ}
  (h:forLoop sc W x (.Name y py) body items ρ=some p) {R:Result→Shared→Prop} (hR:∀ f s',XRes wsC ok env base W ρ own os s₁ p.1 p.2 f s'→R (.ok f) s') :
  codeAny (model prog w) A (.forLoop (.Name y py) (.ref I) body [] env) R s₂:=by
 refine codeAny_forLoop_any (FI wsC ok env base W ρ own os s₁ wr sc x (.Name y py) body items p Stt) (fun k s' hI=>?_) items.length
  ⟨0,ρ,own,wr++os,rfl,Nat.zero_le _,it.st,.init X g it.new fun a q=>it.there a (it.walks.sub a q),h⟩
 obtain ⟨i,ρ',own',os',rfl,hi,hst,V,hf⟩:=hI
 rcases Nat.lt_or_ge i items.length with hlt | hge
 ·refine it.walks.item i _ _ _ hlt hst fun v h₁ tk hP hst' hk=>?_
  refine wpAny_of_eq (show letOwnedTupleGo (.Name y py) (.ref I) v=pure () from rfl) ?_
  have hwh:=it.here _ _ hst'
  have V1:=V.move (tk:=tk) it.new hk hwh
  obtain ⟨d,hd,hrep⟩:=it.item i v hP
  rw [V6 hd] at hf
  obtain ⟨ρ1,hb,hf⟩:=aa hf
  obtain ⟨q,hx,hf⟩:=aa hf
  refine wpAny_mono (Em hh Se V1.xs (V1.st.rep X hrep) hb) (fun _ s₃ h₃=>?_) fun _ _ e=>e.elim
  refine wpAny_mono (vG SX h₃.1 hx) (fun f s₄ h₄=>?_) fun _ _ e=>e.elim
  obtain ⟨own4,os4,X4,st4,hfl⟩:=h₄
  have st:=h₃.2.trans st4
  exact FI.rest hR hlt (it.walks.frame _ _ _ hst' fun b hb o e=>FInv.keepF X V1 st (it.okay b hb) e) (V1.body hwh X4 st) hfl hf
 ·obtain rfl:i=items.length:=by omega
  rw [List.drop_length] at hf
  obtain rfl:(Fl.next,ρ')=p:=aj hf
  exact it.walks.done _ _ _ hst fun h₁ tk hk=>wpAny_execs_nil (hR _ _ (V.done X it.new hk))
end
section
variable {prog:Program} {w:World} {A:Around} {s:Shared} {wsC:Fix} {ok:AP} {K:Frag} {mg:Str→Option Value} {G:Ctx} {env:Env} {sc:Sc} {ρ:aJ} {n:Nat} {r:R} {W:List Str} {own:Str→Addr} {os:List Addr} {base h h':Heap}
theorem Hh {elt:Expr} {gens:List Comprehension} {scope:Scope} {cpos:Pos} {y:Str} {p:Pos} {k:Nat}:∃ b,swapsWith (.ListComp elt gens scope cpos) (some (.Name y p)) k env=pure b:=⟨_,rfl⟩
theorem assign_tuple {ts:List Expr} {k:Nat} {p pos:Pos} {v:Expr} {d:D} {ρ':aJ} (S:Sound prog w K mg wsC n r) (hA:OkA A n) (X:XS wsC ok env base s.heap W ρ own os) (Se:EnvSt env sc) (gl:Gl K mg base) (hf:Fresh ok base)
  (h1:dU v=true) (h2:notTuple v=true) (hv:lQ r sc W ρ v=some d) (hb:uo sc W (.Tuple ts k p) d ρ=some ρ') :
  Wp prog w A (exec (.Assign [.Tuple ts k p] v pos) env) s (XRes wsC ok env base W ρ own os s .next ρ'):=by
 refine wpAny_Assign_stores (wpAny_mono (Aj S hA X Se gl hf hv) (fun u s₁ h₁=>?_) fun _ _ e=>e) (show swapsWith v (some (.Tuple ts k p)) pos.line env=pure false from ue h1) (by cases v <;> first | rfl | exact dM h2)
 obtain ⟨g,hr⟩:=h₁
 show wpAny _ _ (assign (.Tuple ts k p) env u) _ _ _
 exact wpAny_mono (Em hA.h Se (X.grow g.keep) hr hb) (fun _ s₂ h₂=>⟨own,os,h₂.1,(Step.grow g).trans h₂.2,rfl⟩) fun _ _ e=>e
theorem Jm {y:Str} {p pos lp:Pos} (X:XS wsC ok env base s.heap W ρ own os) (Se:EnvSt env sc) (hy:y∈W) (hk:sc.lookup y=some .local∨sc.lookup y=some .cell) :
  Wp prog w A (exec (.Assign [.Name y p] (.List [] lp) pos) env) s (XRes wsC ok env base W ρ own os s .next (dD ρ y (.list []))):=by
 refine wpAny_Assign_Name (wpAny_List (wpAny_items_nil ⟨Nat.zero_le _,?_⟩)) rfl
 have ha:s.heap.get? s.heap.objs.size=none:=dW (Nat.le_refl _)
 have hk':∀ b o,s.heap.get? b=some o→(s.heap.push { cls := .type "list",data := .seq ([]:List Value).toArray }).get? b=some o:=fun b o e=>aQ _ e
 have hl:(s.heap.push { cls := .type "list",data := .seq ([]:List Value).toArray }).get? s.heap.objs.size=some { cls := .type "list",data := .seq (List.toArray []) 0 }:=bw _ rfl
 have X1:=X.addOs hk' ha ⟨_,hl⟩
 refine wpAny_mono (oX (s:={ s with heap:=s.heap.push { cls := .type "list",data := .seq ([]:List Value).toArray } }) X1 Se hk) (fun _ s₂ h₂=>?_) fun _ _ e=>e
 obtain ⟨X2,st,hn,c,hc,hs⟩:=h₂
 have sep:=X1.osep _ aH
 have hne:s.heap.objs.size≠c:=by
  rcases hc with q | ⟨z,q⟩
  ·rw [q]; exact sep.1
  ·exact fun t=>sep.2 z (t▸q)
 have X3:=X2.setOwn (ds:=[]) (vs:=[]) (m:=0) hy hn aH (hs.extBut _ _ hne hl) .nil (fun z d e hz _ t=>by
  obtain ⟨_,_,_,_,_,_,l,_⟩:=X.wal z d e hz
  rw [t,ha] at l; exact aO l)
 refine ⟨_,_,X3,⟨fun _ q=>cJ _ q,fun a q=>?_,fun b o e q=>st.keep b o (hk' b o e) q,fun b o e=>st.there b o (hk' b o e),st.gens,st.os,fun z d hz e=>?_⟩,rfl⟩
 ·rcases cM q with q | q
  ·rw [q]; exact .inr ha
  ·exact .inl q
 ·rw [bM] at e
  by_cases hzy:z=y
  ·right; simp only [if_pos hzy]; exact ha
  ·rw [if_neg (by simpa using hzy)] at e
   left; exact ⟨⟨d,e⟩,by simp only [if_neg hzy]⟩
theorem yV {l:Addr} {items:Array Value} {n:Nat} {k:Int} {t:Tok} {v:Value} {Q:Unit→Shared→Prop} (ho:s.heap.get? l=some { cls := .type "list",data := .seq items n }) (h0:0≤k) (hfit:k < 2 ^ 63) (hn:k < items.size)
  (hQ:∀ h' n',h'.get? l=some { cls := .type "list",data := .seq (items.setIfInBounds k.toNat v) n' }→Heap.SameBut l s.heap h'→Q () { s with heap:=h' }):Wp prog w A (setItem (.ref l) (.int k t) v) s Q:=by
 have hl:s.heap.IsList l items:=⟨_,ho,rfl,n,rfl⟩
 unfold setItem
 try with_reducible refine wpAny_holding ?_
 first | refine wpAny_bind (wpAny_pure ?_) | skip
 refine wpAny_bind (wpAny_sequenceKey hl.typeIs (by decide) ?_)
 refine wpAny_bind (wpAny_callSpecial?_slot (name:=("__setitem__":Str)) hl.typeIs slot_list_setitem
  (wpAny_call_entry slot_list_setitem hl.typeIs entry_list_setitem ?_ (args_list_setitem _ _ _)))
 show wpAny _ _ (Builtin.List.listSubscript? (.int k t) >>= _) _ _ s
 refine wpAny_bind (wpAny_listSubscript_int (fitsIndex_of h0 hfit) ?_)
 clear hfit
 obtain ⟨j,rfl⟩:=Int.eq_ofNat_of_zero_le h0
 have hj:j < items.size:=Int.ofNat_lt.mp hn
 have hx':items[j]? = some items[j]:=Array.getElem?_eq_getElem hj
 show wpAny _ _ ((seqItemAt l j >>= fun r=>pure (r.map (j,·))) >>= _) _ _ s
 refine wpAny_bind (wpAny_bind (wpAny_seqItemAt ho rfl (wpAny_pure ?_)))
 rw [hx']
 show wpAny _ _ (setSeqItemAt l j v >>= _) _ _ s
 have hfin:∃ n',(s.heap.update l (Obj.mapSeq (·.setIfInBounds j v))).get? l=some { cls := .type "list",data := .seq (items.setIfInBounds j v) n' } :=
  ⟨_,Heap.get?_update_self _ ho rfl⟩
 obtain ⟨n',hfin⟩:=hfin
 refine wpAny_bind (wpAny_setSeqItemAt ho rfl ?_)
 first
  | exact wpAny_bind (wpAny_pure (wpAny_pure ⟨.none,rfl,wpAny_pure (hQ _ n' hfin (Heap.SameBut.update ..))⟩))
  | exact wpAny_pure ⟨.none,rfl,wpAny_pure (hQ _ n' hfin (Heap.SameBut.update ..))⟩
theorem yd {y:Str} {ds ds':List D} {s₁ s₂:Shared} {vs':List Value} {k:Nat} (X:XS wsC ok env base s.heap W ρ own os) (hy:y∈W) (hρ:ρ.lookup y=some (.list ds)) (g:Grow s s₁)
  (hl:s₂.heap.get? (own y)=some { cls := .type "list",data := .seq (List.toArray vs') k }) (hs:Heap.SameBut (own y) s₁.heap s₂.heap) (hg:gd s₂=gd s₁) (ho:s₂.os=s₁.os) (hr:RepL wsC (okIn ok env os) s₁.heap vs' ds') :
  XRes wsC ok env base W ρ own os s .next (dD ρ y (.list ds')) .next s₂:=by
 obtain ⟨nv,hos,_,_,_,_,_,_⟩:=X.wal y _ hρ hy
 have X1:=X.grow g.keep
 have hne:∀ z d,(Tc ρ y).lookup z=some d→z∈W→own z≠own y:=fun z d q hz t=>(bV q).2 (X.inj z y d _ (bV q).1 hρ hz hy t)
 have X2:=(X1.rm y).sameOs hos hs ⟨_,hl⟩ hne
 have hS:vO env os (own y) := .inr (.inr hos)
 have nv2:NameVal env s₂.heap y (.ref (own y)):=by
  rcases nv.keep g.keep with ⟨p,m',b,c'⟩ | ⟨p,c',b,e⟩
  ·exact .inl ⟨p,m',b.sameBut hs (Ne.symm (X.osep _ hos).1),c'⟩
  ·exact .inr ⟨p,c',b,e.sameBut hs fun q=>(X.osep _ hos).2 y (q▸b)⟩
 have X3:=X2.setOwn (ds:=ds') (vs:=vs') (m:=k) hy nv2 hos hl (jM hs hS hr) (fun z d q hz hzy=>hne z d (mO q hzy) hz)
 refine ⟨_,_,X3,⟨fun _ q=>q,fun _ q => .inl q,fun b o e q=>hs.extBut b o (fun t=>q (.inr (.inr ⟨y,_,hy,hρ,t.symm⟩))) (g.keep b o e),fun b o e=>?_,hg.trans g.gens,ho.trans g.os,fun z d' hz e=>?_⟩,rfl⟩
 ·by_cases hb:b=own y
  ·exact ⟨_,hb▸hl⟩
  ·exact ⟨o,hs.extBut b o hb (g.keep b o e)⟩
 ·left
  rw [bM] at e
  by_cases hzy:z=y
  ·exact ⟨⟨_,hzy▸hρ⟩,by simp only [if_pos hzy]; rw [hzy]⟩
  ·rw [if_neg (by simpa using hzy)] at e
   exact ⟨⟨d',e⟩,by simp only [if_neg hzy]⟩
theorem Vq {y:Str} {ds':List D} {s₁ s₂:Shared} {vs':List Value} {a:Addr} {k:Nat} (X:XS wsC ok env base s.heap W ρ own os) (Se:EnvSt env sc) (hy:y∈W) (hk:sc.lookup y=some .local∨sc.lookup y=some .cell) (g:Grow s s₁)
  (hk':∀ b o,s₁.heap.get? b=some o→s₂.heap.get? b=some o) (hg:gd s₂=gd s₁) (ho:s₂.os=s₁.os) (ha:s₁.heap.get? a=none)
  (hl:s₂.heap.get? a=some { cls := .type "list",data := .seq (List.toArray vs') k }) (hr:RepL wsC (okIn ok env os) s₁.heap vs' ds') :
  Wp prog w A (storeName env y (.ref a)) s₂ fun _ s₃=>XRes wsC ok env base W ρ own os s .next (dD ρ y (.list ds')) .next s₃:=by
 have X1:=(X.grow g.keep).addOs hk' ha ⟨_,hl⟩
 refine wpAny_mono (oX X1 Se hk) (fun _ s₃ h₃=>?_) fun _ _ e=>e
 obtain ⟨X2,st,hn,c,hc,hs⟩:=h₃
 have sep:=X1.osep _ aH
 have hne:a≠c:=by
  rcases hc with q | ⟨z,q⟩
  ·rw [q]; exact sep.1
  ·exact fun t=>sep.2 z (t▸q)
 have hS:vO env os c:=by
  rcases hc with q | q
  ·exact .inl q
  ·exact .inr (.inl q)
 have hr3:RepL wsC (okIn ok env (a :: os)) s₃.heap vs' ds':=hr.mono fun b o q e=>⟨⟨q.1,fun t=>by
  rcases t with t | t | t
  ·exact q.2 (.inl t)
  ·exact q.2 (.inr (.inl t))
  ·rcases cM t with t | t
   ·rw [t,ha] at e; exact aO e
   ·exact q.2 (.inr (.inr t))⟩,hs.extBut b o (fun t=>q.2 (t▸hS)) (hk' b o e)⟩
 have X3:=X2.setOwn (ds:=ds') (vs:=vs') (m:=k) hy hn aH (hs.extBut _ _ hne hl) hr3 (fun z d e hz _ t=>by
  obtain ⟨_,_,_,_,_,_,l,_⟩:=(X.grow g.keep).wal z d e hz
  rw [t,ha] at l; cases l)
 refine ⟨_,_,X3,⟨fun _ q=>cJ _ q,fun p q=>?_,fun b o e q=>st.keep b o (hk' b o (g.keep b o e)) q,fun b o e=>st.there b o (hk' b o (g.keep b o e)),st.gens.trans (hg.trans g.gens),st.os.trans (ho.trans g.os),fun z d hz e=>?_⟩,rfl⟩
 ·rcases cM q with q | q
  ·rw [q]
   cases e:s.heap.get? a with
   | none=>exact .inr rfl
   | some o=>rw [g.keep a o e] at ha; cases ha
  ·exact .inl q
 ·rw [bM] at e
  by_cases hzy:z=y
  ·right
   simp only [if_pos hzy]
   cases e':s.heap.get? a with
   | none=>rfl
   | some o=>rw [g.keep a o e'] at ha; cases ha
  ·rw [if_neg (by simpa using hzy)] at e
   left; exact ⟨⟨d,e⟩,by simp only [if_neg hzy]⟩
theorem yw {y:Str} {p:Pos} {ds:List D} {Q:Value→Shared→Prop} (X:XS wsC ok env base s.heap W ρ own os) (Se:EnvSt env sc) (hy:y∈W) (hn:bW y=true) (hρ:ρ.lookup y=some (.list ds)) (h:Q (.ref (own y)) s) :
  Wp prog w A (eval (.Name y p) env) s Q:=by
 have hd1:(y==("__debug__" : Str))=false:=by
  unfold bW at hn
  simpa using (bj hn).1
 exact wpAny_Name (jt Se.kind hn (X.wal y _ hρ hy).nv h) hd1
theorem Wc {y:Str} {p zp bp pos:Pos} {e:Expr} {ds xs:List D} {ns:List Int} (S:Sound prog w K mg wsC n r) (hA:OkA A n) (X:XS wsC ok env base s.heap W ρ own os) (Se:EnvSt env sc) (gl:Gl K mg base) (hf:Fresh ok base)
  (hy:y∈W) (hk:sc.lookup y=some .local∨sc.lookup y=some .cell) (hn:bW y=true) (hρ:ρ.lookup y=some (.list ds)) (he:r.E sc ρ e=some (.list xs)) (hns:intsOf xs=some ns) (hz:ds.length+ns.length≤sizeLine) :
  Wp prog w A (exec (.Assign [.Name y p] (.BinOp (.Name y zp) .Add e bp) pos) env) s (XRes wsC ok env base W ρ own os s .next (dD ρ y (.list (ds++ns.map .int)))):=by
 have hx:=d8 hns
 subst hx
 obtain ⟨nv,hos,ds',vs,k,hds,hl,hr⟩:=X.wal y _ hρ hy
 cases hds
 refine wpAny_Assign_Name (wpAny_BinOp (yw X Se hy hn hρ (wpAny_mono (S.E hA (X.outer Se gl hf) he) (fun v s₁ h₁=>?_) fun _ _ e=>e))) rfl
 obtain ⟨g,rv⟩:=h₁
 obtain ⟨a2,vs2,n2,rfl,o2,g2,r2⟩:=rv.list_inv
 have iv:=r2.toInts
 refine P.add_list (items:=List.toArray vs) (items2:=List.toArray vs2) (g.keep _ _ hl) g2 ?_ (by have:=hr.length; have:=r2.length; simp at *; omega)
 refine wpAny_mono (Vq (s₁:=s₁) (s₂:={ s₁ with heap:=s₁.heap.push { cls := .type "list",data := .seq (List.toArray vs++List.toArray vs2) } }) (a:=s₁.heap.objs.size) (vs':=vs++vs2) (k:=0) X Se hy hk g (fun b o e=>aQ _ e) rfl rfl (dW (Nat.le_refl _)) ?_ ((hr.keep g.keep).append (RepL.ints iv))) (fun _ _ h=>h) fun _ _ e=>e
 show Heap.get? (Heap.push _ _) _=_
 rw [bw _ rfl]; simp
theorem T9 {y:Str} {p sp pos:Pos} {i v:Expr} {ds:List D} {d:D} {k:Int} (S:Sound prog w K mg wsC n r) (hA:OkA A n) (X:XS wsC ok env base s.heap W ρ own os) (Se:EnvSt env sc) (gl:Gl K mg base) (hf:Fresh ok base)
  (hy:y∈W) (hn:bW y=true) (hc:dU v=true) (hρ:ρ.lookup y=some (.list ds)) (hv:lQ r sc W ρ v=some d) (hi:r.E sc ρ i=some (.int k)) (hk:small k=true) (hlt:k.toNat < ds.length) :
  Wp prog w A (exec (.Assign [.Subscript (.Name y p) i sp] v pos) env) s (XRes wsC ok env base W ρ own os s .next (dD ρ y (.list (ds.set k.toNat d)))):=by
 obtain ⟨nv,hos,ds',vs,m,hds,hl,hr⟩:=X.wal y _ hρ hy
 cases hds
 have hk:=cI hk
 refine wpAny_Assign_Subscript (wpAny_mono (Aj S hA X Se gl hf hv) (fun u s₁ h₁=>?_) fun _ _ e=>e) (ue hc)
 obtain ⟨g,ru⟩:=h₁
 refine yw (X.grow g.keep) Se hy hn hρ (wpAny_mono (S.E hA ((X.grow g.keep).outer Se gl hf) hi) (fun ki s₂ h₂=>?_) fun _ _ e=>e)
 obtain ⟨g₂,rk⟩:=h₂
 obtain ⟨t,rfl⟩:=rk.int_inv
 have gg:=g.trans g₂
 have hlen:=hr.length
 refine yV (gg.keep _ _ hl) hk.1 (Int.lt_trans hk.2 (by decide)) (by simp; omega) fun h₃ n₃ hl₃ hs₃=>?_
 refine yd (s₁:=s₂) (vs':=vs.set k.toNat u) (k:=n₃) X hy hρ gg (by simpa using hl₃) hs₃ rfl rfl ?_
 refine RepL.ofGet (by simp [hlen]) fun j z hz=>?_
 rw [List.getElem?_set] at hz
 rw [List.getElem?_set]
 by_cases hj:k.toNat=j
 ·subst hj
  rw [if_pos rfl] at hz ⊢
  split at hz
  ·obtain rfl:=aj hz; rw [if_pos (by omega (config:={}))]; exact ⟨d,rfl,ru.keep g₂.keep⟩
  ·cases hz
 ·rw [if_neg hj] at hz ⊢
  exact (hr.keep gg.keep).getV hz
theorem Np {y m:Str} {id:String} {p apos pos spos:Pos} {args:List Expr} {ds:List D} {Q:Flow→Shared→Prop} (slot:Slot "list" m id) (hty:typeOf (.builtin id)=pure (.type "method_descriptor")) (hk:yH (model prog w) (.builtin id) fun _=>True)
  (X:XS wsC ok env base s.heap W ρ own os) (Se:EnvSt env sc) (hy:y∈W) (hline:(apos.endLine==pos.line)=true) (hn:bW y=true) (hρ:ρ.lookup y=some (.list ds)) (hlen:args.length < 29) (hpl:(backTo pos (starEach args env)).any (·.1)=false)
  (h:Wp prog w A (evalArgs (.builtin id) true (backTo pos (starEach args env)) []) s fun a s₁=>a.kw=[]∧Wp prog w A (call (.builtin id) (.ref (own y) :: a.pos)) s₁ fun v s₂=>v=.none∧Q .next s₂) :
  Wp prog w A (exec (.Expr (.Call (.Attribute (.Name y p) m apos) args [] pos) spos) env) s Q:=by
 refine wpAny_Expr ?_ (by unfold interactive; rw [Se.kind]; rfl) rfl
 rw [arm_eval_Call,dh rfl]
 obtain ⟨nv,hos,ds',vs,k,hds,hl,hr⟩:=X.wal y _ hρ hy
 refine wpAny_bind (yw X Se hy hn hρ (wpAny_bind (wpAny_standAt ?_)))
 have hpos:methodCallPos true (.Name y p) env apos pos=pure pos:=by unfold methodCallPos; simp [hline]
 unfold methodCall
 rw [JN hlen hpl]
 refine wpAny_bind (wpAny_holding (getMethod_builtin (Heap.IsList.typeIs ⟨_,hl,rfl,_,rfl⟩) F.plainAttrs_list slot hty (fun a q=>by cases q; exact ⟨_,hl,rfl⟩) ?_))
 rw [hpos]
 show wpAny _ _ (callWith pos (.builtin id) [.ref (own y)] (backTo pos (starEach args env)) []) _ _ s
 refine callWith_of (P:=fun _=>True) (by rw [hpl]; rfl) hk (wpAny_mono h (fun a s₁ h₁=>⟨trivial,?_⟩) fun _ _ e=>e)
 rw [h₁.1]
 exact wpAny_mono h₁.2 (fun v s₂ h=>by obtain ⟨rfl,h⟩:=h; exact h) fun _ _ e=>e
theorem FN {n:Nat} {vs:Array Value} (f:Array Value→Array Value):∃ k,Obj.mapSeq f { cls := .type "list",data := .seq vs n }={ cls := .type "list",data := .seq (f vs) k }:=⟨_,rfl⟩
theorem Mr {y m:Str} {p apos pos spos:Pos} {i e:Expr} {d:D} {ds:List D} {k:Int} (S:Sound prog w K mg wsC n r) (hA:OkA A n) (X:XS wsC ok env base s.heap W ρ own os) (Se:EnvSt env sc) (gl:Gl K mg base) (hf:Fresh ok base)
  (hm:m = "insert") (hy:y∈W) (hline:(apos.endLine==pos.line)=true) (hn:bW y=true) (hρ:ρ.lookup y=some (.list ds)) (hz:ds.length≤1000) (hv:evs r sc (inR W ρ) [i,e]=some [.int k,d]) (h0:0≤k) (h1:k.toNat≤ds.length) :
  Wp prog w A (exec (.Expr (.Call (.Attribute (.Name y p) m apos) [i,e] [] pos) spos) env) s (XRes wsC ok env base W ρ own os s .next (dD ρ y (.list (ds.take k.toNat++d :: ds.drop k.toNat)))):=by
 subst hm
 refine Np F.slot_list_insert F.type_list_insert (fun _ _=>⟨.machine,.inr (.inl rfl),Looks.of_pure rfl⟩) X Se hy hline hn hρ (by show 2 < 29; decide) (vm S hv).1 ?_
 refine wpAny_mono (vR S hA (X.inner Se gl hf) hv) (fun a s₁ h₁=>?_) fun _ _ e=>e
 obtain ⟨g,hkw,hra⟩:=h₁
 obtain ⟨u1,u2,hp,r1,r2⟩:=hra.two_inv
 obtain ⟨t,rfl⟩:=r1.int_inv
 refine ⟨hkw,?_⟩
 rw [hp]
 obtain ⟨nv,hos,ds',vs,kk,hds,hl,hr⟩:=X.wal y _ hρ hy
 cases hds
 have hlen:=hr.length
 have hk3:k.toNat≤1000:=aF h1 hz
 have hks:min k.toNat (List.toArray vs).size=k.toNat:=by rw [List.size_toArray,hlen]; exact Nat.min_eq_left h1
 refine call_meets F.slot_list_insert ⟨_,g.keep _ _ hl,rfl⟩ F.entry_list_insert (F.args_list_insert_3 _ _ _) (AutoSeq1.list_insert_list_int_val_1 (own y) _ kk k t u2 (by simp [Builtin.List.listFitsIndex]; omega) (by rw [List.size_toArray,hlen]; exact aF hz (by decide))) ⟨g.keep _ _ hl,?_⟩
 obtain ⟨kn,hkn⟩:=FN (n:=kk) (vs:=List.toArray vs) fun xs:Array Value=>(xs.extract 0 (if k < 0 then (k+(xs.size:Int)).toNat else min k.toNat xs.size)).push u2++xs.extract (if k < 0 then (k+(xs.size:Int)).toNat else min k.toNat xs.size)
 refine ⟨rfl,yd (s₁:=s₁) (vs':=vs.take k.toNat++u2 :: vs.drop k.toNat) (k:=kn) X hy hρ g ?_ (Heap.SameBut.update ..) rfl rfl (((hr.keep g.keep).take _).append (.cons r2 ((hr.keep g.keep).drop _)))⟩
 refine (Heap.get?_update_self _ (g.keep _ _ hl) (by rw [hkn]; rfl)).trans ?_
 rw [hkn,if_neg (Int.not_lt.mpr h0),hks,kl_ins_eq]
noncomputable def Jr (prog:Program) (w:World) (K:Frag) (mg:Str→Option Value) (wsC:Fix) (n:Nat) (r:R):Prop :=
 ∀ elt gens scope cpos sc ρ d,r.E sc ρ (.ListComp elt gens scope cpos)=some d→∃ r':R,Sound prog w K mg wsC n r'∧Fx r' sc ρ elt gens scope=some d
theorem uD (C:CtxOk prog w K mg wsC n G):∀ k,Jr prog w K mg wsC n (cP G k):=by
 intro k
 induction k with
 | zero =>
   exact fun _ _ _ _ _ _ _ h=>nomatch h
 | succ k ih =>
   exact fun elt gens scope cpos sc ρ d h=>⟨cP G k,jD C k,h⟩
theorem uH {o:Option D} {ds:List D} (h:Hq o=some ds):o=some (.list ds):=by
 obtain ⟨d,rfl,h⟩:=aa h
 obtain rfl:=Df h
 rfl
section
variable {st:Stmt} {p:Fl × aJ} {y:Str} {y' py pos apos spos:Pos} {v l e t iter f:Expr} {body:List Stmt} {x:Stmt→aJ→Option (Fl × aJ)}
theorem TQ (S:Sound prog w K mg wsC n r) (hA:OkA A n) (Se:EnvSt env sc) (gl:Gl K mg base) (hf:Fresh ok base) (X:XS wsC ok env base s.heap W ρ own os) (hW:W.contains y=true) (h:Um r sc ρ y v=some p) :
  Wp prog w A (exec (.Assign [.Name y py] v pos) env) s (XRes wsC ok env base W ρ own os s p.1 p.2):=by
 refine R4 (fun es lp q h1=>?_) h fun h2=>VV (fun l op e bp q h1=>?_) h2 aO
 ·clear h; subst q
  induction es using List.casesOn with
  | nil =>
   obtain ⟨_,hg,h⟩:=aa h1
   obtain rfl:=aj h
   exact Jm X Se (by simpa using hW) (by simpa [pK] using (ak hg).1)
  | cons _ _=>exact aO h1
 ·clear h h2; subst q
  have ha:op=.Add∧extX r sc ρ y l e=some p:=by
   induction op using Operator.casesOn with
   | Add=>exact ⟨rfl,h1⟩
   | _=>exact aO h1
  clear h1
  obtain ⟨rfl,h⟩:=ha
  refine dY (fun z zp q h1=>?_) h aO
  clear h; subst q
  obtain ⟨_,hg,h⟩:=aa h1
  obtain ⟨hg,g3⟩:=bj (ak hg).1
  obtain ⟨g1,g2⟩:=bj hg
  have g2:=eq_of_beq g2
  subst g2
  obtain ⟨ds,hρ,h⟩:=aa h
  obtain ⟨d,hd,h⟩:=aa h
  obtain ⟨m,hm,h⟩:=aa h
  obtain rfl:=aj h
  obtain ⟨xs,hxs,h3⟩:=aa hm
  clear hm
  obtain rfl:=Df hxs
  obtain ⟨ns,hns,hm⟩:=aa h3
  obtain ⟨_,hz,hm⟩:=aa hm
  obtain rfl:=aj hm
  exact Wc S hA X Se gl hf (by simpa using hW) (by simpa [pK] using g1) g3 (uH hρ) hd hns (cI (ak hz).1)
theorem MF {v:Expr}:uf v=true→∃ a b c d,v=.ListComp a b c d:=by
 induction v using Expr.casesOn with
 | ListComp a b c d=>exact fun _=>⟨a,b,c,d,rfl⟩
 | _=>exact dM
theorem VF (S:Sound prog w K mg wsC n r) (CR:Jr prog w K mg wsC n r) (hA:OkA A n) (Se:EnvSt env sc) (gl:Gl K mg base) (hf:Fresh ok base) (X:XS wsC ok env base s.heap W ρ own os) (h:asgX r sc W ρ t v=some p) :
  Wp prog w A (exec (.Assign [t] v pos) env) s (XRes wsC ok env base W ρ own os s p.1 p.2):=by
 refine dY (fun y yp q h1=>?_) h fun h2=>Af (fun ts k tp q h1=>?_) h2 fun h3=>Uu (fun o i sp q h1=>?_) h3 aO
 ·clear h; subst q
  by_cases hW:W.contains y=true
  ·rw [if_pos hW] at h1
   exact TQ S hA Se gl hf X hW h1
  ·rw [if_neg hW] at h1
   obtain ⟨_,hg,h⟩:=aa h1
   obtain ⟨hs,hc⟩:=bj (ak hg).1
   obtain ⟨d,hd,h⟩:=aa h
   obtain rfl:=aj h
   rcases Bool.or_eq_true_iff.mp hc with hc | hc
   ·exact tU S hA X Se gl hf hs (ue hc) hd
   ·obtain ⟨elt,gens,scope,cpos,rfl⟩:=MF hc
    obtain ⟨b,hb⟩:=Hh (env:=env) (elt:=elt) (gens:=gens) (scope:=scope) (cpos:=cpos) (y:=y) (p:=yp) (k:=pos.line)
    induction b using Bool.casesOn with
    | false=>exact tU S hA X Se gl hf hs hb hd
    | true=>exact Ge S (fun sc ρ d q=>CR elt gens scope cpos sc ρ d q) hA X Se gl hf hs hb hd
 ·clear h h2; subst q
  obtain ⟨_,hg,h⟩:=aa h1
  obtain ⟨z1,z2⟩:=bj (ak hg).1
  obtain ⟨d,hd,h⟩:=aa h
  obtain ⟨ρ',hb,rfl⟩:=bA h
  exact assign_tuple S hA X Se gl hf z1 z2 hd hb
 ·clear h h2 h3; subst q
  refine dY (fun y yp q h=>?_) h1 aO
  clear h1; subst q
  obtain ⟨_,hg,h⟩:=aa h
  obtain ⟨hg,g3⟩:=bj (ak hg).1
  obtain ⟨g1,g2⟩:=bj hg
  obtain ⟨ds,hρ,h⟩:=aa h
  obtain ⟨d,hd,h⟩:=aa h
  obtain ⟨j,hk,h⟩:=aa h
  obtain ⟨k,hj,h1⟩:=aa h
  clear h
  obtain rfl:=ir hj
  obtain ⟨_,hz,h⟩:=aa h1
  obtain rfl:=aj h
  obtain ⟨z1,z2⟩:=bj (ak hz).1
  exact T9 S hA X Se gl hf (by simpa using g1) g2 g3 (uH hρ) hd hk z1 (cI z2)
theorem Bc {i e:Expr} {ds ds':List D} (h:tE r sc W ρ i e ds=some ds'):∃ k d,evs r sc (inR W ρ) [i,e]=some [.int k,d]∧0≤k∧k.toNat≤ds.length∧ds.length≤1000∧ds'=ds.take k.toNat++d :: ds.drop k.toNat:=by
 obtain ⟨vs,hv,h⟩:=aa h
 obtain ⟨k,hk,h⟩:=aa h
 obtain ⟨d,hd,h⟩:=aa h
 obtain ⟨hg,rfl⟩:=ak h
 obtain ⟨a,ha,h1⟩:=aa (show (r.E sc (inR W ρ) i).bind (fun a=>((r.E sc (inR W ρ) e).bind fun b=>(some []).map (b :: ·)).map (a :: ·))=some vs from hv)
 obtain ⟨b,hb,rfl⟩:=bA h1
 obtain ⟨c,hc,hb⟩:=aa hb
 obtain rfl:=aj hb
 obtain rfl:=ir (show Gr a=some k from hk)
 obtain rfl:c=d:=aj hd
 obtain ⟨hg,g3⟩:=bj hg
 obtain ⟨g1,g2⟩:=bj hg
 exact ⟨k,c,hv,cI g1,cI g2,cI g3,rfl⟩
theorem YM {α:Type} {args:List Expr} {g:Expr→Expr→Option α} {a:α} (h:on2 args g none=some a):∃ i e,args=[i,e]∧g i e=some a:=by
 induction args using List.casesOn with
 | nil=>exact aO h
 | cons i as =>
  induction as using List.casesOn with
  | nil=>exact aO h
  | cons e as =>
   induction as using List.casesOn with
   | nil=>exact ⟨_,_,rfl,h⟩
   | cons _ _=>exact aO h
theorem Wo (S:Sound prog w K mg wsC n r) (hA:OkA A n) (hzip:mg "zip" = none) (Se:EnvSt env sc) (gl:Gl K mg base) (hf:Fresh ok base) (SX:qZ prog w A wsC ok env base W x) (X:XS wsC ok env base s.heap W ρ own os) (h:forX r sc W x t iter body ρ=some p) :
  Wp prog w A (exec (.For t iter body [] pos) env) s (XRes wsC ok env base W ρ own os s p.1 p.2):=by
 refine dY (fun y yp q h1=>?_) h aO
 clear h; subst q
 obtain ⟨items,hi,h⟩:=aa h1
 obtain ⟨src,hsrc,hi⟩:=aa hi
 refine wpAny_For (wpAny_mono (S.E hA (X.inner Se gl hf) hsrc) (fun v s₁ h₁=>wpAny_mono (jy hA.h h₁.2 hi) (fun itv s₂ h₂=>?_) fun _ _ e=>e) fun _ _ e=>e) (Cp S hsrc)
 obtain ⟨g₂,I,fp,wr,P,Stt,rfl,it⟩:=h₂
 exact N5 SX hA.h Se (X.grow h₁.1.keep) g₂ it h fun f s' h'=>h'.from (.grow h₁.1)
theorem QZ (S:Sound prog w K mg wsC n r) (hA:OkA A n) (Se:EnvSt env sc) (gl:Gl K mg base) (hf:Fresh ok base) (X:XS wsC ok env base s.heap W ρ own os) (h:Xp r sc W ρ e=some p) :
  Wp prog w A (exec (.Expr e pos) env) s (XRes wsC ok env base W ρ own os s p.1 p.2):=by
 refine RG (fun f args kws cp q h1=>?_) h aO
 clear h; subst q
 induction kws using List.casesOn with
 | cons _ _=>exact aO h1
 | nil =>
  refine DY (fun o m ap q h2=>dY (fun y yp q2 h=>?_) h2 aO) h1 aO
  clear h1 h2; subst q q2
  obtain ⟨i,e,rfl,h⟩:=YM h
  obtain ⟨_,hg,h⟩:=aa h
  obtain ⟨hg,hn⟩:=bj (ak hg).1
  obtain ⟨hg,hl⟩:=bj hg
  obtain ⟨hm,hW⟩:=bj hg
  obtain ⟨ds,hρ,h⟩:=aa h
  obtain ⟨ds',ho,h⟩:=aa h
  obtain rfl:=aj h
  obtain ⟨k,d,hv,h0,h1,hz,rfl⟩:=Bc ho
  exact Mr S hA X Se gl hf (by simpa using hm) (by simpa using hW) hl hn (uH hρ) hz hv h0 h1
end
theorem Sg {x:Stmt→aJ→Option (Fl × aJ)} (S:Sound prog w K mg wsC n r) (CR:Jr prog w K mg wsC n r) (hA:OkA A n) (hzip:mg "zip" = none) (Se:EnvSt env sc) (gl:Gl K mg base) (hf:Fresh ok base)
  (SX:qZ prog w A wsC ok env base W x):qZ prog w A wsC ok env base W (Yb r sc W x):=by
 intro s ρ own os st p X h
 induction st using Stmt.casesOn with
 | Assign ts v pos =>
  induction ts using List.casesOn with
  | nil=>exact aO h
  | cons t ts =>
   induction ts using List.casesOn with
   | nil=>exact VF S CR hA Se gl hf X h
   | cons _ _=>exact aO h
 | If t b o pos =>
  obtain ⟨c,hc,h⟩:=aa h
  refine wpAny_If (wpAny_mono (S.T hA (X.outer Se gl hf) hc) (fun b s₁ h₁=>?_) fun _ _ e=>e)
  obtain ⟨g,rfl⟩:=h₁
  induction b using Bool.casesOn with
  | true=>exact wpAny_mono (vG SX (X.grow g.keep) h) (fun f s' h'=>h'.from (.grow g)) fun _ _ e=>e
  | false=>exact wpAny_mono (vG SX (X.grow g.keep) h) (fun f s' h'=>h'.from (.grow g)) fun _ _ e=>e
 | For t iter body els pos =>
  induction els using List.casesOn with
  | nil=>exact Wo S hA hzip Se gl hf SX X h
  | cons _ _=>exact aO h
 | Return e pos =>
  induction e using Option.casesOn with
  | none=>exact aO h
  | some e =>
   obtain ⟨d,hd,h⟩:=aa h
   obtain rfl:=aj h
   refine wpAny_Return_some (wpAny_mono (S.E hA (X.outer Se gl hf) hd) (fun v s₁ h₁=>?_) fun _ _ e=>e)
   exact ⟨own,os,X.grow h₁.1.keep,.grow h₁.1,v,rfl,h₁.2⟩
 | Break pos =>
  obtain rfl:=aj h
  exact wpAny_Break ⟨own,os,X,.refl _,rfl⟩
 | Expr e pos=>exact QZ S hA Se gl hf X h
 | _=>exact aO h
theorem o6 (S:Sound prog w K mg wsC n r) (CR:Jr prog w K mg wsC n r) (hA:OkA A n) (hzip:mg "zip" = none) (Se:EnvSt env sc) (gl:Gl K mg base) (hf:Fresh ok base):∀ k,qZ prog w A wsC ok env base W (wC r sc W k):=by
 intro k
 induction k with
 | zero =>
   exact fun _ h=>nomatch h
 | succ k ih =>
   exact Sg S CR hA hzip Se gl hf (ih)
end
section
variable {prog:Program} {w:World} {A:Around} {s:Shared} {wsC:Fix} {ok:AP} {K:Frag} {mg:Str→Option Value} {G:Ctx} {n:Nat} {W:List Str} {h:Heap}
theorem Dz {ko:Str→Option NameKind} {x:Str} {b:List (Str × Value)}:∀ (m:Str→Option Value),(∀ p∈b,p.1≠x)→bindL ko b m x=m x:=by
 induction b with
 | nil=>intro m _; rfl
 | cons p r ih =>
  intro m hx
  refine (ih _ fun p hp=>hx p (cJ _ hp)).trans ?_
  have hn:x≠p.1:=fun q=>hx p aH q.symm
  by_cases hk:ko p.1=some .local
  ·rw [if_pos hk,if_neg hn]
  ·rw [if_neg hk]
theorem Eu {ko:Str→Option NameKind} {x:Str} {b:List (Str × Value)}:∀ (m:Str→Option Value),(∀ p∈b,p.1≠x)→bindC ko b m x=m x:=by
 induction b with
 | nil=>intro m _; rfl
 | cons p r ih =>
  intro m hx
  refine (ih _ fun p hp=>hx p (cJ _ hp)).trans ?_
  have hn:x≠p.1:=fun q=>hx p aH q.symm
  by_cases hk:ko p.1=some .local
  ·rw [if_pos hk]
  ·rw [if_neg hk,if_neg hn]
theorem LC {ko:Str→Option NameKind} {x:Str} {d:D} {pn:List Str}:∀ {vs:List Value} {ds:List D} (m cm:Str→Option Value),pn.Nodup→RepL wsC ok h vs ds→(pn.zip ds).lookup x=some d →
  ∃ v,Rep wsC ok h v d∧(ko x=some .local→bindL ko (pn.zip vs) m x=some v)∧(ko x≠some .local→bindC ko (pn.zip vs) cm x=some v):=by
 induction pn with
 | nil=>intro _ _ _ _ _ _ e; exact aO e
 | cons y pn ih =>
  intro vs ds m cm hn r e
  induction ds using List.casesOn with
  | nil=>exact aO e
  | cons d' ds =>
   obtain ⟨v,vs,rfl,a,r1⟩:=r.cons_inv
   have hn:=List.nodup_cons.mp hn
   rw [List.zip_cons_cons,List.lookup_cons] at e
   by_cases hx:x=y
   ·subst hx
    rw [beq_self_eq_true] at e
    obtain rfl:=aj e
    have hni:∀ p∈pn.zip vs,p.1≠x:=fun p hp q=>hn.1 (q▸(List.of_mem_zip hp).1)
    refine ⟨v,a,fun hl=>?_,fun hl=>?_⟩
    ·refine (Dz _ hni).trans ?_
     rw [if_pos hl,if_pos rfl]
    ·refine (Eu _ hni).trans ?_
     rw [if_neg hl,if_pos rfl]
   ·rw [beq_eq_false_iff_ne.mpr hx] at e
    exact ih _ _ hn.2 r1 e
structure FnData (K:Frag) (a:Addr) (fd:FuncData) (pn:List Str) (body:List Stmt):Prop where
 look:∃ o,K.lookup a=some o∧o.data=.func fd
 body:fd.body=.stmts body
 glob:fd.globals=mainGlobals
 bi:fd.builtins=builtinsNs
 clo:fd.closure=[]
 code:codeIn K fd.code fd.qualname=true
 kind:fd.scope.kind=.function
 co:fd.scope.isCoroutine=false
 gen:fd.scope.isGenerator=false
 free:∀ n,fd.scope.names.lookup n≠some .free
 pnk:∀ x∈pn,fd.scope.names.lookup x=some .local∨fd.scope.names.lookup x=some .cell
 nodup:pn.Nodup
 bind:∀ vs:List Value,vs.length=pn.length→bindArgs fd ⟨vs,[]⟩=pure (pn.zip vs)
theorem Mq {o:Option (Fl × aJ)} {d:D} (h:resD o=some d):∃ p,o=some p∧p.1=.ret d:=by
 induction o using Option.casesOn with
 | none=>exact aO h
 | some p =>
  obtain ⟨fl,ρ⟩:=p
  induction fl using Fl.casesOn with
  | ret e=>obtain rfl:=aj h; exact ⟨_,rfl,rfl⟩
  | _=>exact aO h
noncomputable def Xu (prog:Program) (w:World) (K:Frag) (mg:Str→Option Value) (wsC:Fix) (n:Nat) (sc:Sc) (W:List Str) (body:List Stmt) (run:aJ→Option D):Prop :=
 ∀ {A:Around} {ok:AP} {env:Env} {base:Heap} {s:Shared} {ρ:aJ} {own:Str→Addr} {os:List Addr} {e:D},OkA A n→EnvSt env sc→Gl K mg base→Fresh ok base→XS wsC ok env base s.heap W ρ own os→run ρ=some e →
  Wp prog w A (execs body env) s fun f s'=>∃ v,f=.ret v∧(∀ b o,base.get? b=some o→s'.heap.get? b=some o)∧gd s'=gd s∧s'.os=s.os∧Rep wsC ok s'.heap v e
theorem JS {sc:Sc} {body:List Stmt} {ke kx:Nat} (C:CtxOk prog w K mg wsC n G):Xu prog w K mg wsC n sc W body (Ou G ke kx sc W body):=fun hA Se gl hf X h=>by
 obtain ⟨⟨fl,ρ'⟩,hx,h⟩:=Mq h
 obtain rfl:=h
 refine wpAny_mono (vG (o6 (jD C ke) (uD C ke) hA C.zip Se gl hf kx) X hx) (fun f s' h'=>?_) fun _ _ e=>e.elim
 obtain ⟨own',os',X',st,v,hfl,hv⟩:=h'
 exact ⟨v,hfl,X'.keep,st.gens,st.os,hv⟩
theorem XS.freeze {ok:AP} {env:Env} {base h:Heap} {ρ:aJ} {own:Str→Addr} {os:List Addr} (X:XS wsC ok env base h W ρ own os) (hf:Fresh ok base):XS wsC ok env base h [] ρ own []:=by
 have sub:∀ b,vO env [] b→vO env os b:=fun b q=>q.imp id fun q=>q.imp id fun q=>nomatch q
 refine ⟨X.keep,fun b q=>X.new b (sub b q),fun b q=>X.here b (sub b q),X.loc,X.cell,(fun _ q=>nomatch q),fun x d hx _=>?_,(fun x d _ q=>nomatch q),(fun x y d e _ _ q=>nomatch q)⟩
 by_cases hw:x∈W
 ·obtain ⟨nv,b,ds,vs,n,rfl,l,f⟩:=X.wal x d hx hw
  refine ⟨_,nv,.list ⟨hf _ (X.new _ (.inr (.inr b))),fun q=>?_⟩ l (f.weak fun b o _ q=>⟨q.1,fun t=>q.2 (sub b t)⟩)⟩
  rcases q with q | ⟨y,q⟩ | q
  ·exact (X.osep _ b).1 q
  ·exact (X.osep _ b).2 y q
  ·exact nomatch q
 ·obtain ⟨v,nv,hr⟩:=X.val x d hx hw
  exact ⟨v,nv,hr.weak fun b o _ q=>⟨q.1,fun t=>q.2 (sub b t)⟩⟩
theorem zA {env:Env} {b2:List Stmt} {b1:List Stmt}:execs (b1++b2) env=(execs b1 env >>= fun f=>match f with | .next=>execs b2 env | f=>pure f):=by
 induction b1 with
 | nil=>show execs b2 env=(pure Flow.next >>= _); rw [pure_bind]
 | cons st b1 ih =>
  rw [List.cons_append,execs_cons,execs_cons,bind_assoc]
  congr 1; funext f
  cases f <;> first | exact ih | rw [pure_bind]
theorem Ra {a:Addr} {fd:FuncData} {pn:List Str} {body:List Stmt} {vs:List Value} {ds:List D} {Q:Value→Shared→Prop} (D:FnData K a fd pn body) (hW:∀ x∈pn,x ∉ W) (hA:OkA A (n+1)) (gl:Gl K mg s.heap) (hf:Fresh ok s.heap) (hr:RepL wsC ok s.heap vs ds) (hlen:ds.length=pn.length)
  (hrun:∀ {env:Env} {s₁:Shared} {own:Str→Addr},EnvSt env fd.scope.names→env.code=fd.code→env.locals=s.heap.objs.size→XS wsC ok env s.heap s₁.heap W (pn.zip ds) own []→gd s₁=gd s→s₁.os=s.os→OkA (A.deeper env) n→Wp prog w (A.deeper env) (execs body env) s₁ fun f s'=>∃ v,f=.ret v∧Q v s') :
  Wp prog w A (call (.ref a) vs) s Q:=by
 obtain ⟨o,ho,hd⟩:=D.look
 have hvs:vs.length=pn.length:=hr.length.trans hlen
 have hcells:∀ x,fd.scope.names.lookup x=some .cell→((cellsFrom (s.heap.objs.size+1) fd.scope.names []).lookup x).isSome=true:=fun x hx=>cellsFrom_some _ _ _ (.inl hx)
 refine wpAny_call (codeAny_call_cells (fd:=fd) hA.room (gl.X _ _ ho) hd gl.nl (codeRec_of gl.X D.code) D.body (D.bind vs hvs) D.clo (fun x hx=>?_) (fun s₁ X=>?_) D.co D.gen D.kind)
 ·have:=D.pnk x.1 (List.of_mem_zip hx).1
  exact this.imp id fun q=>⟨q,hcells _ q⟩
 obtain ⟨h₁,tk,hs₁,_⟩:=X.done
 have hkeep:∀ b o,s.heap.get? b=some o→s₁.heap.get? b=some o:=X.toInCall.keep
 generalize hE:callEnvC fd s.heap.objs.size a=env at *
 have hL:env.locals=s.heap.objs.size:=by rw [← hE]; rfl
 have hcl:env.cells=cellsFrom (s.heap.objs.size+1) fd.scope.names []:=by rw [← hE]; rfl
 have hnone:∀ b,s.heap.objs.size≤b→s.heap.get? b=none:=fun b hb=>dW hb
 have Se:EnvSt env fd.scope.names:=by
  refine ⟨by rw [← hE]; rfl,by rw [← hE]; exact D.kind,by rw [← hE]; exact D.glob,by rw [← hE]; exact D.bi,fun n q=>?_,fun x y c hx hy=>name_of_addr X.apart (mem_of_lookup hx) (mem_of_lookup hy),fun x q=>?_⟩
  ·rcases q with q | q
   ·rw [hcl]; exact Option.isSome_iff_exists.mp (hcells n q)
   ·exact absurd q (D.free n)
  ·exact Nat.lt_irrefl _ (X.above x _ (mem_of_lookup q))
 have X0:XS wsC ok env s.heap s₁.heap W (pn.zip ds) (fun _=>0) []:=by
  refine ⟨hkeep,fun b q=>?_,fun b q=>?_,⟨_,X.toInCall.ns⟩,fun x c q=>⟨_,X.cell x c q⟩,(fun _ q=>nomatch q),fun x d hx _=>?_,fun x d hx hw=>?_,fun x y d e hx hy hw=>?_⟩
  ·rcases q with q | ⟨x,q⟩ | q
   ·rw [q,hL]; exact hnone _ (Nat.le_refl _)
   ·have:=X.above x b (mem_of_lookup q); rw [hL] at this; exact hnone _ (Nat.le_of_lt this)
   ·cases q
  ·rcases q with q | ⟨x,q⟩ | q
   ·obtain ⟨o,_,_,e,_⟩:=X.toInCall.ns; rw [q]; exact ⟨o,e⟩
   ·obtain ⟨o,e,_⟩:=X.cell x b q; exact ⟨o,e⟩
   ·cases q
  ·obtain ⟨v,rv,v1,v2⟩:=LC (ko:=env.kindOf) (fun _=>none) (fun _=>none) D.nodup hr hx
   have hko:env.kindOf x=fd.scope.names.lookup x:=by rw [← hE]; rfl
   refine ⟨v,?_,rv.mono fun b o p e=>⟨⟨p,fun q=>?_⟩,hkeep b o e⟩⟩
   ·have hmem:x∈pn:=by
     have:=mem_of_lookup hx
     exact (List.of_mem_zip this).1
    rcases D.pnk x hmem with q | q
    ·exact .inl ⟨hko.trans q,_,X.toInCall.ns,v1 (hko.trans q)⟩
    ·obtain ⟨c,hc⟩:=Option.isSome_iff_exists.mp (hcells x q)
     rw [← hcl] at hc
     have:=X.cell x c hc
     rw [v2 (by rw [hko,q]; intro t; cases t)] at this
     exact .inr ⟨.inl (hko.trans q),c,hc,this⟩
   ·rcases q with q | ⟨x,q⟩ | q
    ·rw [q,hL,hnone _ (Nat.le_refl _)] at e; exact aO e
    ·have:=X.above x b (mem_of_lookup q); rw [hL] at this; rw [hnone _ (Nat.le_of_lt this)] at e; exact aO e
    ·cases q
  ·exact absurd hw (hW x (List.of_mem_zip (mem_of_lookup hx)).1)
  ·exact absurd hw (hW x (List.of_mem_zip (mem_of_lookup hx)).1)
 refine wpAny_mono (hrun Se (by rw [← hE]; rfl) hL X0 ?_ ?_ (hA.deeper env)) (fun f s' h'=>?_) fun _ _ e=>e.elim
 ·rw [hs₁]
 ·rw [hs₁]
 ·obtain ⟨v,rfl,hq⟩:=h'
  exact hq
theorem fn_ok {a:Addr} {fd:FuncData} {pn:List Str} {body:List Stmt} {run:aJ→Option D} (D:FnData K a fd pn body) (hW:∀ x∈pn,x ∉ W) (hrun:Xu prog w K mg wsC n fd.scope.names W body run) :
  Ov prog w K mg wsC (n+1) (.ref a) (runF pn run):=by
 intro A s ok vs ds d hA gl hf hr h
 obtain ⟨_,hlen,h⟩:=aa h
 refine Ra D hW hA gl hf hr (cI (ak hlen).1) fun Se _ _ X0 hg0 ho0 hA'=>?_
 refine wpAny_mono (hrun hA' Se gl hf X0 h) (fun f s' h'=>?_) fun _ _ e=>e.elim
 obtain ⟨v,rfl,kp,hg,ho,hv⟩:=h'
 exact ⟨v,rfl,⟨kp,hg.trans hg0,ho.trans ho0⟩,hv⟩
end
section
variable {prog:Program} {w:World} {A:Around} {s:Shared} {K:Frag} {C x dx:Addr} {ox:Obj} {es:List DictEntry} {n:Nat} {name:Str} {v:Value}
theorem set_same {Q:Unit→Shared→Prop} (X:K.In s.heap) (I:InstAt s.heap x ox C (some (dictOf es n))) (hdx:ox.dict=some dx) (hD:s.heap.get? dx=some (dictOf es n))
  (hs:findIn K (.ref C) "__setattr__" = some (some (.builtin "object.__setattr__"))) (hp:plainOver K C=true) (ht:takerIn K C name=some none) (hh:hasDictIn K C=true) (hl:(getL name es).isSome=true) (hz:es.length≤900)
  (h:∀ h',h'.get? dx=some (dictOf (putL name (PyData.keyHash w.params name) (.str name (s.toks+1)) v es) (putN name es n))→Heap.SameBut dx s.heap h'→Q () { s with heap:=h',toks:=s.toks+2 }) :
  Wp prog w A (setAttr (.ref x) name v) s Q:=by
 refine set_plain X I hs ?_
 refine osa_open (s:={ s with toks:=s.toks+1 }) X I hp ht fun b=>?_
 obtain ⟨cd,hc,hd'⟩:=any_some hh
 obtain ⟨hx,hcl,hn,-⟩:=I
 obtain ⟨oc,odi,oda,osl⟩:=ox
 dsimp only at hcl hdx
 subst hcl hdx
 have hupd:Obj.putName name (PyData.keyHash w.params name) (.str name (s.toks+1)) v (dictOf es n)=dictOf (putL name (PyData.keyHash w.params name) (.str name (s.toks+1)) v es) (putN name es n):=putName_dict ..
 have hlen:(putL name (PyData.keyHash w.params name) (.str name (s.toks+1)) v es).length≤1000:=by
  have:∀ (l:List DictEntry) (k:Value),(putL name (PyData.keyHash w.params name) k v l).length≤l.length+1:=fun l k=>by
   induction l with
   | nil=>simp [putL]
   | cons e r ih=>unfold putL; split <;> simp <;> omega (config:={})
  have:=this es (.str name (s.toks+1))
  omega
 have hget:(s.heap.update dx (Obj.putName name (PyData.keyHash w.params name) (.str name (s.toks+1)) v)).get? dx=some (dictOf (putL name (PyData.keyHash w.params name) (.str name (s.toks+1)) v es) (putN name es n)):=by
  rw [Heap.get?_update_self _ hD (by rw [hupd]; rfl),hupd]
 refine wpAny_bind (wpAny_pure (wpAny_bind (wpAny_bind (wpAny_loadPart hx (wpAny_bind ((looks_clsIn X hc) _ _ _ _ (fun _ _ e=>e) ?_))))))
 rw [hd']
 refine wpAny_pure (a:=some dx) (wpAny_bind (wpAny_pure (wpAny_bind ?_)))
 unfold nsSet
 refine wpAny_bind (wpAny_bind (wpAny_askSetting (wpAny_pure (wpAny_bind (wpAny_mkText (wpAny_bind (wpAny_loadPart hD ?_)))))))
 show wpAny _ _ _ _ _ _
 have c:(!es.toArray.any (·.key.isStr name)&&es.toArray.any (·.refKey))=false:=by
  rw [List.any_toArray,List.any_toArray]
  unfold getL at hl
  split at hl
  ·rename_i en he
   rw [List.any_eq_true.mpr ⟨en,List.mem_of_find?_eq_some he,List.find?_some he⟩]; rfl
  ·split at hl
   ·exact dM hl
   ·rename_i z; rw [Bool.not_eq_true] at z; rw [z,Bool.and_false]
 unfold dictOf at hD ⊢
 dsimp only
 rw [aRefKeyMayBeTheName_at,c]
 refine wpAny_updatePart hD ?_
 refine wpAny_bind (wpAny_lookBehind hget (pastItsLine_dict (by rw [List.size_toArray,sizeLine_eq]; exact aF hlen (by decide))) ?_)
 exact wpAny_pure (h _ hget (Heap.SameBut.update ..))
end
structure WsOk (K:Frag) (F:Fix) (mg:Str→Option Value) (fI:Addr) (fd:FuncData) (body:List Stmt):Prop where
 mks:makesIn K F.ws=true
 init:findIn K (.ref F.ws) "__init__" = some (some (.ref fI))
 typ:typeIn K (.ref fI)=some (.type "function")
 sa:findIn K (.ref F.ws) "__setattr__" = some (some (.builtin "object.__setattr__"))
 po:plainOver K F.ws=true
 tk:∀ a∈attrNames,takerIn K F.ws a=some none
 rd:∃ mc,readsIn K F.ws mc=true∧∃ t1 t2,findCls K (.ref F.ws) mc "S" = some (.val (.str " " t1))∧findCls K (.ref F.ws) mc "T" = some (.val (.str "\t" t2))
 glob:mg "Whitespace" = some (.ref F.ws)
 data:FnData K fI fd ["self","ws"] body
structure WI (wsC:Fix) (ok:AP) (env:Env) (base:Heap) (W:List Str) (ρ:aJ) (own:Str→Addr) (os:List Addr) (xo dx:Addr) (es:List DictEntry) (n:Nat) (h:Heap):Prop where
 xs:XS wsC ok env base h W ρ own os
 self:List.lookup ("self" : Str) ρ=some (D.obj xo)
 xin:xo∈os
 din:dx∈os
 ox:h.get? xo=some (instObj wsC.ws dx)
 od:h.get? dx=some (dictOf es n)
section
variable {prog:Program} {w:World} {A:Around} {s:Shared} {wsC:Fix} {ok:AP} {K:Frag} {mg:Str→Option Value} {G:Ctx} {env:Env} {sc:Sc} {ρ:aJ} {n:Nat} {r:R} {W:List Str} {own:Str→Addr} {os:List Addr} {base h h':Heap}
variable {xo dx:Addr} {es:List DictEntry} {m:Nat}
theorem WI.inst (X:WI wsC ok env base W ρ own os xo dx es m h):InstAt h xo (instObj wsC.ws dx) wsC.ws (some (dictOf es m)):=⟨X.ox,rfl,rfl,X.od⟩
theorem WI.grow (X:WI wsC ok env base W ρ own os xo dx es m h) (hk:∀ b o,h.get? b=some o→h'.get? b=some o):WI wsC ok env base W ρ own os xo dx es m h':=⟨X.xs.grow hk,X.self,X.xin,X.din,hk _ _ X.ox,hk _ _ X.od⟩
theorem WI.outer (X:WI wsC ok env base W ρ own os xo dx es m h) (S:EnvSt env sc) (gl:Gl K mg base) (hf:Fresh ok base):StA K mg wsC (fun b=>ok b∧b≠dx) env h sc ρ :=
 ⟨gl.keep X.xs.keep,fun a ha=>⟨X.xs.fresh hf a ha,fun q=>by rw [q,X.od] at ha; cases ha⟩,S.names,S.kind,S.glob,S.bi,S.cells,fun x d e=>by
  by_cases hx:x∈W
  ·obtain ⟨a,b,ds,vs,n,rfl,c,f⟩:=X.xs.wal x d e hx
   refine ⟨_,a,.list ⟨hf _ (X.xs.new _ (.inr (.inr b))),fun q=>?_⟩ c (f.weak fun b o _ q=>⟨q.1,fun t=>q.2 (.inr (.inr (t▸X.din)))⟩)⟩
   rw [q,X.od] at c; simp [dictOf] at c
  ·obtain ⟨v,a,b⟩:=X.xs.val x d e hx
   exact ⟨v,a,b.weak fun b o _ q=>⟨q.1,fun t=>q.2 (.inr (.inr (t▸X.din)))⟩⟩⟩
theorem WI.notOwn (X:WI wsC ok env base W ρ own os xo dx es m h):∀ z d,ρ.lookup z=some d→z∈W→own z≠dx∧own z≠xo:=fun z d e hz=>by
 obtain ⟨_,_,_,_,_,_,l,_⟩:=X.xs.wal z d e hz
 exact ⟨(fun q=>by rw [q,X.od] at l; simp [dictOf] at l),(fun q=>by rw [q,X.ox] at l; simp [instObj] at l)⟩
theorem WI.step {ρ':aJ} {own':Str→Addr} {os':List Addr} {s s':Shared} (X:WI wsC ok env base W ρ own os xo dx es m s.heap) (X':XS wsC ok env base s'.heap W ρ' own' os') (st:Step env W ρ own os s ρ' own' os' s') (hs:List.lookup ("self" : Str) ρ'=some (D.obj xo)) :
  WI wsC ok env base W ρ' own' os' xo dx es m s'.heap:=by
 have sx:=X.xs.osep _ X.xin
 have sd:=X.xs.osep _ X.din
 refine ⟨X',hs,st.up _ X.xin,st.up _ X.din,st.keep _ _ X.ox fun t=>?_,st.keep _ _ X.od fun t=>?_⟩
 ·rcases t with t | ⟨z,t⟩ | ⟨z,d,hz,hd,t⟩
  ·exact sx.1 t
  ·exact sx.2 z t
  ·exact (X.notOwn z d hd hz).2 t
 ·rcases t with t | ⟨z,t⟩ | ⟨z,d,hz,hd,t⟩
  ·exact sd.1 t
  ·exact sd.2 z t
  ·exact (X.notOwn z d hd hz).1 t
theorem Ah {p:Pos} {Q:Value→Shared→Prop} (X:WI wsC ok env base W ρ own os xo dx es m s.heap) (Se:EnvSt env sc) (hW:("self" : Str) ∉ W) (h:Q (.ref xo) s):Wp prog w A (eval (.Name "self" p) env) s Q:=by
 obtain ⟨v,hv,rv⟩:=X.xs.val _ _ X.self hW
 obtain rfl:=rv.obj_inv
 exact wpAny_Name (jt Se.kind (by decide) hv h) (by decide)
inductive AttrRes (wsC:Fix) (ok:AP) (env:Env) (base:Heap) (W:List Str) (ρ:aJ) (own:Str→Addr) (os:List Addr) (xo dx:Addr) (es:List DictEntry) (m:Nat) (a:Str) (d:D) (s:Shared) (f:Flow) (s':Shared):Prop where
 | mk (hf:f=.next) (u:Value) (hsh:Int) (tok:Tok) (X:WI wsC ok env base W ρ own os xo dx (putL a hsh (.str a tok) u es) (putN a es m) s'.heap) (r:Rep wsC (fun b=>ok b∧b≠dx) s'.heap u d)
  (g:gd s'=gd s) (o:s'.os=s.os) (k:∀ b o,s.heap.get? b=some o→b≠dx→s'.heap.get? b=some o):AttrRes wsC ok env base W ρ own os xo dx es m a d s f s'
theorem zH {a:Str} {p1 p2 pos:Pos} {e:Expr} {d:D} {fI:Addr} {fd:FuncData} {body:List Stmt} (S:Sound prog w K mg wsC n r) (hA:OkA A n) (X:WI wsC ok env base W ρ own os xo dx es m s.heap) (Se:EnvSt env sc) (gl:Gl K mg base) (hf:Fresh ok base)
  (KW:WsOk K wsC mg fI fd body) (hh:hasDictIn K wsC.ws=true) (hW:("self" : Str) ∉ W) (ha:a∈attrNames) (hl:(getL a es).isSome=true) (hz:es.length≤900) (hc:dU e=true) (he:r.E sc ρ e=some d) :
  Wp prog w A (exec (.Assign [.Attribute (.Name "self" p1) a p2] e pos) env) s (AttrRes wsC ok env base W ρ own os xo dx es m a d s):=by
 refine wpAny_Assign_stores (wpAny_mono (S.E hA (X.outer Se gl hf) he) (fun u s₁ h₁=>?_) fun _ _ e=>e) (show swapsWith e (some (.Attribute (.Name "self" p1) a p2)) pos.line env=pure false from ue hc) rfl
 obtain ⟨g,hr⟩:=h₁
 have X1:=X.grow g.keep
 show Wp prog w A (assign (.Attribute (.Name "self" p1) a p2) env u) s₁ _
 rw [arm_assign_Attribute]
 refine wpAny_bind (wpAny_holding (Ah X1 Se hW (wpAny_bind (wpAny_standAt (wpAny_bind (wpAny_holding ?_))))))
 refine set_same (gl.keep X1.xs.keep).X X1.inst rfl X1.od KW.sa KW.po (KW.tk a ha) hh hl hz fun h₂ hd₂ hs₂=>?_
 refine wpAny_release' ⟨rfl,u,_,_,⟨X1.xs.sameOs X.din hs₂ ⟨_,hd₂⟩ (fun z d q hz=>(X1.notOwn z d q hz).1),X.self,X.xin,X.din,hs₂.extBut _ _ (fun q=>by have:=X1.ox; rw [q,X1.od] at this; simp [dictOf,instObj] at this) X1.ox,hd₂⟩,hr.mono fun b o q e=>⟨q,hs₂.extBut b o q.2 e⟩,g.gens,g.os,fun b o e hb=>hs₂.extBut b o hb (g.keep b o e)⟩
theorem Hg {n:Nat} {C:Addr} {rest:List Value} {kw:List (Str × Value)} (hA:OkA A (n+1)):OkA (A.under (.builtin "type.__call__" ⟨.ref C :: rest,kw⟩)) n:=by
 have e1:(Code.builtin "type.__call__" ⟨.ref C :: rest,kw⟩).weight=1:=by kernel_rfl!
 have e2:(Code.builtin "type.__call__" ⟨.ref C :: rest,kw⟩).cUnits=1:=by kernel_rfl!
 refine ⟨hA.h,?_,?_⟩
 ·have:=hA.d
  show A.depth+(Code.builtin "type.__call__" ⟨.ref C :: rest,kw⟩).weight+n≤900
  omega
 ·have:=hA.u
  show A.units+(Code.builtin "type.__call__" ⟨.ref C :: rest,kw⟩).cUnits+10*n≤9000
  omega
theorem BP {t1 t2 t3:Str} {p1 p2 p3 cp pos:Pos} {i:Int} {k:Nat} (X:XS wsC ok env base s.heap W ρ own os) (Se:EnvSt env sc) (h1:bD sc W t1=true) (h2:bD sc W t2=true) (h3:bD sc W t3=true) :
  Wp prog w A (exec (.Assign [.Name t1 p1,.Name t2 p2,.Name t3 p3] (.Constant (.int i) k cp) pos) env) s (XRes wsC ok env base W ρ own os s .next (dD (dD (dD ρ t1 (.int i)) t2 (.int i)) t3 (.int i))):=by
 refine wpAny_Assign_stores (wpAny_Constant_int ?_) rfl rfl
 have g:Grow s { s with toks:=s.toks+1 } := .tok _
 show Wp prog w A (holding [.int i s.toks] (assign (.Name t1 p1) env (.int i s.toks)) >>= fun _=>holding [.int i s.toks] (assign (.Name t2 p2) env (.int i s.toks)) >>= fun _=>assign (.Name t3 p3) env (.int i s.toks)) _ _
 refine wpAny_bind (wpAny_holding (wpAny_assign_Name (wpAny_mono (gK (s:={ s with toks:=s.toks+1 }) (X.grow g.keep) Se h1 (.int i s.toks)) (fun _ s₁ x₁=>?_) fun _ _ e=>e)))
 refine wpAny_bind (wpAny_holding (wpAny_assign_Name (wpAny_mono (gK x₁.1 Se h2 (.int i s.toks)) (fun _ s₂ x₂=>?_) fun _ _ e=>e)))
 refine wpAny_assign_Name (wpAny_mono (gK x₂.1 Se h3 (.int i s.toks)) (fun _ s₃ x₃=>?_) fun _ _ e=>e)
 exact ⟨own,os,x₃.1,(Step.grow g).trans (x₁.2.trans (x₂.2.trans x₃.2)),rfl⟩
theorem KC {p1 p2 tp:Pos} {kt:Nat} {val:Expr} {w1 a1 w2 a2 vp pos:Pos} {kv:Nat} {fI:Addr} {fd:FuncData} {body:List Stmt} (X:XS wsC ok env base s.heap W ρ own os) (Se:EnvSt env sc) (gl:Gl K mg base) (hf:Fresh ok base) (hh:A.handled=none)
  (KW:WsOk K wsC mg fI fd body) (hv:val=.Tuple [.Attribute (.Name "Whitespace" w1) "S" a1,.Attribute (.Name "Whitespace" w2) "T" a2] kv vp)
  (hsw:swappedStores [.Tuple [.Name "S" p1,.Name "T" p2] kt tp] val env=(pure (some [("S" : Str),("T" : Str)]):Sem (Option (List Str)))) (hg:sc.lookup ("Whitespace" : Str)=some .globalImplicit)
  (h1:bD sc W "S" = true) (h2:bD sc W "T" = true) :
  Wp prog w A (exec (.Assign [.Tuple [.Name "S" p1,.Name "T" p2] kt tp] val pos) env) s (XRes wsC ok env base W ρ own os s .next (dD (dD ρ "T" (.str "\t")) "S" (.str " "))):=by
 obtain ⟨mc,hrd,t1,t2,hS,hT⟩:=KW.rd
 have XI:=X.inner Se gl hf
 rw [exec_Assign_arm]
 refine wpAny_bind (wpAny_standAt ?_)
 rw [show swapsWithSole [.Tuple [.Name "S" p1,.Name "T" p2] kt tp] val pos.line env=pure false from by subst hv; rfl]
 refine wpAny_bind (wpAny_pure ?_)
 rw [if_neg (by decide),hsw]
 have attr:∀ {a:Str} {wp ap:Pos} {v:Value} {s:Shared} {Q:Value→Shared→Prop},StA K mg wsC (okIn ok env os) env s.heap sc (inR W ρ)→findCls K (.ref wsC.ws) mc a=some (.val v)→handedIn v=true→Q v { s with toks:=s.toks+1 } →
   Wp prog w A (eval (.Attribute (.Name "Whitespace" wp) a ap) env) s Q:=fun Y hc hi hQ=>by
  rw [arm_eval_Attribute,dh rfl]
  refine wpAny_bind (oK Y (by decide) hg KW.glob (wpAny_bind (wpAny_standAt (wpAny_bind (wpAny_holding ?_)))))
  exact cls_value Y.gl.X hrd hc hi (wpAny_bind (wpAny_letTemporaryGo (wpAny_pure hQ)))
 subst hv
 refine wpAny_bind (wpAny_Tuple (wpAny_items_cons (attr XI hS rfl (wpAny_items_cons (attr (XI.keep fun _ _ e=>e) hT rfl (wpAny_items_nil ⟨by show 2≤sizeLine; decide,?_⟩))))))
 refine wpAny_bind (wpAny_pure ?_)
 have hk:∀ b o,s.heap.get? b=some o→(s.heap.push { cls := .type "tuple",data := .seq [Value.str " " t1,Value.str "\t" t2].toArray }).get? b=some o:=fun b o e=>aQ _ e
 have hrep:Rep wsC (okIn ok env os) (s.heap.push { cls := .type "tuple",data := .seq [Value.str " " t1,Value.str "\t" t2].toArray }) (.ref s.heap.objs.size) (.tup [.str " ",.str "\t"]) :=
  .tup XI.fresh.new (bw _ rfl) (.cons (.str _ _) (.cons (.str _ _) .nil))
 unfold assignStores
 refine wpAny_bind (wpAny_rule (wpAny_bind (oA (s:={ s with heap:=s.heap.push { cls := .type "tuple",data := .seq [Value.str " " t1,Value.str "\t" t2].toArray },toks:=s.toks+1+1 }) hh hrep rfl rfl fun vs s₁ g hr hlen=>?_)))
 clear hlen
 obtain ⟨v1,v2,rfl,r1,r2⟩:=hr.two_inv
 have X1:=(X.grow hk).grow g.keep
 show Wp prog w A (assignInOrder [bindName env "T",bindName env "S"] [v2,v1] >>= fun _=>pure Flow.next) s₁ _
 refine wpAny_bind ?_
 refine wpAny_bind (wpAny_holding (wpAny_bindName (wpAny_mono (gK X1 Se h2 r2) (fun _ s₂ x₂=>?_) fun _ _ e=>e)))
 refine wpAny_bind (wpAny_holding (wpAny_bindName (wpAny_mono (gK x₂.1 Se h1 (x₂.2.rep X1 r1)) (fun _ s₃ x₃=>?_) fun _ _ e=>e)))
 refine wpAny_pure (wpAny_pure ⟨own,os,x₃.1,?_,rfl⟩)
 exact (Step.grow (s':={ s with heap:=s.heap.push { cls := .type "tuple",data := .seq [Value.str " " t1,Value.str "\t" t2].toArray },toks:=s.toks+1+1 }) ⟨hk,rfl,rfl⟩).trans ((Step.grow g).trans (x₂.2.trans x₃.2))
noncomputable def Hj (xo:Addr) (x:Str):aJ:=[("self",.obj xo),("ws",.str x),("T",.str "\t"),("S",.str " "),("count",.list []),("b",.int 0),("n",.int 0),("nt",.int 0)]
noncomputable def XM (q:Nat→Pos) (im:Nat→Nat) (fb:List Stmt):List Stmt:=[.Assign [.Attribute (.Name "self" (q 0)) "raw" (q 1)] (.Name "ws" (q 2)) (q 3),
   .Assign [.Tuple [.Name "S" (q 4),.Name "T" (q 5)] (im 0) (q 6)] (.Tuple [.Attribute (.Name "Whitespace" (q 7)) "S" (q 8),.Attribute (.Name "Whitespace" (q 9)) "T" (q 10)] (im 1) (q 11)) (q 12),
   .Assign [.Name "count" (q 13)] (.List [] (q 14)) (q 15),
   .Assign [.Name "b" (q 16),.Name "n" (q 17),.Name "nt" (q 18)] (.Constant (.int 0) (im 2) (q 19)) (q 20),
   .For (.Name "ch" (q 21)) (.Attribute (.Name "self" (q 22)) "raw" (q 23)) fb [] (q 24),
   .Assign [.Attribute (.Name "self" (q 25)) "n" (q 26)] (.Name "n" (q 27)) (q 28),
   .Assign [.Attribute (.Name "self" (q 29)) "nt" (q 30)] (.Name "nt" (q 31)) (q 32),
   .Assign [.Attribute (.Name "self" (q 33)) "norm" (q 34)] (.Tuple [.Call (.Name "tuple" (q 35)) [.Name "count" (q 36)] [] (q 37),.Name "b" (q 38)] (im 3) (q 39)) (q 40),
   .Assign [.Attribute (.Name "self" (q 41)) "is_simple" (q 42)] (.Compare (.Call (.Name "len" (q 43)) [.Name "count" (q 44)] [] (q 45)) [.LtE] [.Constant (.int 1) (im 4) (q 46)] (q 47)) (q 48)]
structure InitBody (sc:Sc) (body fb:List Stmt):Prop where
 eq:∃ (q:Nat→Pos) (im:Nat→Nat),body=XM q im fb ∧
  ∀ env:Env,EnvSt env sc→swappedStores [.Tuple [.Name "S" (q 4),.Name "T" (q 5)] (im 0) (q 6)] (.Tuple [.Attribute (.Name "Whitespace" (q 7)) "S" (q 8),.Attribute (.Name "Whitespace" (q 9)) "T" (q 10)] (im 1) (q 11)) env=(pure (some [("S" : Str),("T" : Str)]):Sem (Option (List Str)))
 locs:∀ x∈(["self","ws","S","T","count","b","n","nt","ch"]:List Str),sc.lookup x=some .local
 globs:∀ x∈(["Whitespace","len","tuple"]:List Str),sc.lookup x=some .globalImplicit
theorem XRes.go {ρ':aJ} {f:Flow} {s':Shared} {es:List DictEntry} {m:Nat} (X:WI wsC ok env base W ρ own os xo dx es m s.heap) (h:XRes wsC ok env base W ρ own os s .next ρ' f s') (hs:List.lookup ("self" : Str) ρ'=some (D.obj xo)) :
  f=.next∧∃ own' os',WI wsC ok env base W ρ' own' os' xo dx es m s'.heap∧gd s'=gd s∧s'.os=s.os:=by
 obtain ⟨own',os',X',st,hf⟩:=h
 exact ⟨hf,own',os',X.step X' st hs,st.gens,st.os⟩
theorem name_val {y:Str} {p:Pos} {k:Nat} {d:D} (hn:bW y=true) (h:List.lookup y ρ=some d):(cP G (k+1)).E sc ρ (.Name y p)=some d:=by
 show oR G sc ρ y=some d
 unfold oR au
 rw [hn,h]; rfl
theorem Gi {f:Str} {b:Bn} {p q cp:Pos} {k:Nat} {y:Str} {xs:List D} {d:D} (hg:sc.lookup f=some .globalImplicit) (hf:G.fns.lookup f=none) (ho:bW f=true) (hb:IV f=some b) (hn:bW y=true) (h:List.lookup y ρ=some (.list xs))
  (hc:dK b [.list xs]=some d):(cP G (k+2)).E sc ρ (.Call (.Name f p) [.Name y q] [] cp)=some d:=by
 show (((cP G (k+1)).E sc ρ (.Name y q)).bind fun d=>(some []).map (d :: ·)).bind (fun ds=>iH G sc f ds)=some d
 rw [name_val hn h]
 show (au (bW f&&sc.lookup f==some .globalImplicit) ()).bind (fun _=>match G.fns.lookup f with | some F=>F [D.list xs] | none=>(IV f).bind fun b=>dK b [D.list xs])=some d
 rw [hg,hf,ho,hb]
 exact hc
theorem Oq {p q cp:Pos} {k:Nat} {y:Str} {xs:List D} (hg:sc.lookup ("len" : Str)=some .globalImplicit) (hf:G.fns.lookup ("len" : Str)=none) (hn:bW y=true) (h:List.lookup y ρ=some (.list xs)) (hl:xs.length≤1000) :
  (cP G (k+2)).E sc ρ (.Call (.Name "len" p) [.Name y q] [] cp)=some (.int xs.length) :=
 Gi (b := .len) hg hf (by decide) (by decide +kernel) hn h (by
  show au (decide (xs.length < 2 ^ 62)) (D.int xs.length)=_
  rw [decide_eq_true (show xs.length < 2 ^ 62 by exact Nat.lt_of_le_of_lt hl (by decide))]; rfl)
theorem HR {p q cp:Pos} {k:Nat} {y:Str} {xs:List D} (hg:sc.lookup ("tuple" : Str)=some .globalImplicit) (hf:G.fns.lookup ("tuple" : Str)=none) (hn:bW y=true) (h:List.lookup y ρ=some (.list xs)) (hl:xs.length≤1000) :
  (cP G (k+2)).E sc ρ (.Call (.Name "tuple" p) [.Name y q] [] cp)=some (.tup xs) :=
 Gi (b := .tuple) hg hf (by decide) (by decide +kernel) hn h (by
  show au (decide (xs.length≤sizeLine)) (D.tup xs)=_
  rw [decide_eq_true (show xs.length≤sizeLine by have:sizeLine=2 ^ 24:=rfl; exact aF hl (by decide))]; rfl)
inductive At (wsC:Fix) (ok:AP) (env:Env) (base:Heap) (W:List Str) (xo dx:Addr) (s0:Shared) (ρ:aJ) (es:List DictEntry) (s:Shared):Prop where
 | mk (own:Str→Addr) (os:List Addr) (m:Nat) (X:WI wsC ok env base W ρ own os xo dx es m s.heap) (g:gd s=gd s0) (o:s.os=s0.os):At wsC ok env base W xo dx s0 ρ es s
structure IC (prog:Program) (w:World) (A:Around) (wsC:Fix) (ok:AP) (K:Frag) (mg:Str→Option Value) (n:Nat) (env:Env) (sc:Sc) (base:Heap) (W:List Str) (r:R) (fI:Addr) (fd:FuncData) (bd:List Stmt):Prop where
 S:Sound prog w K mg wsC n r
 hA:OkA A n
 Se:EnvSt env sc
 gl:Gl K mg base
 hf:Fresh ok base
 KW:WsOk K wsC mg fI fd bd
 hh:hasDictIn K wsC.ws=true
 hW:("self" : Str) ∉ W
section
variable {fI:Addr} {fd:FuncData} {bd rest:List Stmt} {s0:Shared} {ρ':aJ} {st:Stmt} {Q:Flow→Shared→Prop}
theorem At.attr {a:Str} {p1 p2 pos:Pos} {e:Expr} {d:D} (I:IC prog w A wsC ok K mg n env sc base W r fI fd bd) (H:At wsC ok env base W xo dx s0 ρ es s) (ha:a∈attrNames) (hl:(getL a es).isSome=true) (hz:es.length≤900) (hc:dU e=true) (he:r.E sc ρ e=some d)
  (k:∀ u hsh tok s',At wsC ok env base W xo dx s0 ρ (putL a hsh (.str a tok) u es) s'→Rep wsC (fun b=>ok b∧b≠dx) s'.heap u d→Wp prog w A (execs rest env) s' Q) :
  Wp prog w A (execs (.Assign [.Attribute (.Name "self" p1) a p2] e pos :: rest) env) s Q:=by
 obtain ⟨own,os,m,X,g,o⟩:=H
 refine wpAny_execs_cons (wpAny_mono (zH I.S I.hA X I.Se I.gl I.hf I.KW I.hh I.hW ha hl hz hc he) (fun f s₁ h₁=>?_) fun _ _ e=>e)
 obtain ⟨rfl,u,hs,tk,X1,r,g1,o1,_⟩:=h₁
 exact k _ _ _ _ ⟨_,_,_,X1,g1.trans g,o1.trans o⟩ r
theorem At.go (I:IC prog w A wsC ok K mg n env sc base W r fI fd bd) (H:At wsC ok env base W xo dx s0 ρ es s) (run:∀ own os m,WI wsC ok env base W ρ own os xo dx es m s.heap→Wp prog w A (exec st env) s (XRes wsC ok env base W ρ own os s .next ρ')) (hs:List.lookup ("self" : Str) ρ'=some (D.obj xo))
  (k:∀ s',At wsC ok env base W xo dx s0 ρ' es s'→Wp prog w A (execs rest env) s' Q):Wp prog w A (execs (st :: rest) env) s Q:=by
 obtain ⟨own,os,m,X,g,o⟩:=H
 refine wpAny_execs_cons (wpAny_mono (run own os m X) (fun f s₁ h₁=>?_) fun _ _ e=>e)
 obtain ⟨rfl,own1,os1,X1,g1,o1⟩:=h₁.go X hs
 exact k _ ⟨_,_,_,X1,g1.trans g,o1.trans o⟩
theorem V7 {q:Nat→Pos} {im:Nat→Nat} {ws:Ws} (hg:sc.lookup ("tuple" : Str)=some .globalImplicit) (hf:G.fns.lookup ("tuple" : Str)=none) (hb:List.lookup ("b" : Str) ρ=some (.int ws.b)) (hcount:List.lookup ("count" : Str) ρ=some (.list (ws.count.map .int))) (hl:(ws.count.map D.int).length≤1000) :
  (cP G 5).E sc ρ (.Tuple [.Call (.Name "tuple" (q 35)) [.Name "count" (q 36)] [] (q 37),.Name "b" (q 38)] (im 3) (q 39))=some (.tup [.tup (ws.count.map .int),.int ws.b]):=by
 show ((evs (cP G 4) sc ρ [.Call (.Name "tuple" (q 35)) [.Name "count" (q 36)] [] (q 37),.Name "b" (q 38)])).bind (fun ds=>au (decide (ds.length≤sizeLine)) (D.tup ds))=_
 simp only [evs,HR hg hf (by decide) hcount hl,name_val (G:=G) (k:=3) (sc:=sc) (p:=(q 38)) (by decide:bW "b" = true) hb,Option.bind_some,Option.map_some]
 rfl
theorem Lq {q:Nat→Pos} {im:Nat→Nat} {ws:Ws} (hg:sc.lookup ("len" : Str)=some .globalImplicit) (hf:G.fns.lookup ("len" : Str)=none) (hcount:List.lookup ("count" : Str) ρ=some (.list (ws.count.map .int))) (hl:(ws.count.map D.int).length≤1000) :
  (cP G 5).E sc ρ (.Compare (.Call (.Name "len" (q 43)) [.Name "count" (q 44)] [] (q 45)) [.LtE] [.Constant (.int 1) (im 4) (q 46)] (q 47))=some (.bool (decide (ws.count.length≤1))):=by
 show (Ei (cP G 4) sc ρ (.Call (.Name "len" (q 43)) [.Name "count" (q 44)] [] (q 45)) .LtE (.Constant (.int 1) (im 4) (q 46))).map D.bool=_
 unfold Ei
 rw [Oq hg hf (by decide) hcount hl]
 show some (D.bool (decide (((ws.count.map D.int).length:Int)≤1)))=_
 rw [List.length_map,decide_eq_decide.mpr (show (ws.count.length:Int)≤1↔ws.count.length≤1 by omega (config:={}))]
theorem Zr {q:Nat→Pos} {im:Nat→Nat} {ws:Ws} {x:Str} {h1 h2 h3:Int} {k1 k2 k3 t1 t2 t3:Tok} (hx:ws.raw=x) (I:IC prog w A wsC ok K mg n env sc base W (cP G 5) fI fd bd) (hx0:ok xo) (hd0:ok dx)
  (hn:(cP G 5).E sc ρ (.Tuple [.Call (.Name "tuple" (q 35)) [.Name "count" (q 36)] [] (q 37),.Name "b" (q 38)] (im 3) (q 39))=some (.tup [.tup (ws.count.map .int),.int ws.b]))
  (hs:(cP G 5).E sc ρ (.Compare (.Call (.Name "len" (q 43)) [.Name "count" (q 44)] [] (q 45)) [.LtE] [.Constant (.int 1) (im 4) (q 46)] (q 47))=some (.bool (decide (ws.count.length≤1))))
  (H:At wsC ok env base W xo dx s0 ρ [⟨h1,.str "raw" k1,.str x t1⟩,⟨h2,.str "n" k2,.int ws.n t2⟩,⟨h3,.str "nt" k3,.int ws.nt t3⟩] s) :
  Wp prog w A (execs [.Assign [.Attribute (.Name "self" (q 33)) "norm" (q 34)] (.Tuple [.Call (.Name "tuple" (q 35)) [.Name "count" (q 36)] [] (q 37),.Name "b" (q 38)] (im 3) (q 39)) (q 40),
   .Assign [.Attribute (.Name "self" (q 41)) "is_simple" (q 42)] (.Compare (.Call (.Name "len" (q 43)) [.Name "count" (q 44)] [] (q 45)) [.LtE] [.Constant (.int 1) (im 4) (q 46)] (q 47)) (q 48)] env) s
   fun f s'=>f=.next∧IsWs wsC ok s'.heap xo ws∧(∀ b o,base.get? b=some o→s'.heap.get? b=some o)∧gd s'=gd s0∧s'.os=s0.os:=by
 subst hx
 refine H.attr I (by decide) (by kernel_rfl!) (dw rfl) rfl hn fun u hs9 tk9 s₉ H9 r9=>?_
 obtain ⟨nm,vsN,nN,rfl,okN,getN,rl⟩:=r9.tup_inv
 obtain ⟨v1,v2,rfl,ra,rb⟩:=rl.two_inv
 obtain ⟨ct,vsC,nC,rfl,vy,Mx,rc⟩:=ra.tup_inv
 obtain ⟨tb,rfl⟩:=rb.int_inv
 obtain ⟨own,os,m,X,g,o⟩:=H9
 refine wpAny_execs_cons (wpAny_mono (zH I.S I.hA X I.Se I.gl I.hf I.KW I.hh I.hW (a := "is_simple") (by decide) (by kernel_rfl!) (dw rfl) rfl hs) (fun f s' h'=>?_) fun _ _ e=>e)
 obtain ⟨rfl,u,hs10,tk10,X10,r10,g1,o1,kp⟩:=h'
 obtain rfl:=r10.bool_inv
 exact wpAny_execs_nil ⟨rfl,⟨dx,ct,nm,_,_,nN,nC,vsC,t1,t2,t3,tb,_,hx0,hd0,vy.1,okN.1,X10.ox,X10.od,by kernel_rfl!,by kernel_rfl!,by kernel_rfl!,by kernel_rfl!,by kernel_rfl!,fun m hm=>by
  simp only [meths,List.mem_cons,List.not_mem_nil,or_false] at hm
  rcases hm with rfl | rfl | rfl | rfl <;> kernel_rfl!,kp _ _ getN okN.2,kp _ _ Mx vy.2,RepL.toInts rc⟩,X10.xs.keep,g1.trans g,o1.trans o⟩
theorem At.loop {x:Str} {t:Tok} {hs:Int} {tk:Tok} {s1 s2 q5 cy:Pos} {fb:List Stmt} {ke kx:Nat} (C:CtxOk prog w K mg wsC n G) (I:IC prog w A wsC ok K mg n env sc base W (cP G 5) fI fd bd) (H:At wsC ok env base W xo dx s0 ρ [⟨hs,.str "raw" tk,.str x t⟩] s)
  (SX:qZ prog w A wsC ok env base W (wC (cP G ke) sc W kx))
  (hfor:forLoop sc W (wC (cP G ke) sc W kx) (.Name "ch" cy) fb (x.cps.toList.map fun c=>D.str ⟨#[c]⟩) ρ=some (.next,ρ')) (hself:List.lookup ("self" : Str) ρ'=some (D.obj xo))
  (k:∀ s',At wsC ok env base W xo dx s0 ρ' [⟨hs,.str "raw" tk,.str x t⟩] s'→Wp prog w A (execs rest env) s' Q) :
  Wp prog w A (execs (.For (.Name "ch" cy) (.Attribute (.Name "self" s1) "raw" s2) fb [] q5 :: rest) env) s Q:=by
 obtain ⟨own,os,m,X,g,o⟩:=H
 have hget:∀ {Q:Value→Shared→Prop},Q (.str x t) { s with toks:=s.toks+1 }→Wp prog w A (eval (.Attribute (.Name "self" s1) "raw" s2) env) s Q:=fun {Q} hQ=>by
  rw [arm_eval_Attribute,dh rfl]
  refine wpAny_bind (Ah X I.Se I.hW (wpAny_bind (wpAny_standAt (wpAny_bind (wpAny_holding ?_)))))
  refine get_value (K:=K) (C:=wsC.ws) (I.gl.keep X.xs.keep).X X.inst C.hga (findObj_own C.hhd (C.attrs _ (by decide)) rfl (v := .str x t) (by rw [lookIn_dict]; kernel_rfl!)) rfl ?_
  exact wpAny_bind (wpAny_letTemporaryGo (wpAny_pure hQ))
 refine wpAny_execs_cons (wpAny_For (hget (wpAny_mono (jy (s:={ s with toks:=s.toks+1 }) (wsC:=wsC) (ok:=okIn ok env os) I.hA.h (.str x t) rfl) (fun itv s₅ h₅=>?_) fun _ _ e=>e)) (fun _=>rfl))
 obtain ⟨gr5,Ia,fp,wr,P,Stt,rfl,it⟩:=h₅
 refine N5 (s₁:={ s with toks:=s.toks+1 }) SX I.hA.h I.Se X.xs gr5 it hfor fun f s₆ h₆=>?_
 obtain ⟨rfl,own6,os6,X6,g6,o6s⟩:=h₆.go (s:={ s with toks:=s.toks+1 }) X hself
 exact k _ ⟨_,_,_,X6,g6.trans g,o6s.trans o⟩
end
theorem U0 (hloc:∀ x∈(["self","ws","S","T","count","b","n","nt","ch"]:List Str),sc.lookup x=some .local) (y:Str) (hy:y∈(["self","ws","S","T","count","b","n","nt","ch"]:List Str)) (hc:y ∉ (["count"]:List Str)):bD sc ["count"] y=true:=by
 unfold bD
 rw [hloc y hy]
 have:(["count"]:List Str).contains y=false:=by
  rw [List.contains_eq_any_beq]
  simpa using fun q:y = "count" => hc (by simp [q])
 rw [this]; rfl
theorem Nj {x:Str} {ws:Ws} {fI:Addr} {fd:FuncData} {body fb:List Stmt} {ke kx:Nat} (C:CtxOk prog w K mg wsC n G) (KW:WsOk K wsC mg fI fd body) (B:InitBody sc body fb)
  (hGf:∀ x∈(["len","tuple"]:List Str),G.fns.lookup x=none)
  (hloop:∀ xo py,∃ ρ',forLoop sc ["count"] (wC (cP G ke) sc ["count"] kx) (.Name "ch" py) fb (x.cps.toList.map fun c=>D.str ⟨#[c]⟩) (Hj xo x)=some (.next,ρ')∧List.lookup ("self" : Str) ρ'=some (D.obj xo) ∧
   List.lookup ("n" : Str) ρ'=some (.int ws.n)∧List.lookup ("nt" : Str) ρ'=some (.int ws.nt)∧List.lookup ("b" : Str) ρ'=some (.int ws.b)∧List.lookup ("count" : Str) ρ'=some (.list (ws.count.map .int))∧ws.raw=x∧ws.count.length≤1000)
  (hA:OkA A n) (Se:EnvSt env sc) (gl:Gl K mg base) (hf:Fresh ok base) (X:WI wsC ok env base ["count"] [("self",.obj xo),("ws",.str x)] own os xo dx [] 0 s.heap) :
  Wp prog w A (execs body env) s fun f s'=>f=.next∧IsWs wsC ok s'.heap xo ws∧(∀ b o,base.get? b=some o→s'.heap.get? b=some o)∧gd s'=gd s∧s'.os=s.os:=by
 obtain ⟨⟨q,im,rfl,hsw⟩,hloc,hglob⟩:=B
 obtain ⟨ρ',hfor,hself,hn,hnt,hb,hcount,hraw,hclen⟩:=hloop xo (q 21)
 have I:IC prog w A wsC ok K mg n env sc base ["count"] (cP G 5) fI fd (XM q im fb):=⟨jD C 5,hA,Se,gl,hf,KW,C.hhd,by decide⟩
 have stor:=U0 hloc
 have hlen:(ws.count.map D.int).length≤1000:=by rw [List.length_map]; exact hclen
 have nx:ok xo∧ok dx:=⟨hf _ (X.xs.new _ (.inr (.inr X.xin))),hf _ (X.xs.new _ (.inr (.inr X.din)))⟩
 have H:At wsC ok env base ["count"] xo dx s [("self",.obj xo),("ws",.str x)] [] s:=⟨_,_,_,X,rfl,rfl⟩
 refine H.attr I (by decide) (by decide) (by decide) rfl (name_val (by decide) (by kernel_rfl! : List.lookup ("ws" : Str) [(("self" : Str),D.obj xo),(("ws" : Str),D.str x)]=some (D.str x))) fun u hs1 tk1 s₁ H r=>?_
 obtain ⟨t1,rfl⟩:=r.str_inv
 refine H.go I (fun own os m X=>KC X.xs Se gl hf hA.h KW rfl (hsw env Se) (hglob _ (by decide)) (stor _ (by decide) (by decide)) (stor _ (by decide) (by decide))) rfl fun s₂ H=>?_
 refine H.go I (fun own os m X=>Jm X.xs Se (by decide) (.inl (hloc _ (by decide)))) rfl fun s₃ H=>?_
 refine H.go I (fun own os m X=>BP X.xs Se (stor _ (by decide) (by decide)) (stor _ (by decide) (by decide)) (stor _ (by decide) (by decide))) rfl fun s₄ H=>?_
 refine At.loop (ρ:=Hj xo x) C I H (o6 (jD C ke) (uD C ke) hA C.zip Se gl hf kx) hfor hself fun s₅ H=>?_
 refine H.attr I (by decide) (by kernel_rfl!) (dw rfl) rfl (name_val (by decide) hn) fun u hs2 tk2 s₆ H r=>?_
 obtain ⟨t2,rfl⟩:=r.int_inv
 refine H.attr I (by decide) (by kernel_rfl!) (dw rfl) rfl (name_val (by decide) hnt) fun u hs3 tk3 s₇ H r=>?_
 obtain ⟨t3,rfl⟩:=r.int_inv
 exact Zr hraw I nx.1 nx.2 (V7 (hglob _ (by decide)) (hGf _ (by decide)) hb hcount hlen) (Lq (hglob _ (by decide)) (hGf _ (by decide)) hcount hlen) H
end
section
variable {prog:Program} {w:World} {A:Around} {s:Shared} {wsC:Fix} {ok:AP} {K:Frag} {mg:Str→Option Value} {G:Ctx} {n:Nat} {W:List Str} {h:Heap}
noncomputable def YK (F:Str→Option Ws):Fn:=arg1 asS fun x=>(F x).map .ws
theorem ws_ok {fI:Addr} {fd:FuncData} {body fb:List Stmt} {ke kx:Nat} {F:Str→Option Ws} (C:CtxOk prog w K mg wsC n G) (KW:WsOk K wsC mg fI fd body) (B:InitBody fd.scope.names body fb)
  (hGf:∀ x∈(["len","tuple"]:List Str),G.fns.lookup x=none)
  (hloop:∀ x ws,F x=some ws→∀ xo py,∃ ρ',forLoop fd.scope.names ["count"] (wC (cP G ke) fd.scope.names ["count"] kx) (.Name "ch" py) fb (x.cps.toList.map fun c=>D.str ⟨#[c]⟩) (Hj xo x)=some (.next,ρ')∧List.lookup ("self" : Str) ρ'=some (D.obj xo) ∧
   List.lookup ("n" : Str) ρ'=some (.int ws.n)∧List.lookup ("nt" : Str) ρ'=some (.int ws.nt)∧List.lookup ("b" : Str) ρ'=some (.int ws.b)∧List.lookup ("count" : Str) ρ'=some (.list (ws.count.map .int))∧ws.raw=x∧ws.count.length≤1000) :
  Ov prog w K mg wsC (n+2) (.ref wsC.ws) (YK F):=by
 intro A s ok vs ds d hA gl hf hr h
 obtain ⟨x,rfl,h⟩:=mV CT h
 obtain ⟨ws,hF,rfl⟩:=Option.map_eq_some_iff.mp h
 obtain ⟨v1,rfl,r1⟩:=hr.one_inv
 obtain ⟨t1,rfl⟩:=r1.str_inv
 obtain ⟨hh,g,dr,t,os⟩:=s
 refine wpAny_call (make_core (makes_of gl.X KW.mks) (looks_findIn gl.X KW.init) (fun self=>bind_fn gl.X self KW.typ) (.inl rfl) ?_)
 have D:=KW.data
 obtain ⟨o,ho,hd⟩:=D.look
 have hA1:OkA (A.under (.builtin "type.__call__" ⟨.ref wsC.ws :: [.str x t1],[]⟩)) (n+1):=Hg hA
 have hk0:∀ b o,hh.get? b=some o→((hh.push emptyDict).push (instObj wsC.ws hh.objs.size)).get? b=some o:=fun b o e=>aQ _ (aQ _ e)
 have gl0:Gl K mg ((hh.push emptyDict).push (instObj wsC.ws hh.objs.size)):=gl.keep hk0
 have hsz:((hh.push emptyDict).push (instObj wsC.ws hh.objs.size)).objs.size=hh.objs.size+2:=by rw [Heap.size_push,Heap.size_push]
 have hxo:((hh.push emptyDict).push (instObj wsC.ws hh.objs.size)).get? (hh.objs.size+1)=some (instObj wsC.ws hh.objs.size):=by heap_get
 have hdx:((hh.push emptyDict).push (instObj wsC.ws hh.objs.size)).get? hh.objs.size=some emptyDict:=by heap_get
 generalize (hh.push emptyDict).push (instObj wsC.ws hh.objs.size)=hp at *
 have hcells:∀ x,fd.scope.names.lookup x=some .cell→((cellsFrom (hp.objs.size+1) fd.scope.names []).lookup x).isSome=true:=fun x hx=>cellsFrom_some _ _ _ (.inl hx)
 refine codeAny_call_cells (fd:=fd) hA1.room (gl0.X _ _ ho) hd gl0.nl (codeRec_of gl0.X D.code) D.body (D.bind [.ref (hh.objs.size+1),.str x t1] rfl) D.clo (fun x hx=>?_) (fun s₁ X=>?_) D.co D.gen D.kind
 ·have:=D.pnk x.1 (List.of_mem_zip hx).1
  exact this.imp id fun q=>⟨q,hcells _ q⟩
 obtain ⟨h₁,tk,hs₁,_⟩:=X.done
 have hkeep:∀ b o,hp.get? b=some o→s₁.heap.get? b=some o:=X.toInCall.keep
 generalize hE:callEnvC fd hp.objs.size fI=env at *
 have hL:env.locals=hp.objs.size:=by rw [← hE]; rfl
 have hcl:env.cells=cellsFrom (hp.objs.size+1) fd.scope.names []:=by rw [← hE]; rfl
 have hnone:∀ b,hh.objs.size≤b→hh.get? b=none:=fun b hb=>dW hb
 have hnone':∀ b,hp.objs.size≤b→hp.get? b=none:=fun b hb=>dW hb
 have hab:∀ x c,env.cells.lookup x=some c→hp.objs.size < c:=fun x c q=>by have:=X.above x c (mem_of_lookup q); rwa [hL] at this
 have Se:EnvSt env fd.scope.names:=by
  refine ⟨by rw [← hE]; rfl,by rw [← hE]; exact D.kind,by rw [← hE]; exact D.glob,by rw [← hE]; exact D.bi,fun n q=>?_,fun x y c hx hy=>name_of_addr X.apart (mem_of_lookup hx) (mem_of_lookup hy),fun x q=>?_⟩
  ·rcases q with q | q
   ·rw [hcl]; exact Option.isSome_iff_exists.mp (hcells n q)
   ·exact absurd q (D.free n)
  ·have:=hab x _ q; rw [hL] at this; exact Nat.lt_irrefl _ this
 have hko:∀ y,env.kindOf y=fd.scope.names.lookup y:=fun y=>by rw [← hE]; rfl
 have k1:env.kindOf "self" = some .local:=(hko _).trans (B.locs _ (by decide))
 have k2:env.kindOf "ws" = some .local:=(hko _).trans (B.locs _ (by decide))
 have X0:XS wsC ok env hh s₁.heap ["count"] [("self",.obj (hh.objs.size+1)),("ws",.str x)] (fun _=>0) [hh.objs.size+1,hh.objs.size]:=by
  refine ⟨fun b o e=>hkeep b o (hk0 b o e),fun b q=>?_,fun b q=>?_,⟨_,X.toInCall.ns⟩,fun x c q=>⟨_,X.cell x c q⟩,fun a q=>⟨fun e=>?_,fun y e=>?_⟩,fun y d hx _=>?_,fun y d hx hw=>?_,fun y z d e hx hy hw=>?_⟩
  ·rcases q with q | ⟨y,q⟩ | q
   ·rw [q,hL]; exact hnone _ (by omega)
   ·have:=hab y b q; exact hnone _ (by omega)
   ·simp only [List.mem_cons,List.not_mem_nil,or_false] at q
    rcases q with rfl | rfl <;> exact hnone _ (by omega)
  ·rcases q with q | ⟨y,q⟩ | q
   ·obtain ⟨o,_,_,e,_⟩:=X.toInCall.ns; rw [q]; exact ⟨o,e⟩
   ·obtain ⟨o,e,_⟩:=X.cell y b q; exact ⟨o,e⟩
   ·simp only [List.mem_cons,List.not_mem_nil,or_false] at q
    rcases q with rfl | rfl
    ·exact ⟨_,hkeep _ _ hxo⟩
    ·exact ⟨_,hkeep _ _ hdx⟩
  ·simp only [List.mem_cons,List.not_mem_nil,or_false] at q
   rw [hL] at e
   rcases q with q | q
   ·have e':(hh.objs.size+1:Nat)=hp.objs.size:=q.symm.trans e
    omega
   ·have e':(hh.objs.size:Nat)=hp.objs.size:=q.symm.trans e
    omega
  ·simp only [List.mem_cons,List.not_mem_nil,or_false] at q
   have:=hab y a e
   rcases q with q | q <;> rw [q] at this <;> omega
  ·simp only [List.lookup_cons] at hx
   by_cases h1:y = "self"
   ·subst h1
    obtain rfl:=aj hx
    exact ⟨.ref (hh.objs.size+1),.inl ⟨k1,_,X.toInCall.ns,by simp only [List.zip_cons_cons,List.zip_nil_right,bindL,k1,k2]; rfl⟩,.obj _⟩
   ·by_cases h2:y = "ws"
    ·subst h2
     obtain rfl:=aj hx
     exact ⟨.str x t1,.inl ⟨k2,_,X.toInCall.ns,by simp only [List.zip_cons_cons,List.zip_nil_right,bindL,k1,k2]; rfl⟩,.str _ _⟩
    ·have e1:(y==("self" : Str))=false:=by simpa using h1
     have e2:(y==("ws" : Str))=false:=by simpa using h2
     rw [e1,e2] at hx
     exact aO hx
  ·simp only [List.mem_cons,List.not_mem_nil,or_false] at hw
   subst hw
   exact aO hx
  ·simp only [List.mem_cons,List.not_mem_nil,or_false] at hw
   subst hw
   exact aO hx
 have X1:WI wsC ok env hh ["count"] [("self",.obj (hh.objs.size+1)),("ws",.str x)] (fun _=>0) [hh.objs.size+1,hh.objs.size] (hh.objs.size+1) hh.objs.size [] 0 s₁.heap :=
  ⟨X0,rfl,aH,cJ _ aH,hkeep _ _ hxo,hkeep _ _ hdx⟩
 refine wpAny_mono (Nj C KW B hGf (hloop x ws hF) (hA1.deeper env) Se gl hf X1) (fun f s' h'=>?_) fun _ _ e=>e.elim
 obtain ⟨rfl,hw,hb,hg,ho⟩:=h'
 refine ⟨rfl,⟨⟨hb,?_,?_⟩,.ws hw⟩⟩
 ·rw [hg,hs₁]
 ·rw [ho,hs₁]
end
noncomputable def bO (es:List DictEntry) (n:Nat):Obj:={ cls := .type "dict",data := .dict es.toArray n }
noncomputable def ent (k:Int) (x:Str) (t u:Tok):DictEntry:=⟨hashInt k,.int k t,.str x u⟩
noncomputable def ents:Nat→List (Int × Str)→List DictEntry
 | _,[]=>[]
 | t,(k,x) :: r=>ent k x t (t+1) :: ents (t+3) r
noncomputable def cW:Nat→List (Int × Str)→List DictEntry
 | _,[]=>[]
 | t,(k,x) :: r=>ent k x t (t+1) :: cW (t+2) r
theorem DX:∀ {t:Nat} {L:List (Int × Str)} {e:DictEntry},e∈ents t L→∃ k x t' u,(k,x)∈L∧e=ent k x t' u
 | _,[],_,h=>by cases h
 | t,(k,x) :: r,e,h=>by
  rcases cM h with rfl | h
  ·exact ⟨k,x,_,_,aH,rfl⟩
  ·obtain ⟨k',x',t',u,m,q⟩:=DX h
   exact ⟨k',x',t',u,cJ _ m,q⟩
theorem zW:∀ {t:Nat} {L:List (Int × Str)} {e:DictEntry},e∈cW t L→∃ k x t' u,(k,x)∈L∧e=ent k x t' u
 | _,[],_,h=>by cases h
 | t,(k,x) :: r,e,h=>by
  rcases cM h with rfl | h
  ·exact ⟨k,x,_,_,aH,rfl⟩
  ·obtain ⟨k',x',t',u,m,q⟩:=zW h
   exact ⟨k',x',t',u,cJ _ m,q⟩
theorem nZ:∀ {t:Nat} {L M:List (Int × Str)},ents t (L++M)=ents t L++ents (t+3*L.length) M
 | t,[],M=>by simp [ents]
 | t,(k,x) :: r,M=>by
  show ent k x t (t+1) :: ents (t+3) (r++M)=_
  rw [nZ]
  simp only [ents,List.cons_append,List.length_cons]
  rw [show t+3+3*r.length=t+3*(r.length+1) by exact Nat.add_right_comm _ _ _]
theorem j9:∀ {t:Nat} {L:List (Int × Str)},(ents t L).length=L.length
 | _,[]=>rfl
 | t,(k,x) :: r=>by simp [ents,j9 (t:=t+3) (L:=r)]
theorem mD:∀ {t:Nat} {L:List (Int × Str)},(cW t L).length=L.length
 | _,[]=>rfl
 | t,(k,x) :: r=>by simp [cW,mD (t:=t+2) (L:=r)]
noncomputable def kJ (k:Int) (es:List DictEntry):Prop:=∀ e∈es,∃ k' t',e.key=.int k' t'∧e.hash=hashInt k'∧k'≠k
noncomputable def put (h:Heap) (a:Addr) (o:Obj):Heap:=h.update a fun _=>o
theorem m6 {h:Heap} {a:Addr} {o:Obj} {f:Obj→Obj}:(put h a o).update a f=put h a (f o):=by
 obtain ⟨objs,l⟩:=h
 show (⟨(objs.modify a fun _=>o).modify a f,l⟩:Heap)=⟨objs.modify a fun _=>f o,l⟩
 congr 1
 apply Array.ext
 ·simp
 ·intro i h1 h2
  simp only [Array.getElem_modify]
  split <;> rfl
theorem M5 {h:Heap} {a:Addr} {o x:Obj} (ha:a < h.objs.size):(put h a o).push x=put (h.push x) a o:=by
 obtain ⟨objs,l⟩:=h
 show (⟨(objs.modify a fun _=>o).push x,l⟩:Heap)=⟨(objs.push x).modify a fun _=>o,l⟩
 congr 1
 apply Array.ext
 ·simp
 ·intro i h1 h2
  have ha':a < objs.size:=ha
  simp only [Array.getElem_modify,Array.getElem_push,Array.size_modify]
  by_cases hi:i < objs.size
  ·simp only [hi,dif_pos]
  ·have:a≠i:=fun q=>hi (q▸ha')
   simp only [hi,dif_neg,not_false_eq_true,this,if_false]
theorem Am {h:Heap} {o o':Obj}:put (h.push o) h.objs.size o'=h.push o':=by
 obtain ⟨objs,l⟩:=h
 show (⟨(objs.push o).modify objs.size fun _=>o',l⟩:Heap)=⟨objs.push o',l⟩
 congr 1
 apply Array.ext
 ·simp
 ·intro i h1 h2
  simp only [Array.getElem_modify,Array.getElem_push]
  by_cases hi:i < objs.size
  ·have:objs.size≠i:=Nat.ne_of_gt hi
   simp only [hi,dif_pos,this,if_false]
  ·have:objs.size=i:=by simp at h2; omega
   simp [this]
theorem ug {h:Heap} {a:Addr} {o:Obj} (e:h.objs[a]? = some o):put h a o=h:=by
 obtain ⟨objs,l⟩:=h
 show (⟨objs.modify a fun _=>o,l⟩:Heap)=⟨objs,l⟩
 congr 1
 apply Array.ext
 ·simp
 ·intro i h1 h2
  simp only [Array.getElem_modify]
  split
  ·rename_i q
   subst q
   have e':objs[a]? = some o:=e
   rw [Array.getElem?_eq_getElem h2] at e'
   exact (aj e').symm
  ·rfl
theorem get?_objs {h:Heap} {a:Addr} {o:Obj} (hd:h.get? a=some o):h.objs[a]? = some o:=by
 unfold Heap.get? at hd
 split at hd
 ·exact aO hd
 ·exact hd
theorem Ff {h:Heap} {a:Addr} {o:Obj}:(put h a o).objs.size=h.objs.size:=by
 obtain ⟨objs,l⟩:=h
 show (objs.modify a fun _=>o).size=objs.size
 simp
theorem wD {h:Heap} {a:Addr} {es:List DictEntry} {n:Nat} (ha:a < h.objs.size):(put h a (bO es n)).get? a=some (bO es n):=by
 obtain ⟨objs,l⟩:=h
 have ha':a < objs.size:=ha
 unfold put Heap.update Heap.get?
 simp [Array.getElem?_modify,Array.getElem?_eq_getElem ha',bO]
theorem yM {h:Heap} {a b:Addr} {o:Obj} (hb:b≠a):(put h a o).get? b=h.get? b:=Heap.get?_update_ne _ _ _ _ hb
noncomputable def gP:Heap→List Obj→Heap
 | h,[]=>h
 | h,o :: r=>gP (h.push o) r
theorem yC:∀ {h:Heap} {l:List Obj} {o:Obj},gP h (l++[o])=(gP h l).push o
 | h,[],o=>rfl
 | h,x :: l,o=>by show gP (h.push x) (l++[o])=_; rw [yC]; rfl
theorem z7:∀ {h:Heap} {l:List Obj} {a:Addr} {o:Obj},a < h.objs.size→put (gP h l) a o=gP (put h a o) l
 | h,[],a,o,_=>rfl
 | h,x :: l,a,o,ha=>by
  show put (gP (h.push x) l) a o=gP ((put h a o).push x) l
  rw [z7 (by rw [Heap.size_push]; exact Nat.lt_succ_of_lt ha),M5 ha]
theorem xd:∀ {h:Heap} {l:List Obj} {a:Addr} {o:Obj},h.get? a=some o→(gP h l).get? a=some o
 | h,[],a,o,e=>e
 | h,x :: l,a,o,e=>by
  show (gP (h.push x) l).get? a=some o
  exact xd (aQ _ e)
theorem w5:∀ {h:Heap} {l:List Obj},(gP h l).objs.size=h.objs.size+l.length
 | h,[]=>rfl
 | h,x :: l=>by show (gP (h.push x) l).objs.size=_; rw [w5,Heap.size_push,List.length_cons]; exact Nat.add_right_comm _ _ _
theorem uq {h:Heap} {es:List DictEntry} {n:Nat}:(h.push (bO es n)).get? h.objs.size=some (bO es n):=bw _ rfl
section
variable {prog:Program} {w:World} {A:Around} {E:Value→Shared→Prop} {s:Shared}
theorem find_none {k:Int} {t:Tok} {d:Addr} {es:List DictEntry} {n:Nat} {Q:Option Nat→Shared→Prop} (hd:s.heap.get? d=some (bO es n)) (hw:kJ k es) (hQ:Q none s) :
  wpAny (model prog w) A (dictFind d (.int k t) (hashInt k)) Q E s:=by
 refine wpAny_dictFind_int hd rfl (fun e he=>?_) ?_
 ·obtain ⟨k',t',q1,q2,_⟩:=hw e (by simpa using he)
  exact ⟨k',t',q1,q2⟩
 ·have:(es.toArray.findIdx? fun e=>Value.isInt k e.key)=none:=by
   rw [Array.findIdx?_eq_none_iff]
   intro e he
   obtain ⟨k',t',q1,_,q3⟩:=hw e (by simpa using he)
   rw [q1]
   show (k'==k)=false
   simpa using q3
  rw [this]; exact hQ
theorem Ow {es:List DictEntry} {n:Nat} {e:DictEntry}:Obj.mapDictKeys (·.push e) (bO es n)=bO (es++[e]) (n+1):=by
 show (⟨.type "dict",none,.dict (es.toArray.push e) (n+1),_⟩:Obj)=_
 simp only [List.push_toArray]
 rfl
theorem Dt {d:Addr} {es:List DictEntry} {n:Nat} {e:DictEntry} {part:Option Value} {Q:Unit→Shared→Prop} (hd:s.heap.get? d=some (bO es n)) (hz:es.length≤1000)
  (hQ:Q () { s with heap:=put s.heap d (bO (es++[e]) (n+1)) }):wpAny (model prog w) A (updateDictKeys d (·.push e) part) Q E s:=by
 have hz':es.toArray.size≤sizeLine:=by
  have e:sizeLine=2 ^ 24:=rfl
  simp only [List.size_toArray]; exact aF hz (by decide)
 refine wpAny_updateDictKeys hd rfl ?_ hz' (by simp)
 have e1:s.heap=put s.heap d (bO es n):=by
  exact (ug (get?_objs hd)).symm
 have:s.heap.update d (Obj.mapDictKeys (·.push e))=put s.heap d (bO (es++[e]) (n+1)):=by
  conv=>lhs; rw [e1]
  rw [m6,Ow]
 rw [this]; exact hQ
theorem I5 {k:Int} {t:Tok} {v:Value} {d:Addr} {es:List DictEntry} {n:Nat} {Q:Unit→Shared→Prop} (hd:s.heap.get? d=some (bO es n)) (hw:kJ k es) (hz:es.length≤1000)
  (hQ:Q () { s with heap:=put s.heap d (bO (es++[⟨hashInt k,.int k t,v⟩]) (n+1)),toks:=s.toks+1 }):wpAny (model prog w) A (dictSet d (.int k t) v) Q E s:=by
 unfold dictSet
 refine wpAny_holding (wpAny_bind (wpAny_pyHash_int ?_))
 unfold dictSetHashed
 refine wpAny_holding (wpAny_bind (find_none (s:={ s with toks:=s.toks+1 }) hd hw ?_))
 exact wpAny_bind (wpAny_rule (Dt (s:={ s with toks:=s.toks+1 }) hd hz hQ))
structure PairIs (prog:Program) (w:World) (A:Around) (p:Sem Value × Sem Value) (k:Int) (x:Str):Prop where
 key:∀ {E:Value→Shared→Prop} {s:Shared} {Q:Value→Shared→Prop},Q (.int k s.toks) { s with toks:=s.toks+1 }→wpAny (model prog w) A p.1 Q E s
 val:∀ {E:Value→Shared→Prop} {s:Shared} {Q:Value→Shared→Prop},Q (.str x s.toks) { s with toks:=s.toks+1 }→wpAny (model prog w) A p.2 Q E s
inductive PairsAre (prog:Program) (w:World) (A:Around):List (Sem Value × Sem Value)→List (Int × Str)→Prop
 | nil:PairsAre prog w A [] []
 | cons {p:Sem Value × Sem Value} {k:Int} {x:Str} {ps:List (Sem Value × Sem Value)} {L:List (Int × Str)}:PairIs prog w A p k x→PairsAre prog w A ps L→PairsAre prog w A (p :: ps) ((k,x) :: L)
theorem PairsAre.length {ps:List (Sem Value × Sem Value)} {L:List (Int × Str)} (h:PairsAre prog w A ps L):ps.length=L.length:=by
 induction h with
 | nil=>rfl
 | cons _ _ ih=>simp [ih]
theorem PairsAre.snoc {ps:List (Sem Value × Sem Value)} {L:List (Int × Str)} {p:Sem Value × Sem Value} {k:Int} {x:Str} (h:PairsAre prog w A ps L) (hp:PairIs prog w A p k x):PairsAre prog w A (ps++[p]) (L++[(k,x)]):=by
 induction h with
 | nil=>exact .cons hp .nil
 | cons a _ ih=>exact .cons a ih
theorem mX {k:Int} {t:Nat} {L:List (Int × Str)} (h:k ∉ L.map (·.1)):kJ k (ents t L):=fun e he=>by
 obtain ⟨k',x,t',u,m,rfl⟩:=DX he
 exact ⟨k',t',rfl,rfl,fun q=>h (q▸List.mem_map_of_mem (f:=(·.1)) m)⟩
theorem RW {d:Addr} {ps:List (Sem Value × Sem Value)} {L:List (Int × Str)} (hp:PairsAre prog w A ps L):∀ (done:List (Int × Str)) (T:Nat) {s:Shared} {Q:PUnit→Shared→Prop},
  ((done++L).map (·.1)).Nodup→(done++L).length≤1000→d < s.heap.objs.size→s.heap.get? d=some (bO (ents T done) done.length)→s.toks=T+3*done.length →
  Q PUnit.unit { s with heap:=put s.heap d (bO (ents T (done++L)) (done++L).length),toks:=T+3*(done++L).length } →
  wpAny (model prog w) A (forIn ps PUnit.unit fun (p:Sem Value × Sem Value) (_:PUnit)=>(do
   let kv ← p.1
   let vv ← holding [kv] p.2
   holding [kv,vv] (dictSet d kv vv)
   pure (ForInStep.yield PUnit.unit):Sem (ForInStep PUnit))) Q E s:=by
 induction hp with
 | nil =>
  intro done T s Q hn hz hd hg ht hQ
  rw [List.forIn_nil]
  refine wpAny_pure ?_
  rw [List.append_nil,ug (get?_objs hg),← ht] at hQ
  exact hQ
 | @cons p k x ps L hp hps ih =>
  intro done T s Q hn hz hd hg ht hQ
  rw [List.forIn_cons]
  have e1:done++(k,x) :: L=(done++[(k,x)])++L:=by simp
  have hk:k ∉ done.map (·.1):=by
   intro q
   rw [List.map_append,List.nodup_append] at hn
   exact hn.2.2 _ q _ aH rfl
  have hlen:done.length≤1000:=by rw [List.length_append] at hz; omega
  refine wpAny_bind (wpAny_bind (hp.key (wpAny_bind (wpAny_holding (hp.val (wpAny_bind (wpAny_holding (I5 (s:={ s with toks:=s.toks+1+1 }) hg (mX hk) (by rw [j9]; exact hlen) (wpAny_pure ?_)))))))))
  have e2:ents T done++[⟨hashInt k,.int k s.toks,.str x (s.toks+1)⟩]=ents T (done++[(k,x)]):=by
   rw [nZ,ht]; rfl
  have e3:done.length+1=(done++[(k,x)]).length:=by simp
  show wpAny _ _ _ Q E { s with heap:=put s.heap d (bO (ents T done++[⟨hashInt k,.int k s.toks,.str x (s.toks+1)⟩]) (done.length+1)),toks:=s.toks+1+1+1 }
  rw [e2,e3]
  refine ih (done++[(k,x)]) T (e1▸hn) (e1▸hz) (by show d < (put s.heap d _).objs.size; rw [Ff]; exact hd) (wD hd) (by show s.toks+1+1+1=_; rw [← e3]; omega) ?_
  show Q PUnit.unit { s with heap:=put (put s.heap d (bO (ents T (done++[(k,x)])) (done++[(k,x)]).length)) d (bO (ents T (done++[(k,x)]++L)) (done++[(k,x)]++L).length),toks:=T+3*(done++[(k,x)]++L).length }
  rw [← e1]
  have e4:∀ o o',put (put s.heap d o) d o'=put s.heap d o':=fun o o'=>m6
  rw [e4]
  exact hQ
end
noncomputable def Gk:Nat→List (Int × Str)→List (Value × Value)
 | _,[]=>[]
 | t,(k,x) :: r=>(.int k t,.str x (t+1)) :: Gk (t+2) r
theorem tZ:∀ {t:Nat} {L M:List (Int × Str)},cW t (L++M)=cW t L++cW (t+2*L.length) M
 | t,[],M=>by simp [cW]
 | t,(k,x) :: r,M=>by
  show ent k x t (t+1) :: cW (t+2) (r++M)=_
  rw [tZ]
  simp only [cW,List.cons_append,List.length_cons]
  rw [show t+2+2*r.length=t+2*(r.length+1) by exact Nat.add_right_comm _ _ _]
theorem vK {k:Int} {t:Nat} {L:List (Int × Str)} (h:k ∉ L.map (·.1)):kJ k (cW t L):=fun e he=>by
 obtain ⟨k',x,t',u,m,rfl⟩:=zW he
 exact ⟨k',t',rfl,rfl,fun q=>h (q▸List.mem_map_of_mem (f:=(·.1)) m)⟩
section
variable {prog:Program} {w:World} {A:Around} {E:Value→Shared→Prop} {s:Shared}
theorem zf {ps:List (Sem Value × Sem Value)} {L:List (Int × Str)} (hp:PairsAre prog w A ps L):∀ {s:Shared} {Q:List (Value × Value)→Shared→Prop},
  Q (Gk s.toks L) { s with toks:=s.toks+2*L.length }→wpAny (model prog w) A (evalPairs ps) Q E s:=by
 induction hp with
 | nil=>intro s Q h; exact evalPairs_nil h
 | @cons p k x ps L hp hps ih =>
  intro s Q h
  refine evalPairs_cons (hp.key (hp.val (ih ?_)))
  show Q ((.int k s.toks,.str x (s.toks+1)) :: Gk (s.toks+1+1) L) { s with toks:=s.toks+1+1+2*L.length }
  rw [show s.toks+1+1+2*L.length=s.toks+2*(L.length+1) by omega]
  exact h
theorem vP {d:Addr} {T:Nat}:∀ {L:List (Int × Str)} (done:List (Int × Str)) {s:Shared} {Q:PUnit→Shared→Prop},
  ((done++L).map (·.1)).Nodup→(done++L).length≤1000→d < s.heap.objs.size→s.heap.get? d=some (bO (cW T done) done.length) →
  Q PUnit.unit { s with heap:=put s.heap d (bO (cW T (done++L)) (done++L).length),toks:=s.toks+L.length } →
  wpAny (model prog w) A (forIn (Gk (T+2*done.length) L) PUnit.unit fun (x:Value × Value) (_:PUnit)=>(do dictSet d x.1 x.2; pure (ForInStep.yield PUnit.unit):Sem (ForInStep PUnit))) Q E s
 | [],done,s,Q,hn,hz,hd,hg,hQ=>by
  show wpAny _ _ (forIn [] _ _) _ _ _
  rw [List.forIn_nil]
  refine wpAny_pure ?_
  rw [List.append_nil,ug (get?_objs hg)] at hQ
  exact hQ
 | (k,x) :: L,done,s,Q,hn,hz,hd,hg,hQ=>by
  show wpAny _ _ (forIn ((Value.int k (T+2*done.length),Value.str x (T+2*done.length+1)) :: Gk (T+2*done.length+2) L) _ _) _ _ _
  rw [List.forIn_cons]
  have e1:done++(k,x) :: L=(done++[(k,x)])++L:=by simp
  have hk:k ∉ done.map (·.1):=by
   intro q
   rw [List.map_append,List.nodup_append] at hn
   exact hn.2.2 _ q _ aH rfl
  have hlen:done.length≤1000:=by rw [List.length_append] at hz; omega
  refine wpAny_bind (wpAny_bind (I5 hg (vK hk) (by rw [mD]; exact hlen) (wpAny_pure ?_)))
  have e2:cW T done++[⟨hashInt k,.int k (T+2*done.length),.str x (T+2*done.length+1)⟩]=cW T (done++[(k,x)]):=by
   rw [tZ]; rfl
  have e3:done.length+1=(done++[(k,x)]).length:=by simp
  show wpAny _ _ _ Q E { s with heap:=put s.heap d (bO (cW T done++[⟨hashInt k,.int k (T+2*done.length),.str x (T+2*done.length+1)⟩]) (done.length+1)),toks:=s.toks+1 }
  rw [e2,e3]
  have e5:T+2*done.length+2=T+2*(done++[(k,x)]).length:=by rw [← e3]; exact Nat.add_assoc _ _ _
  rw [e5]
  refine vP (done++[(k,x)]) (e1▸hn) (e1▸hz) (by show d < (put s.heap d _).objs.size; rw [Ff]; exact hd) (wD hd) ?_
  show Q PUnit.unit { s with heap:=put (put s.heap d (bO (cW T (done++[(k,x)])) (done++[(k,x)]).length)) d (bO (cW T (done++[(k,x)]++L)) (done++[(k,x)]++L).length),toks:=s.toks+1+L.length }
  rw [← e1]
  have e4:∀ o o',put (put s.heap d o) d o'=put s.heap d o':=fun o o'=>m6
  rw [e4,show s.toks+1+L.length=s.toks+(L.length+1) by exact Nat.add_right_comm _ _ _]
  exact hQ
theorem Ea {ps:List (Sem Value × Sem Value)} {L:List (Int × Str)} {Q:Addr→Shared→Prop} (hp:PairsAre prog w A ps L) (hl:15 < L.length) (hz:L.length≤1000) (hn:(L.map (·.1)).Nodup)
  (hQ:Q s.heap.objs.size { s with heap:=s.heap.push (bO (ents s.toks L) L.length),toks:=s.toks+3*L.length }):wpAny (model prog w) A (subDict ps) Q E s:=by
 unfold subDict
 refine wpAny_bind (wpAny_alloc (wpAny_bind (wpAny_holding ?_)))
 rw [if_neg (by rw [hp.length]; omega)]
 refine wpAny_bind (wpAny_rule (wpAny_bind (RW (s:={ s with heap:=s.heap.push (bO [] 0) }) hp [] s.toks hn hz (by show _ < (s.heap.push _).objs.size; rw [Heap.size_push]; exact Nat.lt_succ_self _) uq rfl (wpAny_pure (wpAny_pure ?_)))))
 show Q s.heap.objs.size { s with heap:=put (s.heap.push (bO [] 0)) s.heap.objs.size (bO (ents s.toks ([]++L)) ([]++L).length),toks:=s.toks+3*([]++L).length }
 rw [Am,List.nil_append]
 exact hQ
theorem sub_short {ps:List (Sem Value × Sem Value)} {L:List (Int × Str)} {Q:Addr→Shared→Prop} (hp:PairsAre prog w A ps L) (hl:L.length≤15) (hn:(L.map (·.1)).Nodup)
  (hQ:Q s.heap.objs.size { s with heap:=s.heap.push (bO (cW s.toks L) L.length),toks:=s.toks+3*L.length }):wpAny (model prog w) A (subDict ps) Q E s:=by
 unfold subDict
 refine wpAny_bind (wpAny_alloc (wpAny_bind (wpAny_holding ?_)))
 rw [if_pos (by rw [hp.length]; exact hl)]
 refine wpAny_bind (zf (s:={ s with heap:=s.heap.push (bO [] 0) }) hp (wpAny_holding (wpAny_bind ?_)))
 refine vP (s:={ s with heap:=s.heap.push (bO [] 0),toks:=s.toks+2*L.length }) (T:=s.toks) [] hn (by show L.length≤1000; exact aF hl (by decide)) (by show _ < (s.heap.push _).objs.size; rw [Heap.size_push]; exact Nat.lt_succ_self _) uq (wpAny_pure (wpAny_pure ?_))
 show Q s.heap.objs.size { s with heap:=put (s.heap.push (bO [] 0)) s.heap.objs.size (bO (cW s.toks ([]++L)) ([]++L).length),toks:=s.toks+2*L.length+L.length }
 rw [Am,List.nil_append,show s.toks+2*L.length+L.length=s.toks+3*L.length by omega]
 exact hQ
theorem vU {a:Addr} {es:List DictEntry} {n:Nat} (h:s.heap.get? a=some (bO es n)):s.TypeIs (.ref a) "dict" := ⟨_,h,rfl⟩
theorem J5 {d sub:Addr} {E1 ME:List DictEntry} {n1 m1:Nat} {Q:Unit→Shared→Prop} (hd:s.heap.get? d=some (bO E1 n1)) (hs:s.heap.get? sub=some (bO ME m1)) (hne:d≠sub) (hS:(sub==sysModules)=false)
  (hE:E1≠[]) (hM:∀ i e,ME[i]? = some e→∃ k x t u,e=ent k x t u∧kJ k (E1++ME.take i)) (hz:(E1++ME).length≤1000) (hdd:d < s.heap.objs.size)
  (hQ:Q () { s with heap:=put s.heap d (bO (E1++ME) (n1+ME.length)) }):wpAny (model prog w) A (mergeMapping d (.ref sub) false) Q E s:=by
 unfold mergeMapping
 refine wpAny_bind (wpAny_isInstance (vU hs) isSubtype_dict_dict ?_)
 rw [if_pos rfl]
 refine wpAny_bind (wpAny_specialOf (vU hs) F.slot_dict_iter.lookup ?_)
 have e0:(some (Value.builtin "dict.__iter__")==some (Value.builtin "dict.__iter__"))=true:=by simp
 rw [e0]
 refine wpAny_bind (wpAny_pure ?_)
 dsimp only
 rw [if_neg (by rw [hS]; exact Bool.false_ne_true)]
 refine wpAny_bind (wpAny_dictEntries hd rfl ?_)
 have e1:E1.toArray.isEmpty=false:=by
  induction E1 using List.casesOn with
  | nil=>exact absurd rfl hE
  | cons=>rfl
 rw [e1,if_neg Bool.false_ne_true]
 refine wpAny_bind (wpAny_dictEntries hs rfl (wpAny_bind (wpAny_dictEpoch hs rfl (wpAny_bind ?_))))
 refine wpAny_forIn_list _
  (fun rest _ s'=>∃ i,rest=List.range' i (ME.length-i)∧i≤ME.length∧s'={ s with heap:=put s.heap d (bO (E1++ME.take i) (n1+i)) })
  _ ?_ ?_ _ _ ⟨0,by rw [List.range_eq_range']; simp,Nat.zero_le _,by rw [List.take_zero,List.append_nil,Nat.add_zero,ug (get?_objs hd)]⟩
 ·rintro x rest b s' ⟨i,hr,hi,rfl⟩
  have hlt:i < ME.length:=by
   rcases Nat.lt_or_ge i ME.length with h | h
   ·exact h
   ·rw [Nat.sub_eq_zero_of_le h] at hr; simp at hr
  obtain ⟨rfl,hrest⟩:x=i∧rest=List.range' (i+1) (ME.length-(i+1)):=by
   have e:ME.length-i=(ME.length-(i+1))+1:=by omega
   rw [e,List.range'_succ] at hr
   injection hr with h1 h2
   exact ⟨h1,h2⟩
  have hs':(put s.heap d (bO (E1++ME.take x) (n1+x))).get? sub=some (bO ME m1):=(yM (Ne.symm hne)).trans hs
  refine wpAny_bind (wpAny_dictEntries (s:={ s with heap:=put s.heap d (bO (E1++ME.take x) (n1+x)) }) hs' rfl ?_)
  have hx:ME.toArray[x]? = some ME[x]:=by simp [hlt]
  rw [hx]
  obtain ⟨k,v,t,u,he,hw⟩:=hM x ME[x] (by simp [hlt])
  show wpAny _ _ (holding [ME[x].key,ME[x].val] _ >>= _) _ _ _
  rw [he]
  refine wpAny_bind (wpAny_holding ?_)
  show wpAny _ _ (dictPut d (ent k v t u).hash (ent k v t u).key (ent k v t u).val) _ _ _
  unfold dictPut
  refine wpAny_bind (find_none (s:={ s with heap:=put s.heap d (bO (E1++ME.take x) (n1+x)) }) (wD hdd) hw ?_)
  have hl:(E1++ME.take x).length≤1000:=by
   rw [List.length_append] at hz ⊢
   have:(ME.take x).length≤ME.length:=by rw [List.length_take]; exact Nat.min_le_right _ _
   omega
  refine Dt (s:={ s with heap:=put s.heap d (bO (E1++ME.take x) (n1+x)) }) (wD hdd) hl ?_
  have e4:∀ o o',put (put s.heap d o) d o'=put s.heap d o':=fun o o'=>m6
  have e5:E1++ME.take x++[ent k v t u]=E1++ME.take (x+1):=by
   rw [List.append_assoc,← he,List.take_append_getElem hlt]
  show wpAny _ _ _ _ _ { s with heap:=put (put s.heap d (bO (E1++ME.take x) (n1+x))) d (bO (E1++ME.take x++[ent k v t u]) (n1+x+1)) }
  rw [e4,e5]
  refine wpAny_bind (wpAny_dictEpoch (s:={ s with heap:=put s.heap d (bO (E1++ME.take (x+1)) (n1+x+1)) }) ((yM (Ne.symm hne)).trans hs) rfl ?_)
  rw [if_neg (by simp)]
  exact wpAny_pure ⟨x+1,hrest,hlt,rfl⟩
 ·rintro b s' ⟨i,hr,hi,rfl⟩
  have hin:i=ME.length:=by
   rcases Nat.lt_or_ge i ME.length with h | h
   ·have e:ME.length-i=(ME.length-(i+1))+1:=by omega
    rw [e,List.range'_succ] at hr; exact nomatch hr
   ·exact Nat.le_antisymm hi h
  subst hin
  rw [List.take_length]
  exact wpAny_pure hQ
end
noncomputable def Fw (T:Nat) (done:List (Int × Str)) (subs:List Obj) (o:Obj):List Obj:=match done with
 | []=>subs
 | _ :: _=>subs++[o]
noncomputable def shape (T:Nat):List (Int × Str)→List (Int × Str)→List (Int × Str)→List Obj→List (Int × Str) × List (Int × Str) × List Obj
 | [],done,run,subs=>(done,run,subs)
 | p :: r,done,run,subs=>if run.length+1=17 then shape T r (done++(run++[p])) [] (Fw T done subs (bO (ents (T+3*done.length) (run++[p])) 17)) else shape T r done (run++[p]) subs
noncomputable def stOf (s0:Shared):List (Int × Str)→List Obj→Shared
 | [],_=>s0
 | p :: r,subs=>{ s0 with heap:=gP (s0.heap.push (bO (ents s0.toks (p :: r)) (p :: r).length)) subs,toks:=s0.toks+3*(p :: r).length }
noncomputable def Cy (s0:Shared):List (Int × Str)→Option Addr
 | []=>none
 | _ :: _=>some s0.heap.objs.size
section
variable {prog:Program} {w:World} {A:Around} {E:Value→Shared→Prop} {s0:Shared}
theorem Ms (f:(Option (Sem Value) × Sem Value)→(Option Addr × List (Sem Value × Sem Value))→Sem (ForInStep (Option Addr × List (Sem Value × Sem Value))))
  (h1:∀ (p:Sem Value × Sem Value) (main:Option Addr) (run:List (Sem Value × Sem Value)) (s:Shared) (Q:ForInStep (Option Addr × List (Sem Value × Sem Value))→Shared→Prop),run.length+1≠17→Q (.yield (main,run++[p])) s→wpAny (model prog w) A (f (some p.1,p.2) (main,run)) Q E s)
  (h2:∀ (done Lr:List (Int × Str)) (subs:List Obj) (p:Sem Value × Sem Value) (run:List (Sem Value × Sem Value)) (Q:ForInStep (Option Addr × List (Sem Value × Sem Value))→Shared→Prop),PairsAre prog w A (run++[p]) Lr→Lr.length=17→((done++Lr).map (·.1)).Nodup→(done++Lr).length≤1000→(done=[]→subs=[]) →
   Q (.yield (Cy s0 (done++Lr),[])) (stOf s0 (done++Lr) (Fw s0.toks done subs (bO (ents (s0.toks+3*done.length) Lr) 17)))→wpAny (model prog w) A (f (some p.1,p.2) (Cy s0 done,run)) Q E (stOf s0 done subs)) :
  ∀ {ps:List (Sem Value × Sem Value)} {L:List (Int × Str)},PairsAre prog w A ps L→∀ {done Lr:List (Int × Str)} {subs:List Obj} {run:List (Sem Value × Sem Value)} {Q:Option Addr × List (Sem Value × Sem Value)→Shared→Prop},PairsAre prog w A run Lr→Lr.length < 17 →
   ((done++Lr++L).map (·.1)).Nodup→(done++Lr++L).length≤1000→(done=[]→subs=[]) →
   (∀ done' run' Lr' subs',shape s0.toks L done Lr subs=(done',Lr',subs')→PairsAre prog w A run' Lr'→(done'=[]→subs'=[])→((done'++Lr').map (·.1)).Nodup→(done'++Lr').length≤1000→Q (Cy s0 done',run') (stOf s0 done' subs')) →
   wpAny (model prog w) A (forIn (ps.map fun p=>(some p.1,p.2)) (Cy s0 done,run) f) Q E (stOf s0 done subs):=by
 intro ps L hp
 induction hp with
 | nil =>
  intro done Lr subs run Q hr hl hn hz hs hQ
  rw [List.map_nil,List.forIn_nil]
  rw [List.append_nil] at hn hz
  exact wpAny_pure (hQ _ _ _ _ rfl hr hs hn hz)
 | @cons p k x ps L hp hps ih =>
  intro done Lr subs run Q hr hl hn hz hs hQ
  rw [List.map_cons,List.forIn_cons]
  have e1:done++Lr++(k,x) :: L=done++(Lr++[(k,x)])++L:=by simp
  rw [e1] at hn hz
  have hr':=hr.snoc hp
  have hrl:=hr.length
  by_cases h17:Lr.length+1=17
  ·have hn':((done++(Lr++[(k,x)])).map (·.1)).Nodup:=by
    rw [List.map_append,List.nodup_append] at hn; exact hn.1
   have hz':(done++(Lr++[(k,x)])).length≤1000:=by rw [List.length_append] at hz; omega
   refine wpAny_bind (h2 done (Lr++[(k,x)]) subs p run _ hr' (by rw [List.length_append]; exact h17) hn' hz' hs ?_)
   dsimp only
   refine ih .nil (by decide) (by rw [List.append_nil]; exact hn) (by rw [List.append_nil]; exact hz) (fun q=>by simp at q) fun done' run' Lr' subs' e=>hQ done' run' Lr' subs' ?_
   unfold shape
   rw [if_pos h17]; exact e
  ·refine wpAny_bind (h1 p _ run _ _ (by rw [hrl]; exact h17) ?_)
   dsimp only
   refine ih hr' (by rw [List.length_append]; show Lr.length+1 < 17; omega) hn hz hs fun done' run' Lr' subs' e=>hQ done' run' Lr' subs' ?_
   unfold shape
   rw [if_neg h17]; exact e
theorem zg {done:List (Int × Str)} {subs:List Obj}:(stOf s0 done subs).toks=s0.toks+3*done.length:=by cases done <;> rfl
theorem xP {Lr done:List (Int × Str)} {subs:List Obj} {ps:List (Sem Value × Sem Value)} {p0:Int × Str} {ME:List DictEntry} {β:Type} {k:Unit→Sem β} {Q:β→Shared→Prop} (hsub:∀ {s:Shared} {Q:Addr→Shared→Prop},s.toks=s0.toks+3*(p0 :: done).length →
   Q s.heap.objs.size { s with heap:=s.heap.push (bO ME Lr.length),toks:=s.toks+3*Lr.length }→wpAny (model prog w) A (subDict ps) Q E s)
  (hME:ME.length=Lr.length) (hm:∀ i e,ME[i]? = some e→∃ k x t u,e=ent k x t u∧kJ k (ents s0.toks (p0 :: done)++ME.take i)) (hz:(p0 :: done++Lr).length≤1000) (hbig:1 < s0.heap.objs.size) {x:Value→Sem Unit}
  (hQ:wpAny (model prog w) A (k ()) Q E { s0 with heap:=gP (s0.heap.push (bO (ents s0.toks (p0 :: done)++ME) (p0 :: done++Lr).length)) (subs++[bO ME Lr.length]),toks:=s0.toks+3*(p0 :: done++Lr).length }) :
  wpAny (model prog w) A (holding [.ref s0.heap.objs.size] (subDict ps) >>= fun sub=>(holding [.ref s0.heap.objs.size,.ref sub] (mergeMapping s0.heap.objs.size (.ref sub) false)).onRaise x >>= k) Q E (stOf s0 (p0 :: done) subs):=by
 have hsz:(stOf s0 (p0 :: done) subs).heap.objs.size=s0.heap.objs.size+1+subs.length:=by
  show (gP (s0.heap.push _) subs).objs.size=_
  rw [w5,Heap.size_push]
 have hd:(stOf s0 (p0 :: done) subs).heap.get? s0.heap.objs.size=some (bO (ents s0.toks (p0 :: done)) (p0 :: done).length):=xd uq
 refine wpAny_bind (wpAny_holding (hsub (zg) (wpAny_bind (wpAny_onRaise (wpAny_holding ?_)))))
 have hne:s0.heap.objs.size≠(stOf s0 (p0 :: done) subs).heap.objs.size:=by rw [hsz]; omega
 refine J5 (s:={ stOf s0 (p0 :: done) subs with heap:=(stOf s0 (p0 :: done) subs).heap.push (bO ME Lr.length),toks:=(stOf s0 (p0 :: done) subs).toks+3*Lr.length })
  (aQ _ hd) uq hne ?_ (by simp [ents]) hm ?_ ?_ ?_
 ·rw [hsz]
  have:s0.heap.objs.size+1+subs.length≠sysModules:=by show _≠1; omega
  simpa using this
 ·rw [List.length_append,j9,hME,← List.length_append]; exact hz
 ·show s0.heap.objs.size < ((stOf s0 (p0 :: done) subs).heap.push _).objs.size
  rw [Heap.size_push,hsz]; omega
 ·rw [zg]
  show wpAny _ _ (k ()) Q E { s0 with heap:=put ((gP (s0.heap.push (bO (ents s0.toks (p0 :: done)) (p0 :: done).length)) subs).push (bO ME Lr.length)) s0.heap.objs.size (bO (ents s0.toks (p0 :: done)++ME) ((p0 :: done).length+ME.length)),toks:=s0.toks+3*(p0 :: done).length+3*Lr.length }
  rw [← yC,z7 (by rw [Heap.size_push]; exact Nat.lt_succ_self _),Am,hME,← List.length_append,show s0.toks+3*(p0 :: done).length+3*Lr.length=s0.toks+3*(p0 :: done++Lr).length by rw [List.length_append]; omega]
  exact hQ
end
noncomputable def keyOf:Option Expr→Option Int
 | some (.Constant (.int k) _ _)=>some k
 | _=>none
noncomputable def valOf:Expr→Option Str
 | .Constant (.str x) _ _=>some x
 | _=>none
noncomputable def litsOf:List (Option Expr)→List Expr→Option (List (Int × Str))
 | [],vs=>if vs.isEmpty then some [] else none
 | k :: ks,vs=>vs.head?.bind fun v=>(keyOf k).bind fun i=>(valOf v).bind fun x=>(litsOf ks vs.tail).map ((i,x) :: ·)
theorem Kh {k:Option Expr} {i:Int} (h:keyOf k=some i):∃ a b,k=some (.Constant (.int i) a b):=by
 induction k using Option.casesOn with
 | none=>exact aO h
 | some e=>induction e using Expr.casesOn with
  | Constant c a b=>cases c with
   | int j=>obtain rfl:j=i:=aj h; exact ⟨_,_,rfl⟩
   | _=>exact aO h
  | _=>exact aO h
theorem Lg {e:Expr} {x:Str} (h:valOf e=some x):∃ a b,e=.Constant (.str x) a b:=by
 induction e using Expr.casesOn with
 | Constant c a b=>cases c with
  | str j=>obtain rfl:j=x:=aj h; exact ⟨_,_,rfl⟩
  | _=>exact aO h
 | _=>exact aO h
section
variable {prog:Program} {w:World} {A:Around} {E:Value→Shared→Prop} {s0:Shared} {env:Env}
theorem Iz {pos:Pos}:∀ {ks:List (Option Expr)} {vs:List Expr} {L:List (Int × Str)},litsOf ks vs=some L→ks.all (·.isSome)=true∧ks.length=vs.length∧PairsAre prog w A (pairTrees ks vs env pos) L:=by
 intro ks
 induction ks with
 | nil =>
  intro vs L h
  induction vs using List.casesOn with
  | nil=>obtain rfl:[]=L:=aj h; exact ⟨rfl,rfl,.nil⟩
  | cons v vs=>exact aO h
 | cons k ks ih =>
  intro vs L h
  induction vs using List.casesOn with
  | nil=>exact aO h
  | cons v vs =>
   obtain ⟨i,h1,h⟩:=aa (show (keyOf k).bind (fun i=>(valOf v).bind fun x=>(litsOf ks vs).map ((i,x) :: ·))=some L from h)
   obtain ⟨x,h2,h⟩:=aa h
   obtain ⟨L',h',rfl⟩:=bA h
   obtain ⟨kk,kp,rfl⟩:=Kh h1
   obtain ⟨xk,xp,rfl⟩:=Lg h2
   obtain ⟨a,b,c⟩:=ih h'
   refine ⟨by simpa using a,by simp [b],.cons ⟨fun hq=>wpAny_Constant_int (k:=kk) (pos:=kp) (env:=env) hq,fun hq=>wpAny_bind (wpAny_Constant_str (k:=xk) (pos:=xp) (env:=env) (wpAny_bind (wpAny_standAt (wpAny_pure hq))))⟩ c⟩
theorem yF {done:List (Int × Str)} (h:done≠[]):∃ p r,done=p :: r:=by
 induction done using List.casesOn with
 | nil=>exact absurd rfl h
 | cons p r=>exact ⟨p,r,rfl⟩
theorem Av {k:Int} {T t:Nat} {L M:List (Int × Str)} {i:Nat} (h:k ∉ L.map (·.1)) (h':k ∉ (M.take i).map (·.1)):kJ k (ents T L++ents t (M.take i)):=fun e he=>by
 rcases List.mem_append.mp he with he | he
 ·exact mX h e he
 ·exact mX h' e he
theorem yU {k:Int} {T t:Nat} {L M:List (Int × Str)} {i:Nat} (h:k ∉ L.map (·.1)) (h':k ∉ (M.take i).map (·.1)):kJ k (ents T L++cW t (M.take i)):=fun e he=>by
 rcases List.mem_append.mp he with he | he
 ·exact mX h e he
 ·exact vK h' e he
theorem Jz:∀ {t:Nat} {M:List (Int × Str)} {i:Nat} {e:DictEntry},(ents t M)[i]? = some e→∃ k x t' u,e=ent k x t' u∧M[i]? = some (k,x)∧(ents t M).take i=ents t (M.take i)
 | t,[],i,e,h=>by simp [ents] at h
 | t,(k,x) :: M,0,e,h=>by
  simp only [ents,List.getElem?_cons_zero,Option.some.injEq] at h
  exact ⟨k,x,_,_,h.symm,rfl,rfl⟩
 | t,(k,x) :: M,i+1,e,h=>by
  simp only [ents,List.getElem?_cons_succ] at h
  obtain ⟨k',x',t',u,a,b,c⟩:=Jz h
  exact ⟨k',x',t',u,a,b,by simp only [ents,List.take_succ_cons,c]⟩
theorem FQ:∀ {t:Nat} {M:List (Int × Str)} {i:Nat} {e:DictEntry},(cW t M)[i]? = some e→∃ k x t' u,e=ent k x t' u∧M[i]? = some (k,x)∧(cW t M).take i=cW t (M.take i)
 | t,[],i,e,h=>by simp [cW] at h
 | t,(k,x) :: M,0,e,h=>by
  simp only [cW,List.getElem?_cons_zero,Option.some.injEq] at h
  exact ⟨k,x,_,_,h.symm,rfl,rfl⟩
 | t,(k,x) :: M,i+1,e,h=>by
  simp only [cW,List.getElem?_cons_succ] at h
  obtain ⟨k',x',t',u,a,b,c⟩:=FQ h
  exact ⟨k',x',t',u,a,b,by simp only [cW,List.take_succ_cons,c]⟩
theorem fresh_at {L M:List (Int × Str)} {i:Nat} {k:Int} {x:Str} (hn:((L++M).map (·.1)).Nodup) (h:M[i]? = some (k,x)):k ∉ L.map (·.1)∧k ∉ (M.take i).map (·.1):=by
 rw [List.map_append,List.nodup_append] at hn
 obtain ⟨_,h2,h3⟩:=hn
 have hm:k∈M.map (·.1):=List.mem_map.mpr ⟨_,List.mem_of_getElem? h,rfl⟩
 refine ⟨fun q=>h3 _ q _ hm rfl,fun q=>?_⟩
 have e:M=M.take i++M.drop i:=(List.take_append_drop i M).symm
 rw [e,List.map_append,List.nodup_append] at h2
 have hd:k∈(M.drop i).map (·.1):=by
  refine List.mem_map.mpr ⟨(k,x),?_,rfl⟩
  have:(M.drop i)[0]? = some (k,x):=by rw [List.getElem?_drop]; exact h
  exact List.mem_of_getElem? this
 exact h2.2.2 _ q _ hd rfl
theorem Gd {ks:List (Option Expr)} {vs:List Expr} {pos:Pos} {L done run:List (Int × Str)} {subs:List Obj} {Q:Value→Shared→Prop} (hL:litsOf ks vs=some L) (hn:(L.map (·.1)).Nodup) (hz:L.length≤1000)
  (hsh:shape s0.toks L [] [] []=(done,run,subs)) (hd:done≠[]) (hr0:run≠[]) (hr:run.length≤15) (hbig:1 < s0.heap.objs.size)
  (hQ:Q (.ref s0.heap.objs.size) { s0 with heap:=gP (s0.heap.push (bO (ents s0.toks done++cW (s0.toks+3*done.length) run) (done++run).length)) (subs++[bO (cW (s0.toks+3*done.length) run) run.length]),toks:=s0.toks+3*(done++run).length }) :
  wpAny (model prog w) A (eval (.Dict ks vs pos) env) Q E s0:=by
 obtain ⟨hall,hlen,hp⟩:=Iz (prog:=prog) (w:=w) (A:=A) (env:=env) (pos:=pos) hL
 rw [arm_eval_Dict,zip_pairTrees ks vs env pos hall hlen]
 refine wpAny_bind (wpAny_standAt ?_)
 unfold dictDisplay
 dsimp only
 refine wpAny_bind (Ms (s0:=s0) _ ?_ ?_ hp (done:=[]) (Lr:=[]) (subs:=[]) .nil (by decide) (by simpa using hn) (by simpa using hz) (fun _=>rfl) ?_)
 ·intro p main rn s Q' h17 hq
  have e:((rn++[(p.1,p.2)]).length==17)=false:=by simpa using h17
  simp only [e,Bool.false_eq_true,if_false]
  exact wpAny_pure hq
 ·intro dn Lr sb p rn Q' hpr h17 hnn hzz hsb hq
  have e:((rn++[(p.1,p.2)]).length==17)=true:=by
   have:=hpr.length
   rw [h17] at this
   simpa using this
  have e':(rn++[(p.1,p.2)]).isEmpty=false:=by simp
  simp only [e,if_true,e',Bool.false_eq_true,if_false]
  have hnl:(Lr.map (·.1)).Nodup:=by rw [List.map_append,List.nodup_append] at hnn; exact hnn.2.1
  have hzl:Lr.length≤1000:=aF (Nat.le_of_eq h17) (by decide)
  induction dn using List.casesOn with
  | nil =>
   obtain rfl:=hsb rfl
   obtain ⟨p0,r0,rfl⟩:=yF (done:=Lr) (by intro q; rw [q] at h17; cases h17)
   show wpAny _ _ _ _ _ s0
   refine wpAny_bind (wpAny_bind (Ea hpr (Nat.lt_of_lt_of_le (by decide) (Nat.le_of_eq h17.symm)) hzl hnl (wpAny_pure ?_)))
   exact wpAny_pure hq
  | cons p0 dn =>
   refine wpAny_bind (xP (p0:=p0) (done:=dn) (Lr:=Lr) (ME:=ents (s0.toks+3*(p0 :: dn).length) Lr) (subs:=sb) (fun {s} {Q} ht hq2=>?_) j9 (fun i e he=>?_) hzz hbig (wpAny_pure (wpAny_pure ?_)))
   ·rw [← ht] at hq2
    exact Ea hpr (Nat.lt_of_lt_of_le (by decide) (Nat.le_of_eq h17.symm)) hzl hnl hq2
   ·obtain ⟨k,x,t',u,rfl,hi,ht⟩:=Jz he
    obtain ⟨f1,f2⟩:=fresh_at hnn hi
    exact ⟨k,x,t',u,rfl,ht▸Av f1 f2⟩
   ·rw [← nZ,h17]
    exact hq
 ·intro done' rn Lr' subs' hs' hpr hsb hnn hzz
  rw [hsh] at hs'
  obtain ⟨rfl,rfl,rfl⟩:done=done'∧run=Lr'∧subs=subs':=by simpa using hs'
  obtain ⟨p0,dn,rfl⟩:=yF hd
  have hrl:=hpr.length
  have e':rn.isEmpty=false:=by
   induction rn using List.casesOn with
   | nil=>exact absurd (List.length_eq_zero_iff.mp hrl.symm) hr0
   | cons=>rfl
  have hnl:(run.map (·.1)).Nodup:=by rw [List.map_append,List.nodup_append] at hnn; exact hnn.2.1
  simp only [e',Bool.false_eq_true,if_false]
  show wpAny _ _ ((holding [.ref s0.heap.objs.size] (subDict rn) >>= fun sub=>(holding [.ref s0.heap.objs.size,.ref sub] (mergeMapping s0.heap.objs.size (.ref sub) false)).onRaise _ >>= fun _=>pure (some s0.heap.objs.size)) >>= _) _ _ _
  refine wpAny_bind (xP (p0:=p0) (done:=dn) (Lr:=run) (ME:=cW (s0.toks+3*(p0 :: dn).length) run) (subs:=subs) (fun {s} {Q} ht hq2=>?_) mD (fun i e he=>?_) hzz hbig (wpAny_pure (wpAny_pure hQ)))
  ·rw [← ht] at hq2
   exact sub_short hpr hr hnl hq2
  ·obtain ⟨k,x,t',u,rfl,hi,ht⟩:=FQ he
   obtain ⟨f1,f2⟩:=fresh_at hnn hi
   exact ⟨k,x,t',u,rfl,ht▸yU f1 f2⟩
end
set_option backward.match.sparseCases true
inductive FinQ (b:Nat) (f:Flow) (s':Shared) (c':Code) (p':Pos) (s:Shared) (t:Thread):Prop where
 | mk (he:endAt b t=some f) (e1:s=s') (e2:t.code=c') (e3:t.pos=p'):FinQ b f s' c' p' s t
inductive StepQ (p:Program) (w:World) (b:Nat) (P:Shared→Thread→Prop) (s:Shared) (t:Thread):Prop where
 | mk (he:endAt b t=none) (hc:t.calm=true) (s₁:Shared) (t₁:Thread) (hs:PySem.step (denote table) p w s t=.go s₁ t₁) (h:P s₁ t₁):StepQ p w b P s t
noncomputable def PieceN (p:Program) (w:World) (b:Nat) (f:Flow) (s':Shared) (c':Code) (p':Pos) (n:Nat):Shared→Thread→Prop:=Nat.rec (motive:=fun _=>Shared→Thread→Prop) (FinQ b f s' c' p') (fun _=>StepQ p w b) n
inductive PieceRun (p:Program) (w:World) (b:Nat) (s:Shared) (t:Thread) (f:Flow) (s':Shared) (c':Code) (p':Pos):Prop where
 | mk (n:Nat) (h:PieceN p w b f s' c' p' n s t):PieceRun p w b s t f s' c' p'
theorem PieceRun.fin {p:Program} {w:World} {b:Nat} {s:Shared} {t:Thread} {f:Flow} (he:endAt b t=some f):PieceRun p w b s t f s t.code t.pos:=⟨0,⟨he,rfl,rfl,rfl⟩⟩
theorem PieceRun.step {p:Program} {w:World} {b:Nat} {s s₁ s':Shared} {t t₁:Thread} {f:Flow} {c':Code} {p':Pos} (he:endAt b t=none) (hc:t.calm=true) (hs:PySem.step (denote table) p w s t=.go s₁ t₁) (h:PieceRun p w b s₁ t₁ f s' c' p'):PieceRun p w b s t f s' c' p':=by
 obtain ⟨n,h⟩:=h
 exact ⟨n+1,⟨he,hc,_,_,hs,h⟩⟩
theorem PieceRun.of_seg {p:Program} {w:World} {n₀:Nat} {ann:Option Value} {b:Nat}:∀ {n:Nat} {s s':Shared} {t:Thread} {f:Flow} {c':Code} {p':Pos},segRun table p w n₀ ann b n s t=some (f,s',c',p')→PieceRun p w b s t f s' c' p':=by
 intro n
 induction n with
 | zero =>
   intro _ _ _ _ _ _ h
   simp [segRun] at h
 | succ n ih =>
   intro s s' t f c' p' h
   unfold segRun at h
   cases he:endAt b t with
   | some g =>
    rw [he] at h
    obtain ⟨rfl,rfl,rfl,rfl⟩:g=f∧s=s'∧t.code=c'∧t.pos=p':=by simpa using h
    exact .fin he
   | none =>
    rw [he] at h
    cases hk:stepOk n₀ ann t with
    | false=>rw [hk] at h; exact aO h
    | true =>
     rw [hk] at h
     cases hs:PySem.step (denote table) p w s t with
     | halt o s₂=>rw [hs] at h; exact aO h
     | go s₂ t₂=>rw [hs] at h; exact .step he (bj hk).1 hs (ih h)
section
variable {α:Type} {p:Program} {w:World} {B:List Frame} {K K':α→Sem Fin} {H H':Value→Sem Fin} {gd:Bool→Bool} {lv:List Value→List Value} {res:α→Flow}
theorem xO {x:Sem α} {code:Code} {pos:Pos} (hp:∀ a,x ≠ .pure a) (hr:∀ e,x ≠ .raise e) (h:Thread.calm ⟨x.wrap K H gd lv,code,pos,B⟩=true):Thread.calm ⟨x.wrap K' H' gd lv,code,pos,B⟩=true:=by
 induction x using Sem.casesOn with
 | pure a=>exact absurd rfl (hp a)
 | raise e=>exact absurd rfl (hr e)
 | _=>exact h
theorem yG (hB:splitAtGen B=none) {cur:Sem Fin} {code:Code} {pos:Pos} {a b:List Frame} (F:Frames2 K K' H H' gd lv B a b) (h:Thread.calm ⟨cur,code,pos,a⟩=true):Thread.calm ⟨cur,code,pos,b⟩=true:=by
 have e:Thread.yieldsInsideHandler ⟨cur,code,pos,b⟩=Thread.yieldsInsideHandler ⟨cur,code,pos,a⟩:=by
  delta Thread.yieldsInsideHandler
  dsimp only
  rcases F.split hB with ⟨u,v⟩ | ⟨fs,n,k,k',c,q,ra,rb,u,v,_⟩ <;> rw [u,v]
 delta Thread.calm at h ⊢
 rw [e]
 exact h
theorem rC {s s₁:Shared} {t t₁:Thread} (hz:s.asleep) (hc:t.calm=true) (h:PySem.step (denote table) p w s t=.go s₁ t₁):s₁.asleep∧∀ {m:Nat},schedN (denote table) p w (m+1) (.single s t)=schedN (denote table) p w m (.single s₁ t₁):=by
 refine ⟨Shared.asleep_of_life (step_life (denote table) p w s s₁ t t₁ h) hz,fun {m}=>?_⟩
 have e:sstep (denote table) p w (.single s t)=.go (.single s₁ t₁):=by
  rcases sstep_single (denote table) p w s t hc hz with e | e
  ·rw [e,h]; rfl
  ·rw [h] at e; cases e
 show (match sstep (denote table) p w (.single s t) with | .go c'=>schedN (denote table) p w m c' | .halt o s => .halted o s)=_
 rw [e]
inductive SimTo (p:Program) (w:World) (B:List Frame) (res:α→Flow) (K':α→Sem Fin) (f:Flow) (s s':Shared) (t':Thread) (c':Code) (p':Pos):Prop where
 | mk (a:α) (e:res a=f) (z:s'.asleep) (l:s'.heap.life=s.heap.life) (m:Nat) (h:schedN (denote table) p w m (.single s t')=.running (.single s' ⟨K' a,c',p',B⟩)):SimTo p w B res K' f s s' t' c' p'
theorem yJ {c:Sem Fin} {code:Code} {pos:Pos}:endAt B.length ⟨c,code,pos,B⟩=endAt 0 ⟨c,code,pos,[]⟩:=by
 unfold endAt
 rw [show ((⟨c,code,pos,B⟩:Thread).stack.length==B.length)=true from beq_self_eq_true _]; rfl
theorem J2 {x:Sem α} {code:Code} {pos:Pos} {f:Flow} (he:endAt B.length ⟨x.wrap (fun a => .pure (.done (res a))) deadEnd gd lv,code,pos,B⟩=some f):∃ a,x=.pure a∧res a=f:=by
 rw [yJ] at he
 induction x using Sem.casesOn with
 | pure a=>exact ⟨a,rfl,aj he⟩
 | _=>exact aO he
theorem Wr {s:Shared} {t t':Thread} {f:Flow} (he:endAt B.length t=some f) (hz:s.asleep) (R:Rel2 (fun a => .pure (.done (res a))) K' deadEnd H' gd lv B t t'):SimTo p w B res K' f s s t' t.code t.pos:=by
 obtain ⟨cur,code,pos,st⟩:=t
 obtain ⟨cur',code',pos',st'⟩:=t'
 obtain ⟨e1,e2,R⟩:=R
 dsimp only at e1 e2 R
 subst e1 e2
 rcases R with ⟨rfl,rfl,x,rfl,rfl⟩ | ⟨rfl,F⟩
 ·obtain ⟨a,rfl,hf⟩:=J2 he
  exact ⟨a,hf,hz,rfl,0,rfl⟩
 ·have:((st.length==B.length)=false):=beq_eq_false_iff_ne.mpr (Nat.ne_of_gt F.longer.1)
  simp only [endAt,this] at he
  cases he
theorem Vu (hB:splitAtGen B=none) {s s₁:Shared} {t t₁ t':Thread} (he:endAt B.length t=none) (hc:t.calm=true) (hs:PySem.step (denote table) p w s t=.go s₁ t₁) (R:Rel2 (fun a => .pure (.done (res a))) K' deadEnd H' gd lv B t t') :
  Thread.calm t'=true∧∃ t₂',PySem.step (denote table) p w s t'=.go s₁ t₂'∧Rel2 (fun a => .pure (.done (res a))) K' deadEnd H' gd lv B t₁ t₂':=by
 obtain ⟨cur,code,pos,st⟩:=t
 obtain ⟨cur',code',pos',st'⟩:=t'
 obtain ⟨e1,e2,R⟩:=R
 dsimp only at e1 e2 R
 subst e1 e2
 rcases R with ⟨rfl,rfl,x,rfl,rfl⟩ | ⟨rfl,F⟩
 ·have hp:∀ a,x ≠ .pure a:=by
   rintro a rfl
   simp [endAt,Sem.wrap] at he
  have hr:∀ e,x ≠ .raise e:=by
   rintro e rfl
   obtain ⟨heap,gens,drawn,toks,os⟩:=s
   simp only [Sem.wrap,PySem.step] at hs
   cases hs
  exact ⟨xO hp hr hc,step_outer hB hp hs⟩
 ·exact ⟨yG hB F hc,step_inner hB F hs⟩
theorem sim (hB:splitAtGen B=none) {s s':Shared} {t:Thread} {f:Flow} {c':Code} {p':Pos} (h:PieceRun p w B.length s t f s' c' p') :
  ∀ {t':Thread},s.asleep→Rel2 (fun a => .pure (.done (res a))) K' deadEnd H' gd lv B t t'→SimTo p w B res K' f s s' t' c' p':=by
 obtain ⟨n,h⟩:=h
 revert s t
 induction n with
 | zero=>intro s t h t' hz R; obtain ⟨he,rfl,rfl,rfl⟩:=h; exact Wr he hz R
 | succ n ih =>
  intro s t h t' hz R
  obtain ⟨he,hc,s₁,t₁,hs,h⟩:=h
  obtain ⟨k1,t₂',k3,R'⟩:=Vu hB he hc hs R
  obtain ⟨hz₁,hsch⟩:=rC hz k1 k3
  obtain ⟨a,ha,z,l,m,hm⟩:=ih h hz₁ R'
  exact ⟨a,ha,z,l.trans (step_life (denote table) p w _ _ _ _ k3),m+1,hsch.trans hm⟩
end
section
variable {p:Program} {w:World} {env:Env} {q:Pos}
theorem GC {s s':Shared} {st:Stmt} {rest:List Stmt} {c c':Code} {pos p':Pos} (hz:s.asleep) (h:PieceRun p w 1 s (pieceOf st env c pos [topFrame q]) .next s' c' p') :
  s'.asleep∧s'.heap.life=s.heap.life∧∃ m,schedN (denote table) p w m (.single s (restOf (st :: rest) env c pos [topFrame q]))=.running (.single s' (restOf rest env c' p' [topFrame q])):=by
 obtain ⟨a,ha,z,l,m,hm⟩:=sim (res:=id) (K':=fun f=>match f with | .next=>(execs rest env).wrap doneF (leaveH env) id id | f=>doneF f) (H':=leaveH env) (B:=[topFrame q]) (gd:=id) (lv:=id) rfl h
  (t':=⟨(exec st env).wrap (fun f=>match f with | .next=>(execs rest env).wrap doneF (leaveH env) id id | f=>doneF f) (leaveH env) id id,c,pos,[topFrame q]⟩) hz ⟨rfl,rfl,.inl ⟨rfl,rfl,_,rfl,rfl⟩⟩
 obtain rfl:a=.next:=ha
 refine ⟨z,l,m,?_⟩
 unfold restOf
 rw [execs_cons_wrap]
 exact hm
theorem iD {c₁ c₂ c₃:Config} {m n:Nat} (h₁:schedN (denote table) p w m c₁=.running c₂) (h₂:schedN (denote table) p w n c₂=.running c₃):schedN (denote table) p w (m+n) c₁=.running c₃:=by
 induction m generalizing c₁ with
 | zero =>
  have e:SRun.running c₁=.running c₂:=h₁
  cases e
  rw [Nat.zero_add]; exact h₂
 | succ m ih =>
  rw [show m+1+n=(m+n)+1 by exact Nat.add_right_comm _ _ _]
  unfold schedN at h₁ ⊢
  cases e:sstep (denote table) p w c₁ with
  | go c'=>rw [e] at h₁; exact ih h₁
  | halt o s=>rw [e] at h₁; cases h₁
end
set_option backward.match.sparseCases false
inductive CF {α:Type} (K:α→Sem Fin) (gd:Bool→Bool) (lv:List Value→List Value) (c:Code) (B:List Frame):List Frame→Prop
 | ret (y:Result→Sem α) (h:Option Value) (g:Bool) (l:List Value) (p:Pos) (kept:List Value):CF K gd lv c B (.ret (fun r=>(y r).wrap K deadEnd gd lv) h g l c p kept :: B)
 | gen (n:Nat) (y:GenResult→Sem α) (l:List Value) (p:Pos):CF K gd lv c B (.gen n (fun r=>(y r).wrap K deadEnd gd lv) l c p :: B)
 | cons (f:Frame) {a:List Frame} (x:CF K gd lv c B a):CF K gd lv c B (f :: a)
section
variable {α:Type} {p:Program} {w:World} {B:List Frame} {K:α→Sem Fin} {gd:Bool→Bool} {lv:List Value→List Value} {c:Code}
noncomputable def Inv (K:α→Sem Fin) (gd:Bool→Bool) (lv:List Value→List Value) (c:Code) (B:List Frame) (t:Thread):Prop:=(t.stack=B∧t.code=c∧∃ x:Sem α,t.cur=x.wrap K deadEnd gd lv)∨CF K gd lv c B t.stack
theorem CF.append {a:List Frame} (x:CF K gd lv c B a):∀ fs:List Frame,CF K gd lv c B (fs++a):=by
 intro fs
 induction fs with
 | nil =>
   exact x
 | cons f fs ih =>
   exact .cons f ih
theorem CF.longer {a:List Frame} (x:CF K gd lv c B a):B.length < a.length:=by
 induction x with
 | ret | gen=>exact Nat.lt_succ_self _
 | cons f _ ih=>exact Nat.lt_succ_of_lt ih
theorem CF.split (hB:splitAtGen B=none) {a:List Frame} (x:CF K gd lv c B a) :
  splitAtGen a=none∨∃ fs n k c₁ q ra,splitAtGen a=some (fs,(n,k,c₁,q),ra)∧(CF K gd lv c B ra∨(ra=B∧c₁=c∧∃ y:GenResult→Sem α,k=fun r=>(y r).wrap K deadEnd gd lv)):=by
 induction x with
 | ret=>left; simp only [splitAtGen,hB,Option.map_none]
 | gen n y l q=>right; exact ⟨_,_,_,_,_,_,rfl,.inr ⟨rfl,rfl,y,rfl⟩⟩
 | cons f x ih =>
  cases f with
  | gen n k l c₁ q=>right; exact ⟨_,_,_,_,_,_,rfl,.inl x⟩
  | ret k₀ h g l c₀ p₀ kept =>
   rcases ih with u | ⟨fs,n,k,c₁,q,ra,u,z⟩
   ·left; simp only [splitAtGen,u,Option.map_none]
   ·right; exact ⟨.ret k₀ h g l c₀ p₀ kept :: fs,n,k,c₁,q,ra,by simp only [splitAtGen,u,Option.map_some],z⟩
noncomputable def GoOk (P:Thread→Prop):PySem.Step→Prop
 | .go _ t=>P t
 | .halt ..=>True
theorem GoOk.of {P:Thread→Prop} {st:PySem.Step} {s₂:Shared} {t₂:Thread} (x:GoOk P st) (h:st=.go s₂ t₂):P t₂:=by subst h; exact x
theorem Mh {s:Shared} {code:Code} {pos:Pos} {a:List Frame} (F:CF K gd lv c B a) {g:Nat} {r:Resume} {l:List Value} {k:GenResult→Sem Fin}:GoOk (Inv K gd lv c B) (PySem.step (denote table) p w s ⟨.resume g r l k,code,pos,a⟩):=by
 obtain ⟨heap,gens,drawn,toks,os⟩:=s
 dsimp only [PySem.step]
 generalize gens[g]? = o
 induction o using Option.casesOn with
 | none=>exact trivial
 | some st =>
  induction st using GenState.casesOn with
  | fresh c₁ =>
   induction r using Resume.casesOn with
   | throw x=>exact .inr F
   | send v=>cases v <;> first | exact .inr F | exact .inr (.cons _ F)
  | suspended kk lv' c₁ q frames cl=>exact .inr ((CF.cons _ F).append frames)
  | running=>exact .inr F
  | finished=>exact .inr F
theorem Nm (hB:splitAtGen B=none) {s:Shared} {code:Code} {pos:Pos} {a:List Frame} (F:CF K gd lv c B a) {v:Value} {g0:Bool} {l:List Value} {k:Resume→Sem Fin}:GoOk (Inv K gd lv c B) (PySem.step (denote table) p w s ⟨.yield v g0 l k,code,pos,a⟩):=by
 obtain ⟨heap,gens,drawn,toks,os⟩:=s
 dsimp only [PySem.step]
 rcases F.split hB with u | ⟨fs,n,k,c₁,q,ra,u,z⟩
 ·rw [u]; exact trivial
 ·rw [u]
  rcases z with z | ⟨rfl,rfl,y,rfl⟩
  ·exact .inr z
  ·exact .inl ⟨rfl,rfl,_,rfl⟩
theorem U4 {s:Shared} {f:Flow} {code:Code} {pos:Pos} {a:List Frame} (F:CF K gd lv c B a):GoOk (Inv K gd lv c B) (PySem.step (denote table) p w s ⟨.pure (.done f),code,pos,a⟩):=by
 obtain ⟨heap,gens,drawn,toks,os⟩:=s
 cases F with
 | ret y hd g l q kept=>exact .inl ⟨rfl,rfl,_,rfl⟩
 | gen n y l q=>exact .inl ⟨rfl,rfl,_,rfl⟩
 | cons fr F=>cases fr <;> exact .inr F
theorem PB {s:Shared} {e:Value} {code:Code} {pos:Pos} {a:List Frame} (F:CF K gd lv c B a):GoOk (Inv K gd lv c B) (PySem.step (denote table) p w s ⟨.raise e,code,pos,a⟩):=by
 obtain ⟨heap,gens,drawn,toks,os⟩:=s
 cases F with
 | ret y hd g l q kept=>exact .inl ⟨rfl,rfl,_,rfl⟩
 | gen n y l q=>exact .inl ⟨rfl,rfl,_,rfl⟩
 | cons fr F=>cases fr <;> exact .inr F
theorem Pb {s:Shared} {c₁ code:Code} {pos:Pos} {a:List Frame} (F:CF K gd lv c B a):GoOk (Inv K gd lv c B) (PySem.step (denote table) p w s ⟨.pure (.again c₁),code,pos,a⟩):=by
 obtain ⟨heap,gens,drawn,toks,os⟩:=s
 cases F with
 | ret y hd g l q kept=>rw [W.step_again]; exact .inr (.ret ..)
 | gen n y l q=>rw [step_again_gen]; exact .inr (.gen ..)
 | cons fr F=>cases fr with
  | ret k hd g l c' q kept=>rw [W.step_again]; exact .inr (.cons _ F)
  | gen n k l c' q=>rw [step_again_gen]; exact .inr (.cons _ F)
theorem cf_in (hB:splitAtGen B=none) {s:Shared} {cur:Sem Fin} {code:Code} {pos:Pos} {a:List Frame} (F:CF K gd lv c B a):GoOk (Inv K gd lv c B) (PySem.step (denote table) p w s ⟨cur,code,pos,a⟩):=by
 induction cur using Sem.casesOn with
 | pure f =>
  cases f with
  | done f=>exact U4 F
  | again c₁=>exact Pb F
 | raise e=>exact PB F
 | unsupported | register | fork | await=>exact trivial
 | finish e=>obtain ⟨heap,gens,drawn,toks,os⟩:=s; dsimp only [PySem.step]; split <;> exact trivial
 | rule | «at» | alloc | loadIfAlive | point | fresh | ask | newGen | thread | os | stack | handled=>exact .inr F
 | call c₁ m g l k=>exact .inr (.cons _ F)
 | load a₁ q k=>obtain ⟨heap,gens,drawn,toks,os⟩:=s; dsimp only [PySem.step]; generalize heap.get? a₁=o; induction o using Option.casesOn with
  | none=>exact trivial
  | some _=>exact .inr F
 | update a₁ q f k=>obtain ⟨heap,gens,drawn,toks,os⟩:=s; dsimp only [PySem.step]; split <;> first | exact trivial | exact .inr F
 | choose src n k=>obtain ⟨heap,gens,drawn,toks,os⟩:=s; dsimp only [PySem.step]; split <;> first | exact trivial | exact .inr F
 | genState g k=>obtain ⟨heap,gens,drawn,toks,os⟩:=s; dsimp only [PySem.step]; generalize gens[g]? = o; induction o using Option.casesOn with
  | none=>exact trivial
  | some _=>exact .inr F
 | resume g r l k=>exact Mh F
 | «yield» v g0 l kk=>exact Nm hB F
theorem M6 (hB:splitAtGen B=none) {s s₂:Shared} {cur:Sem Fin} {code:Code} {pos:Pos} {a:List Frame} {t₂:Thread} (F:CF K gd lv c B a)
  (h:PySem.step (denote table) p w s ⟨cur,code,pos,a⟩=.go s₂ t₂):Inv K gd lv c B t₂:=(cf_in hB F).of h
theorem Ks {s:Shared} {pos:Pos} {g:Nat} {r:Resume} {l:List Value} {k:GenResult→Sem α}:GoOk (Inv K gd lv c B) (PySem.step (denote table) p w s ⟨(Sem.resume g r l k).wrap K deadEnd gd lv,c,pos,B⟩):=by
 obtain ⟨heap,gens,drawn,toks,os⟩:=s
 dsimp only [Sem.wrap,PySem.step]
 generalize gens[g]? = o
 induction o using Option.casesOn with
 | none=>exact trivial
 | some st =>
  induction st using GenState.casesOn with
  | fresh c₁ =>
   induction r using Resume.casesOn with
   | throw x=>exact .inl ⟨rfl,rfl,_,rfl⟩
   | send v=>cases v <;> first | exact .inl ⟨rfl,rfl,_,rfl⟩ | exact .inr (.gen ..)
  | suspended kk lv' c₁ q frames cl=>exact .inr (CF.append (.gen ..) frames)
  | running=>exact .inl ⟨rfl,rfl,_,rfl⟩
  | finished=>exact .inl ⟨rfl,rfl,_,rfl⟩
theorem YD (hB:splitAtGen B=none) {s:Shared} {x:Sem α} {pos:Pos} (hp:∀ a,x ≠ .pure a):GoOk (Inv K gd lv c B) (PySem.step (denote table) p w s ⟨x.wrap K deadEnd gd lv,c,pos,B⟩):=by
 induction x using Sem.casesOn with
 | pure a=>exact absurd rfl (hp a)
 | raise e=>exact trivial
 | unsupported | register | fork | await=>exact trivial
 | finish e=>obtain ⟨heap,gens,drawn,toks,os⟩:=s; dsimp only [Sem.wrap,PySem.step]; split <;> exact trivial
 | rule | «at» | alloc | loadIfAlive | point | fresh | ask | newGen | thread | os | stack | handled=>exact .inl ⟨rfl,rfl,_,rfl⟩
 | call c₁ m g l k=>exact .inr (.ret ..)
 | load a₁ q k=>obtain ⟨heap,gens,drawn,toks,os⟩:=s; dsimp only [Sem.wrap,PySem.step]; generalize heap.get? a₁=o; induction o using Option.casesOn with
  | none=>exact trivial
  | some _=>exact .inl ⟨rfl,rfl,_,rfl⟩
 | update a₁ q f k=>obtain ⟨heap,gens,drawn,toks,os⟩:=s; dsimp only [Sem.wrap,PySem.step]; split <;> first | exact trivial | exact .inl ⟨rfl,rfl,_,rfl⟩
 | choose src n k=>obtain ⟨heap,gens,drawn,toks,os⟩:=s; dsimp only [Sem.wrap,PySem.step]; split <;> first | exact trivial | exact .inl ⟨rfl,rfl,_,rfl⟩
 | genState g k=>obtain ⟨heap,gens,drawn,toks,os⟩:=s; dsimp only [Sem.wrap,PySem.step]; generalize gens[g]? = o; induction o using Option.casesOn with
  | none=>exact trivial
  | some _=>exact .inl ⟨rfl,rfl,_,rfl⟩
 | resume g r l k=>exact Ks
 | «yield» v g0 l kk=>obtain ⟨heap,gens,drawn,toks,os⟩:=s; dsimp only [Sem.wrap,PySem.step]; rw [hB]; exact trivial
theorem Ot (hB:splitAtGen B=none) {s s₂:Shared} {x:Sem α} {pos:Pos} {t₂:Thread} (hp:∀ a,x ≠ .pure a)
  (h:PySem.step (denote table) p w s ⟨x.wrap K deadEnd gd lv,c,pos,B⟩=.go s₂ t₂):Inv K gd lv c B t₂:=(YD hB hp).of h
theorem Il {res:α→Flow} (hB:splitAtGen B=none) {s s':Shared} {t:Thread} {f:Flow} {c':Code} {p':Pos} (h:PieceRun p w B.length s t f s' c' p') :
  Inv (fun a => .pure (.done (res a))) gd lv c B t→c'=c:=by
 obtain ⟨n,h⟩:=h
 revert s t
 induction n with
 | zero =>
  intro s t h I
  obtain ⟨he,_,e,_⟩:=h
  rcases I with ⟨_,e2,_⟩ | F
  ·exact e.symm.trans e2
  ·have:((t.stack.length==B.length)=false):=beq_eq_false_iff_ne.mpr (Nat.ne_of_gt F.longer)
   simp only [endAt,this] at he
   exact aO he
 | succ n ih =>
  intro s t h I
  obtain ⟨he,hc,s₁,t₁,hs,h⟩:=h
  refine ih h ?_
  obtain ⟨cur,code,pos,st⟩:=t
  rcases I with ⟨e1,e2,x,e3⟩ | F
  ·dsimp only at e1 e2 e3
   subst e1 e2 e3
   refine Ot hB (fun a q=>?_) hs
   subst q
   rw [yJ] at he
   exact nomatch he
  ·exact M6 hB F hs
end
section
variable {α:Type} {p:Program} {w:World} {B:List Frame} {K K':α→Sem Fin} {H H':Value→Sem Fin} {gd:Bool→Bool} {lv:List Value→List Value} {c:Code}
theorem Frames2.symm {a b:List Frame} (x:Frames2 K K' H H' gd lv B a b):Frames2 K' K H' H gd lv B b a:=by
 induction x with
 | ret y h g l c p kept=>exact .ret y h g l c p kept
 | gen n y l c p=>exact .gen n y l c p
 | cons f _ ih=>exact .cons f ih
theorem Rel2.symm {t t':Thread} (h:Rel2 K K' H H' gd lv B t t'):Rel2 K' K H' H gd lv B t' t:=by
 obtain ⟨e1,e2,R⟩:=h
 refine ⟨e1.symm,e2.symm,?_⟩
 rcases R with ⟨a,b,x,u,v⟩ | ⟨a,F⟩
 ·exact .inl ⟨b,a,x,v,u⟩
 ·exact .inr ⟨a.symm,Frames2.symm F⟩
noncomputable def goes:PySem.Step→Bool
 | .go ..=>true
 | .halt ..=>false
noncomputable def Ji:Sem α→Bool
 | .pure _=>true
 | .raise _=>true
 | _=>false
theorem Wh {s:Shared} (code:Code) (pos:Pos) (x:Sem α) (hl:Ji x=false):goes (PySem.step (denote table) p w s ⟨x.wrap K H gd lv,code,pos,B⟩)=goes (PySem.step (denote table) p w s ⟨x.wrap K H' gd lv,code,pos,B⟩):=by
 obtain ⟨heap,gens,drawn,toks,os⟩:=s
 induction x using Sem.casesOn with
 | pure a=>exact dM hl.symm
 | raise e=>exact dM hl.symm
 | load a q k=>dsimp only [Sem.wrap,PySem.step]; cases heap.get? a <;> rfl
 | update a q f k=>dsimp only [Sem.wrap,PySem.step]; cases (heap.get? a).isSome <;> rfl
 | choose src n k=>dsimp only [Sem.wrap,PySem.step]; split <;> rfl
 | genState g k=>dsimp only [Sem.wrap,PySem.step]; cases gens[g]? <;> rfl
 | resume g r l k =>
  dsimp only [Sem.wrap,PySem.step]
  cases gens[g]? with
  | none=>rfl
  | some st=>induction st using GenState.casesOn with
   | fresh c₁=>induction r using Resume.casesOn with
    | throw x=>rfl
    | send v=>cases v <;> rfl
   | _=>rfl
 | «yield» v g0 l kk=>dsimp only [Sem.wrap,PySem.step]; cases splitAtGen B <;> rfl
 | _=>rfl
theorem Nr {x:Sem α} (hp:∀ a,x ≠ .pure a) (hr:∀ e,x ≠ .raise e):Ji x=false:=by
 induction x using Sem.casesOn with
 | pure a=>exact absurd rfl (hp a)
 | raise a=>exact absurd rfl (hr a)
 | _=>rfl
theorem HQ {s:Shared} {x:Sem α} {code:Code} {pos:Pos} (hp:∀ a,x ≠ .pure a) (hr:∀ e,x ≠ .raise e)
  (h:goes (PySem.step (denote table) p w s ⟨x.wrap K H gd lv,code,pos,B⟩)=true):goes (PySem.step (denote table) p w s ⟨x.wrap K H' gd lv,code,pos,B⟩)=true :=
 (Wh code pos x (Nr hp hr)).symm.trans h
theorem yg {a b:List Frame} (h:forgetAll a=forgetAll b):a.length=b.length:=by
 have:=congrArg List.length h
 simp only [forgetAll,List.length_map] at this
 exact this
inductive Got (p:Program) (w:World) (f:Flow) (s' sR:Shared) (tD:Thread):Prop where
 | mk (s₂:Shared) (c₂:Code) (p₂:Pos) (e:s₂.forget=s'.forget) (r:PieceRun p w 1 sR tD f s₂ c₂ p₂):Got p w f s' sR tD
theorem Lb {x:Sem Flow}:Ji (x.wrap doneF .raise id id)=true→(∃ a,x=.pure a)∨∃ e,x=.raise e:=by
 induction x using Sem.casesOn with
 | pure a=>exact fun _ => .inl ⟨a,rfl⟩
 | raise e=>exact fun _ => .inr ⟨e,rfl⟩
 | _=>exact dM
theorem Ro {f:Flow} {F:Frame} {s' sR:Shared} {tR tD:Thread} {c:Code} {pos:Pos} (hs:sR.forget=s'.forget) (ht:tR.forget=Thread.forget ⟨leafOf (.ok f),c,pos,[F]⟩) (R:Rel2 doneF doneF deadEnd .raise id id [F] tD tR):Got p w f s' sR tD:=by
 obtain ⟨curR,codeR,posR,stR⟩:=tR
 obtain ⟨curD,codeD,posD,stD⟩:=tD
 simp only [Thread.forget,Thread.mk.injEq] at ht
 obtain ⟨rfl,rfl,rfl,hst⟩:=ht
 obtain ⟨e1,e2,R⟩:=R
 dsimp only at e1 e2 R
 rcases R with ⟨rfl,rfl,x,rfl,hx⟩ | ⟨_,Fr⟩
 ·have hl:Ji (x.wrap doneF .raise id id)=true:=by rw [← hx]; rfl
  have hx':x=.pure f:=by
   rcases Lb hl with ⟨a,rfl⟩ | ⟨e,rfl⟩
   ·simp only [Sem.wrap,leafOf,Sem.pure.injEq,Fin.done.injEq] at hx; rw [hx]
   ·exact nomatch hx
  subst hx'
  exact ⟨sR,_,_,hs,.fin rfl⟩
 ·have:=Fr.longer.2
  rw [yg hst] at this
  exact absurd this (Nat.lt_irrefl _)
theorem wZ {s s₁:Shared} {t t₁:Thread} (hstep:(model p w).step s t=.go s₁ t₁):t.loud=false∧t.calm=true:=by
 have hq:t.loud=false:=by
  cases hl:t.loud with
  | false=>rfl
  | true=>rw [Model.step_loud _ hl] at hstep; cases hstep
 rw [Model.step_quiet _ hq] at hstep
 refine ⟨hq,?_⟩
 rw [Thread.calm_eq,hq]
 cases hr:t.refused with
 | false=>rfl
 | true =>
  obtain ⟨what,e⟩:=stepK_refused (model p w).den (model p w).prog (model p w).w (s:=s) hr
  rw [e] at hstep; cases hstep
theorem Bm {s s₁ sR:Shared} {t t₁ tR:Thread} (hs:sR.forget=s.forget) (ht:tR.forget=t.forget) (hstep:(model p w).step s t=.go s₁ t₁) :
  ∃ sR₁ tR₁,PySem.step (denote table) p w sR tR=.go sR₁ tR₁∧sR₁.forget=s₁.forget∧tR₁.forget=t₁.forget:=by
 rw [Model.step_quiet _ (wZ hstep).1] at hstep
 have hf:(PySem.step (denote table) p w sR tR).forget=(PySem.Step.go s₁ t₁).forget:=by
  rw [← hstep]
  exact (step_same (denote table) p w hs ht).trans (stepK_forget (denote table) p w s _).symm
 cases hR:PySem.step (denote table) p w sR tR with
 | halt o s₂=>rw [hR] at hf; cases hf
 | go sR₁ tR₁ =>
  rw [hR] at hf
  simp only [PySem.Step.forget,PySem.Step.go.injEq] at hf
  exact ⟨_,_,rfl,hf.1,hf.2⟩
theorem Ni {F:Frame} (hB:splitAtGen [F]=none) {sR sR₁:Shared} {tR₁:Thread} {codeD:Code} {posD:Pos} {x:Sem Flow} (hR:PySem.step (denote table) p w sR ⟨x.wrap doneF Sem.raise id id,codeD,posD,[F]⟩=.go sR₁ tR₁) (hlen:1≤tR₁.stack.length):(∀ a,x ≠ .pure a)∧∀ e,x ≠ .raise e:=by
 obtain ⟨heap,gens,drawn,toks,os⟩:=sR
 cases F with
 | gen=>simp only [splitAtGen] at hB; cases hB
 | ret =>
  refine ⟨fun a q=>?_,fun a q=>?_⟩ <;>
  ·subst q
   have h:PySem.Step.go _ _=PySem.Step.go sR₁ tR₁:=hR
   obtain ⟨_,rfl⟩:=PySem.Step.go.inj h
   exact nomatch hlen
theorem Kz {f:Flow} {F:Frame} (hB:splitAtGen [F]=none) {s' sR sR₁:Shared} {tR₁:Thread} {codeD:Code} {posD:Pos} {x:Sem Flow} (hR:PySem.step (denote table) p w sR ⟨x.wrap doneF Sem.raise id id,codeD,posD,[F]⟩=.go sR₁ tR₁) (hlen:1≤tR₁.stack.length)
  (hcR:Thread.calm ⟨x.wrap doneF Sem.raise id id,codeD,posD,[F]⟩=true) (ih:∀ {tD:Thread},Rel2 doneF doneF deadEnd .raise id id [F] tD tR₁→Got p w f s' sR₁ tD):Got p w f s' sR ⟨x.wrap doneF deadEnd id id,codeD,posD,[F]⟩:=by
 obtain ⟨hp,hr⟩:=Ni hB hR hlen
 have hg:=HQ (K:=doneF) (H := .raise) (H':=deadEnd) (gd:=id) (lv:=id) (p:=p) (w:=w) (B:=[F]) (code:=codeD) (pos:=posD) (s:=sR) hp hr (by rw [hR]; rfl)
 cases hD:PySem.step (denote table) p w sR ⟨x.wrap doneF deadEnd id id,codeD,posD,[F]⟩ with
 | halt o s₂=>rw [hD] at hg; exact dM hg
 | go sD tD₁ =>
  obtain ⟨t₂',k3,R'⟩:=step_outer (K':=doneF) (H':=Sem.raise) hB hp hD
  obtain ⟨rfl,rfl⟩:=PySem.Step.go.inj (hR.symm.trans k3)
  obtain ⟨s₂,c₂,p₂,q1,q2⟩:=ih R'
  refine ⟨s₂,c₂,p₂,q1,.step ?_ (xO hp hr hcR) hD q2⟩
  induction x using Sem.casesOn with
  | pure a=>exact absurd rfl (hp a)
  | raise e=>exact absurd rfl (hr e)
  | _=>rfl
theorem Qi {f:Flow} {F:Frame} (hB:splitAtGen [F]=none) {s' sR sR₁:Shared} {tR tR₁ tD:Thread} (R:Rel2 doneF doneF deadEnd .raise id id [F] tD tR) (hR:PySem.step (denote table) p w sR tR=.go sR₁ tR₁) (hlen:1≤tR₁.stack.length) (hcR:tR.calm=true)
  (ih:∀ {tD:Thread},Rel2 doneF doneF deadEnd .raise id id [F] tD tR₁→Got p w f s' sR₁ tD):Got p w f s' sR tD:=by
 obtain ⟨curR,codeR,posR,stR⟩:=tR
 obtain ⟨curD,codeD,posD,stD⟩:=tD
 obtain ⟨e1,e2,R⟩:=R
 dsimp only at e1 e2 R
 subst e1 e2
 rcases R with ⟨rfl,rfl,x,rfl,rfl⟩ | ⟨rfl,Fr⟩
 ·exact Kz hB hR hlen hcR ih
 ·obtain ⟨t₂',k3,R'⟩:=step_inner hB (Frames2.symm Fr) hR
  obtain ⟨s₂,c₂,p₂,q1,q2⟩:=ih (Rel2.symm R')
  refine ⟨s₂,c₂,p₂,q1,.step ?_ (yG hB (Frames2.symm Fr) hcR) k3 q2⟩
  have:((stD.length==1)=false):=beq_eq_false_iff_ne.mpr (Nat.ne_of_gt Fr.longer.1)
  simp only [endAt,this]
theorem CX {f:Flow} {F:Frame} (hB:splitAtGen [F]=none) {s s':Shared} {t:Sem Fin} {c:Code} {pos:Pos} {pre:List Frame} (h:Reach (model p w) [F] s t c pos pre s' (.ret (.ok f))) :
  ∀ {sR:Shared} {tR tD:Thread},sR.forget=s.forget→tR.forget=Thread.forget ⟨t,c,pos,pre++[F]⟩→Rel2 doneF doneF deadEnd .raise id id [F] tD tR→Got p w f s' sR tD:=by
 generalize he:End.ret (.ok f)=e at h
 induction h with
 | @exit s t c pos pre e hx =>
  subst he
  intro sR tR tD hs ht R
  obtain ⟨rfl,rfl⟩:=hx
  exact Ro hs ht R
 | @step s t c pos pre s₁ t₁ c₁ p₁ pre₁ s' e hstep _ ih =>
  subst he
  intro sR tR tD hs ht R
  obtain ⟨sR₁,tR₁,hR,hf1,hf2⟩:=Bm hs ht hstep
  have hlen:1≤tR₁.stack.length:=by
   rw [yg (a:=tR₁.stack) (b:=pre₁++[F]) (congrArg Thread.stack hf2),List.length_append]
   exact Nat.le_add_left 1 _
  exact Qi hB R hR hlen (by rw [← Thread.calm_forget,ht,Thread.calm_forget]; exact (wZ hstep).2) fun R'=>ih rfl hf1 hf2 R'
theorem xM {f:Flow} {F:Frame} (hB:splitAtGen [F]=none) {s s':Shared} {t:Sem Fin} {c:Code} {pos:Pos} {pre:List Frame} (h:Reach (model p w) [F] s t c pos pre s' (.ret (.ok f))) {sR:Shared} {tR tD:Thread} (hs:sR.forget=s.forget) (ht:tR.forget=Thread.forget ⟨t,c,pos,pre++[F]⟩) (R:Rel2 doneF doneF deadEnd .raise id id [F] tD tR) :
  ∃ s₂ c₂ p₂,s₂.forget=s'.forget∧PieceRun p w 1 sR tD f s₂ c₂ p₂:=by obtain ⟨s₂,c₂,p₂,a,b⟩:=CX hB h hs ht R; exact ⟨s₂,c₂,p₂,a,b⟩
end
section
variable {p:Program} {w:World} {env:Env} {q:Pos} {c:Code} {A:Around} {s S':Shared} {st:Stmt}
end
section
variable {p:Program} {w:World} {env:Env} {q:Pos} {c:Code}
theorem Pn {n₀:Nat} {ann:Option Value}:∀ {n:Nat} {s s':Shared} {t t':Thread},s.asleep→topGo table p w n₀ ann n s t=some (s',t')→s'.asleep∧s'.heap.life=s.heap.life∧schedN (denote table) p w n (.single s t)=.running (.single s' t'):=by
 intro n
 induction n with
 | zero =>
   intro s s' t t' hz h
   obtain ⟨rfl,rfl⟩:s=s'∧t=t':=by simpa [topGo] using h
   exact ⟨hz,rfl,rfl⟩
 | succ n ih =>
   intro s s' t t' hz h
   unfold topGo at h
   cases ht:through t with
   | true=>rw [ht] at h; exact aO h
   | false =>
    rw [ht] at h
    cases hk:stepOk n₀ ann t with
    | false=>rw [hk] at h; exact aO h
    | true =>
     rw [hk] at h
     cases hs:PySem.step (denote table) p w s t with
     | halt o s₂=>rw [hs] at h; exact aO h
     | go s₂ t₂ =>
      rw [hs] at h
      obtain ⟨hz₂,hsch⟩:=rC hz (bj hk).1 hs
      obtain ⟨z,l,m⟩:=ih hz₂ h
      exact ⟨z,l.trans (step_life (denote table) p w s s₂ _ _ hs),hsch.trans m⟩
theorem Es {s s':Shared} {b:List Stmt} {c':Code} {pos p':Pos} (hz:s.asleep) (h:PieceRun p w 1 s (blockOf b env c pos [topFrame q]) .next s' c' p') :
  s'.asleep∧s'.heap.life=s.heap.life∧∃ m,schedN (denote table) p w m (.single s ⟨denote table (.body b env),c,pos,[topFrame q]⟩)=.running (.single s' (restOf b env c' p' [topFrame q])):=by
 obtain ⟨a,ha,z,l,m,hm⟩:=sim (res:=fun _:Unit=>Flow.next) (K':=fun _=>(execs b env).wrap doneF (leaveH env) id id) (H':=Sem.raise) (B:=[topFrame q]) (gd:=id) (lv:=id) rfl h
  (t':=⟨(blockStart b env).wrap (fun _=>(execs b env).wrap doneF (leaveH env) id id) .raise id id,c,pos,[topFrame q]⟩) hz ⟨rfl,rfl,.inl ⟨rfl,rfl,_,rfl,rfl⟩⟩
 refine ⟨z,l,m,?_⟩
 rw [body_wrap]
 exact hm
theorem Kl {s:Shared} {pos:Pos} (hz:s.asleep) (hc:Thread.calm ⟨doneF .next,c,pos,[topFrame q]⟩=true) :
  ∃ t,schedN (denote table) p w 1 (.single s (restOf [] env c pos [topFrame q]))=.running (.single s t)∧through t=true:=by
 have hs:PySem.step (denote table) p w s ⟨doneF .next,c,pos,[topFrame q]⟩=.go s ⟨topAfter (.ok .next),.builtin "claim.caller" {},q,[]⟩:=rfl
 exact ⟨_,(rC hz hc hs).2 (m:=0),rfl⟩
end
theorem HF {st:Stmt} {env:Env} {c:Code} {pos:Pos} {B:List Frame}:piecesOf [st] env c pos B=pieceOf st env c pos B:=by
 show (⟨(execs [st] env).wrap doneF deadEnd id id,c,pos,B⟩:Thread)=⟨(exec st env).wrap doneF deadEnd id id,c,pos,B⟩
 rw [execs_cons_wrap]
 congr 1
 refine Sem.wrap_congr _ _ _ (fun f=>?_) fun _=>rfl
 cases f <;> rfl
theorem Mv {p:Program} {w:World} {env:Env} {q:Pos} {c:Code} {n₀ n:Nat} {ann:Option Value} {S S':SharedT} {st:Stmt} {p':Pos}
  (h:∀ pos,segRunT treeTable p w n₀ ann 1 n S (pieceOf st env c pos [topFrame q])=some (.next,S',c,p')) (pos:Pos):∃ p',PieceRun p w 1 S.abs (pieceOf st env c pos [topFrame q]) .next S'.abs c p' :=
 ⟨p',.of_seg (n₀:=n₀) (ann:=ann) (n:=n) (by rw [table_eq_tree]; exact segRun_of (h pos))⟩
section
variable {p:Program} {w:World} {q:Pos} {c:Code} {A:Around} {s S':Shared}
theorem yS {x:Sem Flow} {f:Flow} (hΓ:(Ctx.of c [topFrame q]).In A) (h:wpAny (model p w) A x (fun f' s'=>f'=f∧s'=S') (fun _ _=>False) s) (hg:S'.gens=#[]) (pos:Pos) :
  ∃ p',PieceRun p w 1 s ⟨x.wrap doneF deadEnd id id,c,pos,[topFrame q]⟩ f S' c p':=by
 have h1:=h (Ctx.of c [topFrame q]) pos hΓ
 have h2:Sem.wp (model p w) (Ctx.of c [topFrame q]) (x.wrap doneF .raise id id) (Sem.finPost (model p w) (Ctx.of c [topFrame q]) fun r s'=>r=.ok f∧s'=S') (fun e _ s'=>(Except.error e:Result)=.ok f∧s'=S') pos s:=by
  have e:x.wrap doneF .raise id id=(x >>= fun f=>pure (Fin.done f)):=(Sem.bind_eq_wrap ..).symm
  rw [e,Sem.wp_bind']
  refine Sem.wp_mono _ _ _ (fun f _ s' hf=>?_) (fun _ _ _ hf=>hf.elim) _ _ h1
  obtain ⟨rfl,rfl⟩:=hf
  exact ⟨rfl,rfl⟩
 obtain ⟨r,s',hr,rfl,rfl⟩:=(wp_iff_reach _ _ _ _).mp h2
 obtain ⟨s₂,c₂,p₂,q1,q2⟩:=xM (F:=topFrame q) rfl hr (sR:=s) (tR:=⟨x.wrap doneF .raise id id,c,pos,[topFrame q]⟩) (tD:=⟨x.wrap doneF deadEnd id id,c,pos,[topFrame q]⟩) rfl rfl ⟨rfl,rfl,.inl ⟨rfl,rfl,x,rfl,rfl⟩⟩
 obtain rfl:=Shared.eq_of_forget_eq q1 hg
 obtain rfl:=Il (B:=[topFrame q]) (res:=id) (gd:=id) (lv:=id) (c:=c) rfl q2 (.inl ⟨rfl,rfl,x,rfl⟩)
 exact ⟨p₂,q2⟩
end
set_option backward.match.sparseCases true
section
variable {p:Program} {w:World} {q:Pos} {c:Code} {A:Around} {s s₁ s':Shared} {env:Env}
theorem Mz {x:Sem Value} {y:Value→Sem Flow} {st:Stmt} {rest:List Stmt} {v:Value} {pos p₁ p':Pos} {c₁ c':Code} (hst:exec st env=x >>= y) (hz:s.asleep)
  (h₁:PieceRun p w 1 s ⟨(x >>= fun v=>pure (Flow.ret v)).wrap doneF deadEnd id id,c,pos,[topFrame q]⟩ (.ret v) s₁ c₁ p₁)
  (h₂:PieceRun p w 1 s₁ ⟨(y v).wrap doneF deadEnd id id,c₁,p₁,[topFrame q]⟩ .next s' c' p') :
  s'.asleep∧s'.heap.life=s.heap.life∧∃ m,schedN (denote table) p w m (.single s (restOf (st :: rest) env c pos [topFrame q]))=.running (.single s' (restOf rest env c' p' [topFrame q])):=by
 have e1:(x >>= fun v=>pure (Flow.ret v)).wrap doneF deadEnd id id=x.wrap (fun v=>doneF (.ret v)) deadEnd id id:=by
  show (x.bind fun v=>Sem.pure (Flow.ret v)).wrap doneF deadEnd id id=_
  rw [Sem.bind_eq_wrap,Sem.wrap_wrap]
  rfl
 rw [e1] at h₁
 obtain ⟨a,ha,z,l,m,hm⟩:=sim (res:=Flow.ret) (K':=fun v=>(y v).wrap (fun f=>match f with | .next=>(execs rest env).wrap doneF (leaveH env) id id | f=>doneF f) (leaveH env) id id) (H':=leaveH env) (B:=[topFrame q]) (gd:=id) (lv:=id) rfl h₁
  (t':=⟨x.wrap (fun v=>(y v).wrap (fun f=>match f with | .next=>(execs rest env).wrap doneF (leaveH env) id id | f=>doneF f) (leaveH env) id id) (leaveH env) id id,c,pos,[topFrame q]⟩) hz ⟨rfl,rfl,.inl ⟨rfl,rfl,_,rfl,rfl⟩⟩
 obtain rfl:a=v:=by injection ha
 obtain ⟨b,hb,z',l',m',hm'⟩:=sim (res:=id) (K':=fun f=>match f with | .next=>(execs rest env).wrap doneF (leaveH env) id id | f=>doneF f) (H':=leaveH env) (B:=[topFrame q]) (gd:=id) (lv:=id) rfl h₂
  (t':=⟨(y a).wrap (fun f=>match f with | .next=>(execs rest env).wrap doneF (leaveH env) id id | f=>doneF f) (leaveH env) id id,c₁,p₁,[topFrame q]⟩) z ⟨rfl,rfl,.inl ⟨rfl,rfl,_,rfl,rfl⟩⟩
 obtain rfl:b=.next:=hb
 refine ⟨z',l'.trans l,m+m',?_⟩
 refine iD ?_ hm'
 unfold restOf
 rw [execs_cons_wrap,hst]
 show schedN (denote table) p w m (.single s ⟨(x.bind y).wrap _ (leaveH env) id id,c,pos,[topFrame q]⟩)=_
 rw [Sem.bind_eq_wrap,Sem.wrap_wrap]
 exact hm
end
noncomputable def StmtRun (p:Program) (w:World) (env:Env) (q:Pos) (c:Code) (s:Shared) (st:Stmt) (s':Shared):Prop :=
 ∀ (rest:List Stmt) (pos:Pos),s.asleep→s'.asleep∧s'.heap.life=s.heap.life∧∃ m p',schedN (denote table) p w m (.single s (restOf (st :: rest) env c pos [topFrame q]))=.running (.single s' (restOf rest env c p' [topFrame q]))
section
variable {p:Program} {w:World} {env:Env} {q:Pos} {c:Code}
theorem StmtRun.of_seg {n₀ n:Nat} {ann:Option Value} {S S':SharedT} {st:Stmt} {p':Pos}
  (h:∀ pos,segRunT treeTable p w n₀ ann 1 n S (pieceOf st env c pos [topFrame q])=some (.next,S',c,p')):StmtRun p w env q c S.abs st S'.abs:=fun rest pos hz=>by
 obtain ⟨p₁,h₁⟩:=Mv h pos
 obtain ⟨a,b,m,hm⟩:=GC (rest:=rest) hz h₁
 exact ⟨a,b,m,p₁,hm⟩
inductive Text (p:Program) (w:World) (env:Env) (q:Pos) (c:Code):Shared→List Stmt→Shared→Prop
 | nil {s:Shared}:Text p w env q c s [] s
 | cons {s s₁ s':Shared} {st:Stmt} {rest:List Stmt}:StmtRun p w env q c s st s₁→Text p w env q c s₁ rest s'→Text p w env q c s (st :: rest) s'
theorem Text.run {s s':Shared} {b:List Stmt} (h:Text p w env q c s b s'):∀ (pos:Pos),s.asleep→s'.asleep∧s'.heap.life=s.heap.life∧∃ m p',schedN (denote table) p w m (.single s (restOf b env c pos [topFrame q]))=.running (.single s' (restOf [] env c p' [topFrame q])):=by
 induction h with
 | nil=>intro pos hz; exact ⟨hz,rfl,0,pos,rfl⟩
 | cons hp _ ih =>
  intro pos hz
  obtain ⟨z,l,m,p',hm⟩:=hp _ pos hz
  obtain ⟨z',l',m',p'',hm'⟩:=ih p' z
  exact ⟨z',l'.trans l,m+m',p'',iD hm hm'⟩
end
set_option backward.match.sparseCases false
noncomputable def topA:Around:={ depth:=10000,units:=10000 }
theorem Yr {b:List Stmt} {env:Env} {q:Pos}:(Ctx.of (.body b env) [topFrame q]).In topA:=by
 refine ⟨rfl,?_,fun _ hl=>(nomatch hl),fun _ hg=>(nomatch hg),?_⟩
 ·have h:Nat.ble (frameCount (Ctx.of (.body b env) [topFrame q]).below+(Code.body b env).weight) 10000=true:=by kernel_rfl!
  exact dw h
 ·have h:Nat.ble (Ctx.of (.body b env) [topFrame q]).units 10000=true:=by kernel_rfl!
  exact dw h
set_option backward.match.sparseCases true
noncomputable def storeOf (targets:List Expr) (value:Expr) (env:Env) (v:Value):Sem Flow:=swappedStores targets value env >>= fun b=>assignStores env v b ((assignEach targets env).map (·.2))
theorem Iw {targets:List Expr} {value:Expr} {apos:Pos} {env:Env} (hs:swapsWithSole targets value apos.line env=pure false) :
  exec (.Assign targets value apos) env=(standAt apos >>= fun _=>eval value env) >>= storeOf targets value env:=by
 rw [exec_Assign_arm,hs]
 simp only [bind_assoc,pure_bind,Bool.false_eq_true,if_false]
 rfl
section
variable {p:Program} {w:World} {env:Env} {q:Pos} {c:Code} {s s₁ s':Shared}
theorem StmtRun.of_assign {targets:List Expr} {value:Expr} {apos:Pos} {v:Value} (hs:swapsWithSole targets value apos.line env=pure false)
  (h₁:∀ pos,∃ p₁,PieceRun p w 1 s ⟨((standAt apos >>= fun _=>eval value env) >>= fun v=>pure (Flow.ret v)).wrap doneF deadEnd id id,c,pos,[topFrame q]⟩ (.ret v) s₁ c p₁)
  (h₂:∀ pos,∃ p',PieceRun p w 1 s₁ ⟨(storeOf targets value env v).wrap doneF deadEnd id id,c,pos,[topFrame q]⟩ .next s' c p'):StmtRun p w env q c s (.Assign targets value apos) s':=fun rest pos hz=>by
 obtain ⟨p₁,k₁⟩:=h₁ pos
 obtain ⟨p₂,k₂⟩:=h₂ p₁
 obtain ⟨a,b,m,hm⟩:=Mz (rest:=rest) (Iw hs) hz k₁ k₂
 exact ⟨a,b,m,p₂,hm⟩
theorem Qu {x:Sem Flow} {f:Flow} {n₀ n:Nat} {ann:Option Value} {S S':SharedT} {p':Pos}
  (h:∀ pos,segRunT treeTable p w n₀ ann 1 n S ⟨x.wrap doneF deadEnd id id,c,pos,[topFrame q]⟩=some (f,S',c,p')) (pos:Pos):∃ p',PieceRun p w 1 S.abs ⟨x.wrap doneF deadEnd id id,c,pos,[topFrame q]⟩ f S'.abs c p' :=
 ⟨p',.of_seg (n₀:=n₀) (ann:=ann) (n:=n) (by rw [table_eq_tree]; exact segRun_of (h pos))⟩
theorem Ib {b:List Stmt} {ks:List (Option Expr)} {vs:List Expr} {apos dpos:Pos} {L done run:List (Int × Str)} {subs:List Obj} {S':Shared} (hL:litsOf ks vs=some L) (hn:(L.map (·.1)).Nodup) (hz:L.length≤1000)
  (hsh:shape s.toks L [] [] []=(done,run,subs)) (hd:done≠[]) (hr0:run≠[]) (hr:run.length≤15) (hbig:1 < s.heap.objs.size) (hg:s.gens=#[])
  (hS:S'={ s with heap:=gP (s.heap.push (bO (ents s.toks done++cW (s.toks+3*done.length) run) (done++run).length)) (subs++[bO (cW (s.toks+3*done.length) run) run.length]),toks:=s.toks+3*(done++run).length }) (pos:Pos) :
  ∃ p₁,PieceRun p w 1 s ⟨((standAt apos >>= fun _=>eval (.Dict ks vs dpos) env) >>= fun v=>pure (Flow.ret v)).wrap doneF deadEnd id id,.body b env,pos,[topFrame q]⟩ (.ret (.ref s.heap.objs.size)) S' (.body b env) p₁:=by
 refine yS (A:=topA) Yr ?_ (by rw [hS]; exact hg) pos
 refine wpAny_bind (wpAny_bind (wpAny_standAt (Gd hL hn hz hsh hd hr0 hr hbig (wpAny_pure ⟨rfl,hS.symm⟩))))
noncomputable def asc:List Int→Bool
 | []=>true
 | [_]=>true
 | a :: b :: r=>decide (a < b)&&asc (b :: r)
theorem asc_lt:∀ {l:List Int} {a:Int},asc (a :: l)=true→∀ b∈l,a < b:=by
 intro l
 induction l with
 | nil =>
   intro a _ b hb
   cases hb
 | cons x r ih =>
   intro a h b hb
   simp only [asc,Bool.and_eq_true,decide_eq_true_eq] at h
   rcases cM hb with rfl | hb
   ·exact h.1
   ·exact Int.lt_trans h.1 (ih h.2 b hb)
theorem Ab:∀ {l:List Int},asc l=true→l.Nodup
 | [],_ => .nil
 | [a],_=>by simp
 | a :: b :: r,h=>by
  have h2:asc (b :: r)=true:=by simp only [asc,Bool.and_eq_true] at h; exact h.2
  exact List.nodup_cons.mpr ⟨fun q=>Int.lt_irrefl _ (asc_lt h _ q),Ab h2⟩
end
set_option backward.match.sparseCases false
section
variable {p:Program} {w:World} {env:Env} {q:Pos} {c:Code}
theorem Ho {n₀:Nat} {ann:Option Value} {n:Nat} {s₀ sa sb s':Shared} {b:List Stmt} {pos pb:Pos} (hz:s₀.asleep) (hpre:topGo table p w n₀ ann n s₀ (topStub p)=some (sa,⟨denote table (.body b env),c,pos,[topFrame q]⟩))
  (hblock:PieceRun p w 1 sa (blockOf b env c pos [topFrame q]) .next sb c pb) (h:Text p w env q c sb b s') (hc:∀ pos,Thread.calm ⟨doneF .next,c,pos,[topFrame q]⟩=true) :
  s'.asleep∧s'.heap.life=s₀.heap.life∧∃ n t,schedN (denote table) p w n (.single s₀ (topStub p))=.running (.single s' t)∧through t=true:=by
 obtain ⟨z1,l1,h1⟩:=Pn hz hpre
 obtain ⟨z2,l2,m2,h2⟩:=Es z1 hblock
 obtain ⟨z3,l3,m3,p3,h3⟩:=h.run pb z2
 obtain ⟨t,h4,ht⟩:=Kl (env:=env) (q:=q) z3 (hc p3)
 exact ⟨z3,l3.trans (l2.trans l1),_,t,iD h1 (iD h2 (iD h3 h4)),ht⟩
end
structure Behind (q:Program) (loose:List Str) (X:World→(Str→Option Value)→Heap→Prop) (w:World) (s:Shared):Prop where
 asleep:s.asleep
 gens:s.gens=#[]
 ns:s.heap.isNs mainGlobals=true
 ground:Ground q loose [] (fun _ _=>True) w s (s.heap.nsMap mainGlobals) (s.heap.nsMap builtinsNs) s.heap
 x:X w (s.heap.nsMap mainGlobals) s.heap
noncomputable def Beh (p q:Program) (loose:List Str) (X:World→(Str→Option Value)→Heap→Prop):Prop :=
 ∀ w:World,(∃ s,AfterRun (opening p) w s)∧∀ s,AfterRun (opening p) w s→∃ s₀,fenceModules? p s=some s₀∧s₀.gens=#[]∧∃ s₁,TopRan p w s₀ s₁∧Behind q loose X w s₁
theorem Zv {p q:Program} {loose:List Str} {X:World→(Str→Option Value)→Heap→Prop} {N:Nat} {H₀:Params→Heap} {d₀:Drawn} {k₀:Nat} {S:World→OsState→Shared}
  (open_:∀ w:World,(fencedOpening treeTable p w N).map (fun s=>(s.heap,s.gens,s.drawn,s.toks))=some (H₀ w.params,Array.mk [],d₀,k₀)) (hch:chainsOk q=true)
  (run:∀ (w:World) (os:OsState),(⟨H₀ w.params,#[],d₀,k₀,os⟩:Shared).asleep→(S w os).asleep∧(S w os).heap.life=(H₀ w.params).life∧∃ n t,schedN (denote table) p w n (.single ⟨H₀ w.params,#[],d₀,k₀,os⟩ (topStub p))=.running (.single (S w os) t)∧through t=true)
  (plain:∀ w os,(S w os).gens=#[]∧(S w os).os=os)
  (old:∀ w os b o,(H₀ w.params).get? b=some o→¬ theTopsOwn (H₀ w.params) b→(S w os).heap.get? b=some o)
  (looks:∀ w os,(staticsOk (importedModules p.main.body) (H₀ w.params) (S w os).heap&&namesBound p (S w os).heap&&laidKept (H₀ w.params) (S w os).heap)=true)
  (seen_:∀ w os,openSeen q loose (importedModules p.main.body) (fun _=>true) true (S w os)=openGood q loose)
  (x:∀ w os,X w ((S w os).heap.nsMap mainGlobals) (S w os).heap):Beh p q loose X:=fun w=>by
 have h:=open_ w
 rw [← table_eq_tree] at h
 obtain ⟨s₀,h1,e⟩:=Option.map_eq_some_iff.mp h
 obtain ⟨s,h4,h5⟩:=Option.bind_eq_some_iff.mp h1
 have A:=AfterImport.of_importEnds h4
 refine ⟨⟨s,A⟩,fun s' hs'=>?_⟩
 obtain rfl:s'=s:=AfterImport.unique hs' A
 have z:s₀.asleep:=Shared.asleep_of_life (fence_lifeW h5) A.life
 obtain ⟨hp,gs,d,k,os⟩:=s₀
 obtain ⟨rfl,rfl,rfl,rfl⟩:hp=H₀ w.params∧gs=#[]∧d=d₀∧k=k₀:=by simpa using e
 obtain ⟨z1,l1,hrun⟩:=run w os z
 obtain ⟨g1,o1⟩:=plain w os
 have hl:=looks w os
 simp only [Bool.and_eq_true] at hl
 obtain ⟨⟨k1,k2⟩,k3⟩:=hl
 obtain ⟨G,_,gn,e1,e2,e3,e4⟩:=ground_of_open (w:=w) (XP:=fun _ _=>True) (fun _ _=>trivial) hch (seen_ w os)
 refine ⟨_,h5,rfl,S w os,⟨hrun,l1,Shared.rest_eq o1,old w os,e1,statics_of_ok k1,e2,e3,e4,(fun g hg=>by rw [g1] at hg; simp at hg),names_of_bound k2,laid_of_kept k3⟩,⟨z1,g1,gn,G,x w os⟩⟩
theorem NB {R:WRecords}:∀ {xs:List WData},WShape.hasItems R xs .int=true→∃ ns:List Int,xs=ns.map WData.int:=by
 intro xs
 induction xs with
 | nil =>
   intro _
   exact ⟨[],rfl⟩
 | cons x r ih =>
   intro h
   simp only [WShape.hasItems,Bool.and_eq_true] at h
   obtain ⟨ns,rfl⟩:=ih h.2
   obtain ⟨i,rfl⟩:=hasW_int h.1
   exact ⟨i :: ns,rfl⟩
theorem T7 {l:OpenLaw} {ns:List Int} (hm:l.most=some 63) (hbd:l.bound=none) (h:WTm.holds [] l.pre { args:=[.list (ns.map .int)] }=true):ns.length≤63:=by
 unfold OpenLaw.pre at h
 rw [hm,hbd] at h
 unfold WTm.holds at h
 simp only [WTm.value,List.getElem?_cons_zero,List.length_map] at h
 by_cases hlt:(63:Int) < (ns.length:Int)
 ·simp [less?,Num.less?,hlt] at h
 ·omega
theorem R9 {P:Params} {h:Heap} {vs:List Value} {xs:List WData} (w:WellAll P h vs [.list xs]):∃ a ys,vs=[.ref a]∧h.get? a=some { cls := .type "list",data := .seq (List.toArray ys) }∧WellAll P h ys xs:=by
 cases w with
 | cons hx hr =>
  cases hr
  cases hx with
  | list h1 h2=>exact ⟨_,_,rfl,h1,h2⟩
theorem J3 {P:Params} {h:Heap}:∀ {ns:List Int} {xs:List Value},WellAll P h xs (ns.map .int)→IntsAre xs ns:=by
 intro ns
 induction ns with
 | nil =>
   intro _ h
   cases h; exact .nil
 | cons i ns ih =>
   intro _ h
   cases h with
   | cons h1 h2 =>
    cases h1
    exact .cons _ _ (ih h2)
theorem Lz {R:WRecords} {args:List WData} (p1:WShape.hasAll R args [.list .int]=true):∃ ns:List Int,args=[.list (ns.map WData.int)]:=by
 obtain ⟨d0,r0,rfl,p3,p4⟩:=hasAllW_cons p1
 obtain rfl:=hasAllW_nil p4
 obtain ⟨xs,rfl,p5⟩:=hasW_list p3
 obtain ⟨ns,rfl⟩:=NB p5
 exact ⟨ns,rfl⟩
theorem Zy {l:OpenLaw} {q:Program} {loose:List Str} {X:World→(Str→Option Value)→Heap→Prop} (said:l.row.wellSaid=true) (beh:Beh l.prog q loose X) (hXk:∀ w mg h h',X w mg h→(∀ b o,h.get? b=some o→h'.get? b=some o)→X w mg h')
  {d:DefRec} {kwd:List (Str × Expr)} (hdef:defOf q l.name=some (d,kwd)) (hp:l.prog.theDef l.name=some (d.params,d.body,d.scope)) (hk:kwWritten? d.params.kwonlyargs d.params.kw_defaults=some kwd)
  (hb:l.prog.bare) (ho:opensWell l.prog=true) (hm:l.most=some 63) (hbd:l.bound=none) (hw:l.writes=false) (prom:l.row.toRowW.promised)
  (call:∀ (w:World) (mg:Str→Option Value) (s:Shared),s.heap.Ns mainGlobals mg→(∃ mb,s.heap.Ns builtinsNs mb∧∀ x:Str,x ≠ "__name__" → mb x=bootBuiltins x)→s.heap.NoLimit→X w mg s.heap→s.gens=#[] →
   ∀ (a:Addr) (vs:List Value) (n:Nat) (ns:List Int),s.heap.get? a=some { cls := .type "list",data := .seq (List.toArray vs) n }→IntsAre vs ns→ns.length≤63 →
    ∃ f,mg l.name=some f∧Wp l.prog w callerA (PySem.call f [.ref a]) s fun v s'=>OldK s.heap s'.heap∧s'.os=s.os∧s'.gens=#[]∧v=.bool true):l.row.Holds:=by
 refine ⟨said,prom,⟨hb,ho,rfl⟩,prom.witness,fun w=>⟨(beh w).1,fun s' hs'=>?_⟩⟩
 obtain ⟨s₀,hf,hg0,s,hT,B⟩:=(beh w).2 s' hs'
 have G:=B.ground
 refine ⟨s₀,hf,hg0,s,hT,fun n hn=>?_,(fun x hx=>nomatch hx),(fun x hx=>nomatch hx),?_⟩
 ·obtain rfl:n=l.name:=by simpa [OpenLaw.row] using hn
  exact pinned_of_view B.ns G hdef hp hk
 refine ClaimW.callFrom_of_specG (c:=l.row.toRowW.claim) B.asleep B.gens fun args hpre hlay ord hord=>?_
 obtain ⟨p1,p2⟩:=pre_splitW (r:=l.row.toRowW) hpre
 obtain ⟨ns,rfl⟩:=Lz (R:=l.row.toRowW.records) p1
 obtain ⟨⟨vs,s₁⟩,hlaid⟩:=Option.isSome_iff_exists.mp (layAllW_isSome (P:=w.params) (ord:=ord) (R:=[]) G.has _ l.row.toRowW.args s p1)
 have keeps:=layAllW_keeps _ _ _ hlaid
 have hal:=layAllW_rest _ _ _ hlaid
 obtain ⟨as,hrd,hin,hold⟩:=reads_layAllW hord _ _ _ hlaid hlay s₁.heap (fun _ _ e=>e)
 have L:Laid [] w s s₁ [.list (ns.map .int)] vs as:=⟨⟨ord,hord,hlaid⟩,hrd,hin,hold,keeps,hal.1.trans B.gens,hal.2.2.1⟩
 have hwl:=well_layAllW hord _ s _ hlaid s₁.heap fun _ _ e=>e
 have hlen:=T7 hm hbd p2
 obtain ⟨a,xs,rfl,hobj,hall⟩:=R9 hwl
 have T:=G.T.keeps keeps
 obtain ⟨f,hf,h⟩:=call w _ s₁ T.g ⟨_,T.b,T.builtins⟩ T.nolimit (hXk _ _ _ _ B.x keeps) L.gens a xs 0 ns hobj (J3 hall) hlen
 refine ⟨_,s₁,hlaid,?_⟩
 refine wpAny_bind (wpAny_nsGet T.g ?_)
 show wpAny _ _ (match s.heap.nsMap mainGlobals l.name with | some f=>_ | none=>_) _ _ _
 rw [hf]
 refine wpAny_bind (wpAny_mono h (fun v s' g=>wpAny_pure ⟨_,rfl,?_⟩) fun _ _ e=>e.elim)
 obtain ⟨g1,g2,g3,rfl⟩:=g
 have hpost:(WShape.has [] (.bool true) .bool&&WTm.holds [] (.eq .res (.lit (.bool true))) { args:=[.list (ns.map .int)],res:=some (.bool true),after:=[.list (ns.map .int)] })=true:=by
  kernel_rfl!
 have GW:GoodWG l.row.toRowW.claim (classAt s.heap) (ExcName.means s.heap) [.list (ns.map .int)] s₁ (.ok (.ret (.bool true))) s' :=
  ⟨.inl ⟨_,.bool true,[],rfl,fun _=>rfl,.bool true,hpost,fun _=>⟨.nil,fun a ha=>by cases ha⟩⟩,g1,g2,.of_eq g3⟩
 obtain ⟨z1,z2,z3⟩:=GW.laid (c:=l.row.toRowW.claim) rfl rfl (ident_freeW rfl rfl rfl) L
 exact ⟨z1,z2,z3,fun q=>by rw [show l.row.writes=l.writes from rfl,hw] at q; exact dM q⟩
theorem nr {α:Type} {a b:α} (h:a=b):a=b:=by cases h; exact rfl
theorem Jt {α:Type} {x:α}:au true x=some x:=nr rfl
section
variable {G:Ctx} {k:Nat} {sc:Sc} {ρ:aJ} {r:R} {W:List Str} {x:Stmt→aJ→Option (Fl × aJ)}
theorem vq {st:Stmt} {l:List Stmt}:yQ x (st :: l) ρ=(x st ρ).bind fun p=>match p.1 with | .next=>yQ x l p.2 | f=>some (f,p.2):=rfl
end
section
variable {G:Ctx} {k:Nat} {sc:Sc} {ρ ρ1 ρ2:aJ} {r:R} {W:List Str} {x:Stmt→aJ→Option (Fl × aJ)} {st:Stmt} {l:List Stmt} {d:D} {P:aJ→Prop}
theorem gQ {p:Str × D→Bool} {q:Str→Bool} (hp:∀ z d,p (z,d)=q z) {z:Str}:∀ {ρ:aJ},(ρ.filter p).lookup z=if q z=true then ρ.lookup z else none
 | []=>by simp
 | (y,e) :: r=>by
  rw [List.filter_cons,hp]
  cases hq:q y with
  | true =>
   simp only [if_true,List.lookup_cons]
   cases hz:(z==y) with
   | true =>
    have:z=y:=by simpa using hz
    subst this
    simp [hq]
   | false=>exact gQ hp
  | false =>
   simp only [Bool.false_eq_true,if_false,List.lookup_cons]
   rw [gQ hp]
   cases hz:(z==y) with
   | true =>
    have:z=y:=by simpa using hz
    subst this
    simp [hq]
   | false=>rfl
theorem qW {z:Str}:(inR W ρ).lookup z=if W.contains z=true then none else ρ.lookup z:=by
 unfold inR
 rw [gQ (q:=fun z=>!W.contains z) (fun _ _=>rfl)]
 cases W.contains z <;> rfl
theorem oO {s:Scope} {z:Str}:(dj s ρ).lookup z=if (s.names.lookup z==some .free)=true then ρ.lookup z else none:=by
 unfold dj
 exact gQ (q:=fun z=>s.names.lookup z==some .free) (fun _ _=>rfl)
theorem CK {a b:Int} (h:b.natAbs < 2 ^ 64):Builtin.divisionGoesByPylong a b=false:=by
 unfold Builtin.divisionGoesByPylong
 have:(if (b==0)=true then 0 else b.natAbs.log2 / 30+1)≤300:=by
  split
  ·omega
  ·have:b.natAbs.log2 < 64:=by
    by_cases hb:b.natAbs=0
    ·rw [hb]; decide
    ·exact (Nat.log2_lt hb).mpr h
   omega
 simp only [Bool.and_eq_false_iff,decide_eq_false_iff_not]
 left
 omega
theorem bu {α:Type} {c:Bool} {y:α} (h:c=true):au c y=some y:=by rw [h]; rfl
end
section
variable {sc:Sc} {ρ:aJ} {W:List Str} {x x':Stmt→aJ→Option (Fl × aJ)} {l:List Stmt} {d:D} {tgt:Expr} {body:List Stmt} {items:List D} {P:aJ→Prop}
end
theorem b_mul {a b:Int} (h:a.natAbs < 2 ^ 62):bin .Mult (.int a) (.int b)=some (.int (a*b)):=bu (by simpa using h)
theorem b_mod {a b:Int} (h:0 < b):bin .Mod (.int a) (.int b)=some (.int (a % b)):=by
 show au (decide (b≠0)) (D.int (a.fmod b))=_
 rw [bu (by simp; omega),Int.fmod_eq_emod_of_nonneg _ (Int.le_of_lt h)]
theorem Zg {a b:Int} (h:0 < b) (h2:b < 2 ^ 60):bin .FloorDiv (.int a) (.int b)=some (.int (a / b)):=by
 show au (decide (b≠0)&&!Builtin.divisionGoesByPylong a b) (D.int (a.fdiv b))=_
 rw [bu (by rw [CK (by omega)]; simp; omega),Int.fdiv_eq_ediv_of_nonneg _ (Int.le_of_lt h)]
theorem ZM {x y:Str} (h:x.length+y.length≤16000000):bin .Add (.str x) (.str y)=some (.str (x++y)):=bu (by simp; exact aF h (by decide))
theorem b_smul {x:Str} {n:Int} (h:0≤n) (h1:n≤1000) (h2:x.length≤1000):bin .Mult (.str x) (.int n)=some (.str (rM x n)):=bu (by simp; omega)
theorem b_ladd {x y:List D} (h:x.length+y.length≤16000000):bin .Add (.list x) (.list y)=some (.list (x++y)):=bu (by simp; exact aF h (by decide))
theorem b_lmul {x:List D} {n:Int} (h:0≤n) (h1:n≤1000) (h2:x.length≤1000) (h3:x≠[]):bin .Mult (.list x) (.int n)=some (.list (List.replicate n.toNat x).flatten):=bu (by simp [h3]; omega)
theorem c_eq {a b:Int}:cmp .Eq (.int a) (.int b)=some (decide (a=b)):=nr rfl
theorem c_ne {a b:Int}:cmp .NotEq (.int a) (.int b)=some (!decide (a=b)):=nr rfl
theorem c_seq {a b:Str}:cmp .Eq (.str a) (.str b)=some (decide (a=b)):=nr rfl
theorem c_sne {a b:Str}:cmp .NotEq (.str a) (.str b)=some (!decide (a=b)):=nr rfl
theorem jH {l:List Int}:intsOf (l.map .int)=some l:=by
 induction l with
 | nil=>rfl
 | cons a l ih=>show (intsOf (l.map .int)).map (a :: ·)=_; rw [ih]; rfl
theorem Du {l m:List Int}:cmp .NotEq (.list (l.map .int)) (.list (m.map .int))=some (!decide (l=m)):=by show Jx .NotEq (l.map .int) (m.map .int)=_; delta Jx; dsimp only; rw [jH,jH]; rfl
theorem Yx {l:List D} (h:l.length < 2 ^ 62):dK .len [.list l]=some (.int l.length):=bu (by simpa using h)
theorem Tj {l:List D} (h:l.length < 2 ^ 62):dK .len [.tup l]=some (.int l.length):=bu (by simpa using h)
theorem T8 {l:Str} (h:l.length < 2 ^ 62):dK .len [.str l]=some (.int l.length):=bu (by simpa using h)
theorem cb_chr {i:Int} (h:0≤i) (h2:i≤1114111):dK .chr [.int i]=some (.str ⟨#[i.toNat]⟩):=bu (by simp [h,h2])
theorem Wq {lo hi:Int} (h1:0≤lo) (h2:lo < 2 ^ 24) (h3:hi < 2 ^ 24) (h4:-2 ^ 24 < hi):dK .list [.range lo hi]=some (.list (eF lo hi)):=bu (by simp; omega)
theorem fW {l:List D} {k:Int} (h:0≤k) (h2:k < 2 ^ 62):jW (.list l) (.int k)=l[k.toNat]? := by
 show (au (small k) () >>= fun _=>l[k.toNat]?)=_
 rw [bu (by simp [small]; omega)]; rfl
theorem s_tup {l:List D} {k:Int} (h:0≤k) (h2:k < 2 ^ 62) (h3:l.length < 2 ^ 62):jW (.tup l) (.int k)=l[k.toNat]? := by
 show (au (small k&&decide (l.length < 2 ^ 62)) () >>= fun _=>l[k.toNat]?)=_
 rw [bu (by simp [small]; omega)]; rfl
theorem Tw {r:R} {sc:Sc} {W:List Str} {ρ:aJ} {e:Expr} {d:D} (h:r.E sc (inR W ρ) e=some d):lQ r sc W ρ e=some d:=by unfold lQ; rw [h]
theorem zP {lo hi:Int} {j:Nat} {d:D} (h:(eF lo hi)[j]? = some d):j < (hi-lo).toNat∧d=.int (lo+j):=by
 unfold eF at h
 rw [List.getElem?_map] at h
 obtain ⟨i,hi,rfl⟩:=Option.map_eq_some_iff.mp h
 obtain ⟨hlt,he⟩:=List.getElem?_eq_some_iff.mp hi
 rw [List.length_range] at hlt
 rw [List.getElem_range] at he
 subst he
 exact ⟨hlt,rfl⟩
section
variable {sc:Sc} {W:List Str} {x x':Stmt→aJ→Option (Fl × aJ)} {l:List Stmt} {tgt:Expr} {body:List Stmt} {P:aJ→Prop} {e:D}
end
section
variable {r:R} {sc:Sc} {ρ:aJ} {c:Expr} {cs:List Expr}
theorem UL:Sw r sc ρ .And (c :: cs)=(r.T sc ρ c).bind fun b=>if b=true then Sw r sc ρ .And cs else some false:=by
 show (r.T sc ρ c).bind _=_
 congr 1; funext b; cases b <;> rfl
theorem Z8:Sw r sc ρ .Or (c :: cs)=(r.T sc ρ c).bind fun b=>if b=true then some true else Sw r sc ρ .Or cs:=by
 show (r.T sc ρ c).bind _=_
 congr 1; funext b; cases b <;> rfl
end
section
variable {x:Stmt→aJ→Option (Fl × aJ)} {st:Stmt} {l:List Stmt} {ρ ρ1:aJ} {d:D}
theorem Ec (h:x st ρ=some (.ret d,ρ1)):yQ x (st :: l) ρ=some (.ret d,ρ1):=by rw [vq,h]; rfl
theorem Ml (h:x st ρ=some (.next,ρ1)):yQ x (st :: l) ρ=yQ x l ρ1:=by rw [vq,h]; rfl
theorem DK (h:x st ρ=some (.brk,ρ1)):yQ x (st :: l) ρ=some (.brk,ρ1):=by rw [vq,h]; rfl
end
section
variable {sc:Sc} {W:List Str} {x x':Stmt→aJ→Option (Fl × aJ)} {st:Stmt} {l:List Stmt} {ρ:aJ} {tgt:Expr} {body:List Stmt} {items:List D} {d:D}
end
section
variable {x:Stmt→aJ→Option (Fl × aJ)} {st:Stmt} {l:List Stmt} {ρ ρ1:aJ} {R:Option (Fl × aJ)}
section
variable {sc:Sc} {W:List Str} {tgt:Expr} {body:List Stmt} {d:D} {ds:List D} {ρ2:aJ}
end
end
noncomputable def feq (a b:UInt64):Bool:=Float64.cmp a b==some .eq
noncomputable def flt (a b:UInt64):Bool:=Float64.cmp a b==some .lt
noncomputable def fle (a b:UInt64):Bool:=Float64.cmp a b==some .lt||Float64.cmp a b==some .eq
noncomputable def gG (a b:UInt64):UInt64:=(Float64.divmod a b).2
noncomputable def G5 (a:UInt64):Int:=Flt.toInt Float64.truncOf a
noncomputable def eG (a:UInt64):Int:=Flt.toInt Float64.nearestOf a
noncomputable def gj (a b:Int):UInt64:=Float64.ofFrac (decide (a < 0) != decide (b < 0)) a.natAbs b.natAbs
theorem Zf {a b:UInt64} (h:Float64.isZero b=false):bin .Div (.float a) (.float b)=some (.float (Float64.div a b)):=bu (by rw [h]; rfl)
theorem Y7 {a b:UInt64} (h:Float64.isZero b=false):bin .Mod (.float a) (.float b)=some (.float (gG a b)):=bu (by rw [h]; rfl)
theorem Vf {a:UInt64} {b:Int} (h:Float64.isInf (Float64.ofInt b)=false):bin .Add (.float a) (.int b)=some (.float (Float64.add a (Float64.ofInt b))):=bu (by rw [h]; rfl)
theorem U9 {a:UInt64} {b:Int} (h:Float64.isInf (Float64.ofInt b)=false):bin .Sub (.float a) (.int b)=some (.float (Float64.sub a (Float64.ofInt b))):=bu (by rw [h]; rfl)
theorem Vs {a:Int} {b:UInt64} (h:Float64.isInf (Float64.ofInt a)=false):bin .Mult (.int a) (.float b)=some (.float (Float64.mul (Float64.ofInt a) b)):=bu (by rw [h]; rfl)
theorem Wu {a b:Int} (h:b≠0) (h2:Float64.isInf (gj a b)=false):bin .Div (.int a) (.int b)=some (.float (gj a b)):=by
 show au (decide (b≠0)&&!Float64.isInf (gj a b)) (D.float (gj a b))=_
 rw [h2]; exact bu (by simpa using h)
theorem Q0 {a:UInt64} (h:Float64.isFinite a=true):dK .round [.float a]=some (.int (eG a)):=bu h
theorem cb_int {a:UInt64} (h:Float64.isFinite a=true):dK .int [.float a]=some (.int (G5 a)):=bu h
section
variable {r:R} {sc:Sc} {ρ:aJ} {W:List Str}
theorem QW {l:List D} {k:Int} (h:l.length≤16000000) (h0:0≤k) (h1:k < 2 ^ 62):mK (.list l) none (some k)=some (.list (l.take k.toNat)):=by
 show au _ (D.list ((l.drop 0).take (k.toNat-0)))=_
 rw [bu (by have:l.length≤sizeLine:=aF h (by decide); simp [small,this,h0]; omega),List.drop_zero,Nat.sub_zero]
theorem Ci {l:List D} {k:Int} (h:l.length≤16000000) (h0:0≤k) (h1:k < 2 ^ 62):mK (.list l) (some k) none=some (.list (l.drop k.toNat)):=by
 show au _ (D.list ((l.drop k.toNat).take (l.length-k.toNat)))=_
 rw [bu (by have:l.length≤sizeLine:=aF h (by decide); simp [small,this,h0]; omega)]
 congr 2
 rw [List.take_of_length_le]
 simp
end
theorem YJ:xT ("get":Str)=some .get:=by decide +kernel
theorem Rt:xT ("lower":Str)=some .lower:=by decide +kernel
theorem T3:xT ("join":Str)=some .join:=by decide +kernel
theorem Hz {c:Nat}:dK .ord [.str ⟨#[c]⟩]=some (.int (c:Nat)):=nr rfl
theorem c_inS {a:Int} {S:Int→Bool}:cmp .In (.int a) (.iset S)=some (S a):=nr rfl
theorem cm_get {f:Int→Option Str} {k:Int}:uw .get (.imap f) [.int k]=some (match f k with | some x => .str x | none => .none):=nr rfl
theorem c_isn0:cmp .IsNot .none .none=some false:=nr rfl
theorem Z0 {x:Str}:cmp .IsNot (.str x) .none=some true:=nr rfl
theorem QG {x:Str} (h:Builtin.Str.tooLong (Txt.lower x).length=false):uw .lower (.str x) []=some (.str (Txt.lower x)):=bu (by rw [h]; rfl)
theorem Hy:∀ {l:List Str},strsOf (l.map .str)=some l:=by
 intro l
 induction l with
 | nil =>
   exact rfl
 | cons a l ih =>
   simp only [List.map_cons,strsOf,ih,Option.map_some]
section
variable {r:R} {sc:Sc} {W:List Str} {ρ:aJ} {k:Nat} {y:Str} {py p:Pos} {v:Expr} {d:D}
theorem Ax {l:List Int} {n:Nat}:(l.map D.int).take n=(l.take n).map D.int:=List.map_take.symm
end
inductive Atr | raw | n | nt | norm | simple
set_option genCtorIdx false
mutual
inductive SE where
 | lit (d:D) | mil | var (i:Nat) | glob (x:Str) | bin (op:Operator) (a b:SE)
 | cmp (op:CmpOp) (a b:SE) | cmp2 (o1 o2:CmpOp) (a b c:SE) | not (a:SE) | band (l:SL) | bor (l:SL)
 | list (l:SL) | tup (l:SL) | sub (a i:SE) | slt (a i:SE) | slf (a i:SE) | attr (a:SE) (k:Atr)
 | slc (a l u:SE) | call (f:Str) (l:SL) | bcall (b:Bn) (l:SL) | meth (a:SE) (m:Str) (l:SL) | comp (c:SL) (e it:SE) | comp2 (c:SL) (e it it2:SE)
inductive SL where
 | nil | cons (a:SE) (r:SL)
end
inductive SS where
 | nil | asg (i:Nat) (e:SE) (r:SS) | scal (i:Nat) (e:SE) (r:SS) | own (i:Nat) (r:SS) | ext (i:Nat) (e:SE) (r:SS)
 | tupl (is:List Nat) (e:SE) (r:SS) | put (i:Nat) (j:SE) (op:Operator) (n b:SE) (r:SS) | ins (i:Nat) (a b:SE) (r:SS)
 | ite (c:SE) (a b r:SS) | for_ (i:Nat) (it:SE) (b r:SS) | ret (e:SE) (r:SS) | brk (r:SS)
noncomputable abbrev Kn:=List (Option D)
noncomputable def bF:Kn→Nat→Option D
 | [],_=>none
 | o :: _,0=>o
 | _ :: r,i+1=>bF r i
noncomputable def bC:Kn→Nat→D→Kn
 | [],_,_=>[]
 | _ :: r,0,d=>some d :: r
 | o :: r,i+1,d=>o :: bC r i d
noncomputable def XK (o:Option D) (Q:D→Prop):Prop:=match o with | some d=>Q d | none=>False
noncomputable def H7 (d:D) (P:Int→Prop):Prop:=match d with | .int k=>P k | _=>False
noncomputable def Gb (l:D) (Q:List D→Prop):Prop:=match l with | .list ds=>Q ds | _=>False
noncomputable def pG (d:D) (A B:Prop):Prop:=match d with | .bool b=>cond b A B | _=>False
noncomputable def notW (d:D) (Q:D→Prop):Prop:=match d with | .bool b=>Q (.bool (!b)) | _=>False
noncomputable def bG (op:Operator) (d e:D) (Q:D→Prop):Prop:=∃ r,bin op d e=some r∧Q r
noncomputable def aX (op:Operator) (a b:Int) (Q:D→Prop):Prop:=match op with
 | .Add=>Q (.int (a+b))
 | .Sub=>Q (.int (a-b))
 | .Mult=>a.natAbs < 2 ^ 62∧Q (.int (a*b))
 | .Mod=>0 < b∧Q (.int (a % b))
 | .FloorDiv=>(0 < b∧b < 2 ^ 60)∧Q (.int (a / b))
 | .Div=>(b≠0∧Float64.isInf (gj a b)=false)∧Q (.float (gj a b))
 | _=>bG op (.int a) (.int b) Q
noncomputable def aN (op:Operator) (a b:UInt64) (Q:D→Prop):Prop:=match op with
 | .Add=>Q (.float (Float64.add a b))
 | .Sub=>Q (.float (Float64.sub a b))
 | .Mult=>Q (.float (Float64.mul a b))
 | .Div=>Float64.isZero b=false∧Q (.float (Float64.div a b))
 | .Mod=>Float64.isZero b=false∧Q (.float (gG a b))
 | _=>bG op (.float a) (.float b) Q
noncomputable def aA (op:Operator) (a:UInt64) (b:Int) (Q:D→Prop):Prop:=match op with
 | .Add=>Float64.isInf (Float64.ofInt b)=false∧Q (.float (Float64.add a (Float64.ofInt b)))
 | .Sub=>Float64.isInf (Float64.ofInt b)=false∧Q (.float (Float64.sub a (Float64.ofInt b)))
 | _=>bG op (.float a) (.int b) Q
noncomputable def aC (op:Operator) (a:Int) (b:UInt64) (Q:D→Prop):Prop:=match op with
 | .Mult=>Float64.isInf (Float64.ofInt a)=false∧Q (.float (Float64.mul (Float64.ofInt a) b))
 | _=>bG op (.int a) (.float b) Q
noncomputable def aZ (op:Operator) (x y:Str) (Q:D→Prop):Prop:=match op with
 | .Add=>x.length+y.length≤16000000∧Q (.str (x++y))
 | _=>bG op (.str x) (.str y) Q
noncomputable def aB (op:Operator) (x:Str) (n:Int) (Q:D→Prop):Prop:=match op with
 | .Mult=>(0≤n∧n≤1000∧x.length≤1000)∧Q (.str (rM x n))
 | _=>bG op (.str x) (.int n) Q
noncomputable def aY (op:Operator) (x y:List D) (Q:D→Prop):Prop:=match op with
 | .Add=>x.length+y.length≤16000000∧Q (.list (x++y))
 | _=>bG op (.list x) (.list y) Q
noncomputable def uF (op:Operator) (d e:D) (Q:D→Prop):Prop:=match d with
 | .int a=>(match e with | .int b=>aX op a b Q | .float b=>aC op a b Q | _=>bG op d e Q)
 | .float a=>(match e with | .float b=>aN op a b Q | .int b=>aA op a b Q | _=>bG op d e Q)
 | .str x=>(match e with | .str y=>aZ op x y Q | .int n=>aB op x n Q | _=>bG op d e Q)
 | .list x=>(match e with | .list y=>aY op x y Q | _=>bG op d e Q)
 | _=>bG op d e Q
noncomputable def bI (op:CmpOp) (d e:D) (Q:D→Prop):Prop:=∃ r,cmp op d e=some r∧Q (.bool r)
noncomputable def aP (op:CmpOp) (a b:Int) (Q:D→Prop):Prop:=match op with
 | .Eq=>Q (.bool (decide (a=b)))
 | .NotEq=>Q (.bool (!decide (a=b)))
 | .Lt=>Q (.bool (decide (a < b)))
 | .LtE=>Q (.bool (decide (a≤b)))
 | .Gt=>Q (.bool (decide (b < a)))
 | .GtE=>Q (.bool (decide (b≤a)))
 | _=>bI op (.int a) (.int b) Q
noncomputable def aV (op:CmpOp) (a b:UInt64) (Q:D→Prop):Prop:=match op with
 | .Eq=>Q (.bool (feq a b))
 | .Lt=>Q (.bool (flt a b))
 | .LtE=>Q (.bool (fle a b))
 | _=>bI op (.float a) (.float b) Q
noncomputable def aU (op:CmpOp) (a b:Str) (Q:D→Prop):Prop:=match op with
 | .Eq=>Q (.bool (decide (a=b)))
 | .NotEq=>Q (.bool (!decide (a=b)))
 | _=>bI op (.str a) (.str b) Q
noncomputable def aR (op:CmpOp) (a b:Bool) (Q:D→Prop):Prop:=match op with
 | .Is=>Q (.bool (a==b))
 | .IsNot=>Q (.bool (!(a==b)))
 | _=>bI op (.bool a) (.bool b) Q
noncomputable def v7 (op:CmpOp) (d e:D) (Q:D→Prop):Prop:=match d with
 | .int a=>(match e with | .int b=>aP op a b Q | _=>bI op d e Q)
 | .float a=>(match e with | .float b=>aV op a b Q | _=>bI op d e Q)
 | .str a=>(match e with | .str b=>aU op a b Q | _=>bI op d e Q)
 | .bool a=>(match e with | .bool b=>aR op a b Q | _=>bI op d e Q)
 | _=>bI op d e Q
noncomputable def q7 (b:Bn) (ds:List D) (Q:D→Prop):Prop:=∃ r,dK b ds=some r∧Q r
noncomputable def U6 (d:D) (Q:D→Prop):Prop:=match d with
 | .list l=>l.length < 2 ^ 62∧Q (.int l.length)
 | .tup l=>l.length < 2 ^ 62∧Q (.int l.length)
 | .str l=>l.length < 2 ^ 62∧Q (.int l.length)
 | _=>q7 .len [d] Q
noncomputable def chrW (d:D) (Q:D→Prop):Prop:=match d with
 | .int i=>(0≤i∧i≤1114111)∧Q (.str ⟨#[i.toNat]⟩)
 | _=>q7 .chr [d] Q
noncomputable def Qk (d:D) (Q:D→Prop):Prop:=match d with
 | .int a=>Q (.range 0 a)
 | _=>q7 .range [d] Q
noncomputable def Nz (d:D) (Q:D→Prop):Prop:=match d with
 | .float a=>Float64.isFinite a=true∧Q (.int (eG a))
 | _=>q7 .round [d] Q
noncomputable def XH (d:D) (Q:D→Prop):Prop:=match d with
 | .float a=>Float64.isFinite a=true∧Q (.int (G5 a))
 | _=>q7 .int [d] Q
noncomputable def RK (b:Bn) (d e:D) (F:Int→Int→D) (Q:D→Prop):Prop:=match d with
 | .int x=>(match e with | .int y=>Q (F x y) | _=>q7 b [d,e] Q)
 | _=>q7 b [d,e] Q
noncomputable def We (b:Bn) (d e f:D) (F:UInt64→UInt64→UInt64→D) (Q:D→Prop):Prop:=match d with
 | .float x=>(match e with | .float y=>(match f with | .float z=>Q (F x y z) | _=>q7 b [d,e,f] Q) | _=>q7 b [d,e,f] Q)
 | _=>q7 b [d,e,f] Q
noncomputable def eN (b:Bn) (d:D) (Q:D→Prop):Prop:=match b with
 | .len=>U6 d Q
 | .chr=>chrW d Q
 | .range=>Qk d Q
 | .round=>Nz d Q
 | .int=>XH d Q
 | _=>q7 b [d] Q
noncomputable def eQ (b:Bn) (d e:D) (Q:D→Prop):Prop:=match b with
 | .range=>RK b d e (fun x y => .range x y) Q
 | .max=>RK b d e (fun x y => .int (if y > x then y else x)) Q
 | .min=>RK b d e (fun x y => .int (if y < x then y else x)) Q
 | _=>q7 b [d,e] Q
noncomputable def eV (b:Bn) (d e f:D) (Q:D→Prop):Prop:=match b with
 | .max=>We b d e f (fun x y z => .float (fmax (fmax x y) z)) Q
 | .min=>We b d e f (fun x y z => .float (fmin (fmin x y) z)) Q
 | _=>q7 b [d,e,f] Q
noncomputable def d9 (b:Bn) (ds:List D) (Q:D→Prop):Prop:=match ds with
 | []=>q7 b ds Q
 | d :: r=>(match r with
  | []=>eN b d Q
  | e :: r'=>(match r' with
   | []=>eQ b d e Q
   | f :: r'=>(match r' with
    | []=>eV b d e f Q
    | _ :: _=>q7 b ds Q)))
noncomputable def aW (x:Ws) (k:Atr) (Q:D→Prop):Prop:=match k with
 | .raw=>Q (.str x.raw)
 | .n=>Q (.int x.n)
 | .nt=>Q (.int x.nt)
 | .norm=>Q (.tup [.tup (x.count.map .int),.int x.b])
 | .simple=>Q (.bool (decide (x.count.length≤1)))
noncomputable def Nb (d:D) (k:Atr) (Q:D→Prop):Prop:=match d with
 | .ws x=>aW x k Q
 | _=>False
noncomputable def lC (d:D) (Q:List D→Prop):Prop:=match d with
 | .list xs=>Q xs
 | .tup xs=>Q xs
 | .str x=>Q (x.cps.toList.map fun c=>D.str ⟨#[c]⟩)
 | .range lo hi=>(0≤lo∧lo < 2 ^ 24∧hi < 2 ^ 24 ∧ -2 ^ 24 < hi)∧Q (eF lo hi)
 | _=>False
noncomputable def R3 (d:D) (Q:List D→Prop):Prop:=match d with
 | .list xs=>Q xs
 | .tup xs=>Q xs
 | _=>False
noncomputable def SQ (G:Ctx) (f:Str) (ds:List D):Option D:=(G.fns.lookup f).bind fun F=>F ds
noncomputable def nJ (elt ifs:D→(D→Prop)→Prop):List D→(List D→Prop)→Prop
 | [],Q=>Q []
 | d :: ds,Q=>ifs d fun b=>pG b (elt d fun y=>nJ elt ifs ds fun ys=>Q (y :: ys)) (nJ elt ifs ds Q)
noncomputable def Js (f:D→(List D→Prop)→Prop):List D→(List D→Prop)→Prop
 | [],Q=>Q []
 | d :: ds,Q=>f d fun a=>Js f ds fun b=>Q (a++b)
noncomputable def uP (d:D) (l u:Option Int) (Q:D→Prop):Prop:=∃ r,mK d l u=some r∧Q r
mutual
noncomputable def wX (G:Ctx):SE→Kn→(D→Prop)→Prop
 | .lit d,_,Q=>Q d
 | .mil,_,Q=>Q (.int 1000000)
 | .var i,kn,Q=>XK (bF kn i) Q
 | .glob x,_,Q=>∃ d,G.vals.lookup x=some d∧Q d
 | .bin op a b,kn,Q=>wX G a kn fun d=>wX G b kn fun e=>uF op d e Q
 | .cmp op a b,kn,Q=>wX G a kn fun d=>wX G b kn fun e=>v7 op d e Q
 | .cmp2 o1 o2 a b c,kn,Q=>wX G a kn fun d=>wX G b kn fun e=>v7 o1 d e fun r=>pG r (wX G c kn fun f=>v7 o2 e f Q) (Q (.bool false))
 | .not a,kn,Q=>wX G a kn fun d=>notW d Q
 | .band l,kn,Q=>wA G l kn fun b=>Q (.bool b)
 | .bor l,kn,Q=>wO G l kn fun b=>Q (.bool b)
 | .list l,kn,Q=>wL G l kn fun ds=>Q (.list ds)
 | .tup l,kn,Q=>wL G l kn fun ds=>Q (.tup ds)
 | .sub a i,kn,Q=>wX G a kn fun d=>wX G i kn fun e=>∃ r,jW d e=some r∧Q r
 | .slt a i,kn,Q=>wX G a kn fun d=>wX G i kn fun e=>H7 e fun k=>uP d none (some k) Q
 | .slf a i,kn,Q=>wX G a kn fun d=>wX G i kn fun e=>H7 e fun k=>uP d (some k) none Q
 | .slc a l u,kn,Q=>wX G a kn fun d=>wX G l kn fun e=>H7 e fun k=>wX G u kn fun f=>H7 f fun j=>uP d (some k) (some j) Q
 | .attr a k,kn,Q=>wX G a kn fun d=>Nb d k Q
 | .call f l,kn,Q=>wL G l kn fun ds=>∃ r,SQ G f ds=some r∧Q r
 | .bcall b l,kn,Q=>wL G l kn fun ds=>d9 b ds Q
 | .meth a m l,kn,Q=>wX G a kn fun d=>wL G l kn fun ds=>∃ r,vL G m d ds=some r∧Q r
 | .comp c e it,kn,Q=>wX G it kn fun d=>lC d fun items=>items.length≤16000000∧nJ (fun d Q=>wX G e (some d :: kn) Q) (fun d Q=>wA G c (some d :: kn) fun b=>Q (.bool b)) items fun ys=>Q (.list ys)
 | .comp2 c e it it2,kn,Q=>wX G it kn fun d=>lC d fun items=>items.length≤16000000∧Js (fun d Q=>wX G it2 (some d :: kn) fun d2=>lC d2 fun items2=>nJ (fun d' Q=>wX G e (some d' :: some d :: kn) Q) (fun d' Q=>wA G c (some d' :: some d :: kn) fun b=>Q (.bool b)) items2 Q) items fun ys=>ys.length≤16000000∧Q (.list ys)
noncomputable def wL (G:Ctx):SL→Kn→(List D→Prop)→Prop
 | .nil,_,Q=>Q []
 | .cons a r,kn,Q=>wX G a kn fun d=>wL G r kn fun l=>Q (d :: l)
noncomputable def wA (G:Ctx):SL→Kn→(Bool→Prop)→Prop
 | .nil,_,Q=>Q true
 | .cons a r,kn,Q=>wX G a kn fun d=>pG d (wA G r kn Q) (Q false)
noncomputable def wO (G:Ctx):SL→Kn→(Bool→Prop)→Prop
 | .nil,_,Q=>Q false
 | .cons a r,kn,Q=>wX G a kn fun d=>pG d (Q true) (wO G r kn Q)
end
structure EV where
 xs:List Expr
 l:List Expr:=[]
 k:Nat:=0
 s:Scope:=default
 n:Str:=Str.empty
noncomputable def EY (e:Expr):EV:=match e with
 | .BinOp l _ r _=>⟨[l,r],[],0,default,Str.empty⟩
 | .UnaryOp _ x _=>⟨[x],[],0,default,Str.empty⟩
 | .Compare l _ rs _=>⟨l :: rs,[],0,default,Str.empty⟩
 | .Call f a _ _=>⟨[f],a,0,default,Str.empty⟩
 | .Attribute v _ _=>⟨[v],[],0,default,Str.empty⟩
 | .Subscript v sl _=>⟨[v,sl],[],0,default,Str.empty⟩
 | .Slice lo hi _ _=>⟨[lo.getD e,hi.getD e],[],0,default,Str.empty⟩
 | .ListComp elt gens s _=>(match gens with | []=>⟨[],[],0,s,Str.empty⟩ | g :: r=>(match r with | []=>⟨[elt,g.iter,g.target],g.ifs,0,s,Str.empty⟩ | g2 :: _=>⟨[elt,g.iter,g.target,g2.iter,g2.target],g2.ifs,0,s,Str.empty⟩))
 | .List l _=>⟨[],l,0,default,Str.empty⟩
 | .Tuple l k _=>⟨[],l,k,default,Str.empty⟩
 | .BoolOp _ l _=>⟨[],l,0,default,Str.empty⟩
 | .Constant _ k _=>⟨[],[],k,default,Str.empty⟩
 | .Name x _=>⟨[],[],0,default,x⟩
 | .IfExp _ _ _ _ | .NamedExpr _ _ _ | .Lambda _ _ _ _ | .Dict _ _ _ | .Set _ _ _ | .SetComp _ _ _ _ | .DictComp _ _ _ _ _ | .GeneratorExp _ _ _ _ | .Await _ _ | .Yield _ _ | .YieldFrom _ _ | .FormattedValue _ _ _ _ | .JoinedStr _ _ | .Starred _ _=>⟨[],[],0,default,Str.empty⟩
noncomputable def kid (e:Expr) (i:Nat):Expr:=(EY e).xs.getD i e
noncomputable def kids (e:Expr):List Expr:=(EY e).l
noncomputable def kE (e:Expr):Nat:=(EY e).k
noncomputable def c7 (e:Expr):Scope:=(EY e).s
noncomputable def nameE (e:Expr):Str:=(EY e).n
noncomputable def constOf (d:D):Const:=match d with | .bool b => .bool b | .int i => .int i | .float x => .float x | .str x => .str x | _ => .none
noncomputable def isSc (d:D):Bool:=match d with | .none=>true | .bool _=>true | .int _=>true | .float _=>true | .str _=>true | _=>false
noncomputable def atName (k:Atr):Str:=match k with | .raw => "raw" | .n => "n" | .nt => "nt" | .norm => "norm" | .simple => "is_simple"
noncomputable def di (L:List Str) (i:Nat):Str:=L.getD i Str.empty
mutual
noncomputable def dE:SE→List Str→Expr→Expr
 | .lit d,_,e => .Constant (constOf d) (kE e) e.pos
 | .mil,_,e => .BinOp (.Constant (.int 10) (kE (kid e 0)) (kid e 0).pos) .Pow (.Constant (.int 6) (kE (kid e 1)) (kid e 1).pos) e.pos
 | .var i,L,e => .Name (di L i) e.pos
 | .glob x,_,e => .Name x e.pos
 | .bin op a b,L,e => .BinOp (dE a L (kid e 0)) op (dE b L (kid e 1)) e.pos
 | .cmp op a b,L,e => .Compare (dE a L (kid e 0)) [op] [dE b L (kid e 1)] e.pos
 | .cmp2 o1 o2 a b c,L,e => .Compare (dE a L (kid e 0)) [o1,o2] [dE b L (kid e 1),dE c L (kid e 2)] e.pos
 | .not a,L,e => .UnaryOp .Not (dE a L (kid e 0)) e.pos
 | .band l,L,e => .BoolOp .And (dL l L (kids e)) e.pos
 | .bor l,L,e => .BoolOp .Or (dL l L (kids e)) e.pos
 | .list l,L,e => .List (dL l L (kids e)) e.pos
 | .tup l,L,e => .Tuple (dL l L (kids e)) (kE e) e.pos
 | .sub a i,L,e => .Subscript (dE a L (kid e 0)) (dE i L (kid e 1)) e.pos
 | .slt a i,L,e => .Subscript (dE a L (kid e 0)) (.Slice none (some (dE i L (kid (kid e 1) 1))) none (kid e 1).pos) e.pos
 | .slf a i,L,e => .Subscript (dE a L (kid e 0)) (.Slice (some (dE i L (kid (kid e 1) 0))) none none (kid e 1).pos) e.pos
 | .slc a l u,L,e => .Subscript (dE a L (kid e 0)) (.Slice (some (dE l L (kid (kid e 1) 0))) (some (dE u L (kid (kid e 1) 1))) none (kid e 1).pos) e.pos
 | .attr a k,L,e => .Attribute (dE a L (kid e 0)) (atName k) e.pos
 | .call f l,L,e => .Call (.Name f (kid e 0).pos) (dL l L (kids e)) [] e.pos
 | .bcall b l,L,e => .Call (.Name b.name (kid e 0).pos) (dL l L (kids e)) [] e.pos
 | .meth a m l,L,e => .Call (.Attribute (dE a L (kid (kid e 0) 0)) m (kid e 0).pos) (dL l L (kids e)) [] e.pos
 | .comp c x it,L,e => .ListComp (dE x (nameE (kid e 2) :: L) (kid e 0)) [⟨.Name (nameE (kid e 2)) (kid e 2).pos,dE it L (kid e 1),dL c (nameE (kid e 2) :: L) (kids e),0⟩] (c7 e) e.pos
 | .comp2 c x it it2,L,e => .ListComp (dE x (nameE (kid e 4) :: nameE (kid e 2) :: L) (kid e 0)) [⟨.Name (nameE (kid e 2)) (kid e 2).pos,dE it L (kid e 1),[],0⟩,⟨.Name (nameE (kid e 4)) (kid e 4).pos,dE it2 (nameE (kid e 2) :: L) (kid e 3),dL c (nameE (kid e 4) :: nameE (kid e 2) :: L) (kids e),0⟩] (c7 e) e.pos
noncomputable def dL:SL→List Str→List Expr→List Expr
 | .nil,_,_=>[]
 | .cons a r,L,g=>dE a L (g.headD default) :: dL r L g.tail
end
noncomputable def Gp:List Str→Str→Option Nat
 | [],_=>none
 | y :: r,x=>if y==x then some 0 else (Gp r x).map (·+1)
structure TP where
 V:Str→Bool
 L:List Str
 sc:Sc
noncomputable def Yh (T:TP) (s:Scope):TP:=⟨fun y=>T.V y&&s.names.lookup y==some .free,T.L,gR s.names T.sc⟩
noncomputable def Lh (T:TP) (x:Str):TP:=⟨fun y=>y==x||T.V y,x :: T.L,T.sc⟩
noncomputable abbrev inT (T:TP) (s:Scope) (x:Str):TP:=Lh (Yh T s) x
noncomputable def glb (T:TP) (x:Str):Bool:=bW x&&T.sc.lookup x==some .globalImplicit
noncomputable def okV (T:TP) (i:Nat):Bool:=bW (di T.L i)&&!(T.sc.lookup (di T.L i)==some .globalImplicit)&&T.V (di T.L i)&&Gp T.L (di T.L i)==some i
noncomputable def fu (t:Bool) (k:Nat) (F:Nat→Bool):Bool:=match k with
 | 0=>false
 | k+1=>(match t with | false=>F k | true=>(match k with | 0=>false | k+1=>F k))
noncomputable def HJ:SL→Nat
 | .nil=>0
 | .cons _ r=>HJ r+1
mutual
noncomputable def ok:SE→Bool→TP→Expr→Nat→Bool
 | .lit d,t,_,_,k=>!t&&fu false k fun _=>isSc d
 | .mil,t,_,_,k=>!t&&fu false k fun k=>fu false k fun _=>true
 | .var i,t,T,_,k=>fu t k fun _=>okV T i
 | .glob x,t,T,_,k=>fu t k fun _=>glb T x
 | .bin _ a b,t,T,e,k=>!t&&fu false k fun k=>ok a false T (kid e 0) k&&ok b false T (kid e 1) k
 | .cmp op a b,_,T,e,k=>fu false k fun k=>!behindInMarks op (dE b T.L (kid e 1))&&ok a false T (kid e 0) k&&ok b false T (kid e 1) k
 | .cmp2 _ o2 a b c,t,T,e,k=>t&&fu false k fun k=>!behindInMarks o2 (dE c T.L (kid e 2))&&ok a false T (kid e 0) k&&ok b false T (kid e 1) k&&ok c false T (kid e 2) k
 | .not a,t,T,e,k=>t&&fu false k fun k=>ok a true T (kid e 0) k
 | .band l,t,T,e,k=>t&&fu false k fun k=>Dn l true T (kids e) k
 | .bor l,t,T,e,k=>t&&fu false k fun k=>Dn l true T (kids e) k
 | .list l,t,T,e,k=>!t&&fu false k fun k=>Nat.ble (HJ l) 1000&&Dn l false T (kids e) k
 | .tup l,t,T,e,k=>!t&&fu false k fun k=>Nat.ble (HJ l) 1000&&Dn l false T (kids e) k
 | .sub a i,t,T,e,k=>fu t k fun k=>ok a false T (kid e 0) k&&ok i false T (kid e 1) k
 | .slt a i,t,T,e,k=>fu t k fun k=>ok a false T (kid e 0) k&&ok i false T (kid (kid e 1) 1) k
 | .slf a i,t,T,e,k=>fu t k fun k=>ok a false T (kid e 0) k&&ok i false T (kid (kid e 1) 0) k
 | .slc a l u,t,T,e,k=>fu t k fun k=>ok a false T (kid e 0) k&&ok l false T (kid (kid e 1) 0) k&&ok u false T (kid (kid e 1) 1) k
 | .attr a _,t,T,e,k=>fu t k fun k=>plainBase (dE a T.L (kid e 0))&&ok a false T (kid e 0) k
 | .call f l,t,T,e,k=>fu t k fun k=>glb T f&&Dn l false T (kids e) k
 | .bcall b l,t,T,e,k=>fu t k fun k=>glb T b.name&&Dn l false T (kids e) k
 | .meth a _ l,t,T,e,k=>fu t k fun k=>plainBase (dE a T.L (kid (kid e 0) 0))&&(kid e 0).pos.endLine==e.pos.line&&Nat.ble (HJ l) 28&&ok a false T (kid (kid e 0) 0) k&&Dn l false T (kids e) k
 | .comp c x it,t,T,e,k=>!t&&fu false k fun k=>mR (c7 e) T.sc [nameE (kid e 2)]&&ok it false T (kid e 1) k&&Dn c true (inT T (c7 e) (nameE (kid e 2))) (kids e) k&&ok x false (inT T (c7 e) (nameE (kid e 2))) (kid e 0) k
 | .comp2 c x it it2,t,T,e,k=>!t&&fu false k fun k=>nameE (kid e 2) != nameE (kid e 4)&&mR (c7 e) T.sc [nameE (kid e 2),nameE (kid e 4)]&&ok it false T (kid e 1) k&&ok it2 false (inT T (c7 e) (nameE (kid e 2))) (kid e 3) k&&Dn c true (Lh (inT T (c7 e) (nameE (kid e 2))) (nameE (kid e 4))) (kids e) k&&ok x false (Lh (inT T (c7 e) (nameE (kid e 2))) (nameE (kid e 4))) (kid e 0) k
noncomputable def Dn:SL→Bool→TP→List Expr→Nat→Bool
 | .nil,_,_,_,_=>true
 | .cons a r,t,T,g,k=>ok a t T (g.headD default) k&&Dn r t T g.tail k
end
inductive GE (o:Option D) (Q:D→Prop):Prop where
 | mk (d:D) (e:o=some d) (q:Q d):GE o Q
inductive GT (o:Option Bool) (Q:D→Prop):Prop where
 | mk (d:D) (q:Q d) (e:∀ b,d=.bool b→o=some b):GT o Q
theorem GE.of {o:Option D} {Q:D→Prop} (h:∃ d,o=some d∧Q d):GE o Q:=by obtain ⟨d,a,b⟩:=h; exact ⟨d,a,b⟩
section
variable {Q:D→Prop} {d e:D}
theorem WM {op:Operator} (h:uF op d e Q):GE (bin op d e) Q:=by
 induction d using D.casesOn with
 | int a =>
  induction e using D.casesOn with
  | int b =>
   induction op using Operator.casesOn with
   | Add=>exact ⟨_,rfl,h⟩
   | Sub=>exact ⟨_,rfl,h⟩
   | Mult=>exact ⟨_,b_mul h.1,h.2⟩
   | Mod=>exact ⟨_,b_mod h.1,h.2⟩
   | FloorDiv=>exact ⟨_,Zg h.1.1 h.1.2,h.2⟩
   | Div=>exact ⟨_,Wu h.1.1 h.1.2,h.2⟩
   | _=>exact .of h
  | float b=>induction op using Operator.casesOn with
   | Mult=>exact ⟨_,Vs h.1,h.2⟩
   | _=>exact .of h
  | _=>exact .of h
 | float a =>
  induction e using D.casesOn with
  | float b =>
   induction op using Operator.casesOn with
   | Add=>exact ⟨_,rfl,h⟩
   | Sub=>exact ⟨_,rfl,h⟩
   | Mult=>exact ⟨_,rfl,h⟩
   | Div=>exact ⟨_,Zf h.1,h.2⟩
   | Mod=>exact ⟨_,Y7 h.1,h.2⟩
   | _=>exact .of h
  | int b=>induction op using Operator.casesOn with
   | Add=>exact ⟨_,Vf h.1,h.2⟩
   | Sub=>exact ⟨_,U9 h.1,h.2⟩
   | _=>exact .of h
  | _=>exact .of h
 | str x =>
  induction e using D.casesOn with
  | str y=>induction op using Operator.casesOn with
   | Add=>exact ⟨_,ZM h.1,h.2⟩
   | _=>exact .of h
  | int n=>induction op using Operator.casesOn with
   | Mult=>exact ⟨_,b_smul h.1.1 h.1.2.1 h.1.2.2,h.2⟩
   | _=>exact .of h
  | _=>exact .of h
 | list x =>
  induction e using D.casesOn with
  | list y=>induction op using Operator.casesOn with
   | Add=>exact ⟨_,b_ladd h.1,h.2⟩
   | _=>exact .of h
  | _=>exact .of h
 | _=>exact .of h
theorem CN {op:CmpOp} (h:v7 op d e Q):∃ r,cmp op d e=some r∧Q (.bool r):=by
 induction d using D.casesOn with
 | int a =>
  induction e using D.casesOn with
  | int b =>
   induction op using CmpOp.casesOn with
   | Eq=>exact ⟨_,c_eq,h⟩
   | NotEq=>exact ⟨_,c_ne,h⟩
   | Is | IsNot | In | NotIn=>exact h
   | _=>exact ⟨_,rfl,h⟩
  | _=>exact h
 | float a =>
  induction e using D.casesOn with
  | float b =>
   induction op using CmpOp.casesOn with
   | Eq | Lt | LtE=>exact ⟨_,rfl,h⟩
   | _=>exact h
  | _=>exact h
 | str a =>
  induction e using D.casesOn with
  | str b =>
   induction op using CmpOp.casesOn with
   | Eq=>exact ⟨_,c_seq,h⟩
   | NotEq=>exact ⟨_,c_sne,h⟩
   | _=>exact h
  | _=>exact h
 | bool a =>
  induction e using D.casesOn with
  | bool b =>
   induction op using CmpOp.casesOn with
   | Is | IsNot=>exact ⟨_,rfl,h⟩
   | _=>exact h
  | _=>exact h
 | _=>exact h
theorem Dh {b:Bn} {F:Int→Int→D} (hF:∀ x y,dK b [.int x,.int y]=some (F x y)) (h:RK b d e F Q):GE (dK b [d,e]) Q:=by
 induction d using D.casesOn with
 | int x=>induction e using D.casesOn with
  | int y=>exact ⟨_,hF x y,h⟩
  | _=>exact .of h
 | _=>exact .of h
theorem Jf {b:Bn} {f:D} {F:UInt64→UInt64→UInt64→D} (hF:∀ x y z,dK b [.float x,.float y,.float z]=some (F x y z)) (h:We b d e f F Q):GE (dK b [d,e,f]) Q:=by
 induction d using D.casesOn with
 | float x=>induction e using D.casesOn with
  | float y=>induction f using D.casesOn with
   | float z=>exact ⟨_,hF x y z,h⟩
   | _=>exact .of h
  | _=>exact .of h
 | _=>exact .of h
theorem Z6 {b:Bn} (h:eN b d Q):GE (dK b [d]) Q:=by
 cases b with
 | len=>induction d using D.casesOn with
  | list l=>exact ⟨_,Yx h.1,h.2⟩
  | tup l=>exact ⟨_,Tj h.1,h.2⟩
  | str l=>exact ⟨_,T8 h.1,h.2⟩
  | _=>exact .of h
 | chr=>induction d using D.casesOn with
  | int l=>exact ⟨_,cb_chr h.1.1 h.1.2,h.2⟩
  | _=>exact .of h
 | range=>induction d using D.casesOn with
  | int l=>exact ⟨_,rfl,h⟩
  | _=>exact .of h
 | round=>induction d using D.casesOn with
  | float l=>exact ⟨_,Q0 h.1,h.2⟩
  | _=>exact .of h
 | int=>induction d using D.casesOn with
  | float l=>exact ⟨_,cb_int h.1,h.2⟩
  | _=>exact .of h
 | _=>exact .of h
theorem Z2 {b:Bn} {ds:List D} (h:d9 b ds Q):GE (dK b ds) Q:=by
 induction ds using List.casesOn with
 | nil=>exact .of h
 | cons d r =>
  induction r using List.casesOn with
  | nil=>exact Z6 h
  | cons e r =>
   induction r using List.casesOn with
   | nil=>cases b with
    | range=>exact Dh (fun _ _=>rfl) h
    | max=>exact Dh (fun _ _=>rfl) h
    | min=>exact Dh (fun _ _=>rfl) h
    | _=>exact .of h
   | cons f r =>
    induction r using List.casesOn with
    | nil=>cases b with
     | max=>exact Jf (fun _ _ _=>rfl) h
     | min=>exact Jf (fun _ _ _=>rfl) h
     | _=>exact .of h
    | cons _ _=>exact .of h
theorem R7 {k:Atr} (h:Nb d k Q):GE (Br d (atName k)) Q:=by
 induction d using D.casesOn with
 | ws x=>cases k <;> exact ⟨_,by kernel_rfl!,h⟩
 | _=>exact h.elim
theorem uQ {d:D} {P:List D→Prop} (h:lC d P):∃ l,itemsOf d=some l∧P l:=by
 induction d using D.casesOn with
 | list xs=>exact ⟨_,rfl,h⟩
 | tup xs=>exact ⟨_,rfl,h⟩
 | str x=>exact ⟨_,rfl,h⟩
 | range lo hi=>exact ⟨_,bu (decide_eq_true h.1),h.2⟩
 | _=>exact h.elim
theorem WP {d:D} {P:List D→Prop} (h:R3 d P):∃ l,K9 d=some l∧P l:=by
 induction d using D.casesOn with
 | list xs=>exact ⟨_,rfl,h⟩
 | tup xs=>exact ⟨_,rfl,h⟩
 | _=>exact h.elim
theorem ye {A B:Prop} (h:pG d A B):∃ b,d=.bool b∧cond b A B:=by
 induction d using D.casesOn with
 | bool b=>exact ⟨b,rfl,h⟩
 | _=>exact h.elim
theorem yo {P:List D→Prop} (h:Gb d P):∃ l,d=.list l∧P l:=by
 induction d using D.casesOn with
 | list l=>exact ⟨l,rfl,h⟩
 | _=>exact h.elim
theorem QH {o:Option D} (h:XK o Q):∃ d,o=some d∧Q d:=by
 induction o using Option.casesOn with
 | some d=>exact ⟨d,rfl,h⟩
 | none=>exact h.elim
theorem uy {P:Int→Prop} (h:H7 d P):∃ k,d=.int k∧P k:=by
 induction d using D.casesOn with
 | int k=>exact ⟨k,rfl,h⟩
 | _=>exact h.elim
end
structure Kns (T:TP) (ρ:aJ) (kn:Kn):Prop where
 v:∀ x i d,T.V x=true→Gp T.L x=some i→bF kn i=some d→ρ.lookup x=some d
 g:∀ x,T.sc.lookup x=some .globalImplicit→ρ.lookup x=none
theorem Kns.free {T:TP} {ρ:aJ} {kn:Kn} (s:Scope) (X:Kns T ρ kn):Kns (Yh T s) (dj s ρ) kn:=by
 refine ⟨fun y i e hv hi hg=>?_,fun y hy=>?_⟩
 ·obtain ⟨hv1,hv⟩:=bj (show (T.V y&&s.names.lookup y==some .free)=true from hv)
  rw [oO,if_pos hv]
  exact X.v y i e hv1 hi hg
 ·have hy:(gR s.names T.sc).lookup y=some .globalImplicit:=hy
  rw [dG] at hy
  obtain ⟨q,hq,hr⟩:=bA hy
  rw [oO,if_neg]
  intro t
  rw [hq] at t
  cases eq_of_beq t
  unfold BZ at hr
  dsimp only at hr
  split at hr <;> cases hr
theorem Kns.add {T:TP} {ρ:aJ} {kn:Kn} {x:Str} {d:D} (X:Kns T ρ kn) (hx:T.sc.lookup x≠some .globalImplicit):Kns (Lh T x) ((x,d) :: ρ) (some d :: kn):=by
 refine ⟨fun y i e hv hi hg=>?_,fun y hy=>?_⟩
 ·have hi:(if x==y then some 0 else (Gp T.L y).map (·+1))=some i:=hi
  rw [List.lookup_cons]
  cases hyx:(y==x) with
  | true =>
   obtain rfl:=eq_of_beq hyx
   rw [beq_self_eq_true,if_pos rfl] at hi
   obtain rfl:=aj hi
   exact hg
  | false =>
   rw [BEq.comm,hyx,if_neg (by decide)] at hi
   obtain ⟨j,hj,rfl⟩:=bA hi
   have hv:(y==x||T.V y)=true:=hv
   rw [hyx,Bool.false_or] at hv
   exact X.v y j e hv hj hg
 ·have hyx:(y==x)=false:=by
   rw [Bool.eq_false_iff]; intro t
   exact hx (eq_of_beq t▸hy)
  rw [List.lookup_cons,hyx]
  exact X.g y hy
theorem vD {s:Scope} {sc:Sc} {xs:List Str} (h:mR s sc xs=true) {x:Str} (hx:x∈xs):(gR s.names sc).lookup x≠some .globalImplicit:=by
 obtain ⟨h,_⟩:=bj h
 have h:=List.all_eq_true.mp (bj h).2 x hx
 rw [dG]
 intro q
 obtain ⟨k,hk,hr⟩:=bA q
 rw [hk] at h
 rcases Bool.or_eq_true_iff.mp h with h | h <;> (cases eq_of_beq h; cases hr)
section
variable {G:Ctx} {se a b c:SE} {l:SL}
noncomputable def PE (G:Ctx) (se:SE):Prop:=∀ ⦃k:Nat⦄ ⦃T:TP⦄ ⦃e:Expr⦄ ⦃kn:Kn⦄ ⦃ρ:aJ⦄ ⦃Q:D→Prop⦄,ok se false T e k=true→Kns T ρ kn→wX G se kn Q→GE ((cP G k).E T.sc ρ (dE se T.L e)) Q
noncomputable def PT (G:Ctx) (se:SE):Prop:=∀ ⦃k:Nat⦄ ⦃T:TP⦄ ⦃e:Expr⦄ ⦃kn:Kn⦄ ⦃ρ:aJ⦄ ⦃Q:D→Prop⦄,ok se true T e k=true→Kns T ρ kn→wX G se kn Q→GT ((cP G k).T T.sc ρ (dE se T.L e)) Q
noncomputable def PL (G:Ctx) (l:SL):Prop:=∀ ⦃k:Nat⦄ ⦃T:TP⦄ ⦃g:List Expr⦄ ⦃kn:Kn⦄ ⦃ρ:aJ⦄ ⦃Q:List D→Prop⦄,Dn l false T g k=true→Kns T ρ kn→wL G l kn Q→∃ ds,evs (cP G k) T.sc ρ (dL l T.L g)=some ds∧ds.length=HJ l∧Q ds
noncomputable def PA (G:Ctx) (l:SL):Prop:=∀ ⦃k:Nat⦄ ⦃T:TP⦄ ⦃g:List Expr⦄ ⦃kn:Kn⦄ ⦃ρ:aJ⦄ ⦃Q:Bool→Prop⦄,Dn l true T g k=true→Kns T ρ kn→wA G l kn Q→∃ b,Sw (cP G k) T.sc ρ .And (dL l T.L g)=some b∧yX (cP G k) T.sc ρ (dL l T.L g)=some b∧Q b
noncomputable def PO (G:Ctx) (l:SL):Prop:=∀ ⦃k:Nat⦄ ⦃T:TP⦄ ⦃g:List Expr⦄ ⦃kn:Kn⦄ ⦃ρ:aJ⦄ ⦃Q:Bool→Prop⦄,Dn l true T g k=true→Kns T ρ kn→wO G l kn Q→∃ b,Sw (cP G k) T.sc ρ .Or (dL l T.L g)=some b∧Q b
theorem aK {a b:Bool} (h:(a&&b)=true):a=true∧b=true:=bj h
inductive FuIs (F:Nat→Bool) (k n:Nat):Prop where
 | mk (j:Nat) (e:k=j+n) (h:F j=true):FuIs F k n
theorem qu {k:Nat} {F:Nat→Bool} (h:fu false k F=true):FuIs F k 1:=by
 induction k using Nat.casesAuxOn with
 | zero=>exact dM h
 | succ k=>exact ⟨k,rfl,h⟩
theorem wV {k:Nat} {F:Nat→Bool} (h:(!false&&fu false k F)=true):FuIs F k 1:=qu h
theorem Je {k:Nat} {F:Nat→Bool} (h:(true&&fu false k F)=true):FuIs F k 1:=qu h
theorem fu_t {k:Nat} {F:Nat→Bool} (h:fu true k F=true):FuIs F k 2:=by
 induction k using Nat.casesAuxOn with
 | zero=>exact dM h
 | succ k =>
  induction k using Nat.casesAuxOn with
  | zero=>exact dM h
  | succ k=>exact ⟨k,rfl,h⟩
theorem PT.val (h:PE G se) (hk:∀ {T e k},ok se true T e k=true→∃ j,k=j+1∧ok se false T e j=true) (hT:∀ {r sc ρ L e},stepT G r sc ρ (dE se L e)=(r.E sc ρ (dE se L e)).bind boolOf):PT G se:=by
 intro k T e kn ρ Q ho X w
 obtain ⟨j,rfl,hj⟩:=hk ho
 obtain ⟨d,hd,w⟩:=h hj X w
 show GT (stepT G (cP G j) T.sc ρ (dE se T.L e)) Q
 rw [hT,hd]
 exact ⟨d,w,fun b q=>by subst q; rfl⟩
theorem lz {k:Nat} {F:Nat→Bool} (h:fu true k F=true):∃ j,k=j+1∧fu false j F=true:=by
 obtain ⟨j,rfl,h⟩:=fu_t h
 exact ⟨j+1,rfl,h⟩
theorem GT.of {o:Option Bool} {Q:D→Prop} (h:∃ b,o=some b∧Q (.bool b)):GT o Q:=by obtain ⟨b,h,w⟩:=h; exact ⟨_,w,fun c q=>by cases q; exact h⟩
theorem e_lit {d:D}:PE G (.lit d):=fun k T e kn ρ Q ho X w=>by
 obtain ⟨j,rfl,hj⟩:=wV ho
 refine ⟨d,?_,w⟩
 show HH (constOf d)=some d
 induction d using D.casesOn with
 | none | bool | int | float | str=>rfl
 | _=>exact dM hj
theorem e_mil:PE G .mil:=fun k T e kn ρ Q ho X w=>by
 obtain ⟨j,rfl,hj⟩:=wV ho
 obtain ⟨j,rfl,hj⟩:=qu ho
 exact ⟨_,rfl,w⟩
theorem e_var {i:Nat}:PE G (.var i):=fun k T e kn ρ Q ho X w=>by
 obtain ⟨j,rfl,hj⟩:=qu ho
 obtain ⟨ho,h4⟩:=aK hj
 obtain ⟨ho,h3⟩:=aK ho
 obtain ⟨h1,h2⟩:=aK ho
 obtain ⟨d,hd,q⟩:=QH w
 refine ⟨d,?_,q⟩
 show oR G T.sc ρ (di T.L i)=some d
 unfold oR
 rw [h1,X.v _ i d h3 (eq_of_beq h4) hd]; rfl
theorem e_glob {x:Str}:PE G (.glob x):=fun k T e kn ρ Q ho X w=>by
 obtain ⟨j,rfl,hj⟩:=qu ho
 obtain ⟨h1,h2⟩:=aK hj
 obtain ⟨d,hd,q⟩:=w
 refine ⟨d,?_,q⟩
 show oR G T.sc ρ x=some d
 unfold oR
 rw [h1,X.g x (eq_of_beq h2),eq_of_beq h2]; exact hd
theorem e_bin {op:Operator} (A:PE G a) (B:PE G b):PE G (.bin op a b):=fun k T e kn ρ Q ho X w=>by
 obtain ⟨j,rfl,hj⟩:=wV ho
 obtain ⟨h1,h2⟩:=aK hj
 obtain ⟨d,hd,w⟩:=A h1 X w
 obtain ⟨c,hc,w⟩:=B h2 X w
 show GE (((cP G j).E _ _ (dE a T.L (kid e 0))).bind fun a=>((cP G j).E _ _ (dE b T.L (kid e 1))).bind fun b=>bin op a b) Q
 rw [hd,hc]; exact WM w
theorem Xh {op:CmpOp} (A:PE G a) (B:PE G b) {T:TP} {e:Expr} {kn:Kn} {ρ:aJ} {Q:D→Prop} {j:Nat} (ho:(!behindInMarks op (dE b T.L (kid e 1))&&ok a false T (kid e 0) j&&ok b false T (kid e 1) j)=true) (X:Kns T ρ kn) (w:wX G (.cmp op a b) kn Q) :
  ∃ u,Ei (cP G j) T.sc ρ (dE a T.L (kid e 0)) op (dE b T.L (kid e 1))=some u∧Q (.bool u):=by
 obtain ⟨ho,h3⟩:=aK ho
 obtain ⟨h1,h2⟩:=aK ho
 obtain ⟨d,hd,w⟩:=A h2 X w
 obtain ⟨c,hc,w⟩:=B h3 X w
 obtain ⟨u,hu,w⟩:=CN w
 refine ⟨u,?_,w⟩
 unfold Ei
 rw [h1,hd,hc]; exact hu
theorem e_cmp {op:CmpOp} (A:PE G a) (B:PE G b):PE G (.cmp op a b):=fun k T e kn ρ Q ho X w=>by
 obtain ⟨j,rfl,hj⟩:=qu ho
 obtain ⟨u,hu,w⟩:=Xh A B hj X w
 exact ⟨_,congrArg (·.map D.bool) hu,w⟩
theorem t_cmp {op:CmpOp} (A:PE G a) (B:PE G b):PT G (.cmp op a b):=fun k T e kn ρ Q ho X w=>by
 obtain ⟨j,rfl,hj⟩:=qu ho
 exact .of (Xh A B hj X w)
theorem Z4 {o1 o2:CmpOp} (A:PE G a) (B:PE G b) (C:PE G c):PT G (.cmp2 o1 o2 a b c):=fun k T e kn ρ Q ho X w=>by
 obtain ⟨j,rfl,hj⟩:=Je ho
 obtain ⟨ho,h4⟩:=aK hj
 obtain ⟨ho,h3⟩:=aK ho
 obtain ⟨h1,h2⟩:=aK ho
 obtain ⟨d,hd,w⟩:=A h2 X w
 obtain ⟨x,hx,w⟩:=B h3 X w
 obtain ⟨u,hu,w⟩:=CN w
 show GT (FW (cP G j) T.sc ρ (dE a T.L (kid e 0)) o1 o2 (dE b T.L (kid e 1)) (dE c T.L (kid e 2))) Q
 unfold FW
 rw [h1,hd,hx,Jt,Option.bind_some,Option.bind_some,Option.bind_some,hu,Option.bind_some]
 induction u using Bool.casesOn with
 | false=>exact .of ⟨false,rfl,w⟩
 | true =>
  obtain ⟨i,hi,w⟩:=C h4 X w
  obtain ⟨v,hv,w⟩:=CN w
  rw [if_pos rfl,hi]
  exact .of ⟨v,hv,w⟩
theorem t_not (A:PT G a):PT G (.not a):=fun k T e kn ρ Q ho X w=>by
 obtain ⟨j,rfl,hj⟩:=Je ho
 obtain ⟨d,w,hd⟩:=A hj X w
 induction d using D.casesOn with
 | bool u=>exact .of ⟨!u,by show ((cP G j).T T.sc ρ (dE a T.L (kid e 0))).map (!·)=_; rw [hd u rfl]; rfl,w⟩
 | _=>exact w.elim
theorem t_and (A:PA G l):PT G (.band l):=fun k T e kn ρ Q ho X w=>by
 obtain ⟨j,rfl,hj⟩:=Je ho
 obtain ⟨u,hu,_,w⟩:=A hj X w
 exact .of ⟨u,hu,w⟩
theorem t_or (A:PO G l):PT G (.bor l):=fun k T e kn ρ Q ho X w=>by
 obtain ⟨j,rfl,hj⟩:=Je ho
 exact .of (A hj X w)
theorem XQ {cd:List D→D} (A:PL G l) {T:TP} {g:List Expr} {kn:Kn} {ρ:aJ} {Q:D→Prop} {j:Nat} (ho:(Nat.ble (HJ l) 1000&&Dn l false T g j)=true) (X:Kns T ρ kn) (w:wL G l kn fun ds=>Q (cd ds)) :
  GE ((evs (cP G j) T.sc ρ (dL l T.L g)).bind fun ds=>au (decide (ds.length≤sizeLine)) (cd ds)) Q:=by
 obtain ⟨h1,h2⟩:=aK ho
 obtain ⟨ds,hd,hn,w⟩:=A h2 X w
 rw [hd]
 exact ⟨_,bu (decide_eq_true (hn▸aF (dw h1) (by decide))),w⟩
theorem YF (A:PL G l):PE G (.list l):=fun k T e kn ρ Q ho X w=>by
 obtain ⟨j,rfl,hj⟩:=wV ho
 exact XQ (cd := .list) A hj X w
theorem e_tup (A:PL G l):PE G (.tup l):=fun k T e kn ρ Q ho X w=>by
 obtain ⟨j,rfl,hj⟩:=wV ho
 exact XQ (cd := .tup) A hj X w
theorem Oa {r:R} {sc:Sc} {ρ:aJ} {v e:Expr} {L:List Str}:QJ r sc ρ v (dE a L e)=(r.E sc ρ v).bind fun d=>(r.E sc ρ (dE a L e)).bind fun i=>jW d i:=by cases a <;> rfl
theorem e_sub (A:PE G a) (B:PE G b):PE G (.sub a b):=fun k T e kn ρ Q ho X w=>by
 obtain ⟨j,rfl,hj⟩:=qu ho
 obtain ⟨h1,h2⟩:=aK hj
 obtain ⟨d,hd,w⟩:=A h1 X w
 obtain ⟨c,hc,w⟩:=B h2 X w
 show GE (QJ (cP G j) T.sc ρ (dE a T.L (kid e 0)) (dE b T.L (kid e 1))) Q
 rw [Oa,hd,hc]; exact .of w
theorem e_slt (A:PE G a) (B:PE G b):PE G (.slt a b):=fun k T e kn ρ Q ho X w=>by
 obtain ⟨j,rfl,hj⟩:=qu ho
 obtain ⟨h1,h2⟩:=aK hj
 obtain ⟨d,hd,w⟩:=A h1 X w
 obtain ⟨c,hc,w⟩:=B h2 X w
 obtain ⟨i,rfl,w⟩:=uy w
 show GE (((cP G j).E T.sc ρ (dE a T.L (kid e 0))).bind fun d=>(some none).bind fun l=>(((cP G j).E T.sc ρ (dE b T.L (kid (kid e 1) 1))).bind fun d=>(Gr d).map some).bind fun u=>mK d l u) Q
 rw [hd,hc]; exact .of w
theorem e_slf (A:PE G a) (B:PE G b):PE G (.slf a b):=fun k T e kn ρ Q ho X w=>by
 obtain ⟨j,rfl,hj⟩:=qu ho
 obtain ⟨h1,h2⟩:=aK hj
 obtain ⟨d,hd,w⟩:=A h1 X w
 obtain ⟨c,hc,w⟩:=B h2 X w
 obtain ⟨i,rfl,w⟩:=uy w
 show GE (((cP G j).E T.sc ρ (dE a T.L (kid e 0))).bind fun d=>(((cP G j).E T.sc ρ (dE b T.L (kid (kid e 1) 0))).bind fun d=>(Gr d).map some).bind fun l=>(some none).bind fun u=>mK d l u) Q
 rw [hd,hc]; exact .of w
theorem e_attr {x:Atr} (A:PE G a):PE G (.attr a x):=fun k T e kn ρ Q ho X w=>by
 obtain ⟨j,rfl,hj⟩:=qu ho
 obtain ⟨h1,h2⟩:=aK hj
 obtain ⟨d,hd,w⟩:=A h2 X w
 show GE ((au (plainBase (dE a T.L (kid e 0))) ()).bind fun _=>((cP G j).E T.sc ρ (dE a T.L (kid e 0))).bind fun d=>Br d (atName x)) Q
 rw [h1,hd]; exact R7 w
theorem Ju {T:TP} {f:Str} (h:glb T f=true) (ds:List D):iH G T.sc f ds=match G.fns.lookup f with | some F=>F ds | none=>(IV f).bind fun b=>dK b ds:=by unfold iH; rw [show (bW f&&T.sc.lookup f==some .globalImplicit)=true from h]; rfl
theorem e_call {f:Str} (A:PL G l):PE G (.call f l):=fun k T e kn ρ Q ho X w=>by
 obtain ⟨j,rfl,hj⟩:=qu ho
 obtain ⟨h1,h2⟩:=aK hj
 obtain ⟨ds,hd,_,w⟩:=A h2 X w
 obtain ⟨d,h,w⟩:=w
 obtain ⟨F,hF,h⟩:=aa h
 show GE ((evs (cP G j) T.sc ρ (dL l T.L (kids e))).bind fun ds=>iH G T.sc f ds) Q
 rw [hd,Option.bind_some,Ju h1,hF]
 exact ⟨d,h,w⟩
theorem Tn:∀ b:Bn,IV b.name=some b:=by intro b; cases b <;> decide +kernel
theorem WY (hG:∀ b:Bn,G.fns.lookup b.name=none) {f:Bn} (A:PL G l):PE G (.bcall f l):=fun k T e kn ρ Q ho X w=>by
 obtain ⟨j,rfl,hj⟩:=qu ho
 obtain ⟨h1,h2⟩:=aK hj
 obtain ⟨ds,hd,_,w⟩:=A h2 X w
 show GE ((evs (cP G j) T.sc ρ (dL l T.L (kids e))).bind fun ds=>iH G T.sc f.name ds) Q
 rw [hd,Option.bind_some,Ju h1,hG,Tn]
 exact Z2 w
theorem Q4:∀ {l:SL} {L:List Str} {g:List Expr},(dL l L g).length=HJ l
 | .nil,_,_=>rfl
 | .cons _ r,_,_=>congrArg (·+1) (Q4 (l:=r))
theorem Yp {m:Str} (A:PE G a) (B:PL G l):PE G (.meth a m l):=fun k T e kn ρ Q ho X w=>by
 obtain ⟨j,rfl,hj⟩:=qu ho
 obtain ⟨ho,h5⟩:=aK hj
 obtain ⟨ho,h4⟩:=aK ho
 obtain ⟨ho,h3⟩:=aK ho
 obtain ⟨d,hd,w⟩:=A h4 X w
 obtain ⟨ds,hds,_,w⟩:=B h5 X w
 show GE ((au (plainBase (dE a T.L (kid (kid e 0) 0))&&(kid e 0).pos.endLine==e.pos.line&&decide ((dL l T.L (kids e)).length < 29)) ()).bind fun _=>((cP G j).E T.sc ρ (dE a T.L (kid (kid e 0) 0))).bind fun d=>(evs (cP G j) T.sc ρ (dL l T.L (kids e))).bind fun ds=>vL G m d ds) Q
 rw [ho,Q4,decide_eq_true (Nat.lt_succ_of_le (dw h3)),hd,hds]; exact .of w
theorem e_slc (A:PE G a) (B:PE G b) (C:PE G c):PE G (.slc a b c):=fun k T e kn ρ Q ho X w=>by
 obtain ⟨j,rfl,hj⟩:=qu ho
 obtain ⟨ho,h3⟩:=aK hj
 obtain ⟨h1,h2⟩:=aK ho
 obtain ⟨d,hd,w⟩:=A h1 X w
 obtain ⟨x,hx,w⟩:=B h2 X w
 obtain ⟨i,rfl,w⟩:=uy w
 obtain ⟨y,hy,w⟩:=C h3 X w
 obtain ⟨u,rfl,w⟩:=uy w
 show GE (((cP G j).E T.sc ρ (dE a T.L (kid e 0))).bind fun d=>(((cP G j).E T.sc ρ (dE b T.L (kid (kid e 1) 0))).bind fun d=>(Gr d).map some).bind fun l=>(((cP G j).E T.sc ρ (dE c T.L (kid (kid e 1) 1))).bind fun d=>(Gr d).map some).bind fun u=>mK d l u) Q
 rw [hd,hx,hy]; exact .of w
theorem Az {k:Nat} {T:TP} {x:Str} {g:Expr} {gs:List Expr} {kn:Kn} {ρ:aJ} (A:PE G a) (C:PA G l) (X:Kns T ρ kn) (hx:T.sc.lookup x≠some .globalImplicit) (h1:Dn l true (Lh T x) gs k=true) (h2:ok a false (Lh T x) g k=true) :
  ∀ {items:List D} {P:List D→Prop},nJ (fun d Q=>wX G a (some d :: kn) Q) (fun d Q=>wA G l (some d :: kn) fun b=>Q (.bool b)) items P →
   ∃ ys,bk (cP G k) T.sc ρ x (dE a (x :: T.L) g) (dL l (x :: T.L) gs) items=some ys∧P ys
 | [],P,w=>⟨[],rfl,w⟩
 | d :: ds,P,w=>by
  have X1:=X.add (d:=d) hx
  obtain ⟨c,_,hcs,w⟩:=C h1 X1 w
  have hcs:yX (cP G k) T.sc ((x,d) :: ρ) (dL l (x :: T.L) gs)=some c:=hcs
  unfold bk
  rw [hcs,Option.bind_some]
  induction c using Bool.casesOn with
  | true =>
   obtain ⟨y,hy,w⟩:=A h2 X1 w
   have hy:(cP G k).E T.sc ((x,d) :: ρ) (dE a (x :: T.L) g)=some y:=hy
   obtain ⟨ys,hys,w⟩:=Az A C X hx h1 h2 w
   exact ⟨y :: ys,by rw [if_pos rfl,hy,Option.bind_some,hys]; rfl,w⟩
  | false =>
   obtain ⟨ys,hys,w⟩:=Az A C X hx h1 h2 w
   exact ⟨ys,by rw [if_neg (by decide)]; exact hys,w⟩
theorem XX {k:Nat} {T:TP} {e:Expr} {kn:Kn} {ρ:aJ} {P:List D→Prop} (B:PE G b) (X:Kns T ρ kn) (h:ok b false T e k=true) (w:wX G b kn fun d=>lC d fun items=>items.length≤16000000∧P items):∃ items,srcOf (cP G k) T.sc ρ (dE b T.L e)=some items∧P items:=by
 obtain ⟨d,hd,w⟩:=B h X w
 obtain ⟨items,hi,hz,w⟩:=uQ w
 refine ⟨items,?_,w⟩
 unfold srcOf
 rw [hd,Option.bind_some,hi,Option.bind_some,bu (decide_eq_true (aF hz (by decide)))]
theorem e_comp (C:PA G l) (A:PE G a) (B:PE G b):PE G (.comp l a b):=fun k T e kn ρ Q ho X w=>by
 obtain ⟨j,rfl,hj⟩:=wV ho
 obtain ⟨ho,h4⟩:=aK hj
 obtain ⟨ho,h3⟩:=aK ho
 obtain ⟨h1,h2⟩:=aK ho
 obtain ⟨items,hi,w⟩:=XX B X h2 w
 obtain ⟨ys,hys,w⟩:=Az A C (X.free (c7 e)) (vD h1 aH) h3 h4 w
 show GE (if (0:Int)=0 then (au (mR (c7 e) T.sc [nameE (kid e 2)]) ()).bind fun _=>(srcOf (cP G j) T.sc ρ (dE b T.L (kid e 1))).bind fun items =>
  (bk (cP G j) (gR (c7 e).names T.sc) (dj (c7 e) ρ) (nameE (kid e 2)) (dE a (nameE (kid e 2) :: T.L) (kid e 0)) (dL l (nameE (kid e 2) :: T.L) (kids e)) items).map .list else none) Q
 have hys:bk (cP G j) (gR (c7 e).names T.sc) (dj (c7 e) ρ) (nameE (kid e 2)) (dE a (nameE (kid e 2) :: T.L) (kid e 0)) (dL l (nameE (kid e 2) :: T.L) (kids e)) items=some ys:=hys
 rw [if_pos rfl,h1,Jt,Option.bind_some,hi,Option.bind_some,hys]
 exact ⟨_,rfl,w⟩
theorem QB {f:D→Option (List D)} {F:D→(List D→Prop)→Prop} (h:∀ (d:D) (P:List D→Prop),F d P→∃ ys,f d=some ys∧P ys):∀ {items:List D} {P:List D→Prop},Js F items P→∃ ys,dO f items=some ys∧P ys
 | [],P,w=>⟨[],rfl,w⟩
 | d :: ds,P,w=>by
  obtain ⟨x,hx,w⟩:=h d _ w
  obtain ⟨y,hy,w⟩:=QB h w
  exact ⟨x++y,by unfold dO; rw [hx,Option.bind_some,hy]; rfl,w⟩
theorem W0 (C:PA G l) (A:PE G a) (B:PE G b) (D2:PE G c):PE G (.comp2 l a b c):=fun k T e kn ρ Q ho X w=>by
 obtain ⟨j,rfl,hj⟩:=wV ho
 obtain ⟨ho,h6⟩:=aK hj
 obtain ⟨ho,h5⟩:=aK ho
 obtain ⟨ho,h4⟩:=aK ho
 obtain ⟨ho,h3⟩:=aK ho
 obtain ⟨h1,h2⟩:=aK ho
 obtain ⟨items,hi,w⟩:=XX B X h3 w
 have n1:=vD h2 (x:=nameE (kid e 2)) aH
 have n2:=vD h2 (x:=nameE (kid e 4)) (cJ _ aH)
 obtain ⟨ys,hys,hz,w⟩:=QB (f:=lY (cP G j) (gR (c7 e).names T.sc) (dj (c7 e) ρ) (nameE (kid e 2)) (nameE (kid e 4)) (dE c (nameE (kid e 2) :: T.L) (kid e 3)) (dE a (nameE (kid e 4) :: nameE (kid e 2) :: T.L) (kid e 0)) (dL l (nameE (kid e 4) :: nameE (kid e 2) :: T.L) (kids e))) (fun d P w=>by
  have X1:=(X.free (c7 e)).add (d:=d) n1
  obtain ⟨d2,hd,w⟩:=D2 h4 X1 w
  obtain ⟨items2,hi2,w⟩:=uQ w
  obtain ⟨ys,hys,w⟩:=Az A C X1 n2 h5 h6 w
  have hd:(cP G j).E (gR (c7 e).names T.sc) ((nameE (kid e 2),d) :: dj (c7 e) ρ) (dE c (nameE (kid e 2) :: T.L) (kid e 3))=some d2:=hd
  have hys:bk (cP G j) (gR (c7 e).names T.sc) ((nameE (kid e 2),d) :: dj (c7 e) ρ) (nameE (kid e 4)) (dE a (nameE (kid e 4) :: nameE (kid e 2) :: T.L) (kid e 0)) (dL l (nameE (kid e 4) :: nameE (kid e 2) :: T.L) (kids e)) items2=some ys:=hys
  refine ⟨ys,?_,w⟩
  unfold lY
  rw [hd,Option.bind_some,hi2,Option.bind_some,hys]) w
 show GE ((au ((0:Int)==0&&(0:Int)==0&&true&&nameE (kid e 2) != nameE (kid e 4)&&mR (c7 e) T.sc [nameE (kid e 2),nameE (kid e 4)]) ()).bind fun _=>(srcOf (cP G j) T.sc ρ (dE b T.L (kid e 1))).bind fun items =>
  (dO (lY (cP G j) (gR (c7 e).names T.sc) (dj (c7 e) ρ) (nameE (kid e 2)) (nameE (kid e 4)) (dE c (nameE (kid e 2) :: T.L) (kid e 3)) (dE a (nameE (kid e 4) :: nameE (kid e 2) :: T.L) (kid e 0)) (dL l (nameE (kid e 4) :: nameE (kid e 2) :: T.L) (kids e))) items).bind fun ds=>au (decide (ds.length≤sizeLine)) (.list ds)) Q
 rw [h1,h2,hi,Option.bind_some,hys,Option.bind_some,bu (decide_eq_true (aF hz (by decide)))]
 exact ⟨_,rfl,w⟩
theorem l_cons (A:PE G a) (B:PL G l):PL G (.cons a l):=fun k T g kn ρ Q ho X w=>by
 obtain ⟨h1,h2⟩:=aK ho
 obtain ⟨d,hd,w⟩:=A h1 X w
 obtain ⟨ds,hds,hn,w⟩:=B h2 X w
 refine ⟨d :: ds,?_,congrArg (·+1) hn,w⟩
 show ((cP G k).E T.sc ρ (dE a T.L (g.headD default))).bind _=_
 rw [hd,Option.bind_some,hds]; rfl
theorem a_cons (A:PT G a) (B:PA G l):PA G (.cons a l):=fun k T g kn ρ Q ho X w=>by
 obtain ⟨h1,h2⟩:=aK ho
 obtain ⟨d,w,hd⟩:=A h1 X w
 obtain ⟨c,rfl,w⟩:=ye w
 have e2:yX (cP G k) T.sc ρ (dL (.cons a l) T.L g)=((cP G k).T T.sc ρ (dE a T.L (g.headD default))).bind fun b=>if b=true then yX (cP G k) T.sc ρ (dL l T.L g.tail) else some false:=rfl
 have e1:Sw (cP G k) T.sc ρ .And (dL (.cons a l) T.L g)=_:=UL
 rw [e1,e2,hd c rfl,Option.bind_some,Option.bind_some]
 induction c using Bool.casesOn with
 | true=>exact B h2 X w
 | false=>exact ⟨false,rfl,rfl,w⟩
theorem o_cons (A:PT G a) (B:PO G l):PO G (.cons a l):=fun k T g kn ρ Q ho X w=>by
 obtain ⟨h1,h2⟩:=aK ho
 obtain ⟨d,w,hd⟩:=A h1 X w
 obtain ⟨c,rfl,w⟩:=ye w
 have e1:Sw (cP G k) T.sc ρ .Or (dL (.cons a l) T.L g)=_:=Z8
 rw [e1,hd c rfl,Option.bind_some]
 induction c using Bool.casesOn with
 | true=>exact ⟨true,rfl,w⟩
 | false=>exact B h2 X w
theorem PT.no (h:∀ {T e k},ok se true T e k=false):PT G se:=fun _ _ _ _ _ _ ho _ _=>dM (h.symm.trans ho)
theorem PE.no (h:∀ {T e k},ok se false T e k=false):PE G se:=fun _ _ _ _ _ _ ho _ _=>dM (h.symm.trans ho)
theorem both (h:PE G se) (hk:∀ {T e k},ok se true T e k=true→∃ j,k=j+1∧ok se false T e j=true) (hT:∀ {r sc ρ L e},stepT G r sc ρ (dE se L e)=(r.E sc ρ (dE se L e)).bind boolOf):PE G se∧PT G se:=⟨h,.val h hk hT⟩
mutual
theorem SE.right (hG:∀ b:Bn,G.fns.lookup b.name=none):∀ se:SE,PE G se∧PT G se
 | .lit _=>⟨e_lit,.no rfl⟩
 | .mil=>⟨e_mil,.no rfl⟩
 | .var _=>both e_var lz rfl
 | .glob _=>both e_glob lz rfl
 | .bin _ a b=>⟨e_bin (SE.right hG a).1 (SE.right hG b).1,.no rfl⟩
 | .cmp _ a b=>⟨e_cmp (SE.right hG a).1 (SE.right hG b).1,t_cmp (SE.right hG a).1 (SE.right hG b).1⟩
 | .cmp2 _ _ a b c=>⟨.no rfl,Z4 (SE.right hG a).1 (SE.right hG b).1 (SE.right hG c).1⟩
 | .not a=>⟨.no rfl,t_not (SE.right hG a).2⟩
 | .band l=>⟨.no rfl,t_and (SL.right hG l).2.1⟩
 | .bor l=>⟨.no rfl,t_or (SL.right hG l).2.2⟩
 | .list l=>⟨YF (SL.right hG l).1,.no rfl⟩
 | .tup l=>⟨e_tup (SL.right hG l).1,.no rfl⟩
 | .sub a b=>both (e_sub (SE.right hG a).1 (SE.right hG b).1) lz rfl
 | .slt a b=>both (e_slt (SE.right hG a).1 (SE.right hG b).1) lz rfl
 | .slf a b=>both (e_slf (SE.right hG a).1 (SE.right hG b).1) lz rfl
 | .slc a b c=>both (e_slc (SE.right hG a).1 (SE.right hG b).1 (SE.right hG c).1) lz rfl
 | .attr a _=>both (e_attr (SE.right hG a).1) lz rfl
 | .call _ l=>both (e_call (SL.right hG l).1) lz rfl
 | .bcall _ l=>both (WY hG (SL.right hG l).1) lz rfl
 | .meth a _ l=>both (Yp (SE.right hG a).1 (SL.right hG l).1) lz rfl
 | .comp l a b=>⟨e_comp (SL.right hG l).2.1 (SE.right hG a).1 (SE.right hG b).1,.no rfl⟩
 | .comp2 l a b c=>⟨W0 (SL.right hG l).2.1 (SE.right hG a).1 (SE.right hG b).1 (SE.right hG c).1,.no rfl⟩
theorem SL.right (hG:∀ b:Bn,G.fns.lookup b.name=none):∀ l:SL,PL G l∧PA G l∧PO G l
 | .nil=>⟨fun _ _ _ _ _ _ _ _ w=>⟨[],rfl,rfl,w⟩,fun _ _ _ _ _ _ _ _ w=>⟨true,rfl,rfl,w⟩,fun _ _ _ _ _ _ _ _ w=>⟨false,rfl,w⟩⟩
 | .cons a r=>⟨l_cons (SE.right hG a).1 (SL.right hG r).1,a_cons (SE.right hG a).2 (SL.right hG r).2.1,o_cons (SE.right hG a).2 (SL.right hG r).2.2⟩
end
end
set_option genCtorIdx true
noncomputable def JF (d:D) (P:D→Prop):Prop:=∃ e,scalar d=some e∧P e
noncomputable def aM:List Nat→List D→Kn→(Kn→Prop)→Prop
 | [],[],kn,Q=>Q kn
 | i :: is,d :: ds,kn,Q=>aM is ds (bC kn i d) Q
 | _,_,_,_=>False
noncomputable def bh (is:List Nat) (d:D) (kn:Kn) (Q:Kn→Prop):Prop:=R3 d fun ds=>aM is ds kn Q
noncomputable def xq (bnd:D→Kn→(Kn→Prop)→Prop) (body:Kn→(Kn→Prop)→(Kn→Prop)→(D→Prop)→Prop):List D→Kn→(Kn→Prop)→(D→Prop)→Prop
 | [],kn,N,_=>N kn
 | d :: ds,kn,N,R=>bnd d kn fun kn1=>body kn1 (fun kn2=>xq bnd body ds kn2 N R) N R
noncomputable def extW (ds:List D) (x:D) (Q:List D→Prop):Prop:=∃ l,Tq ds x=some l∧Q l
noncomputable def putW (ds:List D) (d j:D) (Q:List D→Prop):Prop:=match j with | .int k=>(0≤k∧k < 2 ^ 62∧k.toNat < ds.length)∧Q (ds.set k.toNat d) | _=>False
noncomputable def wS (G:Ctx):SS→Kn→(Kn→Prop)→(Kn→Prop)→(D→Prop)→Prop
 | .nil,kn,N,_,_=>N kn
 | .asg i e r,kn,N,B,R=>wX G e kn fun d=>wS G r (bC kn i d) N B R
 | .scal i e r,kn,N,B,R=>wX G e kn fun d=>JF d fun d=>wS G r (bC kn i d) N B R
 | .own i r,kn,N,B,R=>wS G r (bC kn i (.list [])) N B R
 | .ext i e r,kn,N,B,R=>XK (bF kn i) fun l=>Gb l fun ds=>wX G e kn fun x=>extW ds x fun l=>wS G r (bC kn i (.list l)) N B R
 | .tupl is e r,kn,N,B,R=>wX G e kn fun d=>bh is d kn fun kn=>wS G r kn N B R
 | .put i j op n b r,kn,N,B,R=>XK (bF kn i) fun l=>Gb l fun ds=>wX G (.bin op (.sub (.var i) n) b) kn fun d=>JF d fun d=>wX G j kn fun j=>putW ds d j fun l=>wS G r (bC kn i (.list l)) N B R
 | .ins i a b r,kn,N,B,R=>XK (bF kn i) fun l=>Gb l fun ds=>wX G a kn fun c=>H7 c fun k=>wX G b kn fun d=>(0≤k∧k.toNat≤ds.length∧ds.length≤1000)∧wS G r (bC kn i (.list (ds.take k.toNat++d :: ds.drop k.toNat))) N B R
 | .ite c a b r,kn,N,B,R=>wX G c kn fun d=>pG d (wS G a kn (fun kn=>wS G r kn N B R) B R) (wS G b kn (fun kn=>wS G r kn N B R) B R)
 | .for_ i it b r,kn,N,B,R=>wX G it kn fun d=>lC d fun items=>xq (fun d kn Q=>Q (bC kn i d)) (fun kn N B R=>wS G b kn N B R) items kn (fun kn=>wS G r kn N B R) R
 | .ret e _,kn,_,_,R=>wX G e kn R
 | .brk _,kn,_,B,_=>B kn
structure SV where
 t:Expr
 v:Expr
 a:List Stmt
 b:List Stmt
noncomputable def dummy:Expr := .List [] default
noncomputable def yL (st:Stmt):SV:=match st with
 | .Assign ts v _=>⟨ts.headD dummy,v,[],[]⟩
 | .AugAssign t _ v _=>⟨t,v,[],[]⟩
 | .If c a b _=>⟨c,c,a,b⟩
 | .For t it a b _=>⟨t,it,a,b⟩
 | .Return e _=>⟨e.getD dummy,e.getD dummy,[],[]⟩
 | .Expr e _=>⟨e,e,[],[]⟩
 | .FunctionDef _ _ _ _ _ _ _ _ _ _ | .AsyncFunctionDef _ _ _ _ _ _ _ _ _ _ | .ClassDef _ _ _ _ _ _ _ _ _ _ _ | .Delete _ _ | .TypeAlias _ _ _ _ _ _ _ | .AnnAssign _ _ _ _ _ | .AsyncFor _ _ _ _ _ | .While _ _ _ _ | .With _ _ _ | .AsyncWith _ _ _ | .Match _ _ _ | .Raise _ _ _ | .Try _ _ _ _ _ | .TryStar _ _ _ _ _ | .Assert _ _ _ | .Import _ _ | .ImportFrom _ _ _ _ | .Global _ _ | .Nonlocal _ _ | .Pass _ | .Break _ | .Continue _=>⟨dummy,dummy,[],[]⟩
noncomputable def hdS (g:List Stmt):Stmt:=g.headD (.Pass default)
noncomputable def Hw (g:List Stmt):Expr:=(yL (hdS g)).t
noncomputable def vV (g:List Stmt):Expr:=(yL (hdS g)).v
noncomputable def vA (g:List Stmt):List Stmt:=(yL (hdS g)).a
noncomputable def vB (g:List Stmt):List Stmt:=(yL (hdS g)).b
noncomputable def pS (g:List Stmt):Pos:=(hdS g).pos
noncomputable def dN (L:List Str):List Nat→List Expr→List Expr
 | [],_=>[]
 | i :: is,g => .Name (di L i) (g.headD dummy).pos :: dN L is g.tail
noncomputable def tgt (L:List Str) (i:Nat) (g:List Stmt):Expr := .Name (di L i) (Hw g).pos
noncomputable def dS:SS→List Str→List Stmt→List Stmt
 | .nil,_,_=>[]
 | .asg i e r,L,g => .Assign [tgt L i g] (dE e L (vV g)) (pS g) :: dS r L g.tail
 | .scal i e r,L,g => .Assign [tgt L i g] (dE e L (vV g)) (pS g) :: dS r L g.tail
 | .own i r,L,g => .Assign [tgt L i g] (.List [] (vV g).pos) (pS g) :: dS r L g.tail
 | .ext i e r,L,g => .Assign [tgt L i g] (.BinOp (.Name (di L i) (kid (vV g) 0).pos) .Add (dE e L (kid (vV g) 1)) (vV g).pos) (pS g) :: dS r L g.tail
 | .tupl is e r,L,g => .Assign [.Tuple (dN L is (kids (Hw g))) (kE (Hw g)) (Hw g).pos] (dE e L (vV g)) (pS g) :: dS r L g.tail
 | .put i j op n b r,L,g => .Assign [.Subscript (.Name (di L i) (kid (Hw g) 0).pos) (dE j L (kid (Hw g) 1)) (Hw g).pos] (dE (.bin op (.sub (.var i) n) b) L (vV g)) (pS g) :: dS r L g.tail
 | .ins i a b r,L,g => .Expr (.Call (.Attribute (.Name (di L i) (kid (kid (vV g) 0) 0).pos) "insert" (kid (vV g) 0).pos) [dE a L ((kids (vV g)).headD dummy),dE b L ((kids (vV g)).tail.headD dummy)] [] (vV g).pos) (pS g) :: dS r L g.tail
 | .ite c a b r,L,g => .If (dE c L (vV g)) (dS a L (vA g)) (dS b L (vB g)) (pS g) :: dS r L g.tail
 | .for_ i it b r,L,g => .For (tgt L i g) (dE it L (vV g)) (dS b L (vA g)) [] (pS g) :: dS r L g.tail
 | .ret e r,L,g => .Return (some (dE e L (vV g))) (pS g) :: dS r L g.tail
 | .brk r,L,g => .Break (pS g) :: dS r L g.tail
structure TS where
 L:List Str
 W:List Str
 sc:Sc
noncomputable def TS.all (t:TS):TP:=⟨fun _=>true,t.L,t.sc⟩
noncomputable def TS.msk (t:TS):TP:=⟨fun x=>!t.W.contains x,t.L,t.sc⟩
noncomputable def Cz (t:TS) (i:Nat):Bool:=bD t.sc t.W (di t.L i)&&Gp t.L (di t.L i)==some i
noncomputable def Bs (t:TS) (i:Nat):Bool:=t.W.contains (di t.L i)&&bW (di t.L i)&&pK t.sc (di t.L i)&&Gp t.L (di t.L i)==some i
noncomputable def iC (t:TS):SE→Bool
 | .var i=>Bs t i
 | .bin _ a b=>iC t a||iC t b
 | .bcall _ l=>(match l with | .nil=>false | .cons a r=>(match r with | .nil=>iC t a | .cons _ _=>false))
 | .comp _ _ it=>iC t it
 | _=>false
noncomputable def okM (t:TS) (e:SE) (g:Expr) (k:Nat):Bool:=ok e false t.msk g k
noncomputable def fs (j:Nat) (F:Nat→Bool):Bool:=match j with | 0=>false | j+1=>F j
noncomputable def yW (k:Nat):SS→TS→List Stmt→Nat→Bool
 | .nil,_,_,_=>true
 | .asg i e r,t,g,j=>fs j (fun _=>Cz t i&&(dU (dE e t.L (vV g))||uf (dE e t.L (vV g)))&&okM t e (vV g) k)&&yW k r t g.tail j
 | .scal i e r,t,g,j=>fs j (fun _=>Cz t i&&dU (dE e t.L (vV g))&&iC t e&&ok e false t.all (vV g) k)&&yW k r t g.tail j
 | .own i r,t,g,j=>fs j (fun _=>Bs t i)&&yW k r t g.tail j
 | .ext i e r,t,g,j=>fs j (fun _=>Bs t i&&ok e false t.all (kid (vV g) 1) k)&&yW k r t g.tail j
 | .tupl is e r,t,g,j=>fs j (fun _=>is.all (Cz t)&&dU (dE e t.L (vV g))&&notTuple (dE e t.L (vV g))&&okM t e (vV g) k)&&yW k r t g.tail j
 | .put i x op n b r,t,g,j=>fs j (fun _=>Bs t i&&ok (.bin op (.sub (.var i) n) b) false t.all (vV g) k&&ok x false t.all (kid (Hw g) 1) k)&&yW k r t g.tail j
 | .ins i a b r,t,g,j=>fs j (fun _=>Bs t i&&(kid (vV g) 0).pos.endLine==(vV g).pos.line&&okM t a ((kids (vV g)).headD dummy) k&&okM t b ((kids (vV g)).tail.headD dummy) k)&&yW k r t g.tail j
 | .ite c a b r,t,g,j=>fs j (fun j=>ok c true t.all (vV g) k&&yW k a t (vA g) j&&yW k b t (vB g) j)&&yW k r t g.tail j
 | .for_ i it b r,t,g,j=>fs j (fun j=>Cz t i&&okM t it (vV g) k&&yW k b t (vA g) j)&&yW k r t g.tail j
 | .ret e r,t,g,j=>fs j (fun _=>ok e false t.all (vV g) k)
 | .brk r,t,g,j=>fs j (fun _=>true)
section
variable {t:TS} {ρ ρ1:aJ} {kn kn1:Kn} {G:Ctx} {k j:Nat} {Q:D→Prop} {e a b c:SE} {s z:SS} {r:R} {N B:Kn→Prop} {R:D→Prop} {x:Stmt→aJ→Option (Fl × aJ)} {i:Nat}
noncomputable def XOut (t:TS) (N B:Kn→Prop) (R:D→Prop) (p:Fl × aJ):Prop:=match p.1 with
 | .next=>∃ kn,Kns t.all p.2 kn∧N kn
 | .brk=>∃ kn,Kns t.all p.2 kn∧B kn
 | .ret d=>R d
inductive GX (t:TS) (N B:Kn→Prop) (R:D→Prop) (o:Option (Fl × aJ)):Prop where
 | mk (p:Fl × aJ) (e:o=some p) (q:XOut t N B R p):GX t N B R o
theorem GJ {L:List Str}:∀ {x:Str} {i:Nat},Gp L x=some i→L[i]? = some x:=by
 induction L with
 | nil=>intro _ _ h; exact aO h
 | cons a L ih =>
  intro x i h
  have h:(if a==x then some 0 else (Gp L x).map (·+1))=some i:=h
  by_cases hx:a=x
  ·rw [beq_iff_eq.mpr hx,if_pos rfl] at h
   obtain rfl:=aj h
   rw [hx]; rfl
  ·rw [beq_eq_false_iff_ne.mpr hx,if_neg (by decide)] at h
   obtain ⟨j,hj,rfl⟩:=bA h
   exact ih hj
theorem Wg {L:List Str} {x y:Str} {i:Nat} (h:Gp L x=some i) (g:Gp L y=some i):x=y:=aj ((GJ h).symm.trans (GJ g))
theorem IK {kn:Kn}:∀ {i j:Nat} {d:D},i≠j→bF (bC kn i d) j=bF kn j:=by
 induction kn with
 | nil=>intro _ _ _ _; rfl
 | cons a kn ih =>
  intro i j d h
  induction i using Nat.casesAuxOn with
  | zero =>
   induction j using Nat.casesAuxOn with
   | zero=>exact absurd rfl h
   | succ j=>rfl
  | succ i =>
   induction j using Nat.casesAuxOn with
   | zero=>rfl
   | succ j=>exact ih fun q=>h (congrArg (·+1) q)
theorem Ig {kn:Kn}:∀ {i:Nat} {d e:D},bF (bC kn i d) i=some e→d=e:=by
 induction kn with
 | nil=>intro _ _ _ h; exact aO h
 | cons a kn ih =>
  intro i d e h
  induction i using Nat.casesAuxOn with
  | zero=>exact aj h
  | succ i=>exact ih h
theorem Kns.set {y:Str} {i:Nat} {d:D} (X:Kns t.all ρ kn) (hi:Gp t.L y=some i) (hs:t.sc.lookup y≠some .globalImplicit):Kns t.all (dD ρ y d) (bC kn i d):=by
 refine ⟨fun z j e _ hj hg=>?_,fun z hz=>?_⟩
 ·rw [bM]
  cases hzy:z==y with
  | true =>
   rw [eq_of_beq hzy] at hj
   cases hi.symm.trans hj
   rw [if_pos rfl,Ig hg]
  | false =>
   rw [if_neg (by decide)]
   refine X.v z j e rfl hj ?_
   rw [← hg,IK]
   intro q
   subst q
   rw [Wg hj hi] at hzy
   simp at hzy
 ·rw [bM]
  cases hzy:z==y with
  | true=>rw [eq_of_beq hzy] at hz; exact absurd hz hs
  | false=>rw [if_neg (by decide)]; exact X.g z hz
theorem Kns.msk (X:Kns t.all ρ kn):Kns t.msk (inR t.W ρ) kn:=by
 refine ⟨fun z j e hv hj hg=>?_,fun z hz=>?_⟩
 ·have hv:(!t.W.contains z)=true:=hv
  rw [qW,if_neg (by simpa using hv)]
  exact X.v z j e rfl hj hg
 ·rw [qW]
  split
  ·rfl
  ·exact X.g z hz
theorem wy (h:Cz t i=true):bD t.sc t.W (di t.L i)=true∧t.W.contains (di t.L i)=false∧(∀ {ρ:aJ} {kn:Kn} {d:D},Kns t.all ρ kn→Kns t.all (dD ρ (di t.L i) d) (bC kn i d))∧Gp t.L (di t.L i)=some i:=by
 obtain ⟨h1,h2⟩:=aK h
 have h3:=aK h1
 refine ⟨h1,by simpa using h3.2,fun X=>X.set (eq_of_beq h2) fun q=>?_,eq_of_beq h2⟩
 have h4:=h3.1
 rw [q] at h4
 exact dM h4
theorem tC (h:Bs t i=true):(t.W.contains (di t.L i)=true∧bW (di t.L i)=true∧pK t.sc (di t.L i)=true)∧(∀ {ρ:aJ} {kn:Kn} {d:D},Kns t.all ρ kn→Kns t.all (dD ρ (di t.L i) d) (bC kn i d))∧Gp t.L (di t.L i)=some i:=by
 obtain ⟨h,h4⟩:=aK h
 obtain ⟨h,h3⟩:=aK h
 refine ⟨⟨(aK h).1,(aK h).2,h3⟩,fun X=>X.set (eq_of_beq h4) fun q=>?_,eq_of_beq h4⟩
 unfold pK at h3
 rw [q] at h3
 exact dM h3
theorem Aw {P:D→Prop} (X:Kns t.all ρ kn) (hi:Gp t.L (di t.L i)=some i) (w:XK (bF kn i) P):∃ d,ρ.lookup (di t.L i)=some d∧P d:=by
 obtain ⟨d,hd,w⟩:=QH w
 exact ⟨d,X.v _ i d rfl hi hd,w⟩
noncomputable def PX (G:Ctx):Prop:=∀ se:SE,PE G se∧PT G se
theorem yP (I:PX G) (X:Kns t.all ρ kn) {g:Expr} (h:ok e false t.all g k=true) (w:wX G e kn Q):GE ((cP G k).E t.sc ρ (dE e t.L g)) Q:=(I e).1 h X w
theorem Di (I:PX G) (X:Kns t.all ρ kn) {g:Expr} (h:okM t e g k=true) (w:wX G e kn Q):GE ((cP G k).E t.sc (inR t.W ρ) (dE e t.L g)) Q:=(I e).1 h X.msk w
theorem Jh (I:PX G) (X:Kns t.all ρ kn) {g:Expr} (h:okM t e g k=true) (w:wX G e kn Q):GE (lQ (cP G k) t.sc t.W ρ (dE e t.L g)) Q:=by
 obtain ⟨d,hd,w⟩:=Di I X h w
 exact ⟨d,Tw hd,w⟩
theorem DQ {g:Expr} (h:Bs t i=true):(cP G k).E t.sc (inR t.W ρ) (dE (.var i) t.L g)=none:=by
 obtain ⟨⟨h1,h0,h3⟩,_⟩:=tC h
 induction k using Nat.casesAuxOn with
 | zero=>rfl
 | succ k =>
  show oR G t.sc (inR t.W ρ) (di t.L i)=none
  unfold oR
  rw [qW,if_pos h1,h0]
  show (match t.sc.lookup (di t.L i) with | some .globalImplicit=>G.vals.lookup (di t.L i) | _=>none)=none
  split
  ·rename_i q; unfold pK at h3; rw [q] at h3; exact dM h3
  ·rfl
theorem Vx {op:Operator} {g:Expr} (h:Bs t i=true):(cP G k).E t.sc (inR t.W ρ) (dE (.bin op (.sub (.var i) a) b) t.L g)=none:=by
 induction k using Nat.casesAuxOn with
 | zero=>rfl
 | succ k =>
  show ((cP G k).E t.sc (inR t.W ρ) (dE (.sub (.var i) a) t.L (kid g 0))).bind _=none
  induction k using Nat.casesAuxOn with
  | zero=>rfl
  | succ k =>
   show (QJ (cP G k) t.sc (inR t.W ρ) (dE (.var i) t.L _) (dE a t.L _)).bind _=none
   rw [Oa,DQ h]; rfl
theorem Uo (I:PX G) (X:Kns t.all ρ kn) {op:Operator} {g:Expr} (hn:Bs t i=true) (h:ok (.bin op (.sub (.var i) a) b) false t.all g k=true) (w:wX G (.bin op (.sub (.var i) a) b) kn fun d=>JF d Q):GE (lQ (cP G k) t.sc t.W ρ (dE (.bin op (.sub (.var i) a) b) t.L g)) Q:=by
 obtain ⟨d,hd,d',hs,w⟩:=yP I X h w
 refine ⟨d',?_,w⟩
 unfold lQ
 rw [Vx hn,hd]; exact hs
theorem bind_none {α β:Type} {o:Option α} {f:α→Option β} (h:∀ a,f a=none):o.bind f=none:=by
 induction o using Option.casesOn with
 | none=>rfl
 | some a=>exact h a
noncomputable def PN (t:TS) (e:SE):Prop:=iC t e=true→∀ {G:Ctx} {ρ:aJ} {g:Expr} {k:Nat},(cP G k).E t.sc (inR t.W ρ) (dE e t.L g)=none
theorem Gv {G:Ctx} {sc:Sc} {ρ:aJ} {e:Expr} {k:Nat} (h:∀ k,Rd G (cP G k) sc ρ e=none):(cP G k).E sc ρ e=none:=by
 induction k using Nat.casesAuxOn with
 | zero=>rfl
 | succ k=>exact h k
theorem n_bin {op:Operator} (A:PN t a) (B:PN t b):PN t (.bin op a b):=fun h {G ρ g k}=>Gv fun k=>by
 show ((cP G k).E t.sc (inR t.W ρ) (dE a t.L (kid g 0))).bind (fun x=>((cP G k).E t.sc (inR t.W ρ) (dE b t.L (kid g 1))).bind fun y=>bin op x y)=none
 rcases Bool.or_eq_true_iff.mp (show (iC t a||iC t b)=true from h) with h | h
 ·rw [A h]; rfl
 ·exact bind_none fun x=>by rw [B h]; rfl
theorem Tg {f:Bn} (A:PN t a):PN t (.bcall f (.cons a .nil)):=fun h {G ρ g k}=>Gv fun k=>by
 show (((cP G k).E t.sc (inR t.W ρ) (dE a t.L ((kids g).headD default))).bind fun d=>(evs (cP G k) t.sc (inR t.W ρ) []).map (d :: ·)).bind _=none
 rw [A h]; rfl
theorem n_comp {l:SL} (A:PN t b):PN t (.comp l a b):=fun h {G ρ g k}=>Gv fun k=>by
 show (if (0:Int)=0 then (au (mR (c7 g) t.sc [nameE (kid g 2)]) ()).bind fun _=>(srcOf (cP G k) t.sc (inR t.W ρ) (dE b t.L (kid g 1))).bind fun items=>_ else none)=none
 rw [if_pos rfl]
 refine bind_none fun _=>?_
 unfold srcOf
 rw [A h]; rfl
theorem n_call {f:Bn} {l:SL} (L:SL.casesOn (motive_2:=fun _=>Prop) l True fun a _=>PN t a):PN t (.bcall f l):=by
 induction l using SL.casesOn with
 | nil=>exact fun h=>dM h
 | cons a r =>
  induction r using SL.casesOn with
  | nil=>exact Tg L
  | cons _ _=>exact fun h=>dM h
theorem Hr (e:SE):PN t e :=
 SE.rec (motive_1:=PN t) (motive_2:=fun l=>SL.casesOn (motive_2:=fun _=>Prop) l True fun a _=>PN t a)
  (fun _ h=>dM h) (fun h=>dM h) (fun _ h=>DQ h) (fun _ h=>dM h) (fun _ _ _ A B=>n_bin A B) (fun _ _ _ _ _ h=>dM h) (fun _ _ _ _ _ _ _ _ h=>dM h) (fun _ _ h=>dM h) (fun _ _ h=>dM h) (fun _ _ h=>dM h) (fun _ _ h=>dM h) (fun _ _ h=>dM h) (fun _ _ _ _ h=>dM h) (fun _ _ _ _ h=>dM h) (fun _ _ _ _ h=>dM h) (fun _ _ _ h=>dM h) (fun _ _ _ _ _ _ h=>dM h) (fun _ _ _ h=>dM h) (fun _ _ L=>n_call L) (fun _ _ _ _ _ h=>dM h) (fun _ _ _ _ _ I=>n_comp I) (fun _ _ _ _ _ _ _ _ h=>dM h) trivial (fun _ _ A _=>A) e
noncomputable def PS (G:Ctx) (s:SS):Prop:=∀ ⦃k:Nat⦄ ⦃t:TS⦄ ⦃g:List Stmt⦄ ⦃j:Nat⦄ ⦃kn:Kn⦄ ⦃ρ:aJ⦄ ⦃N B:Kn→Prop⦄ ⦃R:D→Prop⦄,yW k s t g j=true→Kns t.all ρ kn→wS G s kn N B R→GX t N B R (yQ (wC (cP G k) t.sc t.W j) (dS s t.L g) ρ)
theorem oU {F:Nat→Bool} (h:fs j F=true):FuIs F j 1:=by
 induction j using Nat.casesAuxOn with
 | zero=>exact dM h
 | succ j=>exact ⟨j,rfl,h⟩
theorem kj (I:PS G s) {g:List Stmt} {st:Stmt} (h:wC (cP G k) t.sc t.W j st ρ=some (.next,ρ1)) (ho:yW k s t g j=true) (X:Kns t.all ρ1 kn1) (w:wS G s kn1 N B R):GX t N B R (yQ (wC (cP G k) t.sc t.W j) (st :: dS s t.L g) ρ):=by
 rw [Ml h]; exact I ho X w
theorem O1 (I:PS G s) {g:List Stmt} {st:Stmt} (h:GX t (fun kn=>wS G s kn N B R) B R (wC (cP G k) t.sc t.W j st ρ)) (ho:yW k s t g j=true):GX t N B R (yQ (wC (cP G k) t.sc t.W j) (st :: dS s t.L g) ρ):=by
 obtain ⟨⟨fl,ρ'⟩,h,q⟩:=h
 induction fl using Fl.casesOn with
 | next=>obtain ⟨kn',X,w⟩:=q; exact kj I h ho X w
 | brk=>rw [DK h]; exact ⟨_,rfl,q⟩
 | ret d=>rw [Ec h]; exact ⟨_,rfl,q⟩
theorem Rf {y:Str} {p q:Pos} {v:Expr} {d:D} (h1:bD t.sc t.W y=true) (h2:t.W.contains y=false) (h3:(dU v||uf v)=true) (h:lQ r t.sc t.W ρ v=some d):wC r t.sc t.W (j+1) (.Assign [.Name y p] v q) ρ=some (.next,dD ρ y d):=by
 show (if t.W.contains y then _ else (au (bD t.sc t.W y&&(dU v||uf v)) ()).bind fun _=>(lQ r t.sc t.W ρ v).bind fun d=>some (Fl.next,dD ρ y d))=_
 rw [h2,if_neg (by decide),h1,h3,h]; rfl
theorem RQ {y:Str} {p q:Pos} {v:Expr} (h:t.W.contains y=true):wC r t.sc t.W (j+1) (.Assign [.Name y p] v q) ρ=Um r t.sc ρ y v:=by
 show (if t.W.contains y then Um r t.sc ρ y v else _)=_
 rw [h,if_pos rfl]
theorem s_asg (I:PX G) (S:PS G s):PS G (.asg i e s):=fun k t g j kn ρ N B R ho X w=>by
 obtain ⟨h1,h2⟩:=aK ho
 obtain ⟨m,rfl,h1⟩:=oU h1
 obtain ⟨h1,h5⟩:=aK h1
 obtain ⟨h3,h4⟩:=aK h1
 obtain ⟨p1,p2,p3,_⟩:=wy h3
 obtain ⟨d,hd,w⟩:=Jh I X h5 w
 exact kj S (Rf p1 p2 h4 hd) h2 (p3 X) w
theorem YQ (I:PX G) (S:PS G s):PS G (.scal i e s):=fun k t g j kn ρ N B R ho X w=>by
 obtain ⟨h1,h2⟩:=aK ho
 obtain ⟨m,rfl,h1⟩:=oU h1
 obtain ⟨h1,h6⟩:=aK h1
 obtain ⟨h1,h5⟩:=aK h1
 obtain ⟨h3,h4⟩:=aK h1
 obtain ⟨p1,p2,p3,_⟩:=wy h3
 obtain ⟨d,hd,d',hs,w⟩:=yP I X h6 w
 refine kj S (Rf p1 p2 (by rw [h4]; rfl) ?_) h2 (p3 X) w
 unfold lQ
 rw [Hr _ h5,hd]; exact hs
theorem s_own (S:PS G s):PS G (.own i s):=fun k t g j kn ρ N B R ho X w=>by
 obtain ⟨h1,h2⟩:=aK ho
 obtain ⟨m,rfl,h1⟩:=oU h1
 obtain ⟨⟨p1,p2,p3⟩,p4,_⟩:=tC h1
 refine kj S ((RQ p1).trans ?_) h2 (p4 X) w
 show (au (pK t.sc (di t.L i)) ()).bind _=_
 rw [p3]; rfl
theorem s_ext (I:PX G) (S:PS G s):PS G (.ext i e s):=fun k t g j kn ρ N B R ho X w=>by
 obtain ⟨h1,h2⟩:=aK ho
 obtain ⟨m,rfl,h1⟩:=oU h1
 obtain ⟨h1,h3⟩:=aK h1
 obtain ⟨⟨p1,p2,p3⟩,p4,p5⟩:=tC h1
 obtain ⟨d,hd,w⟩:=Aw X p5 w
 obtain ⟨ds,rfl,w⟩:=yo w
 obtain ⟨c,hc,l,hl,w⟩:=yP I X h3 w
 refine kj S ((RQ p1).trans ?_) h2 (p4 X) w
 show (au (pK t.sc (di t.L i)&&di t.L i==di t.L i&&bW (di t.L i)) ()).bind (fun _=>(Hq (ρ.lookup (di t.L i))).bind fun ds=>((cP G k).E t.sc ρ (dE e t.L (kid (vV g) 1))).bind fun d=>(Tq ds d).bind fun l=>some (Fl.next,dD ρ (di t.L i) (.list l)))=_
 rw [p3,p2,beq_self_eq_true,hd,hc]
 show (Tq ds c).bind _=_
 rw [hl]; rfl
theorem Vk {L:List Str}:∀ {is:List Nat} {g:List Expr},namesOf (dN L is g)=some (is.map (di L)):=by
 intro is
 induction is with
 | nil =>
   intro _
   exact rfl
 | cons i is ih =>
   intro g
   show (namesOf (dN L is g.tail)).map _=_; rw [ih]; rfl
theorem Dv:∀ {is:List Nat} {ds:List D} {kn:Kn} {ρ:aJ} {P:Kn→Prop},is.all (Cz t)=true→Kns t.all ρ kn→aM is ds kn P→∃ ρ',bindAll t.sc t.W (is.map (di t.L)) ds ρ=some ρ'∧∃ kn',Kns t.all ρ' kn'∧P kn'
 | [],[],kn,ρ,P,h,X,w=>⟨ρ,rfl,kn,X,w⟩
 | [],_ :: _,kn,ρ,P,h,X,w=>w.elim
 | _ :: _,[],kn,ρ,P,h,X,w=>w.elim
 | i :: is,d :: ds,kn,ρ,P,h,X,w=>by
  obtain ⟨h1,h2⟩:=aK (show (Cz t i&&is.all (Cz t))=true from h)
  obtain ⟨p1,_,p3,_⟩:=wy h1
  obtain ⟨ρ',e,q⟩:=Dv h2 (p3 (d:=d) X) w
  exact ⟨ρ',by show (au (bD t.sc t.W (di t.L i)) ()).bind _=_; rw [p1]; exact e,q⟩
theorem Rp {is:List Nat} {g:List Expr} {kk:Nat} {p:Pos} {d:D} {P:Kn→Prop} (h:is.all (Cz t)=true) (X:Kns t.all ρ kn) (w:bh is d kn P):∃ ρ',uo t.sc t.W (.Tuple (dN t.L is g) kk p) d ρ=some ρ'∧∃ kn',Kns t.all ρ' kn'∧P kn':=by
 obtain ⟨ds,hds,w⟩:=WP w
 obtain ⟨ρ',e,q⟩:=Dv h X w
 exact ⟨ρ',by show (namesOf (dN t.L is g)).bind _=_; rw [Vk,Option.bind_some,hds]; exact e,q⟩
theorem Zd {is:List Nat} (I:PX G) (S:PS G s):PS G (.tupl is e s):=fun k t g j kn ρ N B R ho X w=>by
 obtain ⟨h1,h2⟩:=aK ho
 obtain ⟨m,rfl,h1⟩:=oU h1
 obtain ⟨h1,h6⟩:=aK h1
 obtain ⟨h1,h5⟩:=aK h1
 obtain ⟨h3,h4⟩:=aK h1
 obtain ⟨d,hd,w⟩:=Jh I X h6 w
 obtain ⟨ρ',he,kn',X',w⟩:=Rp (g:=kids (Hw g)) (kk:=kE (Hw g)) (p:=(Hw g).pos) h3 X w
 refine kj S ?_ h2 X' w
 show (au (dU (dE e t.L (vV g))&&notTuple (dE e t.L (vV g))) ()).bind (fun _=>(lQ (cP G k) t.sc t.W ρ (dE e t.L (vV g))).bind fun d=>(uo t.sc t.W (.Tuple (dN t.L is (kids (Hw g))) (kE (Hw g)) (Hw g).pos) d ρ).map fun ρ'=>(Fl.next,ρ'))=_
 rw [h4,h5,hd]
 show Option.map _ (uo _ _ _ d ρ)=_
 rw [he]; rfl
theorem s_put {n:SE} {op:Operator} (I:PX G) (S:PS G s):PS G (.put i n op a b s):=fun k t g j kn ρ N B R ho X w=>by
 obtain ⟨h1,h2⟩:=aK ho
 obtain ⟨m,rfl,h1⟩:=oU h1
 obtain ⟨h1,h7⟩:=aK h1
 obtain ⟨h3,h6⟩:=aK h1
 obtain ⟨⟨p1,p2,p3⟩,p4,p5⟩:=tC h3
 obtain ⟨l,hl,w⟩:=Aw X p5 w
 obtain ⟨ds,rfl,w⟩:=yo w
 obtain ⟨d,hd,w⟩:=Uo I X h3 h6 w
 obtain ⟨c,hc,w⟩:=yP I X h7 w
 induction c using D.casesOn with
 | int c =>
  obtain ⟨⟨c1,c2,c3⟩,w⟩:=w
  refine kj S ?_ h2 (p4 X) w
  show (au (t.W.contains (di t.L i)&&bW (di t.L i)&&true) ()).bind (fun _=>(Hq (ρ.lookup (di t.L i))).bind fun ds=>(lQ (cP G k) t.sc t.W ρ (dE (.bin op (.sub (.var i) a) b) t.L (vV g))).bind fun d=>((cP G k).E t.sc ρ (dE n t.L (kid (Hw g) 1))).bind fun j=>Qm ρ (di t.L i) ds d j)=_
  rw [p1,p2,hl,hd,hc]
  show (au (small c&&decide (c.toNat < ds.length)) ()).bind _=_
  rw [decide_eq_true c3,show small c=true from decide_eq_true ⟨c1,c2⟩]; rfl
 | _=>exact w.elim
theorem s_ins (I:PX G) (S:PS G s):PS G (.ins i a b s):=fun k t g j kn ρ N B R ho X w=>by
 obtain ⟨h1,h2⟩:=aK ho
 obtain ⟨m,rfl,h1⟩:=oU h1
 obtain ⟨h1,h6⟩:=aK h1
 obtain ⟨h1,h5⟩:=aK h1
 obtain ⟨h3,h4⟩:=aK h1
 obtain ⟨⟨p1,p2,p3⟩,p4,p5⟩:=tC h3
 obtain ⟨l,hl,w⟩:=Aw X p5 w
 obtain ⟨ds,rfl,w⟩:=yo w
 obtain ⟨c,hc,w⟩:=Di I X h5 w
 obtain ⟨c,rfl,w⟩:=uy w
 obtain ⟨d,hd,⟨c1,c2,c3⟩,w⟩:=Di I X h6 w
 refine kj S ?_ h2 (p4 X) w
 show (au ((("insert" : Str) == "insert")&&t.W.contains (di t.L i)&&(kid (vV g) 0).pos.endLine==(vV g).pos.line&&bW (di t.L i)) ()).bind (fun _=>(Hq (ρ.lookup (di t.L i))).bind fun ds=>(tE (cP G k) t.sc t.W ρ (dE a t.L ((kids (vV g)).headD dummy)) (dE b t.L ((kids (vV g)).tail.headD dummy)) ds).bind fun ds'=>some (Fl.next,dD ρ (di t.L i) (.list ds')))=_
 have e:evs (cP G k) t.sc (inR t.W ρ) [dE a t.L ((kids (vV g)).headD dummy),dE b t.L ((kids (vV g)).tail.headD dummy)]=some [.int c,d]:=by
  show ((cP G k).E t.sc (inR t.W ρ) (dE a t.L ((kids (vV g)).headD dummy))).bind (fun x=>(((cP G k).E t.sc (inR t.W ρ) (dE b t.L ((kids (vV g)).tail.headD dummy))).bind fun y=>some [y]).map (x :: ·))=_
  rw [hc,hd]; rfl
 rw [p1,p2,h4,hl,beq_self_eq_true]
 show (tE (cP G k) t.sc t.W ρ _ _ ds).bind _=_
 unfold tE
 rw [e]
 show ((au (decide (0≤c)&&decide (c.toNat≤ds.length)&&decide (ds.length≤1000)) (ds.take c.toNat++d :: ds.drop c.toNat)).bind _)=_
 rw [decide_eq_true c1,decide_eq_true c2,decide_eq_true c3]; rfl
theorem s_ite {u v:SS} (I:PX G) (A:PS G u) (C:PS G v) (S:PS G s):PS G (.ite c u v s):=fun k t g j kn ρ N B R ho X w=>by
 obtain ⟨h1,h2⟩:=aK ho
 obtain ⟨m,rfl,h1⟩:=oU h1
 obtain ⟨h1,h5⟩:=aK h1
 obtain ⟨h3,h4⟩:=aK h1
 obtain ⟨d,w,hd⟩:=(I c).2 h3 X w
 obtain ⟨b,rfl,w⟩:=ye w
 refine O1 S ?_ h2
 show GX t _ _ _ (((cP G k).T t.sc ρ (dE c t.L (vV g))).bind fun c=>if c=true then yQ (wC (cP G k) t.sc t.W m) (dS u t.L (vA g)) ρ else yQ (wC (cP G k) t.sc t.W m) (dS v t.L (vB g)) ρ)
 rw [show (cP G k).T t.sc ρ (dE c t.L (vV g))=some b from hd b rfl]
 induction b using Bool.casesOn with
 | true=>exact A h4 X w
 | false=>exact C h5 X w
theorem Bf {u:SS} {tg:Expr} {l:List Stmt} {bnd:D→Kn→(Kn→Prop)→Prop} (F:∀ {kn:Kn} {ρ:aJ} {N B:Kn→Prop},Kns t.all ρ kn→wS G u kn N B R→GX t N B R (yQ x l ρ))
  (hb:∀ {d:D} {kn:Kn} {ρ:aJ} {P:Kn→Prop},Kns t.all ρ kn→bnd d kn P→∃ ρ',uo t.sc t.W tg d ρ=some ρ'∧∃ kn',Kns t.all ρ' kn'∧P kn') :
  ∀ {items:List D} {kn:Kn} {ρ:aJ},Kns t.all ρ kn→xq bnd (fun kn N B R=>wS G u kn N B R) items kn N R→GX t N B R (forLoop t.sc t.W x tg l items ρ)
 | [],kn,ρ,X,w=>⟨_,rfl,kn,X,w⟩
 | d :: ds,kn,ρ,X,w=>by
  obtain ⟨ρ1,e1,kn1,X1,w⟩:=hb X w
  obtain ⟨⟨fl,ρ2⟩,e2,q⟩:=F X1 w
  have e:forLoop t.sc t.W x tg l (d :: ds) ρ=(match (generalizing:=false) fl with | .next=>forLoop t.sc t.W x tg l ds ρ2 | .brk=>some (.next,ρ2) | .ret e=>some (.ret e,ρ2)):=by
   show (uo t.sc t.W tg d ρ).bind _=_
   rw [e1,Option.bind_some,e2]; rfl
  rw [e]
  induction fl using Fl.casesOn with
  | next=>obtain ⟨kn2,X2,w⟩:=q; exact Bf F hb X2 w
  | brk=>exact ⟨_,rfl,q⟩
  | ret e=>exact ⟨_,rfl,q⟩
theorem s_for {u:SS} (I:PX G) (A:PS G u) (S:PS G s):PS G (.for_ i e u s):=fun k t g j kn ρ N B R ho X w=>by
 obtain ⟨h1,h2⟩:=aK ho
 obtain ⟨m,rfl,h1⟩:=oU h1
 obtain ⟨h1,h5⟩:=aK h1
 obtain ⟨h3,h4⟩:=aK h1
 obtain ⟨p1,p2,p3,p5⟩:=wy h3
 obtain ⟨d,hd,w⟩:=Di I X h4 w
 obtain ⟨items,hi,w⟩:=uQ w
 refine O1 S ?_ h2
 show GX t _ _ _ ((((cP G k).E t.sc (inR t.W ρ) (dE e t.L (vV g))).bind itemsOf).bind fun items=>forLoop t.sc t.W (wC (cP G k) t.sc t.W m) (tgt t.L i g) (dS u t.L (vA g)) items ρ)
 rw [hd,Option.bind_some,hi]
 exact Bf (fun X w=>A h5 X w) (fun X w=>⟨_,by show (au (bD t.sc t.W (di t.L i)) ()).bind _=_; rw [p1]; rfl,_,p3 X,w⟩) X w
theorem s_ret (I:PX G):PS G (.ret e s):=fun k t g j kn ρ N B R ho X w=>by
 obtain ⟨m,rfl,h1⟩:=oU ho
 obtain ⟨d,hd,w⟩:=yP I X h1 w
 have h:wC (cP G k) t.sc t.W (m+1) (.Return (some (dE e t.L (vV g))) (pS g)) ρ=some (.ret d,ρ):=by
  show ((cP G k).E t.sc ρ (dE e t.L (vV g))).bind _=_
  rw [hd]; rfl
 exact ⟨_,Ec h,w⟩
theorem s_brk:PS G (.brk s):=fun k t g j kn ρ N B R ho X w=>by
 obtain ⟨m,rfl,h1⟩:=oU ho
 exact ⟨_,DK rfl,kn,X,w⟩
theorem SS.right (I:PX G):∀ s:SS,PS G s
 | .nil=>fun _ _ _ _ kn _ _ _ _ _ X w=>⟨_,rfl,kn,X,w⟩
 | .asg _ _ r=>s_asg I (SS.right I r)
 | .scal _ _ r=>YQ I (SS.right I r)
 | .own _ r=>s_own (SS.right I r)
 | .ext _ _ r=>s_ext I (SS.right I r)
 | .tupl _ _ r=>Zd I (SS.right I r)
 | .put _ _ _ _ _ r=>s_put I (SS.right I r)
 | .ins _ _ _ r=>s_ins I (SS.right I r)
 | .ite _ a b r=>s_ite I (SS.right I a) (SS.right I b) (SS.right I r)
 | .for_ _ _ b r=>s_for I (SS.right I b) (SS.right I r)
 | .ret _ _=>s_ret I
 | .brk _=>s_brk
end
noncomputable def bH:Nat→List D→Kn
 | 0,_=>[]
 | n+1,[]=>none :: bH n []
 | n+1,d :: ds=>some d :: bH n ds
noncomputable def Dp (t:TS) (pn:List Str) (s:SS) (body:List Stmt):Bool:=t.L.take pn.length==pn&&pn.all (fun x=>!(t.sc.lookup x==some .globalImplicit))&&yW 30 s t body 30
theorem Pr {n:Nat}:∀ {i:Nat},bF (bH n []) i=none:=by
 induction n with
 | zero=>exact rfl
 | succ n ih =>
  intro i
  induction i using Nat.casesAuxOn with
  | zero=>rfl
  | succ i=>exact ih
theorem arg_v {pn:List Str}:∀ {L:List Str} {ds:List D} {x:Str} {i n:Nat} {d:D},L.take pn.length=pn→ds.length=pn.length→Gp L x=some i→bF (bH n ds) i=some d→(pn.zip ds).lookup x=some d:=by
 induction pn with
 | nil =>
  intro L ds x i n d _ hl _ h
  rw [List.eq_nil_of_length_eq_zero hl,Pr] at h; exact aO h
 | cons p pn ih =>
  intro L ds x i n d hL hl hi hg
  induction ds using List.casesOn with
  | nil=>exact nomatch hl
  | cons d0 ds =>
   induction L using List.casesOn with
   | nil=>exact nomatch hL
   | cons y L =>
    rw [List.length_cons,List.take_succ_cons] at hL
    obtain ⟨rfl,hq⟩:=List.cons.inj hL
    have hi:(if y==x then some 0 else (Gp L x).map (·+1))=some i:=hi
    induction n using Nat.casesAuxOn with
    | zero=>exact aO hg
    | succ n =>
     rw [List.zip_cons_cons,List.lookup_cons]
     by_cases hx:y=x
     ·rw [beq_iff_eq.mpr hx,if_pos rfl] at hi
      obtain rfl:=aj hi
      rw [hx,beq_self_eq_true]; exact hg
     ·rw [beq_eq_false_iff_ne.mpr hx,if_neg (by decide)] at hi
      obtain ⟨j,hj,rfl⟩:=bA hi
      rw [beq_eq_false_iff_ne.mpr (Ne.symm hx)]
      exact ih hq (Nat.succ.inj hl) hj hg
theorem HB {t:TS} {pn:List Str} {ds:List D} {n:Nat} (h1:(t.L.take pn.length==pn)=true) (h2:(pn.all fun x=>!(t.sc.lookup x==some .globalImplicit))=true) (hl:ds.length=pn.length):Kns t.all (pn.zip ds) (bH n ds):=by
 refine ⟨fun x i d _ hi hg=>arg_v (eq_of_beq h1) hl hi hg,fun x hx=>?_⟩
 cases e:(pn.zip ds).lookup x with
 | none=>rfl
 | some d =>
  have:=List.all_eq_true.mp h2 x (List.of_mem_zip (mem_of_lookup e)).1
  rw [show t.sc.lookup x=_ from hx] at this
  exact dM this
theorem Uy {G:Ctx} (hG:∀ b:Bn,G.fns.lookup b.name=none) {t:TS} {pn:List Str} {body:List Stmt} {ds:List D} {R:D→Prop} {s:SS} (n:Nat) (hs:dS s t.L body=body) (ht:Dp t pn s body=true)
  (hl:ds.length=pn.length) (w:wS G s (bH n ds) (fun _=>False) (fun _=>False) R):∃ d,eE G 30 30 t.sc t.W pn body ds=some d∧R d:=by
 obtain ⟨ht,h3⟩:=aK ht
 obtain ⟨h1,h2⟩:=aK ht
 have X:Kns t.all (pn.zip ds) (bH n ds):=HB h1 h2 hl
 obtain ⟨⟨fl,ρ'⟩,e,q⟩:=SS.right (SE.right hG) s h3 X w
 rw [hs] at e
 show ∃ d,(au (decide (ds.length=pn.length)) ()).bind (fun _=>resD (yQ (wC (cP G 30) t.sc t.W 30) body (pn.zip ds)))=some d∧R d
 rw [decide_eq_true hl,e]
 induction fl using Fl.casesOn with
 | next=>obtain ⟨_,_,q⟩:=q; exact q.elim
 | brk=>obtain ⟨_,_,q⟩:=q; exact q.elim
 | ret r=>exact ⟨r,rfl,q⟩
theorem DG {G:Ctx} (hG:∀ b:Bn,G.fns.lookup b.name=none) {t:TS} {pn:List Str} {body:List Stmt} {ds:List D} {d:D} {s:SS} (n:Nat) (hs:dS s t.L body=body) (ht:Dp t pn s body=true)
  (hl:ds.length=pn.length) (w:wS G s (bH n ds) (fun _=>False) (fun _=>False) fun r=>r=d):eE G 30 30 t.sc t.W pn body ds=some d:=by obtain ⟨_,h,e⟩:=Uy hG n hs ht hl w; exact e▸h
theorem Rc {G:Ctx} (hG:∀ b:Bn,G.fns.lookup b.name=none) {t:TS} {body:List Stmt} {kn:Kn} {ρ:aJ} {N:Kn→Prop} {s:SS} (hs:dS s t.L body=body) (ht:yW 30 s t body 30=true) (X:Kns t.all ρ kn) (w:wS G s kn N (fun _=>False) (fun _=>False)) :
  ∃ ρ' kn',yQ (wC (cP G 30) t.sc t.W 30) body ρ=some (.next,ρ')∧Kns t.all ρ' kn'∧N kn':=by
 obtain ⟨⟨fl,ρ'⟩,e,q⟩:=SS.right (SE.right hG) s ht X w
 rw [hs] at e
 induction fl using Fl.casesOn with
 | next=>obtain ⟨kn',X',q⟩:=q; exact ⟨ρ',kn',e,X',q⟩
 | brk=>obtain ⟨_,_,q⟩:=q; exact q.elim
 | ret r=>exact q.elim
theorem Zu {G:Ctx} (hG:∀ b:Bn,G.fns.lookup b.name=none) {t:TS} {body:List Stmt} {kn:Kn} {ρ:aJ} {d:D} {s:SS} (hs:dS s t.L body=body) (ht:yW 30 s t body 30=true) (X:Kns t.all ρ kn) (w:wS G s kn (fun _=>False) (fun _=>False) fun r=>r=d) :
  Ou G 30 30 t.sc t.W body ρ=some d:=by
 obtain ⟨⟨fl,ρ'⟩,e,q⟩:=SS.right (SE.right hG) s ht X w
 rw [hs] at e
 unfold Ou
 rw [e]
 induction fl using Fl.casesOn with
 | next=>obtain ⟨_,_,q⟩:=q; exact q.elim
 | brk=>obtain ⟨_,_,q⟩:=q; exact q.elim
 | ret r=>exact congrArg some q
section
variable {d e f:D} {Q:D→Prop} {P:List D→Prop} {A B:Prop} {op:Operator} {o:CmpOp} {b:Bn} {a c:Int} {x y z:UInt64} {s t:Str} {l m:List D} {u v:Bool} {kn:Kn} {K:Kn→Prop} {is:List Nat}
theorem fP:XK (some d) Q=Q d:=rfl
theorem fX:pG (.bool u) A B=cond u A B:=rfl
theorem fC:notW (.bool u) Q=Q (.bool (!u)):=rfl
theorem fQ {P:Int→Prop}:H7 (.int a) P=P a:=rfl
theorem fK:Gb (.list l) P=P l:=rfl
theorem b7:uF op (.int a) (.int c) Q=aX op a c Q:=rfl
theorem cu:uF op (.float x) (.float y) Q=aN op x y Q:=rfl
theorem cG:uF op (.float x) (.int c) Q=aA op x c Q:=rfl
theorem bQ:uF op (.int a) (.float y) Q=aC op a y Q:=rfl
theorem bZ:uF op (.str s) (.str t) Q=aZ op s t Q:=rfl
theorem bR:uF op (.str s) (.int a) Q=aB op s a Q:=rfl
theorem cD:uF op (.list l) (.list m) Q=aY op l m Q:=rfl
theorem cF:uF op (.list l) (.int a) Q=bG op (.list l) (.int a) Q:=rfl
theorem cg:v7 o (.int a) (.int c) Q=aP o a c Q:=rfl
theorem cz:v7 o (.float x) (.float y) Q=aV o x y Q:=rfl
theorem bY:v7 o (.str s) (.str t) Q=aU o s t Q:=rfl
theorem bT:v7 o (.bool u) (.bool v) Q=aR o u v Q:=rfl
theorem bU:v7 o (.int a) (.list l) Q=bI o (.int a) (.list l) Q:=rfl
theorem cA:v7 o (.list l) (.list m) Q=bI o (.list l) (.list m) Q:=rfl
theorem fJ:U6 (.list l) Q=(l.length < 2 ^ 62∧Q (.int l.length)):=rfl
theorem f9:U6 (.tup l) Q=(l.length < 2 ^ 62∧Q (.int l.length)):=rfl
theorem gf:U6 (.str s) Q=(s.length < 2 ^ 62∧Q (.int s.length)):=rfl
theorem fH:chrW (.int a) Q=((0≤a∧a≤1114111)∧Q (.str ⟨#[a.toNat]⟩)):=rfl
theorem fB:Qk (.int a) Q=Q (.range 0 a):=rfl
theorem fM:Nz (.float x) Q=(Float64.isFinite x=true∧Q (.int (eG x))):=rfl
theorem fV:XH (.float x) Q=(Float64.isFinite x=true∧Q (.int (G5 x))):=rfl
theorem fG {F:Int→Int→D}:RK b (.int a) (.int c) F Q=Q (F a c):=rfl
theorem gb {F:UInt64→UInt64→UInt64→D}:We b (.float x) (.float y) (.float z) F Q=Q (F x y z):=rfl
theorem fZ {w:Ws} {k:Atr}:Nb (.ws w) k Q=aW w k Q:=rfl
theorem fY:lC (.list l) P=P l:=rfl
theorem fD:lC (.tup l) P=P l:=rfl
theorem fc:lC (.str s) P=P (s.cps.toList.map fun c=>D.str ⟨#[c]⟩):=rfl
theorem fj:lC (.range a c) P=((0≤a∧a < 2 ^ 24∧c < 2 ^ 24 ∧ -2 ^ 24 < c)∧P (eF a c)):=rfl
theorem gh:R3 (.list l) P=P l:=rfl
theorem fL:R3 (.tup l) P=P l:=rfl
theorem fU {n:List D→Prop}:putW l d (.int a) n=((0≤a∧a < 2 ^ 62∧a.toNat < l.length)∧n (l.set a.toNat d)):=rfl
end
section
variable {bnd:D→Kn→(Kn→Prop)→Prop} {body:Kn→(Kn→Prop)→(Kn→Prop)→(D→Prop)→Prop} {N:Kn→Prop} {R:D→Prop}
theorem Ky (I:Nat→Kn→Prop):∀ (items:List D) (i:Nat) (kn:Kn),I i kn→(∀ j d kn,items[j]? = some d→I (i+j) kn→∀ M:Kn→Prop,(∀ kn',I (i+j+1) kn'→M kn')→bnd d kn fun k1=>body k1 M N R)→(∀ kn,I (i+items.length) kn→N kn)→xq bnd body items kn N R:=by
 intro items
 induction items with
 | nil =>
   intro i kn h0 _ hf
   exact hf kn h0
 | cons d ds ih =>
   intro i kn h0 hs hf
   exact hs 0 d kn rfl h0 _ fun kn' h'=>ih (i+1) kn' h' (fun j d kn hj hI M hM=>hs (j+1) d kn hj (by rw [show i+(j+1)=i+1+j by omega]; exact hI) M fun kn' h'=>hM kn' (by rw [show i+1+j+1=i+(j+1)+1 by omega]; exact h'))
     fun kn h=>hf kn (by rw [List.length_cons,show i+(ds.length+1)=i+1+ds.length by omega]; exact h)
theorem oV {items:List D} {kn:Kn} (I:Nat→Kn→Prop) (h0:I 0 kn) (hs:∀ j d kn,items[j]? = some d→I j kn→∀ M:Kn→Prop,(∀ kn',I (j+1) kn'→M kn')→bnd d kn fun k1=>body k1 M N R) (hf:∀ kn,I items.length kn→N kn):xq bnd body items kn N R :=
 Ky I items 0 kn h0 (fun j d kn hj hI M hM=>hs j d kn hj (by rw [Nat.zero_add] at hI; exact hI) M (by rw [Nat.zero_add] at hM; exact hM)) (fun kn h=>hf kn (by rw [Nat.zero_add] at h; exact h))
theorem Nq (p:D→Bool) (I:Kn→Prop) (e:D):∀ {items:List D} {kn:Kn},I kn→(∀ d kn,d∈items→I kn→∀ M:Kn→Prop,(p d=true→∀ kn',I kn'→M kn')→(p d=false→R e)→bnd d kn fun k1=>body k1 M N R) →
  (items.all p=true→∀ kn,I kn→N kn)→(items.all p=false→R e)→xq bnd body items kn N R:=by
 intro items
 induction items with
 | nil =>
   intro kn h0 _ hf _
   exact hf rfl kn h0
 | cons d ds ih =>
   intro kn h0 hs hf hr
   exact hs d kn aH h0 _ (fun hp kn' h'=>ih h' (fun d kn hd=>hs d kn (cJ _ hd)) (fun ha=>hf (by rw [List.all_cons,hp,ha]; rfl)) (fun ha=>hr (by rw [List.all_cons,hp,ha]; rfl))) fun hp=>hr (by rw [List.all_cons,hp]; rfl)
theorem gC {elt ifs:D→(D→Prop)→Prop} {α:Type} {f g:α→D} {p:α→Bool}:∀ {l:List α} {Q:List D→Prop},(∀ a∈l,∀ P:D→Prop,P (.bool (p a))→ifs (f a) P)→(∀ a∈l,p a=true→∀ P:D→Prop,P (g a)→elt (f a) P)→Q ((l.filter p).map g)→nJ elt ifs (l.map f) Q:=by
 intro l
 induction l with
 | nil =>
   intro Q _ _ h
   exact h
 | cons a l ih =>
   intro Q h1 h2 h
   exact h1 a aH _ (by
    have i1:=fun b hb=>h1 b (cJ _ hb)
    have i2:=fun b hb=>h2 b (cJ _ hb)
    show cond (p a) _ _
    rw [List.filter_cons] at h
    cases hp:p a with
    | true=>rw [hp,if_pos rfl] at h; exact h2 a aH hp _ (ih i1 i2 h)
    | false=>rw [hp,if_neg (by decide)] at h; exact ih i1 i2 h)
theorem dB {elt ifs:D→(D→Prop)→Prop} {α:Type} {f g:α→D} {l:List α} {Q:List D→Prop} (h1:∀ a∈l,∀ P:D→Prop,P (.bool true)→ifs (f a) P) (h2:∀ a∈l,∀ P:D→Prop,P (g a)→elt (f a) P) (h:Q (l.map g)):nJ elt ifs (l.map f) Q :=
 gC (p:=fun _=>true) h1 (fun a ha _=>h2 a ha) (by rw [List.filter_eq_self.mpr fun _ _=>rfl]; exact h)
end
theorem yes {P:Prop} [Decidable P] {A B:Prop} (h:P) (a:A):cond (decide P) A B:=by rw [decide_eq_true h]; exact a
theorem no {P:Prop} [Decidable P] {A B:Prop} (h:¬P) (b:B):cond (decide P) A B:=by rw [decide_eq_false h]; exact b
theorem non {P:Prop} [Decidable P] {A B:Prop} (h:P) (b:B):cond (!decide P) A B:=by rw [decide_eq_true h]; exact b
theorem Wd {b:Bool} {A B:Prop} (h:b=true) (a:A):cond b A B:=by rw [h]; exact a
theorem Qf {a b:Bool} {A B:Prop} (h:cond (a&&b) A B):cond a (cond b A B) B:=by cases a <;> exact h
theorem uz {G:Ctx} {m:Str} {F:Fn} {x:Ws} {ds:List D} {r:D} (hM:G.meths.lookup m=some F) (h:F (.ws x :: ds)=some r):vL G m (.ws x) ds=some r:=by show (G.meths.lookup m).bind _=_; rw [hM]; exact h
theorem kZ {G:Ctx} {f:Str} {F:Fn} {ds:List D} {r:D} (hF:G.fns.lookup f=some F) (h:F ds=some r):SQ G f ds=some r:=by unfold SQ; rw [hF]; exact h
theorem nob {b:Bool} {A B:Prop} (h:b=false) (a:B):cond b A B:=by rw [h]; exact a
set_option maxRecDepth 100000
noncomputable abbrev pw:Program:=PySem.Challenge.pw_rw0124_01
noncomputable def Al (k:Nat):Option Stmt:=if k < 100 then pw.main.body[k]? else match (pw.main.body[16]? : Option Stmt) with
 | some (.ClassDef _ _ _ b ..)=>b[k-100]?
 | _=>none
noncomputable def fdA (k:Nat):Arguments:=match Al k with
 | some (.FunctionDef _ a ..)=>a
 | _=>default
noncomputable def dF (k:Nat):List Stmt:=match Al k with
 | some (.FunctionDef _ _ b ..)=>b
 | _=>default
noncomputable def gB (k:Nat):Scope:=match Al k with
 | some (.FunctionDef _ _ _ _ _ _ s ..)=>s
 | _=>default
noncomputable def de (P:Params) (x:Str) (t:Tok) (v:Value):DictEntry:={ hash:=PyData.keyHash P x,key := .str x t,val:=v }
noncomputable abbrev bN:=@BT.node
noncomputable abbrev bE:=@BT.nil
noncomputable abbrev tO (a:Array Value):Obj:={ cls := .type "tuple",data:=Data.seq a }
noncomputable abbrev cO (a:Array Value):Obj:={ cls := .type "code",data:=Data.fields a }
noncomputable abbrev nO (a:Array Value):Obj:={ cls := .none,data:=Data.fields a }
noncomputable abbrev fO (x q:Str) (k:Nat):Obj:={ cls := .none,data:=Data.func { name:=x,qualname:=q,params:=fdA k,body:=FuncBody.stmts (dF k),scope:=gB k,globals:=0,closure:=[],defaults := .none,kwdefaults := .none } }
noncomputable abbrev gO (x q:Str) (k:Nat) (m:Str) (t:Tok) (c:Addr):Obj:={ cls := .type "function",data:=Data.func { name:=x,qualname:=q,params:=fdA k,body:=FuncBody.stmts (dF k),scope:=gB k,globals:=3,closure:=[],defaults := .none,kwdefaults := .none,pyModule := .str m t,code := .ref c } }
noncomputable def noLed (P:Params):Bool:=!P.followText "set-order"
noncomputable def jb (P:Params):Obj:={ cls := .type "dict",data:=Data.dict #[de P "__name__" 1 (.str "builtins" 160),de P "__doc__" 2 (.builtin "builtins.__doc__:str#opaque"),de P "__package__" 3 (.builtin "builtins.__package__:str#opaque"),de P "__loader__" 4 (.builtin "builtins.__loader__:shared#opaque"),de P "__spec__" 5 (.builtin "builtins.__spec__#opaque"),de P "__build_class__" 6 (.builtin "__build_class__"),de P "__import__" 7 (.builtin "__import__"),de P "abs" 8 (.builtin "abs"),de P "all" 9 (.builtin "all"),de P "any" 10 (.builtin "any"),de P "ascii" 11 (.builtin "ascii"),de P "bin" 12 (.builtin "bin"),de P "breakpoint" 13 (.builtin "breakpoint"),de P "callable" 14 (.builtin "callable"),de P "chr" 15 (.builtin "chr"),de P "compile" 16 (.builtin "compile"),de P "delattr" 17 (.builtin "delattr"),de P "dir" 18 (.builtin "dir"),de P "divmod" 19 (.builtin "divmod"),de P "eval" 20 (.builtin "eval"),de P "exec" 21 (.builtin "exec"),de P "format" 22 (.builtin "format"),de P "getattr" 23 (.builtin "getattr"),de P "globals" 24 (.builtin "globals"),de P "hasattr" 25 (.builtin "hasattr"),de P "hash" 26 (.builtin "hash"),de P "hex" 27 (.builtin "hex"),de P "id" 28 (.builtin "id"),de P "input" 29 (.builtin "input"),de P "isinstance" 30 (.builtin "isinstance"),de P "issubclass" 31 (.builtin "issubclass"),de P "iter" 32 (.builtin "iter"),de P "aiter" 33 (.builtin "aiter"),de P "len" 34 (.builtin "len"),de P "locals" 35 (.builtin "locals"),de P "max" 36 (.builtin "max"),de P "min" 37 (.builtin "min"),de P "next" 38 (.builtin "next"),de P "anext" 39 (.builtin "anext"),de P "oct" 40 (.builtin "oct"),de P "ord" 41 (.builtin "ord"),de P "pow" 42 (.builtin "pow"),de P "print" 43 (.builtin "print"),de P "repr" 44 (.builtin "repr"),de P "round" 45 (.builtin "round"),de P "setattr" 46 (.builtin "setattr"),de P "sorted" 47 (.builtin "sorted"),de P "sum" 48 (.builtin "sum"),de P "vars" 49 (.builtin "vars"),de P "None" 50 (.none),de P "Ellipsis" 51 (Value.ellipsis),de P "NotImplemented" 52 (Value.notImplemented),de P "False" 53 (.bool false),de P "True" 54 (.bool true),de P "bool" 55 (.type "bool"),de P "memoryview" 56 (.type "memoryview"),de P "bytearray" 57 (.type "bytearray"),de P "bytes" 58 (.type "bytes"),de P "classmethod" 59 (.type "classmethod"),de P "complex" 60 (.type "complex"),de P "dict" 61 (.type "dict"),de P "enumerate" 62 (.type "enumerate"),de P "filter" 63 (.type "filter"),de P "float" 64 (.type "float"),de P "frozenset" 65 (.type "frozenset"),de P "property" 66 (.type "property"),de P "int" 67 (.type "int"),de P "list" 68 (.type "list"),de P "map" 69 (.type "map"),de P "object" 70 (.type "object"),de P "range" 71 (.type "range"),de P "reversed" 72 (.type "reversed"),de P "set" 73 (.type "set"),de P "slice" 74 (.type "slice"),de P "staticmethod" 75 (.type "staticmethod"),de P "str" 76 (.type "str"),de P "super" 77 (.type "super"),de P "tuple" 78 (.type "tuple"),de P "type" 79 (.type "type"),de P "zip" 80 (.type "zip"),de P "__debug__" 81 (.bool true),de P "BaseException" 82 (.type "BaseException"),de P "BaseExceptionGroup" 83 (.type "BaseExceptionGroup"),de P "Exception" 84 (.type "Exception"),de P "GeneratorExit" 85 (.type "GeneratorExit"),de P "KeyboardInterrupt" 86 (.type "KeyboardInterrupt"),de P "SystemExit" 87 (.type "SystemExit"),de P "ArithmeticError" 88 (.type "ArithmeticError"),de P "AssertionError" 89 (.type "AssertionError"),de P "AttributeError" 90 (.type "AttributeError"),de P "BufferError" 91 (.type "BufferError"),de P "EOFError" 92 (.type "EOFError"),de P "ImportError" 93 (.type "ImportError"),de P "LookupError" 94 (.type "LookupError"),de P "MemoryError" 95 (.type "MemoryError"),de P "NameError" 96 (.type "NameError"),de P "OSError" 97 (.type "OSError"),de P "ReferenceError" 98 (.type "ReferenceError"),de P "RuntimeError" 99 (.type "RuntimeError"),de P "StopAsyncIteration" 100 (.type "StopAsyncIteration"),de P "StopIteration" 101 (.type "StopIteration"),de P "SyntaxError" 102 (.type "SyntaxError"),de P "SystemError" 103 (.type "SystemError"),de P "TypeError" 104 (.type "TypeError"),de P "ValueError" 105 (.type "ValueError"),de P "Warning" 106 (.type "Warning"),de P "FloatingPointError" 107 (.type "FloatingPointError"),de P "OverflowError" 108 (.type "OverflowError"),de P "ZeroDivisionError" 109 (.type "ZeroDivisionError"),de P "BytesWarning" 110 (.type "BytesWarning"),de P "DeprecationWarning" 111 (.type "DeprecationWarning"),de P "EncodingWarning" 112 (.type "EncodingWarning"),de P "FutureWarning" 113 (.type "FutureWarning"),de P "ImportWarning" 114 (.type "ImportWarning"),de P "PendingDeprecationWarning" 115 (.type "PendingDeprecationWarning"),de P "ResourceWarning" 116 (.type "ResourceWarning"),de P "RuntimeWarning" 117 (.type "RuntimeWarning"),de P "SyntaxWarning" 118 (.type "SyntaxWarning"),de P "UnicodeWarning" 119 (.type "UnicodeWarning"),de P "UserWarning" 120 (.type "UserWarning"),de P "BlockingIOError" 121 (.type "BlockingIOError"),de P "ChildProcessError" 122 (.type "ChildProcessError"),de P "ConnectionError" 123 (.type "ConnectionError"),de P "FileExistsError" 124 (.type "FileExistsError"),de P "FileNotFoundError" 125 (.type "FileNotFoundError"),de P "InterruptedError" 126 (.type "InterruptedError"),de P "IsADirectoryError" 127 (.type "IsADirectoryError"),de P "NotADirectoryError" 128 (.type "NotADirectoryError"),de P "PermissionError" 129 (.type "PermissionError"),de P "ProcessLookupError" 130 (.type "ProcessLookupError"),de P "TimeoutError" 131 (.type "TimeoutError"),de P "IndentationError" 132 (.type "IndentationError"),de P "_IncompleteInputError" 133 (.type "_IncompleteInputError"),de P "IndexError" 134 (.type "IndexError"),de P "KeyError" 135 (.type "KeyError"),de P "ModuleNotFoundError" 136 (.type "ModuleNotFoundError"),de P "NotImplementedError" 137 (.type "NotImplementedError"),de P "PythonFinalizationError" 138 (.type "PythonFinalizationError"),de P "RecursionError" 139 (.type "RecursionError"),de P "UnboundLocalError" 140 (.type "UnboundLocalError"),de P "UnicodeError" 141 (.type "UnicodeError"),de P "BrokenPipeError" 142 (.type "BrokenPipeError"),de P "ConnectionAbortedError" 143 (.type "ConnectionAbortedError"),de P "ConnectionRefusedError" 144 (.type "ConnectionRefusedError"),de P "ConnectionResetError" 145 (.type "ConnectionResetError"),de P "TabError" 146 (.type "TabError"),de P "UnicodeDecodeError" 147 (.type "UnicodeDecodeError"),de P "UnicodeEncodeError" 148 (.type "UnicodeEncodeError"),de P "UnicodeTranslateError" 149 (.type "UnicodeTranslateError"),de P "ExceptionGroup" 150 (.type "ExceptionGroup"),de P "EnvironmentError" 151 (.type "OSError"),de P "IOError" 152 (.type "OSError"),de P "open" 153 (.builtin "open"),de P "quit" 154 (.builtin "builtins.quit#opaque"),de P "exit" 155 (.builtin "builtins.exit#opaque"),de P "copyright" 156 (.builtin "builtins.copyright#opaque"),de P "credits" 157 (.builtin "builtins.credits#opaque"),de P "license" 158 (.builtin "builtins.license#opaque"),de P "help" 159 (.builtin "builtins.help#opaque")] 159 }
noncomputable def iI (P:Params):Obj:={ cls := .type "dict",data:=Data.dict #[de P "builtins" 162 (.ref 4),de P "__main__" 163 (.ref 5)] 2 }
noncomputable def lB (P:Params):Obj:={ cls := .none,data:=Data.dict #[] }
noncomputable def o3_0 (P:Params):Obj:={ cls := .type "dict",data:=Data.dict #[de P "__name__" 165 (.str "__main__" 164),de P "__doc__" 166 (.none),de P "__package__" 167 (.none),de P "__loader__" 168 (.builtin "__main__.__loader__#opaque"),de P "__spec__" 169 (.none),de P "__annotations__" 170 (.ref 6),de P "__builtins__" 171 (.ref 4),de P "__file__" 173 (.str "/claim/cut.py" 172),de P "__cached__" 174 (.none)] 9 }
noncomputable def jX (P:Params):Obj:={ cls := .type "module",dict:=some 0 }
noncomputable def lD (P:Params):Obj:={ cls := .type "module",dict:=some 3 }
noncomputable def lF (P:Params):Obj:={ cls := .type "dict",data:=Data.dict #[] }
noncomputable def lw (P:Params):Obj:=tO #[]
noncomputable def lE (P:Params):Obj:=nO #[]
noncomputable def lR (P:Params):Obj:=cO #[.str "<module>" 176,.str "<module>" 177,.str "/claim/cut.py" 178,.int 1 0,.int 0 0,.int 0 0,.int 0 0,.int 0 0,.ref 7,.bool false,.int 175 0,.ref 8,.none,.none,.none,.none,.int 179 0,.int 1 0,.str "/claim/cut.py" 180]
noncomputable def gA (P:Params):Obj:={ cls := .type "frame",slots:=#[some (.ref 9),some (.ref 3),some (.ref 3),none,some (.str "__main__" 164),none,some (.ref 0)] }
noncomputable def ig (P:Params):Obj:=tO #[]
noncomputable def o12_0 (P:Params):Obj:=nO #[]
noncomputable def gq (P:Params):Obj:=cO #[.str "<module>" 182,.str "<module>" 183,.str "/claim/cut.py" 184,.int 1 0,.int 0 0,.int 0 0,.int 0 0,.int 0 0,.ref 11,.bool false,.int 181 0,.ref 12,.none,.none,.none,.none,.int 185 0,.int 1 0,.str "/claim/cut.py" 186]
noncomputable def gk (P:Params):Obj:={ cls := .type "frame",slots:=#[some (.ref 13),some (.ref 3),some (.ref 3),none,some (.str "__main__" 164),none,some (.ref 0)] }
noncomputable def o3_1 (P:Params):Obj:={ cls := .type "dict",data:=Data.dict #[de P "__name__" 165 (.str "__main__" 164),de P "__doc__" 166 (.none),de P "__package__" 167 (.none),de P "__loader__" 168 (.builtin "__main__.__loader__#opaque"),de P "__spec__" 169 (.none),de P "__annotations__" 170 (.ref 6),de P "__builtins__" 171 (.ref 4),de P "__file__" 173 (.str "/claim/cut.py" 172),de P "__cached__" 174 (.none),de P "_wall" 193 (.ref 21)] 10 }
noncomputable def o12_1 (P:Params):Obj:=nO #[.int 1 0,.int 0 0,.ref 20]
noncomputable def gZ (P:Params):Obj:=tO #[]
noncomputable def ik (P:Params):Obj:=nO #[]
noncomputable def iM (P:Params):Obj:=tO #[.str "k" 190]
noncomputable def iJ (P:Params):Obj:=tO #[]
noncomputable def iV (P:Params):Obj:=fO "_wall" "_wall" 0
noncomputable def gD (P:Params):Obj:=cO #[.str "_wall" 187,.str "_wall" 188,.str "/claim/cut.py" 189,.int 1 0,.int 1 0,.int 0 0,.int 0 0,.int 3 0,.ref 15,.bool true,.int 181 0,.ref 16,.none,.ref 17,.ref 18,.ref 19,.int 191 0,.int 1 0,.str "/claim/cut.py" 192]
noncomputable def gH (P:Params):Obj:=gO "_wall" "_wall" 0 "__main__" 164 20
noncomputable def o3_2 (P:Params):Obj:={ cls := .type "dict",data:=Data.dict #[de P "__name__" 165 (.str "cpy313.colorsys" 194),de P "__doc__" 166 (.none),de P "__package__" 167 (.none),de P "__loader__" 168 (.builtin "__main__.__loader__#opaque"),de P "__spec__" 169 (.none),de P "__annotations__" 170 (.ref 6),de P "__builtins__" 171 (.ref 4),de P "__file__" 173 (.str "/claim/cut.py" 172),de P "__cached__" 174 (.none),de P "_wall" 193 (.ref 21)] 10 }
noncomputable def o3_3 (P:Params):Obj:={ cls := .type "dict",data:=Data.dict #[de P "__name__" 165 (.str "cpy313.colorsys" 194),de P "__doc__" 166 (.none),de P "__package__" 167 (.none),de P "__loader__" 168 (.builtin "__main__.__loader__#opaque"),de P "__spec__" 169 (.none),de P "__annotations__" 170 (.ref 6),de P "__builtins__" 171 (.ref 4),de P "__file__" 173 (.str "/claim/cut.py" 172),de P "__cached__" 174 (.none),de P "_wall" 193 (.ref 21),de P "ONE_THIRD" 199 (Value.float 4599676419421066581 198)] 11 }
noncomputable def o3_4 (P:Params):Obj:={ cls := .type "dict",data:=Data.dict #[de P "__name__" 165 (.str "cpy313.colorsys" 194),de P "__doc__" 166 (.none),de P "__package__" 167 (.none),de P "__loader__" 168 (.builtin "__main__.__loader__#opaque"),de P "__spec__" 169 (.none),de P "__annotations__" 170 (.ref 6),de P "__builtins__" 171 (.ref 4),de P "__file__" 173 (.str "/claim/cut.py" 172),de P "__cached__" 174 (.none),de P "_wall" 193 (.ref 21),de P "ONE_THIRD" 199 (Value.float 4599676419421066581 198),de P "ONE_SIXTH" 203 (Value.float 4595172819793696085 202)] 12 }
noncomputable def o3_5 (P:Params):Obj:={ cls := .type "dict",data:=Data.dict #[de P "__name__" 165 (.str "cpy313.colorsys" 194),de P "__doc__" 166 (.none),de P "__package__" 167 (.none),de P "__loader__" 168 (.builtin "__main__.__loader__#opaque"),de P "__spec__" 169 (.none),de P "__annotations__" 170 (.ref 6),de P "__builtins__" 171 (.ref 4),de P "__file__" 173 (.str "/claim/cut.py" 172),de P "__cached__" 174 (.none),de P "_wall" 193 (.ref 21),de P "ONE_THIRD" 199 (Value.float 4599676419421066581 198),de P "ONE_SIXTH" 203 (Value.float 4595172819793696085 202),de P "TWO_THIRD" 207 (Value.float 4604180019048437077 206)] 13 }
noncomputable def o3_6 (P:Params):Obj:={ cls := .type "dict",data:=Data.dict #[de P "__name__" 165 (.str "cpy313.colorsys" 194),de P "__doc__" 166 (.none),de P "__package__" 167 (.none),de P "__loader__" 168 (.builtin "__main__.__loader__#opaque"),de P "__spec__" 169 (.none),de P "__annotations__" 170 (.ref 6),de P "__builtins__" 171 (.ref 4),de P "__file__" 173 (.str "/claim/cut.py" 172),de P "__cached__" 174 (.none),de P "_wall" 193 (.ref 21),de P "ONE_THIRD" 199 (Value.float 4599676419421066581 198),de P "ONE_SIXTH" 203 (Value.float 4595172819793696085 202),de P "TWO_THIRD" 207 (Value.float 4604180019048437077 206),de P "rgb_to_hls" 226 (.ref 28)] 14 }
noncomputable def o12_2 (P:Params):Obj:=nO #[.int 1 0,.int 0 0,.ref 20,.int 8 0,.int 0 0,.ref 27]
noncomputable def ie (P:Params):Obj:=tO #[]
noncomputable def gY (P:Params):Obj:=nO #[]
noncomputable def gW (P:Params):Obj:=tO #[.str "r" 211,.str "g" 212,.str "b" 213,.str "maxc" 214,.str "minc" 215,.str "sumc" 216,.str "rangec" 217,.str "l" 218,.str "s" 219,.str "rc" 220,.str "gc" 221,.str "bc" 222,.str "h" 223]
noncomputable def iT (P:Params):Obj:=tO #[]
noncomputable def iY (P:Params):Obj:=fO "rgb_to_hls" "rgb_to_hls" 5
noncomputable def jj (P:Params):Obj:=cO #[.str "rgb_to_hls" 208,.str "rgb_to_hls" 209,.str "/claim/cut.py" 210,.int 8 0,.int 3 0,.int 0 0,.int 0 0,.int 3 0,.ref 22,.bool true,.int 181 0,.ref 23,.none,.ref 24,.ref 25,.ref 26,.int 224 0,.int 8 0,.str "/claim/cut.py" 225]
noncomputable def gm (P:Params):Obj:=gO "rgb_to_hls" "rgb_to_hls" 5 "cpy313.colorsys" 194 27
noncomputable def o3_7 (P:Params):Obj:={ cls := .type "dict",data:=Data.dict #[de P "__name__" 165 (.str "cpy313.colorsys" 194),de P "__doc__" 166 (.none),de P "__package__" 167 (.none),de P "__loader__" 168 (.builtin "__main__.__loader__#opaque"),de P "__spec__" 169 (.none),de P "__annotations__" 170 (.ref 6),de P "__builtins__" 171 (.ref 4),de P "__file__" 173 (.str "/claim/cut.py" 172),de P "__cached__" 174 (.none),de P "_wall" 193 (.ref 21),de P "ONE_THIRD" 199 (Value.float 4599676419421066581 198),de P "ONE_SIXTH" 203 (Value.float 4595172819793696085 202),de P "TWO_THIRD" 207 (Value.float 4604180019048437077 206),de P "rgb_to_hls" 226 (.ref 28),de P "hls_to_rgb" 237 (.ref 35)] 15 }
noncomputable def o12_3 (P:Params):Obj:=nO #[.int 1 0,.int 0 0,.ref 20,.int 8 0,.int 0 0,.ref 27,.int 31 0,.int 0 0,.ref 34]
noncomputable def iQ (P:Params):Obj:=tO #[]
noncomputable def iG (P:Params):Obj:=nO #[]
noncomputable def ji (P:Params):Obj:=tO #[.str "h" 230,.str "l" 231,.str "s" 232,.str "m2" 233,.str "m1" 234]
noncomputable def jq (P:Params):Obj:=tO #[]
noncomputable def jK (P:Params):Obj:=fO "hls_to_rgb" "hls_to_rgb" 6
noncomputable def jG (P:Params):Obj:=cO #[.str "hls_to_rgb" 227,.str "hls_to_rgb" 228,.str "/claim/cut.py" 229,.int 31 0,.int 3 0,.int 0 0,.int 0 0,.int 3 0,.ref 29,.bool true,.int 181 0,.ref 30,.none,.ref 31,.ref 32,.ref 33,.int 235 0,.int 31 0,.str "/claim/cut.py" 236]
noncomputable def iR (P:Params):Obj:=gO "hls_to_rgb" "hls_to_rgb" 6 "cpy313.colorsys" 194 34
noncomputable def o3_8 (P:Params):Obj:={ cls := .type "dict",data:=Data.dict #[de P "__name__" 165 (.str "cpy313.colorsys" 194),de P "__doc__" 166 (.none),de P "__package__" 167 (.none),de P "__loader__" 168 (.builtin "__main__.__loader__#opaque"),de P "__spec__" 169 (.none),de P "__annotations__" 170 (.ref 6),de P "__builtins__" 171 (.ref 4),de P "__file__" 173 (.str "/claim/cut.py" 172),de P "__cached__" 174 (.none),de P "_wall" 193 (.ref 21),de P "ONE_THIRD" 199 (Value.float 4599676419421066581 198),de P "ONE_SIXTH" 203 (Value.float 4595172819793696085 202),de P "TWO_THIRD" 207 (Value.float 4604180019048437077 206),de P "rgb_to_hls" 226 (.ref 28),de P "hls_to_rgb" 237 (.ref 35),de P "_v" 246 (.ref 42)] 16 }
noncomputable def o12_4 (P:Params):Obj:=nO #[.int 1 0,.int 0 0,.ref 20,.int 8 0,.int 0 0,.ref 27,.int 31 0,.int 0 0,.ref 34,.int 40 0,.int 0 0,.ref 41]
noncomputable def jn (P:Params):Obj:=tO #[]
noncomputable def jm (P:Params):Obj:=nO #[]
noncomputable def jk (P:Params):Obj:=tO #[.str "m1" 241,.str "m2" 242,.str "hue" 243]
noncomputable def jo (P:Params):Obj:=tO #[]
noncomputable def jh (P:Params):Obj:=fO "_v" "_v" 7
noncomputable def jT (P:Params):Obj:=cO #[.str "_v" 238,.str "_v" 239,.str "/claim/cut.py" 240,.int 40 0,.int 3 0,.int 0 0,.int 0 0,.int 3 0,.ref 36,.bool true,.int 181 0,.ref 37,.none,.ref 38,.ref 39,.ref 40,.int 244 0,.int 40 0,.str "/claim/cut.py" 245]
noncomputable def iZ (P:Params):Obj:=gO "_v" "_v" 7 "cpy313.colorsys" 194 41
noncomputable def o3_9 (P:Params):Obj:={ cls := .type "dict",data:=Data.dict #[de P "__name__" 165 (.str "cpy313.colorsys" 194),de P "__doc__" 166 (.none),de P "__package__" 167 (.none),de P "__loader__" 168 (.builtin "__main__.__loader__#opaque"),de P "__spec__" 169 (.none),de P "__annotations__" 170 (.ref 6),de P "__builtins__" 171 (.ref 4),de P "__file__" 173 (.str "/claim/cut.py" 172),de P "__cached__" 174 (.none),de P "_wall" 193 (.ref 21),de P "ONE_THIRD" 199 (Value.float 4599676419421066581 198),de P "ONE_SIXTH" 203 (Value.float 4595172819793696085 202),de P "TWO_THIRD" 207 (Value.float 4604180019048437077 206),de P "rgb_to_hls" 226 (.ref 28),de P "hls_to_rgb" 237 (.ref 35),de P "_v" 246 (.ref 42),de P "rgb_to_hsv" 264 (.ref 49)] 17 }
noncomputable def o12_5 (P:Params):Obj:=nO #[.int 1 0,.int 0 0,.ref 20,.int 8 0,.int 0 0,.ref 27,.int 31 0,.int 0 0,.ref 34,.int 40 0,.int 0 0,.ref 41,.int 49 0,.int 0 0,.ref 48]
noncomputable def kY (P:Params):Obj:=tO #[]
noncomputable def jR (P:Params):Obj:=nO #[]
noncomputable def jU (P:Params):Obj:=tO #[.str "r" 250,.str "g" 251,.str "b" 252,.str "maxc" 253,.str "minc" 254,.str "rangec" 255,.str "v" 256,.str "s" 257,.str "rc" 258,.str "gc" 259,.str "bc" 260,.str "h" 261]
noncomputable def jJ (P:Params):Obj:=tO #[]
noncomputable def lg (P:Params):Obj:=fO "rgb_to_hsv" "rgb_to_hsv" 8
noncomputable def j4 (P:Params):Obj:=cO #[.str "rgb_to_hsv" 247,.str "rgb_to_hsv" 248,.str "/claim/cut.py" 249,.int 49 0,.int 3 0,.int 0 0,.int 0 0,.int 3 0,.ref 43,.bool true,.int 181 0,.ref 44,.none,.ref 45,.ref 46,.ref 47,.int 262 0,.int 49 0,.str "/claim/cut.py" 263]
noncomputable def jN (P:Params):Obj:=gO "rgb_to_hsv" "rgb_to_hsv" 8 "cpy313.colorsys" 194 48
noncomputable def o3_10 (P:Params):Obj:={ cls := .type "dict",data:=Data.dict #[de P "__name__" 165 (.str "cpy313.colorsys" 194),de P "__doc__" 166 (.none),de P "__package__" 167 (.none),de P "__loader__" 168 (.builtin "__main__.__loader__#opaque"),de P "__spec__" 169 (.none),de P "__annotations__" 170 (.ref 6),de P "__builtins__" 171 (.ref 4),de P "__file__" 173 (.str "/claim/cut.py" 172),de P "__cached__" 174 (.none),de P "_wall" 193 (.ref 21),de P "ONE_THIRD" 199 (Value.float 4599676419421066581 198),de P "ONE_SIXTH" 203 (Value.float 4595172819793696085 202),de P "TWO_THIRD" 207 (Value.float 4604180019048437077 206),de P "rgb_to_hls" 226 (.ref 28),de P "hls_to_rgb" 237 (.ref 35),de P "_v" 246 (.ref 42),de P "rgb_to_hsv" 264 (.ref 49),de P "hsv_to_rgb" 278 (.ref 56)] 18 }
noncomputable def XJ (P:Params):Obj:=nO #[.int 1 0,.int 0 0,.ref 20,.int 8 0,.int 0 0,.ref 27,.int 31 0,.int 0 0,.ref 34,.int 40 0,.int 0 0,.ref 41,.int 49 0,.int 0 0,.ref 48,.int 68 0,.int 0 0,.ref 55]
noncomputable def lV (P:Params):Obj:=tO #[]
noncomputable def lX (P:Params):Obj:=nO #[]
noncomputable def j8 (P:Params):Obj:=tO #[.str "h" 268,.str "s" 269,.str "v" 270,.str "i" 271,.str "f" 272,.str "p" 273,.str "q" 274,.str "t" 275]
noncomputable def km (P:Params):Obj:=tO #[]
noncomputable def lr (P:Params):Obj:=fO "hsv_to_rgb" "hsv_to_rgb" 9
noncomputable def lq (P:Params):Obj:=cO #[.str "hsv_to_rgb" 265,.str "hsv_to_rgb" 266,.str "/claim/cut.py" 267,.int 68 0,.int 3 0,.int 0 0,.int 0 0,.int 3 0,.ref 50,.bool true,.int 181 0,.ref 51,.none,.ref 52,.ref 53,.ref 54,.int 276 0,.int 68 0,.str "/claim/cut.py" 277]
noncomputable def jg (P:Params):Obj:=gO "hsv_to_rgb" "hsv_to_rgb" 9 "cpy313.colorsys" 194 55
noncomputable def o3_11 (P:Params):Obj:={ cls := .type "dict",data:=Data.dict #[de P "__name__" 165 (.str "cpy313.stringprep" 279),de P "__doc__" 166 (.none),de P "__package__" 167 (.none),de P "__loader__" 168 (.builtin "__main__.__loader__#opaque"),de P "__spec__" 169 (.none),de P "__annotations__" 170 (.ref 6),de P "__builtins__" 171 (.ref 4),de P "__file__" 173 (.str "/claim/cut.py" 172),de P "__cached__" 174 (.none),de P "_wall" 193 (.ref 21),de P "ONE_THIRD" 199 (Value.float 4599676419421066581 198),de P "ONE_SIXTH" 203 (Value.float 4595172819793696085 202),de P "TWO_THIRD" 207 (Value.float 4604180019048437077 206),de P "rgb_to_hls" 226 (.ref 28),de P "hls_to_rgb" 237 (.ref 35),de P "_v" 246 (.ref 42),de P "rgb_to_hsv" 264 (.ref 49),de P "hsv_to_rgb" 278 (.ref 56)] 18 }
noncomputable def o3_12 (P:Params):Obj:={ cls := .type "dict",data:=Data.dict #[de P "__name__" 165 (.str "cpy313.stringprep" 279),de P "__doc__" 166 (.none),de P "__package__" 167 (.none),de P "__loader__" 168 (.builtin "__main__.__loader__#opaque"),de P "__spec__" 169 (.none),de P "__annotations__" 170 (.ref 6),de P "__builtins__" 171 (.ref 4),de P "__file__" 173 (.str "/claim/cut.py" 172),de P "__cached__" 174 (.none),de P "_wall" 193 (.ref 21),de P "ONE_THIRD" 199 (Value.float 4599676419421066581 198),de P "ONE_SIXTH" 203 (Value.float 4595172819793696085 202),de P "TWO_THIRD" 207 (Value.float 4604180019048437077 206),de P "rgb_to_hls" 226 (.ref 28),de P "hls_to_rgb" 237 (.ref 35),de P "_v" 246 (.ref 42),de P "rgb_to_hsv" 264 (.ref 49),de P "hsv_to_rgb" 278 (.ref 56),de P "b1_set" 340 (.ref 64)] 19 }
noncomputable def my (P:Params):Obj:={ cls := .type "list",data:=Data.seq #[.int 173 281,.int 847 282,.int 6150 283,.int 6155 284,.int 6156 285,.int 6157 286,.int 8203 287,.int 8204 288,.int 8205 289,.int 8288 290,.int 65279 291] }
noncomputable def lZ (P:Params):Obj:={ cls := .type "range",data:=Data.fields #[.int 65024 292,.int 65040 293,.int 1 294] }
noncomputable def nA (P:Params):Obj:={ cls := .type "list",data:=Data.seq #[.int 65024 297,.int 65025 298,.int 65026 299,.int 65027 300,.int 65028 301,.int 65029 302,.int 65030 303,.int 65031 304,.int 65032 305,.int 65033 306,.int 65034 307,.int 65035 308,.int 65036 309,.int 65037 310,.int 65038 311,.int 65039 312] 18 }
noncomputable def lK (P:Params):Obj:={ cls := .type "range_iterator",data:=Data.fields #[.int 65040 0,.int 0 0,.int 1 0] }
noncomputable def lG (P:Params):Obj:=tO #[]
noncomputable def lN (P:Params):Obj:={ cls := .type "StopIteration",data:=Data.fields #[.ref 61,.none,.none,.none,.bool false,.none] }
noncomputable def nD (P:Params):Obj:={ cls := .type "list",data:=Data.seq #[.int 173 281,.int 847 282,.int 6150 283,.int 6155 284,.int 6156 285,.int 6157 286,.int 8203 287,.int 8204 288,.int 8205 289,.int 8288 290,.int 65279 291,.int 65024 297,.int 65025 298,.int 65026 299,.int 65027 300,.int 65028 301,.int 65029 302,.int 65030 303,.int 65031 304,.int 65032 305,.int 65033 306,.int 65034 307,.int 65035 308,.int 65036 309,.int 65037 310,.int 65038 311,.int 65039 312] }
noncomputable def lL (P:Params):Obj:={ cls := .type "set",data:=Data.set #[(65024,.int 65024 297),(65025,.int 65025 298),(65026,.int 65026 299),(65027,.int 65027 300),(65028,.int 65028 301),(65029,.int 65029 302),(6150,.int 6150 283),(65030,.int 65030 303),(65031,.int 65031 304),(65032,.int 65032 305),(65033,.int 65033 306),(6155,.int 6155 284),(6156,.int 6156 285),(6157,.int 6157 286),(8203,.int 8203 287),(8204,.int 8204 288),(8205,.int 8205 289),(65034,.int 65034 307),(65035,.int 65035 308),(65036,.int 65036 309),(65037,.int 65037 310),(65038,.int 65038 311),(65039,.int 65039 312),(173,.int 173 281),(847,.int 847 282),(8288,.int 8288 290),(65279,.int 65279 291)] 29 { mask:=127,place:=#[0,1,2,3,4,5,6,7,8,9,10,11,12,13,14,15,16,17,18,19,20,21,22,45,79,96,127],dummies:=#[],finger:=0,led:=noLed P,moves:=2,plain:=Bool.true } }
noncomputable def nM (P:Params):Obj:={ cls := .type "list_iterator",data:=Data.fields #[.none,.int 27 0] }
noncomputable def nj (P:Params):Obj:=tO #[]
noncomputable def nG (P:Params):Obj:={ cls := .type "StopIteration",data:=Data.fields #[.ref 66,.none,.none,.none,.bool false,.none] }
noncomputable def XR (P:Params):Obj:={ cls := .type "dict",data:=Data.dict #[de P "__name__" 165 (.str "cpy313.stringprep" 279),de P "__doc__" 166 (.none),de P "__package__" 167 (.none),de P "__loader__" 168 (.builtin "__main__.__loader__#opaque"),de P "__spec__" 169 (.none),de P "__annotations__" 170 (.ref 6),de P "__builtins__" 171 (.ref 4),de P "__file__" 173 (.str "/claim/cut.py" 172),de P "__cached__" 174 (.none),de P "_wall" 193 (.ref 21),de P "ONE_THIRD" 199 (Value.float 4599676419421066581 198),de P "ONE_SIXTH" 203 (Value.float 4595172819793696085 202),de P "TWO_THIRD" 207 (Value.float 4604180019048437077 206),de P "rgb_to_hls" 226 (.ref 28),de P "hls_to_rgb" 237 (.ref 35),de P "_v" 246 (.ref 42),de P "rgb_to_hsv" 264 (.ref 49),de P "hsv_to_rgb" 278 (.ref 56),de P "b1_set" 340 (.ref 64),de P "in_table_b1" 347 (.ref 74)] 20 }
noncomputable def Rz (P:Params):Obj:=nO #[.int 1 0,.int 0 0,.ref 20,.int 8 0,.int 0 0,.ref 27,.int 31 0,.int 0 0,.ref 34,.int 40 0,.int 0 0,.ref 41,.int 49 0,.int 0 0,.ref 48,.int 68 0,.int 0 0,.ref 55,.int 91 0,.int 0 0,.ref 73]
noncomputable def nH (P:Params):Obj:=tO #[]
noncomputable def ni (P:Params):Obj:=nO #[]
noncomputable def m9 (P:Params):Obj:=tO #[.str "code" 344]
noncomputable def nQ (P:Params):Obj:=tO #[]
noncomputable def nq (P:Params):Obj:=fO "in_table_b1" "in_table_b1" 12
noncomputable def nF (P:Params):Obj:=cO #[.str "in_table_b1" 341,.str "in_table_b1" 342,.str "/claim/cut.py" 343,.int 91 0,.int 1 0,.int 0 0,.int 0 0,.int 3 0,.ref 68,.bool true,.int 181 0,.ref 69,.none,.ref 70,.ref 71,.ref 72,.int 345 0,.int 91 0,.str "/claim/cut.py" 346]
noncomputable def j7 (P:Params):Obj:=gO "in_table_b1" "in_table_b1" 12 "cpy313.stringprep" 279 73
noncomputable def o3_14 (P:Params):Obj:={ cls := .type "dict",data:=Data.dict #[de P "__name__" 165 (.str "cpy313.stringprep" 279),de P "__doc__" 166 (.none),de P "__package__" 167 (.none),de P "__loader__" 168 (.builtin "__main__.__loader__#opaque"),de P "__spec__" 169 (.none),de P "__annotations__" 170 (.ref 6),de P "__builtins__" 171 (.ref 4),de P "__file__" 173 (.str "/claim/cut.py" 172),de P "__cached__" 174 (.none),de P "_wall" 193 (.ref 21),de P "ONE_THIRD" 199 (Value.float 4599676419421066581 198),de P "ONE_SIXTH" 203 (Value.float 4595172819793696085 202),de P "TWO_THIRD" 207 (Value.float 4604180019048437077 206),de P "rgb_to_hls" 226 (.ref 28),de P "hls_to_rgb" 237 (.ref 35),de P "_v" 246 (.ref 42),de P "rgb_to_hsv" 264 (.ref 49),de P "hsv_to_rgb" 278 (.ref 56),de P "b1_set" 340 (.ref 64),de P "in_table_b1" 347 (.ref 74),de P "b3_exceptions" 2298 (.ref 75)] 21 }
noncomputable def o3_15 (P:Params):Obj:={ cls := .type "dict",data:=Data.dict #[de P "__name__" 165 (.str "cpy313.stringprep" 279),de P "__doc__" 166 (.none),de P "__package__" 167 (.none),de P "__loader__" 168 (.builtin "__main__.__loader__#opaque"),de P "__spec__" 169 (.none),de P "__annotations__" 170 (.ref 6),de P "__builtins__" 171 (.ref 4),de P "__file__" 173 (.str "/claim/cut.py" 172),de P "__cached__" 174 (.none),de P "_wall" 193 (.ref 21),de P "ONE_THIRD" 199 (Value.float 4599676419421066581 198),de P "ONE_SIXTH" 203 (Value.float 4595172819793696085 202),de P "TWO_THIRD" 207 (Value.float 4604180019048437077 206),de P "rgb_to_hls" 226 (.ref 28),de P "hls_to_rgb" 237 (.ref 35),de P "_v" 246 (.ref 42),de P "rgb_to_hsv" 264 (.ref 49),de P "hsv_to_rgb" 278 (.ref 56),de P "b1_set" 340 (.ref 64),de P "in_table_b1" 347 (.ref 74),de P "b3_exceptions" 2298 (.ref 75),de P "map_table_b3" 2306 (.ref 120)] 22 }
noncomputable def Xo (P:Params):Obj:=nO #[.int 1 0,.int 0 0,.ref 20,.int 8 0,.int 0 0,.ref 27,.int 31 0,.int 0 0,.ref 34,.int 40 0,.int 0 0,.ref 41,.int 49 0,.int 0 0,.ref 48,.int 68 0,.int 0 0,.ref 55,.int 91 0,.int 0 0,.ref 73,.int 94 0,.int 0 0,.ref 119]
noncomputable def mU (P:Params):Obj:=tO #[]
noncomputable def m7 (P:Params):Obj:=nO #[]
noncomputable def mF (P:Params):Obj:=tO #[.str "code" 2302,.str "r" 2303]
noncomputable def mQ (P:Params):Obj:=tO #[]
noncomputable def m8 (P:Params):Obj:=fO "map_table_b3" "map_table_b3" 14
noncomputable def mG (P:Params):Obj:=cO #[.str "map_table_b3" 2299,.str "map_table_b3" 2300,.str "/claim/cut.py" 2301,.int 94 0,.int 1 0,.int 0 0,.int 0 0,.int 3 0,.ref 114,.bool true,.int 181 0,.ref 115,.none,.ref 116,.ref 117,.ref 118,.int 2304 0,.int 94 0,.str "/claim/cut.py" 2305]
noncomputable def jO (P:Params):Obj:=gO "map_table_b3" "map_table_b3" 14 "cpy313.stringprep" 279 119
noncomputable def o3_16 (P:Params):Obj:={ cls := .type "dict",data:=Data.dict #[de P "__name__" 165 (.str "cpy313.tabnanny" 2307),de P "__doc__" 166 (.none),de P "__package__" 167 (.none),de P "__loader__" 168 (.builtin "__main__.__loader__#opaque"),de P "__spec__" 169 (.none),de P "__annotations__" 170 (.ref 6),de P "__builtins__" 171 (.ref 4),de P "__file__" 173 (.str "/claim/cut.py" 172),de P "__cached__" 174 (.none),de P "_wall" 193 (.ref 21),de P "ONE_THIRD" 199 (Value.float 4599676419421066581 198),de P "ONE_SIXTH" 203 (Value.float 4595172819793696085 202),de P "TWO_THIRD" 207 (Value.float 4604180019048437077 206),de P "rgb_to_hls" 226 (.ref 28),de P "hls_to_rgb" 237 (.ref 35),de P "_v" 246 (.ref 42),de P "rgb_to_hsv" 264 (.ref 49),de P "hsv_to_rgb" 278 (.ref 56),de P "b1_set" 340 (.ref 64),de P "in_table_b1" 347 (.ref 74),de P "b3_exceptions" 2298 (.ref 75),de P "map_table_b3" 2306 (.ref 120)] 22 }
noncomputable def o3_17 (P:Params):Obj:={ cls := .type "dict",data:=Data.dict #[de P "__name__" 165 (.str "cpy313.tabnanny" 2307),de P "__doc__" 166 (.none),de P "__package__" 167 (.none),de P "__loader__" 168 (.builtin "__main__.__loader__#opaque"),de P "__spec__" 169 (.none),de P "__annotations__" 170 (.ref 6),de P "__builtins__" 171 (.ref 4),de P "__file__" 173 (.str "/claim/cut.py" 172),de P "__cached__" 174 (.none),de P "_wall" 193 (.ref 21),de P "ONE_THIRD" 199 (Value.float 4599676419421066581 198),de P "ONE_SIXTH" 203 (Value.float 4595172819793696085 202),de P "TWO_THIRD" 207 (Value.float 4604180019048437077 206),de P "rgb_to_hls" 226 (.ref 28),de P "hls_to_rgb" 237 (.ref 35),de P "_v" 246 (.ref 42),de P "rgb_to_hsv" 264 (.ref 49),de P "hsv_to_rgb" 278 (.ref 56),de P "b1_set" 340 (.ref 64),de P "in_table_b1" 347 (.ref 74),de P "b3_exceptions" 2298 (.ref 75),de P "map_table_b3" 2306 (.ref 120),de P "Whitespace" 2408 (.ref 182)] 23 }
noncomputable def X8 (P:Params):Obj:=nO #[.int 1 0,.int 0 0,.ref 20,.int 8 0,.int 0 0,.ref 27,.int 31 0,.int 0 0,.ref 34,.int 40 0,.int 0 0,.ref 41,.int 49 0,.int 0 0,.ref 48,.int 68 0,.int 0 0,.ref 55,.int 91 0,.int 0 0,.ref 73,.int 94 0,.int 0 0,.ref 119,.int 100 0,.int 0 0,.ref 126]
noncomputable def sU (P:Params):Obj:=tO #[]
noncomputable def rI (P:Params):Obj:={ cls := .type "builtin_function_or_method",data:=Data.fields #[.builtin "type.__prepare__",.type "type"] }
noncomputable def qQ (P:Params):Obj:={ cls := .type "dict",data:=Data.dict #[de P "__module__" 2316 (.str "cpy313.tabnanny" 2307),de P "__qualname__" 2318 (.str "Whitespace" 2317),de P "__firstlineno__" 2320 (.int 100 2319),de P "S" 2324 (.str " " 2322),de P "T" 2325 (.str "\t" 2323),de P "__init__" 2340 (.ref 137),de P "longest_run_of_spaces" 2349 (.ref 144),de P "indent_level" 2361 (.ref 151),de P "equal" 2369 (.ref 158),de P "not_equal_witness" 2377 (.ref 165),de P "less" 2387 (.ref 172),de P "not_less_witness" 2395 (.ref 179),de P "__static_attributes__" 2401 (.ref 180)] 13 }
noncomputable def ql (P:Params):Obj:=tO #[]
noncomputable def sO (P:Params):Obj:=nO #[.int 103 0,.int 4 0,.ref 136,.int 126 0,.int 4 0,.ref 143,.int 130 0,.int 4 0,.ref 150,.int 137 0,.int 4 0,.ref 157,.int 140 0,.int 4 0,.ref 164,.int 143 0,.int 4 0,.ref 171,.int 154 0,.int 4 0,.ref 178]
noncomputable def qi (P:Params):Obj:=cO #[.str "Whitespace" 2311,.str "Whitespace" 2312,.str "/claim/cut.py" 2313,.int 100 0,.int 0 0,.int 0 0,.int 0 0,.int 0 0,.ref 124,.bool false,.int 181 0,.ref 125,.none,.none,.none,.none,.int 2314 0,.int 100 0,.str "/claim/cut.py" 2315]
noncomputable def sZ (P:Params):Obj:={ cls := .type "frame",slots:=#[some (.ref 126),some (.ref 3),some (.ref 123),none,some (.str "cpy313.tabnanny" 2307),none,some (.ref 0)] }
noncomputable def qG (P:Params):Obj:={ cls := .type "str_ascii_iterator",data:=Data.fields #[.none,.int 2 0] }
noncomputable def pX (P:Params):Obj:=tO #[]
noncomputable def rD (P:Params):Obj:={ cls := .type "StopIteration",data:=Data.fields #[.ref 129,.none,.none,.none,.bool false,.none] }
noncomputable def sW (P:Params):Obj:=tO #[]
noncomputable def s6 (P:Params):Obj:=nO #[]
noncomputable def qR (P:Params):Obj:=tO #[.str "self" 2329,.str "ws" 2330,.str "S" 2331,.str "T" 2332,.str "count" 2333,.str "b" 2334,.str "n" 2335,.str "nt" 2336,.str "ch" 2337]
noncomputable def rY (P:Params):Obj:=tO #[]
noncomputable def rW (P:Params):Obj:=fO "__init__" "Whitespace.__init__" 101
noncomputable def su (P:Params):Obj:=cO #[.str "__init__" 2326,.str "Whitespace.__init__" 2327,.str "/claim/cut.py" 2328,.int 103 0,.int 2 0,.int 0 0,.int 0 0,.int 3 0,.ref 131,.bool true,.int 181 0,.ref 132,.none,.ref 133,.ref 134,.ref 135,.int 2338 0,.int 103 0,.str "/claim/cut.py" 2339]
noncomputable def mZ (P:Params):Obj:=gO "__init__" "Whitespace.__init__" 101 "cpy313.tabnanny" 2307 136
noncomputable def sY (P:Params):Obj:=tO #[]
noncomputable def qD (P:Params):Obj:=nO #[]
noncomputable def rU (P:Params):Obj:=tO #[.str "self" 2344,.str "count" 2345,.str "trailing" 2346]
noncomputable def pR (P:Params):Obj:=tO #[]
noncomputable def pU (P:Params):Obj:=fO "longest_run_of_spaces" "Whitespace.longest_run_of_spaces" 102
noncomputable def qy (P:Params):Obj:=cO #[.str "longest_run_of_spaces" 2341,.str "Whitespace.longest_run_of_spaces" 2342,.str "/claim/cut.py" 2343,.int 126 0,.int 1 0,.int 0 0,.int 0 0,.int 3 0,.ref 138,.bool true,.int 181 0,.ref 139,.none,.ref 140,.ref 141,.ref 142,.int 2347 0,.int 126 0,.str "/claim/cut.py" 2348]
noncomputable def mL (P:Params):Obj:=gO "longest_run_of_spaces" "Whitespace.longest_run_of_spaces" 102 "cpy313.tabnanny" 2307 143
noncomputable def qj (P:Params):Obj:=tO #[]
noncomputable def rT (P:Params):Obj:=nO #[]
noncomputable def qd (P:Params):Obj:=tO #[.str "self" 2353,.str "tabsize" 2354,.str "count" 2355,.str "trailing" 2356,.str "il" 2357,.str "i" 2358]
noncomputable def q9 (P:Params):Obj:=tO #[]
noncomputable def qH (P:Params):Obj:=fO "indent_level" "Whitespace.indent_level" 103
noncomputable def qe (P:Params):Obj:=cO #[.str "indent_level" 2350,.str "Whitespace.indent_level" 2351,.str "/claim/cut.py" 2352,.int 130 0,.int 2 0,.int 0 0,.int 0 0,.int 3 0,.ref 145,.bool true,.int 181 0,.ref 146,.none,.ref 147,.ref 148,.ref 149,.int 2359 0,.int 130 0,.str "/claim/cut.py" 2360]
noncomputable def mC (P:Params):Obj:=gO "indent_level" "Whitespace.indent_level" 103 "cpy313.tabnanny" 2307 150
noncomputable def qP (P:Params):Obj:=tO #[]
noncomputable def sE (P:Params):Obj:=nO #[]
noncomputable def sV (P:Params):Obj:=tO #[.str "self" 2365,.str "other" 2366]
noncomputable def qx (P:Params):Obj:=tO #[]
noncomputable def qI (P:Params):Obj:=fO "equal" "Whitespace.equal" 104
noncomputable def qJ (P:Params):Obj:=cO #[.str "equal" 2362,.str "Whitespace.equal" 2363,.str "/claim/cut.py" 2364,.int 137 0,.int 2 0,.int 0 0,.int 0 0,.int 3 0,.ref 152,.bool true,.int 181 0,.ref 153,.none,.ref 154,.ref 155,.ref 156,.int 2367 0,.int 137 0,.str "/claim/cut.py" 2368]
noncomputable def qY (P:Params):Obj:=gO "equal" "Whitespace.equal" 104 "cpy313.tabnanny" 2307 157
noncomputable def qK (P:Params):Obj:=tO #[]
noncomputable def rQ (P:Params):Obj:=nO #[]
noncomputable def sI (P:Params):Obj:=tO #[.str "self" 2373,.str "other" 2374]
noncomputable def rA (P:Params):Obj:=tO #[]
noncomputable def qF (P:Params):Obj:=fO "not_equal_witness" "Whitespace.not_equal_witness" 105
noncomputable def qU (P:Params):Obj:=cO #[.str "not_equal_witness" 2370,.str "Whitespace.not_equal_witness" 2371,.str "/claim/cut.py" 2372,.int 140 0,.int 2 0,.int 0 0,.int 0 0,.int 3 0,.ref 159,.bool true,.int 181 0,.ref 160,.none,.ref 161,.ref 162,.ref 163,.int 2375 0,.int 140 0,.str "/claim/cut.py" 2376]
noncomputable def rR (P:Params):Obj:=gO "not_equal_witness" "Whitespace.not_equal_witness" 105 "cpy313.tabnanny" 2307 164
noncomputable def rF (P:Params):Obj:=tO #[]
noncomputable def pW (P:Params):Obj:=nO #[]
noncomputable def pM (P:Params):Obj:=tO #[.str "self" 2381,.str "other" 2382,.str "n" 2383,.str "ts" 2384]
noncomputable def qt (P:Params):Obj:=tO #[]
noncomputable def sJ (P:Params):Obj:=fO "less" "Whitespace.less" 106
noncomputable def qO (P:Params):Obj:=cO #[.str "less" 2378,.str "Whitespace.less" 2379,.str "/claim/cut.py" 2380,.int 143 0,.int 2 0,.int 0 0,.int 0 0,.int 3 0,.ref 166,.bool true,.int 181 0,.ref 167,.none,.ref 168,.ref 169,.ref 170,.int 2385 0,.int 143 0,.str "/claim/cut.py" 2386]
noncomputable def mJ (P:Params):Obj:=gO "less" "Whitespace.less" 106 "cpy313.tabnanny" 2307 171
noncomputable def rN (P:Params):Obj:=tO #[]
noncomputable def sX (P:Params):Obj:=nO #[]
noncomputable def sS (P:Params):Obj:=tO #[.str "self" 2391,.str "other" 2392]
noncomputable def qw (P:Params):Obj:=tO #[]
noncomputable def rB (P:Params):Obj:=fO "not_less_witness" "Whitespace.not_less_witness" 107
noncomputable def qC (P:Params):Obj:=cO #[.str "not_less_witness" 2388,.str "Whitespace.not_less_witness" 2389,.str "/claim/cut.py" 2390,.int 154 0,.int 2 0,.int 0 0,.int 0 0,.int 3 0,.ref 173,.bool true,.int 181 0,.ref 174,.none,.ref 175,.ref 176,.ref 177,.int 2393 0,.int 154 0,.str "/claim/cut.py" 2394]
noncomputable def pO (P:Params):Obj:=gO "not_less_witness" "Whitespace.not_less_witness" 107 "cpy313.tabnanny" 2307 178
noncomputable def qL (P:Params):Obj:=tO #[.str "is_simple" 2396,.str "n" 2397,.str "norm" 2398,.str "nt" 2399,.str "raw" 2400]
noncomputable def s7 (P:Params):Obj:={ cls := .type "dict",data:=Data.dict #[de P "__module__" 2316 (.str "cpy313.tabnanny" 2307),de P "__firstlineno__" 2320 (.int 100 2319),de P "S" 2324 (.str " " 2322),de P "T" 2325 (.str "\t" 2323),de P "__init__" 2340 (.ref 137),de P "longest_run_of_spaces" 2349 (.ref 144),de P "indent_level" 2361 (.ref 151),de P "equal" 2369 (.ref 158),de P "not_equal_witness" 2377 (.ref 165),de P "less" 2387 (.ref 172),de P "not_less_witness" 2395 (.ref 179),de P "__static_attributes__" 2401 (.ref 180),de P "__dict__" 2403 (.ref 183),de P "__weakref__" 2405 (.ref 184),de P "__doc__" 2406 (.none)] 4 }
noncomputable def pZ (P:Params):Obj:={ cls := .type "type",data:=Data.cls { name := "Whitespace",bases:=[.type "object"],mro:=[.ref 182,.type "object"],ns:=181,qualname := "Whitespace" },slots:=#[none,none,some (.str "Whitespace" 2309),some (.str "Whitespace" 2317),some (.builtin "object.__new__"),some (.bool true)] }
noncomputable def qX (P:Params):Obj:={ cls := .type "getset_descriptor",data:=Data.fields #[.str "__dict__" 2402,.ref 182,.builtin "function.__dict__",.builtin "function.__dict__#set"] }
noncomputable def sG (P:Params):Obj:={ cls := .type "getset_descriptor",data:=Data.fields #[.str "__weakref__" 2404,.ref 182,.builtin "ExceptionGroup.__weakref__",.none] }
noncomputable def rE (P:Params):Obj:={ cls := .type "super",data:=Data.fields #[.ref 182,.ref 182,.ref 182] }
noncomputable def qg (P:Params):Obj:={ cls := .type "builtin_function_or_method",data:=Data.fields #[.builtin "object.__init_subclass__",.ref 182] }
noncomputable def o3_18 (P:Params):Obj:={ cls := .type "dict",data:=Data.dict #[de P "__name__" 165 (.str "law_rw0124_01" 2409),de P "__doc__" 166 (.none),de P "__package__" 167 (.none),de P "__loader__" 168 (.builtin "__main__.__loader__#opaque"),de P "__spec__" 169 (.none),de P "__annotations__" 170 (.ref 6),de P "__builtins__" 171 (.ref 4),de P "__file__" 173 (.str "/claim/cut.py" 172),de P "__cached__" 174 (.none),de P "_wall" 193 (.ref 21),de P "ONE_THIRD" 199 (Value.float 4599676419421066581 198),de P "ONE_SIXTH" 203 (Value.float 4595172819793696085 202),de P "TWO_THIRD" 207 (Value.float 4604180019048437077 206),de P "rgb_to_hls" 226 (.ref 28),de P "hls_to_rgb" 237 (.ref 35),de P "_v" 246 (.ref 42),de P "rgb_to_hsv" 264 (.ref 49),de P "hsv_to_rgb" 278 (.ref 56),de P "b1_set" 340 (.ref 64),de P "in_table_b1" 347 (.ref 74),de P "b3_exceptions" 2298 (.ref 75),de P "map_table_b3" 2306 (.ref 120),de P "Whitespace" 2408 (.ref 182)] 23 }
noncomputable def o3_19 (P:Params):Obj:={ cls := .type "dict",data:=Data.dict #[de P "__name__" 165 (.str "law_rw0124_01" 2409),de P "__doc__" 166 (.none),de P "__package__" 167 (.none),de P "__loader__" 168 (.builtin "__main__.__loader__#opaque"),de P "__spec__" 169 (.none),de P "__annotations__" 170 (.ref 6),de P "__builtins__" 171 (.ref 4),de P "__file__" 173 (.str "/claim/cut.py" 172),de P "__cached__" 174 (.none),de P "_wall" 193 (.ref 21),de P "ONE_THIRD" 199 (Value.float 4599676419421066581 198),de P "ONE_SIXTH" 203 (Value.float 4595172819793696085 202),de P "TWO_THIRD" 207 (Value.float 4604180019048437077 206),de P "rgb_to_hls" 226 (.ref 28),de P "hls_to_rgb" 237 (.ref 35),de P "_v" 246 (.ref 42),de P "rgb_to_hsv" 264 (.ref 49),de P "hsv_to_rgb" 278 (.ref 56),de P "b1_set" 340 (.ref 64),de P "in_table_b1" 347 (.ref 74),de P "b3_exceptions" 2298 (.ref 75),de P "map_table_b3" 2306 (.ref 120),de P "Whitespace" 2408 (.ref 182),de P "_law_typed" 2420 (.ref 193)] 24 }
noncomputable def Yo (P:Params):Obj:=nO #[.int 1 0,.int 0 0,.ref 20,.int 8 0,.int 0 0,.ref 27,.int 31 0,.int 0 0,.ref 34,.int 40 0,.int 0 0,.ref 41,.int 49 0,.int 0 0,.ref 48,.int 68 0,.int 0 0,.ref 55,.int 91 0,.int 0 0,.ref 73,.int 94 0,.int 0 0,.ref 119,.int 100 0,.int 0 0,.ref 126,.int 157 0,.int 0 0,.ref 192]
noncomputable def xV (P:Params):Obj:=tO #[]
noncomputable def xW (P:Params):Obj:=nO #[]
noncomputable def yD (P:Params):Obj:=tO #[.str "level" 2414,.str "way" 2415,.str "letter" 2416,.str "mark" 2417]
noncomputable def xx (P:Params):Obj:=tO #[]
noncomputable def yO (P:Params):Obj:=fO "_law_typed" "_law_typed" 18
noncomputable def yE (P:Params):Obj:=cO #[.str "_law_typed" 2411,.str "_law_typed" 2412,.str "/claim/cut.py" 2413,.int 157 0,.int 2 0,.int 0 0,.int 0 0,.int 3 0,.ref 187,.bool true,.int 181 0,.ref 188,.none,.ref 189,.ref 190,.ref 191,.int 2418 0,.int 157 0,.str "/claim/cut.py" 2419]
noncomputable def pY (P:Params):Obj:=gO "_law_typed" "_law_typed" 18 "law_rw0124_01" 2409 192
noncomputable def o3_20 (P:Params):Obj:={ cls := .type "dict",data:=Data.dict #[de P "__name__" 165 (.str "law_rw0124_01" 2409),de P "__doc__" 166 (.none),de P "__package__" 167 (.none),de P "__loader__" 168 (.builtin "__main__.__loader__#opaque"),de P "__spec__" 169 (.none),de P "__annotations__" 170 (.ref 6),de P "__builtins__" 171 (.ref 4),de P "__file__" 173 (.str "/claim/cut.py" 172),de P "__cached__" 174 (.none),de P "_wall" 193 (.ref 21),de P "ONE_THIRD" 199 (Value.float 4599676419421066581 198),de P "ONE_SIXTH" 203 (Value.float 4595172819793696085 202),de P "TWO_THIRD" 207 (Value.float 4604180019048437077 206),de P "rgb_to_hls" 226 (.ref 28),de P "hls_to_rgb" 237 (.ref 35),de P "_v" 246 (.ref 42),de P "rgb_to_hsv" 264 (.ref 49),de P "hsv_to_rgb" 278 (.ref 56),de P "b1_set" 340 (.ref 64),de P "in_table_b1" 347 (.ref 74),de P "b3_exceptions" 2298 (.ref 75),de P "map_table_b3" 2306 (.ref 120),de P "Whitespace" 2408 (.ref 182),de P "_law_typed" 2420 (.ref 193),de P "_law_read" 2426 (.ref 198)] 25 }
noncomputable def o12_11 (P:Params):Obj:=nO #[.int 1 0,.int 0 0,.ref 20,.int 8 0,.int 0 0,.ref 27,.int 31 0,.int 0 0,.ref 34,.int 40 0,.int 0 0,.ref 41,.int 49 0,.int 0 0,.ref 48,.int 68 0,.int 0 0,.ref 55,.int 91 0,.int 0 0,.ref 73,.int 94 0,.int 0 0,.ref 119,.int 100 0,.int 0 0,.ref 126,.int 157 0,.int 0 0,.ref 192,.int 161 0,.int 0 0,.ref 197]
noncomputable def Cd (P:Params):Obj:=tO #[]
noncomputable def De (P:Params):Obj:=nO #[]
noncomputable def Bx (P:Params):Obj:=fO "_law_read" "_law_read" 19
noncomputable def Ca (P:Params):Obj:=cO #[.str "_law_read" 2421,.str "_law_read" 2422,.str "/claim/cut.py" 2423,.int 161 0,.int 1 0,.int 0 0,.int 0 0,.int 3 0,.ref 194,.bool true,.int 181 0,.ref 195,.none,.none,.none,.ref 196,.int 2424 0,.int 161 0,.str "/claim/cut.py" 2425]
noncomputable def vI (P:Params):Obj:=gO "_law_read" "_law_read" 19 "law_rw0124_01" 2409 197
noncomputable def o3_21 (P:Params):Obj:={ cls := .type "dict",data:=Data.dict #[de P "__name__" 165 (.str "law_rw0124_01" 2409),de P "__doc__" 166 (.none),de P "__package__" 167 (.none),de P "__loader__" 168 (.builtin "__main__.__loader__#opaque"),de P "__spec__" 169 (.none),de P "__annotations__" 170 (.ref 6),de P "__builtins__" 171 (.ref 4),de P "__file__" 173 (.str "/claim/cut.py" 172),de P "__cached__" 174 (.none),de P "_wall" 193 (.ref 21),de P "ONE_THIRD" 199 (Value.float 4599676419421066581 198),de P "ONE_SIXTH" 203 (Value.float 4595172819793696085 202),de P "TWO_THIRD" 207 (Value.float 4604180019048437077 206),de P "rgb_to_hls" 226 (.ref 28),de P "hls_to_rgb" 237 (.ref 35),de P "_v" 246 (.ref 42),de P "rgb_to_hsv" 264 (.ref 49),de P "hsv_to_rgb" 278 (.ref 56),de P "b1_set" 340 (.ref 64),de P "in_table_b1" 347 (.ref 74),de P "b3_exceptions" 2298 (.ref 75),de P "map_table_b3" 2306 (.ref 120),de P "Whitespace" 2408 (.ref 182),de P "_law_typed" 2420 (.ref 193),de P "_law_read" 2426 (.ref 198),de P "_law_turned" 2432 (.ref 203)] 26 }
noncomputable def o12_12 (P:Params):Obj:=nO #[.int 1 0,.int 0 0,.ref 20,.int 8 0,.int 0 0,.ref 27,.int 31 0,.int 0 0,.ref 34,.int 40 0,.int 0 0,.ref 41,.int 49 0,.int 0 0,.ref 48,.int 68 0,.int 0 0,.ref 55,.int 91 0,.int 0 0,.ref 73,.int 94 0,.int 0 0,.ref 119,.int 100 0,.int 0 0,.ref 126,.int 157 0,.int 0 0,.ref 192,.int 161 0,.int 0 0,.ref 197,.int 163 0,.int 0 0,.ref 202]
noncomputable def HN (P:Params):Obj:=tO #[]
noncomputable def GK (P:Params):Obj:=nO #[]
noncomputable def Hc (P:Params):Obj:=fO "_law_turned" "_law_turned" 20
noncomputable def Im (P:Params):Obj:=cO #[.str "_law_turned" 2427,.str "_law_turned" 2428,.str "/claim/cut.py" 2429,.int 163 0,.int 2 0,.int 0 0,.int 0 0,.int 3 0,.ref 199,.bool true,.int 181 0,.ref 200,.none,.none,.none,.ref 201,.int 2430 0,.int 163 0,.str "/claim/cut.py" 2431]
noncomputable def xR (P:Params):Obj:=gO "_law_turned" "_law_turned" 20 "law_rw0124_01" 2409 202
noncomputable def Ye (P:Params):Obj:={ cls := .type "dict",data:=Data.dict #[de P "__name__" 165 (.str "law_rw0124_01" 2409),de P "__doc__" 166 (.none),de P "__package__" 167 (.none),de P "__loader__" 168 (.builtin "__main__.__loader__#opaque"),de P "__spec__" 169 (.none),de P "__annotations__" 170 (.ref 6),de P "__builtins__" 171 (.ref 4),de P "__file__" 173 (.str "/claim/cut.py" 172),de P "__cached__" 174 (.none),de P "_wall" 193 (.ref 21),de P "ONE_THIRD" 199 (Value.float 4599676419421066581 198),de P "ONE_SIXTH" 203 (Value.float 4595172819793696085 202),de P "TWO_THIRD" 207 (Value.float 4604180019048437077 206),de P "rgb_to_hls" 226 (.ref 28),de P "hls_to_rgb" 237 (.ref 35),de P "_v" 246 (.ref 42),de P "rgb_to_hsv" 264 (.ref 49),de P "hsv_to_rgb" 278 (.ref 56),de P "b1_set" 340 (.ref 64),de P "in_table_b1" 347 (.ref 74),de P "b3_exceptions" 2298 (.ref 75),de P "map_table_b3" 2306 (.ref 120),de P "Whitespace" 2408 (.ref 182),de P "_law_typed" 2420 (.ref 193),de P "_law_read" 2426 (.ref 198),de P "_law_turned" 2432 (.ref 203),de P "law" 2438 (.ref 208)] 27 }
noncomputable def QL (P:Params):Obj:=nO #[.int 1 0,.int 0 0,.ref 20,.int 8 0,.int 0 0,.ref 27,.int 31 0,.int 0 0,.ref 34,.int 40 0,.int 0 0,.ref 41,.int 49 0,.int 0 0,.ref 48,.int 68 0,.int 0 0,.ref 55,.int 91 0,.int 0 0,.ref 73,.int 94 0,.int 0 0,.ref 119,.int 100 0,.int 0 0,.ref 126,.int 157 0,.int 0 0,.ref 192,.int 161 0,.int 0 0,.ref 197,.int 163 0,.int 0 0,.ref 202,.int 176 0,.int 0 0,.ref 207]
noncomputable def PJ (P:Params):Obj:=tO #[]
noncomputable def Ym (P:Params):Obj:=nO #[]
noncomputable def O5 (P:Params):Obj:=fO "law" "law" 21
noncomputable def GF (P:Params):Obj:=cO #[.str "law" 2433,.str "law" 2434,.str "/claim/cut.py" 2435,.int 176 0,.int 1 0,.int 0 0,.int 0 0,.int 3 0,.ref 204,.bool true,.int 181 0,.ref 205,.none,.none,.none,.ref 206,.int 2436 0,.int 176 0,.str "/claim/cut.py" 2437]
noncomputable def Ak (P:Params):Obj:=gO "law" "law" 21 "law_rw0124_01" 2409 207
noncomputable def t0 (P:Params):BT:=(bN (jb P) (bN (iI P) (bN (o3_0 P) (bN (lw P) bE bE) bE) (bN (lD P) (bN (lR P) bE bE) bE)) (bN (lB P) (bN (jX P) (bN (lE P) bE bE) bE) (bN (lF P) (bN (gA P) bE bE) bE)))
noncomputable def S0 (w:World) (os:OsState):SharedT:=⟨t0 w.params,11,{},#[],{},181,os⟩
noncomputable def u0 (P:Params):BT:=(bN (iI P) (bN (o3_0 P) (bN (lw P) bE bE) (bN (ig P) bE bE)) (bN (lD P) (bN (lR P) bE bE) (bN (gq P) bE bE)))
noncomputable def u1 (P:Params):BT:=(bN (lB P) (bN (jX P) (bN (lE P) bE bE) (bN (o12_0 P) bE bE)) (bN (lF P) (bN (gA P) bE bE) (bN (gk P) bE bE)))
noncomputable def t1 (P:Params):BT:=(bN (jb P) (u0 P) (u1 P))
noncomputable def S1 (w:World) (os:OsState):SharedT:=⟨t1 w.params,15,{},#[],{},187,os⟩
noncomputable def t2 (P:Params):BT:=(bN (jb P) (u0 P) (u1 P))
noncomputable def S2 (w:World) (os:OsState):SharedT:=⟨t2 w.params,15,{},#[],{},187,os⟩
noncomputable def u2 (P:Params):BT:=(bN (lw P) (bN (gZ P) bE bE) bE)
noncomputable def u3 (P:Params):BT:=(bN (ig P) (bN (iV P) bE bE) bE)
noncomputable def u4 (P:Params):BT:=(bN (lD P) (bN (lR P) (bN (iM P) bE bE) bE) (bN (gq P) (bN (gH P) bE bE) bE))
noncomputable def u5 (P:Params):BT:=(bN (lB P) (bN (jX P) (bN (lE P) (bN (ik P) bE bE) bE) (bN (o12_1 P) (bN (gD P) bE bE) bE)) (bN (lF P) (bN (gA P) (bN (iJ P) bE bE) bE) (bN (gk P) bE bE)))
noncomputable def t3 (P:Params):BT:=(bN (jb P) (bN (iI P) (bN (o3_1 P) (u2 P) (u3 P)) (u4 P)) (u5 P))
noncomputable def S3 (w:World) (os:OsState):SharedT:=⟨t3 w.params,22,{},#[],{},194,os⟩
noncomputable def t4 (P:Params):BT:=(bN (jb P) (bN (iI P) (bN (o3_2 P) (u2 P) (u3 P)) (u4 P)) (u5 P))
noncomputable def S4 (w:World) (os:OsState):SharedT:=⟨t4 w.params,22,{},#[],{},196,os⟩
noncomputable def t5 (P:Params):BT:=(bN (jb P) (bN (iI P) (bN (o3_3 P) (u2 P) (u3 P)) (u4 P)) (u5 P))
noncomputable def S5 (w:World) (os:OsState):SharedT:=⟨t5 w.params,22,{},#[],{},200,os⟩
noncomputable def t6 (P:Params):BT:=(bN (jb P) (bN (iI P) (bN (o3_4 P) (u2 P) (u3 P)) (u4 P)) (u5 P))
noncomputable def S6 (w:World) (os:OsState):SharedT:=⟨t6 w.params,22,{},#[],{},204,os⟩
noncomputable def t7 (P:Params):BT:=(bN (jb P) (bN (iI P) (bN (o3_5 P) (u2 P) (u3 P)) (u4 P)) (u5 P))
noncomputable def S7 (w:World) (os:OsState):SharedT:=⟨t7 w.params,22,{},#[],{},208,os⟩
noncomputable def t8 (P:Params):BT:=(bN (jb P) (bN (iI P) (bN (o3_6 P) (bN (lw P) (bN (gZ P) bE bE) (bN (gY P) bE bE)) (bN (ig P) (bN (iV P) bE bE) (bN (jj P) bE bE))) (bN (lD P) (bN (lR P) (bN (iM P) bE bE) (bN (iT P) bE bE)) (bN (gq P) (bN (gH P) bE bE) bE))) (bN (lB P) (bN (jX P) (bN (lE P) (bN (ik P) bE bE) (bN (gW P) bE bE)) (bN (o12_2 P) (bN (gD P) bE bE) (bN (gm P) bE bE))) (bN (lF P) (bN (gA P) (bN (iJ P) bE bE) (bN (iY P) bE bE)) (bN (gk P) (bN (ie P) bE bE) bE))))
noncomputable def S8 (w:World) (os:OsState):SharedT:=⟨t8 w.params,29,{},#[],{},227,os⟩
noncomputable def u6 (P:Params):BT:=(bN (ig P) (bN (iV P) (bN (iR P) bE bE) bE) (bN (jj P) bE bE))
noncomputable def t9 (P:Params):BT:=(bN (jb P) (bN (iI P) (bN (o3_7 P) (bN (lw P) (bN (gZ P) (bN (ji P) bE bE) bE) (bN (gY P) bE bE)) (u6 P)) (bN (lD P) (bN (lR P) (bN (iM P) (bN (jK P) bE bE) bE) (bN (iT P) bE bE)) (bN (gq P) (bN (gH P) bE bE) (bN (iQ P) bE bE)))) (bN (lB P) (bN (jX P) (bN (lE P) (bN (ik P) (bN (jq P) bE bE) bE) (bN (gW P) bE bE)) (bN (o12_3 P) (bN (gD P) bE bE) (bN (gm P) bE bE))) (bN (lF P) (bN (gA P) (bN (iJ P) (bN (jG P) bE bE) bE) (bN (iY P) bE bE)) (bN (gk P) (bN (ie P) bE bE) (bN (iG P) bE bE)))))
noncomputable def S9 (w:World) (os:OsState):SharedT:=⟨t9 w.params,36,{},#[],{},238,os⟩
noncomputable def u7 (P:Params):BT:=(bN (gA P) (bN (iJ P) (bN (jG P) bE bE) bE) (bN (iY P) (bN (iZ P) bE bE) bE))
noncomputable def t10 (P:Params):BT:=(bN (jb P) (bN (iI P) (bN (o3_8 P) (bN (lw P) (bN (gZ P) (bN (ji P) bE bE) bE) (bN (gY P) (bN (jo P) bE bE) bE)) (u6 P)) (bN (lD P) (bN (lR P) (bN (iM P) (bN (jK P) bE bE) bE) (bN (iT P) (bN (jT P) bE bE) bE)) (bN (gq P) (bN (gH P) (bN (jm P) bE bE) bE) (bN (iQ P) bE bE)))) (bN (lB P) (bN (jX P) (bN (lE P) (bN (ik P) (bN (jq P) bE bE) bE) (bN (gW P) (bN (jh P) bE bE) bE)) (bN (o12_4 P) (bN (gD P) (bN (jn P) bE bE) bE) (bN (gm P) bE bE))) (bN (lF P) (u7 P) (bN (gk P) (bN (ie P) (bN (jk P) bE bE) bE) (bN (iG P) bE bE)))))
noncomputable def S10 (w:World) (os:OsState):SharedT:=⟨t10 w.params,43,{},#[],{},247,os⟩
noncomputable def u8 (P:Params):BT:=(bN (lR P) (bN (iM P) (bN (jK P) bE bE) (bN (jN P) bE bE)) (bN (iT P) (bN (jT P) bE bE) bE))
noncomputable def t11 (P:Params):BT:=(bN (jb P) (bN (iI P) (bN (o3_9 P) (bN (lw P) (bN (gZ P) (bN (ji P) bE bE) (bN (lg P) bE bE)) (bN (gY P) (bN (jo P) bE bE) bE)) (bN (ig P) (bN (iV P) (bN (iR P) bE bE) bE) (bN (jj P) (bN (kY P) bE bE) bE))) (bN (lD P) (u8 P) (bN (gq P) (bN (gH P) (bN (jm P) bE bE) bE) (bN (iQ P) (bN (jU P) bE bE) bE)))) (bN (lB P) (bN (jX P) (bN (lE P) (bN (ik P) (bN (jq P) bE bE) (bN (j4 P) bE bE)) (bN (gW P) (bN (jh P) bE bE) bE)) (bN (o12_5 P) (bN (gD P) (bN (jn P) bE bE) bE) (bN (gm P) (bN (jR P) bE bE) bE))) (bN (lF P) (u7 P) (bN (gk P) (bN (ie P) (bN (jk P) bE bE) bE) (bN (iG P) (bN (jJ P) bE bE) bE)))))
noncomputable def S11 (w:World) (os:OsState):SharedT:=⟨t11 w.params,50,{},#[],{},265,os⟩
noncomputable def u9 (P:Params):BT:=(bN (lw P) (bN (gZ P) (bN (ji P) bE bE) (bN (lg P) bE bE)) (bN (gY P) (bN (jo P) bE bE) (bN (lq P) bE bE)))
noncomputable def u10 (P:Params):BT:=(bN (ig P) (bN (iV P) (bN (iR P) bE bE) (bN (lX P) bE bE)) (bN (jj P) (bN (kY P) bE bE) bE))
noncomputable def u11 (P:Params):BT:=(bN (lD P) (u8 P) (bN (gq P) (bN (gH P) (bN (jm P) bE bE) (bN (km P) bE bE)) (bN (iQ P) (bN (jU P) bE bE) bE)))
noncomputable def u12 (P:Params):BT:=(bN (lB P) (bN (jX P) (bN (lE P) (bN (ik P) (bN (jq P) bE bE) (bN (j4 P) bE bE)) (bN (gW P) (bN (jh P) bE bE) (bN (jg P) bE bE))) (bN (XJ P) (bN (gD P) (bN (jn P) bE bE) (bN (j8 P) bE bE)) (bN (gm P) (bN (jR P) bE bE) bE))) (bN (lF P) (bN (gA P) (bN (iJ P) (bN (jG P) bE bE) (bN (lV P) bE bE)) (bN (iY P) (bN (iZ P) bE bE) bE)) (bN (gk P) (bN (ie P) (bN (jk P) bE bE) (bN (lr P) bE bE)) (bN (iG P) (bN (jJ P) bE bE) bE))))
noncomputable def t12 (P:Params):BT:=(bN (jb P) (bN (iI P) (bN (o3_10 P) (u9 P) (u10 P)) (u11 P)) (u12 P))
noncomputable def S12 (w:World) (os:OsState):SharedT:=⟨t12 w.params,57,{},#[],{},279,os⟩
noncomputable def t13 (P:Params):BT:=(bN (jb P) (bN (iI P) (bN (o3_11 P) (u9 P) (u10 P)) (u11 P)) (u12 P))
noncomputable def S13 (w:World) (os:OsState):SharedT:=⟨t13 w.params,57,{},#[],{},281,os⟩
noncomputable def u13 (P:Params):BT:=(bN (gZ P) (bN (ji P) (bN (nD P) bE bE) bE) (bN (lg P) bE bE))
noncomputable def u14 (P:Params):BT:=(bN (ig P) (bN (iV P) (bN (iR P) (bN (nG P) bE bE) bE) (bN (lX P) bE bE)) (bN (jj P) (bN (kY P) bE bE) (bN (nA P) bE bE)))
noncomputable def u15 (P:Params):BT:=(bN (iM P) (bN (jK P) (bN (nM P) bE bE) bE) (bN (jN P) bE bE))
noncomputable def u16 (P:Params):BT:=(bN (ik P) (bN (jq P) (bN (lL P) bE bE) bE) (bN (j4 P) bE bE))
noncomputable def u17 (P:Params):BT:=(bN (iJ P) (bN (jG P) (bN (nj P) bE bE) bE) (bN (lV P) bE bE))
noncomputable def t14 (P:Params):BT:=(bN (jb P) (bN (iI P) (bN (o3_12 P) (bN (lw P) (u13 P) (bN (gY P) (bN (jo P) bE bE) (bN (lq P) bE bE))) (u14 P)) (bN (lD P) (bN (lR P) (u15 P) (bN (iT P) (bN (jT P) bE bE) (bN (my P) bE bE))) (bN (gq P) (bN (gH P) (bN (jm P) bE bE) (bN (km P) bE bE)) (bN (iQ P) (bN (jU P) bE bE) (bN (lG P) bE bE))))) (bN (lB P) (bN (jX P) (bN (lE P) (u16 P) (bN (gW P) (bN (jh P) bE bE) (bN (jg P) bE bE))) (bN (XJ P) (bN (gD P) (bN (jn P) bE bE) (bN (j8 P) bE bE)) (bN (gm P) (bN (jR P) bE bE) (bN (lK P) bE bE)))) (bN (lF P) (bN (gA P) (u17 P) (bN (iY P) (bN (iZ P) bE bE) (bN (lZ P) bE bE))) (bN (gk P) (bN (ie P) (bN (jk P) bE bE) (bN (lr P) bE bE)) (bN (iG P) (bN (jJ P) bE bE) (bN (lN P) bE bE))))))
noncomputable def S14 (w:World) (os:OsState):SharedT:=⟨t14 w.params,68,{},#[],{},341,os⟩
noncomputable def t15 (P:Params):BT:=(bN (jb P) (bN (iI P) (bN (XR P) (bN (lw P) (u13 P) (bN (gY P) (bN (jo P) (bN (nQ P) bE bE) bE) (bN (lq P) bE bE))) (u14 P)) (bN (lD P) (bN (lR P) (u15 P) (bN (iT P) (bN (jT P) (bN (nF P) bE bE) bE) (bN (my P) bE bE))) (bN (gq P) (bN (gH P) (bN (jm P) (bN (ni P) bE bE) bE) (bN (km P) bE bE)) (bN (iQ P) (bN (jU P) bE bE) (bN (lG P) bE bE))))) (bN (lB P) (bN (jX P) (bN (lE P) (u16 P) (bN (gW P) (bN (jh P) (bN (nq P) bE bE) bE) (bN (jg P) bE bE))) (bN (Rz P) (bN (gD P) (bN (jn P) (bN (nH P) bE bE) bE) (bN (j8 P) bE bE)) (bN (gm P) (bN (jR P) bE bE) (bN (lK P) bE bE)))) (bN (lF P) (bN (gA P) (u17 P) (bN (iY P) (bN (iZ P) (bN (j7 P) bE bE) bE) (bN (lZ P) bE bE))) (bN (gk P) (bN (ie P) (bN (jk P) (bN (m9 P) bE bE) bE) (bN (lr P) bE bE)) (bN (iG P) (bN (jJ P) bE bE) (bN (lN P) bE bE))))))
noncomputable def Xn (w:World) (os:OsState):SharedT:=⟨t15 w.params,75,{},#[],{},348,os⟩
noncomputable def tM (D:Nat→Obj) (P:Params):BT:=(bN (jb P) (bN (iI P) (bN (XR P) (bN (lw P) (bN (gZ P) (bN (ji P) (bN (nD P) bE bE) (bN (D 95) bE bE)) (bN (lg P) (bN (D 79) bE bE) (bN (D 111) bE bE))) (bN (gY P) (bN (jo P) (bN (nQ P) bE bE) (bN (D 103) bE bE)) (bN (lq P) (bN (D 87) bE bE) bE))) (bN (ig P) (bN (iV P) (bN (iR P) (bN (nG P) bE bE) (bN (D 99) bE bE)) (bN (lX P) (bN (D 83) bE bE) bE)) (bN (jj P) (bN (kY P) (bN (D 75) bE bE) (bN (D 107) bE bE)) (bN (nA P) (bN (D 91) bE bE) bE)))) (bN (lD P) (bN (lR P) (bN (iM P) (bN (jK P) (bN (nM P) bE bE) (bN (D 97) bE bE)) (bN (jN P) (bN (D 81) bE bE) (bN (D 113) bE bE))) (bN (iT P) (bN (jT P) (bN (nF P) bE bE) (bN (D 105) bE bE)) (bN (my P) (bN (D 89) bE bE) bE))) (bN (gq P) (bN (gH P) (bN (jm P) (bN (ni P) bE bE) (bN (D 101) bE bE)) (bN (km P) (bN (D 85) bE bE) bE)) (bN (iQ P) (bN (jU P) (bN (D 77) bE bE) (bN (D 109) bE bE)) (bN (lG P) (bN (D 93) bE bE) bE))))) (bN (lB P) (bN (jX P) (bN (lE P) (bN (ik P) (bN (jq P) (bN (lL P) bE bE) (bN (D 96) bE bE)) (bN (j4 P) (bN (D 80) bE bE) (bN (D 112) bE bE))) (bN (gW P) (bN (jh P) (bN (nq P) bE bE) (bN (D 104) bE bE)) (bN (jg P) (bN (D 88) bE bE) bE))) (bN (Rz P) (bN (gD P) (bN (jn P) (bN (nH P) bE bE) (bN (D 100) bE bE)) (bN (j8 P) (bN (D 84) bE bE) bE)) (bN (gm P) (bN (jR P) (bN (D 76) bE bE) (bN (D 108) bE bE)) (bN (lK P) (bN (D 92) bE bE) bE)))) (bN (lF P) (bN (gA P) (bN (iJ P) (bN (jG P) (bN (nj P) bE bE) (bN (D 98) bE bE)) (bN (lV P) (bN (D 82) bE bE) bE)) (bN (iY P) (bN (iZ P) (bN (j7 P) bE bE) (bN (D 106) bE bE)) (bN (lZ P) (bN (D 90) bE bE) bE))) (bN (gk P) (bN (ie P) (bN (jk P) (bN (m9 P) bE bE) (bN (D 102) bE bE)) (bN (lr P) (bN (D 86) bE bE) bE)) (bN (iG P) (bN (jJ P) (bN (D 78) bE bE) (bN (D 110) bE bE)) (bN (lN P) (bN (D 94) bE bE) bE))))))
noncomputable def SM (D:Nat→Obj) (w:World) (os:OsState):SharedT:=⟨tM D w.params,114,{},#[],{},2298,os⟩
noncomputable def t16 (D:Nat→Obj) (P:Params):BT:=(bN (jb P) (bN (iI P) (bN (o3_14 P) (bN (lw P) (bN (gZ P) (bN (ji P) (bN (nD P) bE bE) (bN (D 95) bE bE)) (bN (lg P) (bN (D 79) bE bE) (bN (D 111) bE bE))) (bN (gY P) (bN (jo P) (bN (nQ P) bE bE) (bN (D 103) bE bE)) (bN (lq P) (bN (D 87) bE bE) bE))) (bN (ig P) (bN (iV P) (bN (iR P) (bN (nG P) bE bE) (bN (D 99) bE bE)) (bN (lX P) (bN (D 83) bE bE) bE)) (bN (jj P) (bN (kY P) (bN (D 75) bE bE) (bN (D 107) bE bE)) (bN (nA P) (bN (D 91) bE bE) bE)))) (bN (lD P) (bN (lR P) (bN (iM P) (bN (jK P) (bN (nM P) bE bE) (bN (D 97) bE bE)) (bN (jN P) (bN (D 81) bE bE) (bN (D 113) bE bE))) (bN (iT P) (bN (jT P) (bN (nF P) bE bE) (bN (D 105) bE bE)) (bN (my P) (bN (D 89) bE bE) bE))) (bN (gq P) (bN (gH P) (bN (jm P) (bN (ni P) bE bE) (bN (D 101) bE bE)) (bN (km P) (bN (D 85) bE bE) bE)) (bN (iQ P) (bN (jU P) (bN (D 77) bE bE) (bN (D 109) bE bE)) (bN (lG P) (bN (D 93) bE bE) bE))))) (bN (lB P) (bN (jX P) (bN (lE P) (bN (ik P) (bN (jq P) (bN (lL P) bE bE) (bN (D 96) bE bE)) (bN (j4 P) (bN (D 80) bE bE) (bN (D 112) bE bE))) (bN (gW P) (bN (jh P) (bN (nq P) bE bE) (bN (D 104) bE bE)) (bN (jg P) (bN (D 88) bE bE) bE))) (bN (Rz P) (bN (gD P) (bN (jn P) (bN (nH P) bE bE) (bN (D 100) bE bE)) (bN (j8 P) (bN (D 84) bE bE) bE)) (bN (gm P) (bN (jR P) (bN (D 76) bE bE) (bN (D 108) bE bE)) (bN (lK P) (bN (D 92) bE bE) bE)))) (bN (lF P) (bN (gA P) (bN (iJ P) (bN (jG P) (bN (nj P) bE bE) (bN (D 98) bE bE)) (bN (lV P) (bN (D 82) bE bE) bE)) (bN (iY P) (bN (iZ P) (bN (j7 P) bE bE) (bN (D 106) bE bE)) (bN (lZ P) (bN (D 90) bE bE) bE))) (bN (gk P) (bN (ie P) (bN (jk P) (bN (m9 P) bE bE) (bN (D 102) bE bE)) (bN (lr P) (bN (D 86) bE bE) bE)) (bN (iG P) (bN (jJ P) (bN (D 78) bE bE) (bN (D 110) bE bE)) (bN (lN P) (bN (D 94) bE bE) bE))))))
noncomputable def S16 (D:Nat→Obj) (w:World) (os:OsState):SharedT:=⟨t16 D w.params,114,{},#[],{},2299,os⟩
noncomputable def t17 (D:Nat→Obj) (P:Params):BT:=(bN (jb P) (bN (iI P) (bN (o3_15 P) (bN (lw P) (bN (gZ P) (bN (ji P) (bN (nD P) bE bE) (bN (D 95) bE bE)) (bN (lg P) (bN (D 79) bE bE) (bN (D 111) bE bE))) (bN (gY P) (bN (jo P) (bN (nQ P) bE bE) (bN (D 103) bE bE)) (bN (lq P) (bN (D 87) bE bE) (bN (mG P) bE bE)))) (bN (ig P) (bN (iV P) (bN (iR P) (bN (nG P) bE bE) (bN (D 99) bE bE)) (bN (lX P) (bN (D 83) bE bE) (bN (m7 P) bE bE))) (bN (jj P) (bN (kY P) (bN (D 75) bE bE) (bN (D 107) bE bE)) (bN (nA P) (bN (D 91) bE bE) bE)))) (bN (lD P) (bN (lR P) (bN (iM P) (bN (jK P) (bN (nM P) bE bE) (bN (D 97) bE bE)) (bN (jN P) (bN (D 81) bE bE) (bN (D 113) bE bE))) (bN (iT P) (bN (jT P) (bN (nF P) bE bE) (bN (D 105) bE bE)) (bN (my P) (bN (D 89) bE bE) bE))) (bN (gq P) (bN (gH P) (bN (jm P) (bN (ni P) bE bE) (bN (D 101) bE bE)) (bN (km P) (bN (D 85) bE bE) (bN (mQ P) bE bE))) (bN (iQ P) (bN (jU P) (bN (D 77) bE bE) (bN (D 109) bE bE)) (bN (lG P) (bN (D 93) bE bE) bE))))) (bN (lB P) (bN (jX P) (bN (lE P) (bN (ik P) (bN (jq P) (bN (lL P) bE bE) (bN (D 96) bE bE)) (bN (j4 P) (bN (D 80) bE bE) (bN (D 112) bE bE))) (bN (gW P) (bN (jh P) (bN (nq P) bE bE) (bN (D 104) bE bE)) (bN (jg P) (bN (D 88) bE bE) (bN (jO P) bE bE)))) (bN (Xo P) (bN (gD P) (bN (jn P) (bN (nH P) bE bE) (bN (D 100) bE bE)) (bN (j8 P) (bN (D 84) bE bE) (bN (mF P) bE bE))) (bN (gm P) (bN (jR P) (bN (D 76) bE bE) (bN (D 108) bE bE)) (bN (lK P) (bN (D 92) bE bE) bE)))) (bN (lF P) (bN (gA P) (bN (iJ P) (bN (jG P) (bN (nj P) bE bE) (bN (D 98) bE bE)) (bN (lV P) (bN (D 82) bE bE) (bN (mU P) bE bE))) (bN (iY P) (bN (iZ P) (bN (j7 P) bE bE) (bN (D 106) bE bE)) (bN (lZ P) (bN (D 90) bE bE) bE))) (bN (gk P) (bN (ie P) (bN (jk P) (bN (m9 P) bE bE) (bN (D 102) bE bE)) (bN (lr P) (bN (D 86) bE bE) (bN (m8 P) bE bE))) (bN (iG P) (bN (jJ P) (bN (D 78) bE bE) (bN (D 110) bE bE)) (bN (lN P) (bN (D 94) bE bE) bE))))))
noncomputable def S17 (D:Nat→Obj) (w:World) (os:OsState):SharedT:=⟨t17 D w.params,121,{},#[],{},2307,os⟩
noncomputable def t18 (D:Nat→Obj) (P:Params):BT:=(bN (jb P) (bN (iI P) (bN (o3_16 P) (bN (lw P) (bN (gZ P) (bN (ji P) (bN (nD P) bE bE) (bN (D 95) bE bE)) (bN (lg P) (bN (D 79) bE bE) (bN (D 111) bE bE))) (bN (gY P) (bN (jo P) (bN (nQ P) bE bE) (bN (D 103) bE bE)) (bN (lq P) (bN (D 87) bE bE) (bN (mG P) bE bE)))) (bN (ig P) (bN (iV P) (bN (iR P) (bN (nG P) bE bE) (bN (D 99) bE bE)) (bN (lX P) (bN (D 83) bE bE) (bN (m7 P) bE bE))) (bN (jj P) (bN (kY P) (bN (D 75) bE bE) (bN (D 107) bE bE)) (bN (nA P) (bN (D 91) bE bE) bE)))) (bN (lD P) (bN (lR P) (bN (iM P) (bN (jK P) (bN (nM P) bE bE) (bN (D 97) bE bE)) (bN (jN P) (bN (D 81) bE bE) (bN (D 113) bE bE))) (bN (iT P) (bN (jT P) (bN (nF P) bE bE) (bN (D 105) bE bE)) (bN (my P) (bN (D 89) bE bE) bE))) (bN (gq P) (bN (gH P) (bN (jm P) (bN (ni P) bE bE) (bN (D 101) bE bE)) (bN (km P) (bN (D 85) bE bE) (bN (mQ P) bE bE))) (bN (iQ P) (bN (jU P) (bN (D 77) bE bE) (bN (D 109) bE bE)) (bN (lG P) (bN (D 93) bE bE) bE))))) (bN (lB P) (bN (jX P) (bN (lE P) (bN (ik P) (bN (jq P) (bN (lL P) bE bE) (bN (D 96) bE bE)) (bN (j4 P) (bN (D 80) bE bE) (bN (D 112) bE bE))) (bN (gW P) (bN (jh P) (bN (nq P) bE bE) (bN (D 104) bE bE)) (bN (jg P) (bN (D 88) bE bE) (bN (jO P) bE bE)))) (bN (Xo P) (bN (gD P) (bN (jn P) (bN (nH P) bE bE) (bN (D 100) bE bE)) (bN (j8 P) (bN (D 84) bE bE) (bN (mF P) bE bE))) (bN (gm P) (bN (jR P) (bN (D 76) bE bE) (bN (D 108) bE bE)) (bN (lK P) (bN (D 92) bE bE) bE)))) (bN (lF P) (bN (gA P) (bN (iJ P) (bN (jG P) (bN (nj P) bE bE) (bN (D 98) bE bE)) (bN (lV P) (bN (D 82) bE bE) (bN (mU P) bE bE))) (bN (iY P) (bN (iZ P) (bN (j7 P) bE bE) (bN (D 106) bE bE)) (bN (lZ P) (bN (D 90) bE bE) bE))) (bN (gk P) (bN (ie P) (bN (jk P) (bN (m9 P) bE bE) (bN (D 102) bE bE)) (bN (lr P) (bN (D 86) bE bE) (bN (m8 P) bE bE))) (bN (iG P) (bN (jJ P) (bN (D 78) bE bE) (bN (D 110) bE bE)) (bN (lN P) (bN (D 94) bE bE) bE))))))
noncomputable def S18 (D:Nat→Obj) (w:World) (os:OsState):SharedT:=⟨t18 D w.params,121,{},#[],{},2309,os⟩
noncomputable def t19 (D:Nat→Obj) (P:Params):BT:=(bN (jb P) (bN (iI P) (bN (o3_17 P) (bN (lw P) (bN (gZ P) (bN (ji P) (bN (nD P) (bN (sZ P) bE bE) bE) (bN (D 95) (bN (qK P) bE bE) bE)) (bN (lg P) (bN (D 79) (bN (qy P) bE bE) bE) (bN (D 111) (bN (sS P) bE bE) bE))) (bN (gY P) (bN (jo P) (bN (nQ P) (bN (rW P) bE bE) bE) (bN (D 103) (bN (pW P) bE bE) bE)) (bN (lq P) (bN (D 87) (bN (mC P) bE bE) bE) (bN (mG P) (bN (qX P) bE bE) bE)))) (bN (ig P) (bN (iV P) (bN (iR P) (bN (nG P) (bN (sW P) bE bE) bE) (bN (D 99) (bN (qF P) bE bE) bE)) (bN (lX P) (bN (D 83) (bN (qd P) bE bE) bE) (bN (m7 P) (bN (pO P) bE bE) bE))) (bN (jj P) (bN (kY P) (bN (D 75) (bN (qD P) bE bE) bE) (bN (D 107) (bN (qO P) bE bE) bE)) (bN (nA P) (bN (D 91) (bN (qx P) bE bE) bE) (bN (qQ P) bE bE))))) (bN (lD P) (bN (lR P) (bN (iM P) (bN (jK P) (bN (nM P) (bN (pX P) bE bE) bE) (bN (D 97) (bN (sI P) bE bE) bE)) (bN (jN P) (bN (D 81) (bN (qj P) bE bE) bE) (bN (D 113) (bN (rB P) bE bE) bE))) (bN (iT P) (bN (jT P) (bN (nF P) (bN (mZ P) bE bE) bE) (bN (D 105) (bN (qt P) bE bE) bE)) (bN (my P) (bN (D 89) (bN (sE P) bE bE) bE) (bN (sU P) (bN (rE P) bE bE) bE)))) (bN (gq P) (bN (gH P) (bN (jm P) (bN (ni P) (bN (qR P) bE bE) bE) (bN (D 101) (bN (rR P) bE bE) bE)) (bN (km P) (bN (D 85) (bN (qH P) bE bE) bE) (bN (mQ P) (bN (s7 P) bE bE) bE))) (bN (iQ P) (bN (jU P) (bN (D 77) (bN (pR P) bE bE) bE) (bN (D 109) (bN (rN P) bE bE) bE)) (bN (lG P) (bN (D 93) (bN (qJ P) bE bE) bE) (bN (sO P) bE bE)))))) (bN (lB P) (bN (jX P) (bN (lE P) (bN (ik P) (bN (jq P) (bN (lL P) (bN (qG P) bE bE) bE) (bN (D 96) (bN (rQ P) bE bE) bE)) (bN (j4 P) (bN (D 80) (bN (mL P) bE bE) bE) (bN (D 112) (bN (qw P) bE bE) bE))) (bN (gW P) (bN (jh P) (bN (nq P) (bN (su P) bE bE) bE) (bN (D 104) (bN (pM P) bE bE) bE)) (bN (jg P) (bN (D 88) (bN (qP P) bE bE) bE) (bN (jO P) (bN (sG P) bE bE) bE)))) (bN (X8 P) (bN (gD P) (bN (jn P) (bN (nH P) (bN (s6 P) bE bE) bE) (bN (D 100) (bN (qU P) bE bE) bE)) (bN (j8 P) (bN (D 84) (bN (q9 P) bE bE) bE) (bN (mF P) (bN (qL P) bE bE) bE))) (bN (gm P) (bN (jR P) (bN (D 76) (bN (rU P) bE bE) bE) (bN (D 108) (bN (mJ P) bE bE) bE)) (bN (lK P) (bN (D 92) (bN (qI P) bE bE) bE) (bN (ql P) bE bE))))) (bN (lF P) (bN (gA P) (bN (iJ P) (bN (jG P) (bN (nj P) (bN (rD P) bE bE) bE) (bN (D 98) (bN (rA P) bE bE) bE)) (bN (lV P) (bN (D 82) (bN (rT P) bE bE) bE) (bN (mU P) (bN (qC P) bE bE) bE))) (bN (iY P) (bN (iZ P) (bN (j7 P) (bN (sY P) bE bE) bE) (bN (D 106) (bN (sJ P) bE bE) bE)) (bN (lZ P) (bN (D 90) (bN (sV P) bE bE) bE) (bN (rI P) (bN (qg P) bE bE) bE)))) (bN (gk P) (bN (ie P) (bN (jk P) (bN (m9 P) (bN (rY P) bE bE) bE) (bN (D 102) (bN (rF P) bE bE) bE)) (bN (lr P) (bN (D 86) (bN (qe P) bE bE) bE) (bN (m8 P) (bN (pZ P) bE bE) bE))) (bN (iG P) (bN (jJ P) (bN (D 78) (bN (pU P) bE bE) bE) (bN (D 110) (bN (sX P) bE bE) bE)) (bN (lN P) (bN (D 94) (bN (qY P) bE bE) bE) (bN (qi P) bE bE)))))))
noncomputable def S19 (D:Nat→Obj) (w:World) (os:OsState):SharedT:=⟨t19 D w.params,187,{},#[],{},2409,os⟩
noncomputable def t20 (D:Nat→Obj) (P:Params):BT:=(bN (jb P) (bN (iI P) (bN (o3_18 P) (bN (lw P) (bN (gZ P) (bN (ji P) (bN (nD P) (bN (sZ P) bE bE) bE) (bN (D 95) (bN (qK P) bE bE) bE)) (bN (lg P) (bN (D 79) (bN (qy P) bE bE) bE) (bN (D 111) (bN (sS P) bE bE) bE))) (bN (gY P) (bN (jo P) (bN (nQ P) (bN (rW P) bE bE) bE) (bN (D 103) (bN (pW P) bE bE) bE)) (bN (lq P) (bN (D 87) (bN (mC P) bE bE) bE) (bN (mG P) (bN (qX P) bE bE) bE)))) (bN (ig P) (bN (iV P) (bN (iR P) (bN (nG P) (bN (sW P) bE bE) bE) (bN (D 99) (bN (qF P) bE bE) bE)) (bN (lX P) (bN (D 83) (bN (qd P) bE bE) bE) (bN (m7 P) (bN (pO P) bE bE) bE))) (bN (jj P) (bN (kY P) (bN (D 75) (bN (qD P) bE bE) bE) (bN (D 107) (bN (qO P) bE bE) bE)) (bN (nA P) (bN (D 91) (bN (qx P) bE bE) bE) (bN (qQ P) bE bE))))) (bN (lD P) (bN (lR P) (bN (iM P) (bN (jK P) (bN (nM P) (bN (pX P) bE bE) bE) (bN (D 97) (bN (sI P) bE bE) bE)) (bN (jN P) (bN (D 81) (bN (qj P) bE bE) bE) (bN (D 113) (bN (rB P) bE bE) bE))) (bN (iT P) (bN (jT P) (bN (nF P) (bN (mZ P) bE bE) bE) (bN (D 105) (bN (qt P) bE bE) bE)) (bN (my P) (bN (D 89) (bN (sE P) bE bE) bE) (bN (sU P) (bN (rE P) bE bE) bE)))) (bN (gq P) (bN (gH P) (bN (jm P) (bN (ni P) (bN (qR P) bE bE) bE) (bN (D 101) (bN (rR P) bE bE) bE)) (bN (km P) (bN (D 85) (bN (qH P) bE bE) bE) (bN (mQ P) (bN (s7 P) bE bE) bE))) (bN (iQ P) (bN (jU P) (bN (D 77) (bN (pR P) bE bE) bE) (bN (D 109) (bN (rN P) bE bE) bE)) (bN (lG P) (bN (D 93) (bN (qJ P) bE bE) bE) (bN (sO P) bE bE)))))) (bN (lB P) (bN (jX P) (bN (lE P) (bN (ik P) (bN (jq P) (bN (lL P) (bN (qG P) bE bE) bE) (bN (D 96) (bN (rQ P) bE bE) bE)) (bN (j4 P) (bN (D 80) (bN (mL P) bE bE) bE) (bN (D 112) (bN (qw P) bE bE) bE))) (bN (gW P) (bN (jh P) (bN (nq P) (bN (su P) bE bE) bE) (bN (D 104) (bN (pM P) bE bE) bE)) (bN (jg P) (bN (D 88) (bN (qP P) bE bE) bE) (bN (jO P) (bN (sG P) bE bE) bE)))) (bN (X8 P) (bN (gD P) (bN (jn P) (bN (nH P) (bN (s6 P) bE bE) bE) (bN (D 100) (bN (qU P) bE bE) bE)) (bN (j8 P) (bN (D 84) (bN (q9 P) bE bE) bE) (bN (mF P) (bN (qL P) bE bE) bE))) (bN (gm P) (bN (jR P) (bN (D 76) (bN (rU P) bE bE) bE) (bN (D 108) (bN (mJ P) bE bE) bE)) (bN (lK P) (bN (D 92) (bN (qI P) bE bE) bE) (bN (ql P) bE bE))))) (bN (lF P) (bN (gA P) (bN (iJ P) (bN (jG P) (bN (nj P) (bN (rD P) bE bE) bE) (bN (D 98) (bN (rA P) bE bE) bE)) (bN (lV P) (bN (D 82) (bN (rT P) bE bE) bE) (bN (mU P) (bN (qC P) bE bE) bE))) (bN (iY P) (bN (iZ P) (bN (j7 P) (bN (sY P) bE bE) bE) (bN (D 106) (bN (sJ P) bE bE) bE)) (bN (lZ P) (bN (D 90) (bN (sV P) bE bE) bE) (bN (rI P) (bN (qg P) bE bE) bE)))) (bN (gk P) (bN (ie P) (bN (jk P) (bN (m9 P) (bN (rY P) bE bE) bE) (bN (D 102) (bN (rF P) bE bE) bE)) (bN (lr P) (bN (D 86) (bN (qe P) bE bE) bE) (bN (m8 P) (bN (pZ P) bE bE) bE))) (bN (iG P) (bN (jJ P) (bN (D 78) (bN (pU P) bE bE) bE) (bN (D 110) (bN (sX P) bE bE) bE)) (bN (lN P) (bN (D 94) (bN (qY P) bE bE) bE) (bN (qi P) bE bE)))))))
noncomputable def S20 (D:Nat→Obj) (w:World) (os:OsState):SharedT:=⟨t20 D w.params,187,{},#[],{},2411,os⟩
noncomputable def t21 (D:Nat→Obj) (P:Params):BT:=(bN (jb P) (bN (iI P) (bN (o3_19 P) (bN (lw P) (bN (gZ P) (bN (ji P) (bN (nD P) (bN (sZ P) bE bE) (bN (yO P) bE bE)) (bN (D 95) (bN (qK P) bE bE) bE)) (bN (lg P) (bN (D 79) (bN (qy P) bE bE) bE) (bN (D 111) (bN (sS P) bE bE) bE))) (bN (gY P) (bN (jo P) (bN (nQ P) (bN (rW P) bE bE) bE) (bN (D 103) (bN (pW P) bE bE) bE)) (bN (lq P) (bN (D 87) (bN (mC P) bE bE) bE) (bN (mG P) (bN (qX P) bE bE) bE)))) (bN (ig P) (bN (iV P) (bN (iR P) (bN (nG P) (bN (sW P) bE bE) bE) (bN (D 99) (bN (qF P) bE bE) bE)) (bN (lX P) (bN (D 83) (bN (qd P) bE bE) bE) (bN (m7 P) (bN (pO P) bE bE) bE))) (bN (jj P) (bN (kY P) (bN (D 75) (bN (qD P) bE bE) bE) (bN (D 107) (bN (qO P) bE bE) bE)) (bN (nA P) (bN (D 91) (bN (qx P) bE bE) bE) (bN (qQ P) (bN (xV P) bE bE) bE))))) (bN (lD P) (bN (lR P) (bN (iM P) (bN (jK P) (bN (nM P) (bN (pX P) bE bE) (bN (pY P) bE bE)) (bN (D 97) (bN (sI P) bE bE) bE)) (bN (jN P) (bN (D 81) (bN (qj P) bE bE) bE) (bN (D 113) (bN (rB P) bE bE) bE))) (bN (iT P) (bN (jT P) (bN (nF P) (bN (mZ P) bE bE) bE) (bN (D 105) (bN (qt P) bE bE) bE)) (bN (my P) (bN (D 89) (bN (sE P) bE bE) bE) (bN (sU P) (bN (rE P) bE bE) bE)))) (bN (gq P) (bN (gH P) (bN (jm P) (bN (ni P) (bN (qR P) bE bE) bE) (bN (D 101) (bN (rR P) bE bE) bE)) (bN (km P) (bN (D 85) (bN (qH P) bE bE) bE) (bN (mQ P) (bN (s7 P) bE bE) bE))) (bN (iQ P) (bN (jU P) (bN (D 77) (bN (pR P) bE bE) bE) (bN (D 109) (bN (rN P) bE bE) bE)) (bN (lG P) (bN (D 93) (bN (qJ P) bE bE) bE) (bN (sO P) (bN (yD P) bE bE) bE)))))) (bN (lB P) (bN (jX P) (bN (lE P) (bN (ik P) (bN (jq P) (bN (lL P) (bN (qG P) bE bE) (bN (yE P) bE bE)) (bN (D 96) (bN (rQ P) bE bE) bE)) (bN (j4 P) (bN (D 80) (bN (mL P) bE bE) bE) (bN (D 112) (bN (qw P) bE bE) bE))) (bN (gW P) (bN (jh P) (bN (nq P) (bN (su P) bE bE) bE) (bN (D 104) (bN (pM P) bE bE) bE)) (bN (jg P) (bN (D 88) (bN (qP P) bE bE) bE) (bN (jO P) (bN (sG P) bE bE) bE)))) (bN (Yo P) (bN (gD P) (bN (jn P) (bN (nH P) (bN (s6 P) bE bE) bE) (bN (D 100) (bN (qU P) bE bE) bE)) (bN (j8 P) (bN (D 84) (bN (q9 P) bE bE) bE) (bN (mF P) (bN (qL P) bE bE) bE))) (bN (gm P) (bN (jR P) (bN (D 76) (bN (rU P) bE bE) bE) (bN (D 108) (bN (mJ P) bE bE) bE)) (bN (lK P) (bN (D 92) (bN (qI P) bE bE) bE) (bN (ql P) (bN (xW P) bE bE) bE))))) (bN (lF P) (bN (gA P) (bN (iJ P) (bN (jG P) (bN (nj P) (bN (rD P) bE bE) bE) (bN (D 98) (bN (rA P) bE bE) bE)) (bN (lV P) (bN (D 82) (bN (rT P) bE bE) bE) (bN (mU P) (bN (qC P) bE bE) bE))) (bN (iY P) (bN (iZ P) (bN (j7 P) (bN (sY P) bE bE) bE) (bN (D 106) (bN (sJ P) bE bE) bE)) (bN (lZ P) (bN (D 90) (bN (sV P) bE bE) bE) (bN (rI P) (bN (qg P) bE bE) bE)))) (bN (gk P) (bN (ie P) (bN (jk P) (bN (m9 P) (bN (rY P) bE bE) bE) (bN (D 102) (bN (rF P) bE bE) bE)) (bN (lr P) (bN (D 86) (bN (qe P) bE bE) bE) (bN (m8 P) (bN (pZ P) bE bE) bE))) (bN (iG P) (bN (jJ P) (bN (D 78) (bN (pU P) bE bE) bE) (bN (D 110) (bN (sX P) bE bE) bE)) (bN (lN P) (bN (D 94) (bN (qY P) bE bE) bE) (bN (qi P) (bN (xx P) bE bE) bE)))))))
noncomputable def S21 (D:Nat→Obj) (w:World) (os:OsState):SharedT:=⟨t21 D w.params,194,{},#[],{},2421,os⟩
noncomputable def t22 (D:Nat→Obj) (P:Params):BT:=(bN (jb P) (bN (iI P) (bN (o3_20 P) (bN (lw P) (bN (gZ P) (bN (ji P) (bN (nD P) (bN (sZ P) bE bE) (bN (yO P) bE bE)) (bN (D 95) (bN (qK P) bE bE) bE)) (bN (lg P) (bN (D 79) (bN (qy P) bE bE) bE) (bN (D 111) (bN (sS P) bE bE) bE))) (bN (gY P) (bN (jo P) (bN (nQ P) (bN (rW P) bE bE) bE) (bN (D 103) (bN (pW P) bE bE) bE)) (bN (lq P) (bN (D 87) (bN (mC P) bE bE) bE) (bN (mG P) (bN (qX P) bE bE) bE)))) (bN (ig P) (bN (iV P) (bN (iR P) (bN (nG P) (bN (sW P) bE bE) (bN (De P) bE bE)) (bN (D 99) (bN (qF P) bE bE) bE)) (bN (lX P) (bN (D 83) (bN (qd P) bE bE) bE) (bN (m7 P) (bN (pO P) bE bE) bE))) (bN (jj P) (bN (kY P) (bN (D 75) (bN (qD P) bE bE) bE) (bN (D 107) (bN (qO P) bE bE) bE)) (bN (nA P) (bN (D 91) (bN (qx P) bE bE) bE) (bN (qQ P) (bN (xV P) bE bE) bE))))) (bN (lD P) (bN (lR P) (bN (iM P) (bN (jK P) (bN (nM P) (bN (pX P) bE bE) (bN (pY P) bE bE)) (bN (D 97) (bN (sI P) bE bE) bE)) (bN (jN P) (bN (D 81) (bN (qj P) bE bE) bE) (bN (D 113) (bN (rB P) bE bE) bE))) (bN (iT P) (bN (jT P) (bN (nF P) (bN (mZ P) bE bE) bE) (bN (D 105) (bN (qt P) bE bE) bE)) (bN (my P) (bN (D 89) (bN (sE P) bE bE) bE) (bN (sU P) (bN (rE P) bE bE) bE)))) (bN (gq P) (bN (gH P) (bN (jm P) (bN (ni P) (bN (qR P) bE bE) (bN (Ca P) bE bE)) (bN (D 101) (bN (rR P) bE bE) bE)) (bN (km P) (bN (D 85) (bN (qH P) bE bE) bE) (bN (mQ P) (bN (s7 P) bE bE) bE))) (bN (iQ P) (bN (jU P) (bN (D 77) (bN (pR P) bE bE) bE) (bN (D 109) (bN (rN P) bE bE) bE)) (bN (lG P) (bN (D 93) (bN (qJ P) bE bE) bE) (bN (sO P) (bN (yD P) bE bE) bE)))))) (bN (lB P) (bN (jX P) (bN (lE P) (bN (ik P) (bN (jq P) (bN (lL P) (bN (qG P) bE bE) (bN (yE P) bE bE)) (bN (D 96) (bN (rQ P) bE bE) bE)) (bN (j4 P) (bN (D 80) (bN (mL P) bE bE) bE) (bN (D 112) (bN (qw P) bE bE) bE))) (bN (gW P) (bN (jh P) (bN (nq P) (bN (su P) bE bE) bE) (bN (D 104) (bN (pM P) bE bE) bE)) (bN (jg P) (bN (D 88) (bN (qP P) bE bE) bE) (bN (jO P) (bN (sG P) bE bE) bE)))) (bN (o12_11 P) (bN (gD P) (bN (jn P) (bN (nH P) (bN (s6 P) bE bE) (bN (Bx P) bE bE)) (bN (D 100) (bN (qU P) bE bE) bE)) (bN (j8 P) (bN (D 84) (bN (q9 P) bE bE) bE) (bN (mF P) (bN (qL P) bE bE) bE))) (bN (gm P) (bN (jR P) (bN (D 76) (bN (rU P) bE bE) bE) (bN (D 108) (bN (mJ P) bE bE) bE)) (bN (lK P) (bN (D 92) (bN (qI P) bE bE) bE) (bN (ql P) (bN (xW P) bE bE) bE))))) (bN (lF P) (bN (gA P) (bN (iJ P) (bN (jG P) (bN (nj P) (bN (rD P) bE bE) (bN (Cd P) bE bE)) (bN (D 98) (bN (rA P) bE bE) bE)) (bN (lV P) (bN (D 82) (bN (rT P) bE bE) bE) (bN (mU P) (bN (qC P) bE bE) bE))) (bN (iY P) (bN (iZ P) (bN (j7 P) (bN (sY P) bE bE) bE) (bN (D 106) (bN (sJ P) bE bE) bE)) (bN (lZ P) (bN (D 90) (bN (sV P) bE bE) bE) (bN (rI P) (bN (qg P) bE bE) bE)))) (bN (gk P) (bN (ie P) (bN (jk P) (bN (m9 P) (bN (rY P) bE bE) (bN (vI P) bE bE)) (bN (D 102) (bN (rF P) bE bE) bE)) (bN (lr P) (bN (D 86) (bN (qe P) bE bE) bE) (bN (m8 P) (bN (pZ P) bE bE) bE))) (bN (iG P) (bN (jJ P) (bN (D 78) (bN (pU P) bE bE) bE) (bN (D 110) (bN (sX P) bE bE) bE)) (bN (lN P) (bN (D 94) (bN (qY P) bE bE) bE) (bN (qi P) (bN (xx P) bE bE) bE)))))))
noncomputable def S22 (D:Nat→Obj) (w:World) (os:OsState):SharedT:=⟨t22 D w.params,199,{},#[],{},2427,os⟩
noncomputable def t23 (D:Nat→Obj) (P:Params):BT:=(bN (jb P) (bN (iI P) (bN (o3_21 P) (bN (lw P) (bN (gZ P) (bN (ji P) (bN (nD P) (bN (sZ P) bE bE) (bN (yO P) bE bE)) (bN (D 95) (bN (qK P) bE bE) bE)) (bN (lg P) (bN (D 79) (bN (qy P) bE bE) bE) (bN (D 111) (bN (sS P) bE bE) bE))) (bN (gY P) (bN (jo P) (bN (nQ P) (bN (rW P) bE bE) (bN (HN P) bE bE)) (bN (D 103) (bN (pW P) bE bE) bE)) (bN (lq P) (bN (D 87) (bN (mC P) bE bE) bE) (bN (mG P) (bN (qX P) bE bE) bE)))) (bN (ig P) (bN (iV P) (bN (iR P) (bN (nG P) (bN (sW P) bE bE) (bN (De P) bE bE)) (bN (D 99) (bN (qF P) bE bE) bE)) (bN (lX P) (bN (D 83) (bN (qd P) bE bE) bE) (bN (m7 P) (bN (pO P) bE bE) bE))) (bN (jj P) (bN (kY P) (bN (D 75) (bN (qD P) bE bE) (bN (xR P) bE bE)) (bN (D 107) (bN (qO P) bE bE) bE)) (bN (nA P) (bN (D 91) (bN (qx P) bE bE) bE) (bN (qQ P) (bN (xV P) bE bE) bE))))) (bN (lD P) (bN (lR P) (bN (iM P) (bN (jK P) (bN (nM P) (bN (pX P) bE bE) (bN (pY P) bE bE)) (bN (D 97) (bN (sI P) bE bE) bE)) (bN (jN P) (bN (D 81) (bN (qj P) bE bE) bE) (bN (D 113) (bN (rB P) bE bE) bE))) (bN (iT P) (bN (jT P) (bN (nF P) (bN (mZ P) bE bE) (bN (Hc P) bE bE)) (bN (D 105) (bN (qt P) bE bE) bE)) (bN (my P) (bN (D 89) (bN (sE P) bE bE) bE) (bN (sU P) (bN (rE P) bE bE) bE)))) (bN (gq P) (bN (gH P) (bN (jm P) (bN (ni P) (bN (qR P) bE bE) (bN (Ca P) bE bE)) (bN (D 101) (bN (rR P) bE bE) bE)) (bN (km P) (bN (D 85) (bN (qH P) bE bE) bE) (bN (mQ P) (bN (s7 P) bE bE) bE))) (bN (iQ P) (bN (jU P) (bN (D 77) (bN (pR P) bE bE) bE) (bN (D 109) (bN (rN P) bE bE) bE)) (bN (lG P) (bN (D 93) (bN (qJ P) bE bE) bE) (bN (sO P) (bN (yD P) bE bE) bE)))))) (bN (lB P) (bN (jX P) (bN (lE P) (bN (ik P) (bN (jq P) (bN (lL P) (bN (qG P) bE bE) (bN (yE P) bE bE)) (bN (D 96) (bN (rQ P) bE bE) bE)) (bN (j4 P) (bN (D 80) (bN (mL P) bE bE) bE) (bN (D 112) (bN (qw P) bE bE) bE))) (bN (gW P) (bN (jh P) (bN (nq P) (bN (su P) bE bE) (bN (GK P) bE bE)) (bN (D 104) (bN (pM P) bE bE) bE)) (bN (jg P) (bN (D 88) (bN (qP P) bE bE) bE) (bN (jO P) (bN (sG P) bE bE) bE)))) (bN (o12_12 P) (bN (gD P) (bN (jn P) (bN (nH P) (bN (s6 P) bE bE) (bN (Bx P) bE bE)) (bN (D 100) (bN (qU P) bE bE) bE)) (bN (j8 P) (bN (D 84) (bN (q9 P) bE bE) bE) (bN (mF P) (bN (qL P) bE bE) bE))) (bN (gm P) (bN (jR P) (bN (D 76) (bN (rU P) bE bE) bE) (bN (D 108) (bN (mJ P) bE bE) bE)) (bN (lK P) (bN (D 92) (bN (qI P) bE bE) bE) (bN (ql P) (bN (xW P) bE bE) bE))))) (bN (lF P) (bN (gA P) (bN (iJ P) (bN (jG P) (bN (nj P) (bN (rD P) bE bE) (bN (Cd P) bE bE)) (bN (D 98) (bN (rA P) bE bE) bE)) (bN (lV P) (bN (D 82) (bN (rT P) bE bE) bE) (bN (mU P) (bN (qC P) bE bE) bE))) (bN (iY P) (bN (iZ P) (bN (j7 P) (bN (sY P) bE bE) (bN (Im P) bE bE)) (bN (D 106) (bN (sJ P) bE bE) bE)) (bN (lZ P) (bN (D 90) (bN (sV P) bE bE) bE) (bN (rI P) (bN (qg P) bE bE) bE)))) (bN (gk P) (bN (ie P) (bN (jk P) (bN (m9 P) (bN (rY P) bE bE) (bN (vI P) bE bE)) (bN (D 102) (bN (rF P) bE bE) bE)) (bN (lr P) (bN (D 86) (bN (qe P) bE bE) bE) (bN (m8 P) (bN (pZ P) bE bE) bE))) (bN (iG P) (bN (jJ P) (bN (D 78) (bN (pU P) bE bE) bE) (bN (D 110) (bN (sX P) bE bE) bE)) (bN (lN P) (bN (D 94) (bN (qY P) bE bE) bE) (bN (qi P) (bN (xx P) bE bE) bE)))))))
noncomputable def S23 (D:Nat→Obj) (w:World) (os:OsState):SharedT:=⟨t23 D w.params,204,{},#[],{},2433,os⟩
noncomputable def t24 (D:Nat→Obj) (P:Params):BT:=(bN (jb P) (bN (iI P) (bN (Ye P) (bN (lw P) (bN (gZ P) (bN (ji P) (bN (nD P) (bN (sZ P) bE bE) (bN (yO P) bE bE)) (bN (D 95) (bN (qK P) bE bE) bE)) (bN (lg P) (bN (D 79) (bN (qy P) bE bE) (bN (GF P) bE bE)) (bN (D 111) (bN (sS P) bE bE) bE))) (bN (gY P) (bN (jo P) (bN (nQ P) (bN (rW P) bE bE) (bN (HN P) bE bE)) (bN (D 103) (bN (pW P) bE bE) bE)) (bN (lq P) (bN (D 87) (bN (mC P) bE bE) bE) (bN (mG P) (bN (qX P) bE bE) bE)))) (bN (ig P) (bN (iV P) (bN (iR P) (bN (nG P) (bN (sW P) bE bE) (bN (De P) bE bE)) (bN (D 99) (bN (qF P) bE bE) bE)) (bN (lX P) (bN (D 83) (bN (qd P) bE bE) bE) (bN (m7 P) (bN (pO P) bE bE) bE))) (bN (jj P) (bN (kY P) (bN (D 75) (bN (qD P) bE bE) (bN (xR P) bE bE)) (bN (D 107) (bN (qO P) bE bE) bE)) (bN (nA P) (bN (D 91) (bN (qx P) bE bE) bE) (bN (qQ P) (bN (xV P) bE bE) bE))))) (bN (lD P) (bN (lR P) (bN (iM P) (bN (jK P) (bN (nM P) (bN (pX P) bE bE) (bN (pY P) bE bE)) (bN (D 97) (bN (sI P) bE bE) bE)) (bN (jN P) (bN (D 81) (bN (qj P) bE bE) bE) (bN (D 113) (bN (rB P) bE bE) bE))) (bN (iT P) (bN (jT P) (bN (nF P) (bN (mZ P) bE bE) (bN (Hc P) bE bE)) (bN (D 105) (bN (qt P) bE bE) bE)) (bN (my P) (bN (D 89) (bN (sE P) bE bE) bE) (bN (sU P) (bN (rE P) bE bE) bE)))) (bN (gq P) (bN (gH P) (bN (jm P) (bN (ni P) (bN (qR P) bE bE) (bN (Ca P) bE bE)) (bN (D 101) (bN (rR P) bE bE) bE)) (bN (km P) (bN (D 85) (bN (qH P) bE bE) bE) (bN (mQ P) (bN (s7 P) bE bE) bE))) (bN (iQ P) (bN (jU P) (bN (D 77) (bN (pR P) bE bE) (bN (Ym P) bE bE)) (bN (D 109) (bN (rN P) bE bE) bE)) (bN (lG P) (bN (D 93) (bN (qJ P) bE bE) bE) (bN (sO P) (bN (yD P) bE bE) bE)))))) (bN (lB P) (bN (jX P) (bN (lE P) (bN (ik P) (bN (jq P) (bN (lL P) (bN (qG P) bE bE) (bN (yE P) bE bE)) (bN (D 96) (bN (rQ P) bE bE) bE)) (bN (j4 P) (bN (D 80) (bN (mL P) bE bE) (bN (Ak P) bE bE)) (bN (D 112) (bN (qw P) bE bE) bE))) (bN (gW P) (bN (jh P) (bN (nq P) (bN (su P) bE bE) (bN (GK P) bE bE)) (bN (D 104) (bN (pM P) bE bE) bE)) (bN (jg P) (bN (D 88) (bN (qP P) bE bE) bE) (bN (jO P) (bN (sG P) bE bE) bE)))) (bN (QL P) (bN (gD P) (bN (jn P) (bN (nH P) (bN (s6 P) bE bE) (bN (Bx P) bE bE)) (bN (D 100) (bN (qU P) bE bE) bE)) (bN (j8 P) (bN (D 84) (bN (q9 P) bE bE) bE) (bN (mF P) (bN (qL P) bE bE) bE))) (bN (gm P) (bN (jR P) (bN (D 76) (bN (rU P) bE bE) (bN (PJ P) bE bE)) (bN (D 108) (bN (mJ P) bE bE) bE)) (bN (lK P) (bN (D 92) (bN (qI P) bE bE) bE) (bN (ql P) (bN (xW P) bE bE) bE))))) (bN (lF P) (bN (gA P) (bN (iJ P) (bN (jG P) (bN (nj P) (bN (rD P) bE bE) (bN (Cd P) bE bE)) (bN (D 98) (bN (rA P) bE bE) bE)) (bN (lV P) (bN (D 82) (bN (rT P) bE bE) bE) (bN (mU P) (bN (qC P) bE bE) bE))) (bN (iY P) (bN (iZ P) (bN (j7 P) (bN (sY P) bE bE) (bN (Im P) bE bE)) (bN (D 106) (bN (sJ P) bE bE) bE)) (bN (lZ P) (bN (D 90) (bN (sV P) bE bE) bE) (bN (rI P) (bN (qg P) bE bE) bE)))) (bN (gk P) (bN (ie P) (bN (jk P) (bN (m9 P) (bN (rY P) bE bE) (bN (vI P) bE bE)) (bN (D 102) (bN (rF P) bE bE) bE)) (bN (lr P) (bN (D 86) (bN (qe P) bE bE) bE) (bN (m8 P) (bN (pZ P) bE bE) bE))) (bN (iG P) (bN (jJ P) (bN (D 78) (bN (pU P) bE bE) (bN (O5 P) bE bE)) (bN (D 110) (bN (sX P) bE bE) bE)) (bN (lN P) (bN (D 94) (bN (qY P) bE bE) bE) (bN (qi P) (bN (xx P) bE bE) bE)))))))
noncomputable def nu (D:Nat→Obj) (w:World) (os:OsState):SharedT:=⟨t24 D w.params,209,{},#[],{},2439,os⟩
noncomputable def bL:Env:={ scope:=pw.main.scope,locals:=mainNs,globals:=mainNs,cells:=[],code := .ref 13,frame:=some 14 }
noncomputable def az:Code := .body (behindTheImports pw) bL
noncomputable def dX:Pos:={ line:=0,col:=0,endLine:=0,endCol:=0 }
noncomputable def st (k:Nat):Stmt:=(Al k).getD (.Pass default)
noncomputable abbrev gV:Option Value:=some (.ref 6)
theorem s0_eq (w:World) (os:OsState):(S0 w os).abs=⟨boot_heap w.params,#[],boot_drawn,boot_toks,os⟩:=by kernel_rfl!
theorem Z1 (w:World) (os:OsState):topGo treeTable pw w 11 gV 12 (S0 w os).abs (topStub pw)=some ((S1 w os).abs,⟨denote treeTable (.body (behindTheImports pw) bL),az,dX,[topFrame dX]⟩):=by kernel_rfl!
theorem J7 (w:World) (os:OsState):segRun treeTable pw w 11 gV 1 1 (S1 w os).abs (blockOf (behindTheImports pw) bL az dX [topFrame dX])=some (.next,(S2 w os).abs,az,dX):=by kernel_rfl!
theorem p0 (w:World) (os:OsState) (pos:Pos):segRunT treeTable pw w 11 gV 1 30 (S2 w os) (pieceOf (st 0) bL az pos [topFrame dX])=some (.next,(S3 w os),az,⟨1,0,3,12⟩):=by kernel_rfl!
theorem p1 (w:World) (os:OsState) (pos:Pos):segRunT treeTable pw w 11 gV 1 10 (S3 w os) (pieceOf (st 1) bL az pos [topFrame dX])=some (.next,(S4 w os),az,⟨4,0,4,8⟩):=by kernel_rfl!
theorem p2 (w:World) (os:OsState) (pos:Pos):segRunT treeTable pw w 11 gV 1 16 (S4 w os) (pieceOf (st 2) bL az pos [topFrame dX])=some (.next,(S5 w os),az,⟨5,0,5,9⟩):=by kernel_rfl!
theorem p3 (w:World) (os:OsState) (pos:Pos):segRunT treeTable pw w 11 gV 1 16 (S5 w os) (pieceOf (st 3) bL az pos [topFrame dX])=some (.next,(S6 w os),az,⟨6,0,6,9⟩):=by kernel_rfl!
theorem p4 (w:World) (os:OsState) (pos:Pos):segRunT treeTable pw w 11 gV 1 16 (S6 w os) (pieceOf (st 4) bL az pos [topFrame dX])=some (.next,(S7 w os),az,⟨7,0,7,9⟩):=by kernel_rfl!
theorem p5 (w:World) (os:OsState) (pos:Pos):segRunT treeTable pw w 11 gV 1 42 (S7 w os) (pieceOf (st 5) bL az pos [topFrame dX])=some (.next,(S8 w os),az,⟨8,0,30,20⟩):=by kernel_rfl!
theorem p6 (w:World) (os:OsState) (pos:Pos):segRunT treeTable pw w 11 gV 1 34 (S8 w os) (pieceOf (st 6) bL az pos [topFrame dX])=some (.next,(S9 w os),az,⟨31,0,39,80⟩):=by kernel_rfl!
theorem p7 (w:World) (os:OsState) (pos:Pos):segRunT treeTable pw w 11 gV 1 32 (S9 w os) (pieceOf (st 7) bL az pos [topFrame dX])=some (.next,(S10 w os),az,⟨40,0,48,13⟩):=by kernel_rfl!
theorem p8 (w:World) (os:OsState) (pos:Pos):segRunT treeTable pw w 11 gV 1 41 (S10 w os) (pieceOf (st 8) bL az pos [topFrame dX])=some (.next,(S11 w os),az,⟨49,0,67,20⟩):=by kernel_rfl!
theorem p9 (w:World) (os:OsState) (pos:Pos):segRunT treeTable pw w 11 gV 1 37 (S11 w os) (pieceOf (st 9) bL az pos [topFrame dX])=some (.next,(S12 w os),az,⟨68,0,88,24⟩):=by kernel_rfl!
theorem p10 (w:World) (os:OsState) (pos:Pos):segRunT treeTable pw w 11 gV 1 10 (S12 w os) (pieceOf (st 10) bL az pos [topFrame dX])=some (.next,(S13 w os),az,⟨89,0,89,8⟩):=by kernel_rfl!
theorem LR (w:World) (os:OsState) (pos:Pos):segRunT treeTable pw (w.withFollow "special-get-raises" false) 11 gV 1 999 (S13 (w.withFollow "special-get-raises" false) os) (piecesOf [st 11] bL az pos [topFrame dX])=some (.next,(S14 (w.withFollow "special-get-raises" false) os),az,⟨90,0,90,6⟩):=by
 unfold piecesOf
 rw [W.Fast.te10110043849684766642,W.Fast.te14364793385576792824,W.Fast.te12563942051412417395]
 kernel_rfl!
theorem Sv (w:World) (os:OsState) (pos:Pos):segRunT treeTable pw (w.withFollow "special-get-raises" true) 11 gV 1 999 (S13 (w.withFollow "special-get-raises" true) os) (piecesOf [st 11] bL az pos [topFrame dX])=some (.next,(S14 (w.withFollow "special-get-raises" true) os),az,⟨90,0,90,6⟩):=by
 unfold piecesOf
 rw [W.Fast.te10110043849684766642,W.Fast.te14364793385576792824,W.Fast.te12563942051412417395]
 kernel_rfl!
theorem p11 (w:World) (os:OsState) (pos:Pos):segRunT treeTable pw w 11 gV 1 999 (S13 w os) (pieceOf (st 11) bL az pos [topFrame dX])=some (.next,(S14 w os),az,⟨90,0,90,6⟩):=by
 rw [← HF]
 have e:=World.withFollow_self w "special-get-raises"
 cases hb:w.params.followText "special-get-raises" <;> rw [hb] at e
 ·have:=LR w os pos
  rwa [e] at this
 ·have:=Sv w os pos
  rwa [e] at this
theorem p12 (w:World) (os:OsState) (pos:Pos):segRunT treeTable pw w 11 gV 1 30 (S14 w os) (pieceOf (st 12) bL az pos [topFrame dX])=some (.next,(Xn w os),az,⟨91,0,92,30⟩):=by kernel_rfl!
theorem p14 (D:Nat→Obj) (w:World) (os:OsState) (pos:Pos):segRunT treeTable pw w 11 gV 1 31 (S16 D w os) (pieceOf (st 14) bL az pos [topFrame dX])=some (.next,(S17 D w os),az,⟨94,0,98,23⟩):=by kernel_rfl!
theorem p15 (D:Nat→Obj) (w:World) (os:OsState) (pos:Pos):segRunT treeTable pw w 11 gV 1 10 (S17 D w os) (pieceOf (st 15) bL az pos [topFrame dX])=some (.next,(S18 D w os),az,⟨99,0,99,8⟩):=by kernel_rfl!
theorem J1 (D:Nat→Obj) (w:World) (os:OsState) (pos:Pos):segRunT treeTable pw (w.withFollow "special-get-raises" false) 11 gV 1 493 (S18 D (w.withFollow "special-get-raises" false) os) (pieceOf (st 16) bL az pos [topFrame dX])=some (.next,(S19 D (w.withFollow "special-get-raises" false) os),az,⟨100,0,155,16⟩):=by kernel_rfl!
theorem Rv (D:Nat→Obj) (w:World) (os:OsState) (pos:Pos):segRunT treeTable pw (w.withFollow "special-get-raises" true) 11 gV 1 493 (S18 D (w.withFollow "special-get-raises" true) os) (pieceOf (st 16) bL az pos [topFrame dX])=some (.next,(S19 D (w.withFollow "special-get-raises" true) os),az,⟨100,0,155,16⟩):=by kernel_rfl!
theorem p16 (D:Nat→Obj) (w:World) (os:OsState) (pos:Pos):segRunT treeTable pw w 11 gV 1 493 (S18 D w os) (pieceOf (st 16) bL az pos [topFrame dX])=some (.next,(S19 D w os),az,⟨100,0,155,16⟩):=by
 have e:=World.withFollow_self w "special-get-raises"
 cases hb:w.params.followText "special-get-raises" <;> rw [hb] at e
 ·have:=J1 D w os pos
  rwa [e] at this
 ·have:=Rv D w os pos
  rwa [e] at this
theorem p17 (D:Nat→Obj) (w:World) (os:OsState) (pos:Pos):segRunT treeTable pw w 11 gV 1 10 (S19 D w os) (pieceOf (st 17) bL az pos [topFrame dX])=some (.next,(S20 D w os),az,⟨156,0,156,8⟩):=by kernel_rfl!
theorem p18 (D:Nat→Obj) (w:World) (os:OsState) (pos:Pos):segRunT treeTable pw w 11 gV 1 33 (S20 D w os) (pieceOf (st 18) bL az pos [topFrame dX])=some (.next,(S21 D w os),az,⟨157,0,160,65⟩):=by kernel_rfl!
theorem p19 (D:Nat→Obj) (w:World) (os:OsState) (pos:Pos):segRunT treeTable pw w 11 gV 1 27 (S21 D w os) (pieceOf (st 19) bL az pos [topFrame dX])=some (.next,(S22 D w os),az,⟨161,0,162,92⟩):=by kernel_rfl!
theorem p20 (D:Nat→Obj) (w:World) (os:OsState) (pos:Pos):segRunT treeTable pw w 11 gV 1 27 (S22 D w os) (pieceOf (st 20) bL az pos [topFrame dX])=some (.next,(S23 D w os),az,⟨163,0,175,111⟩):=by kernel_rfl!
theorem p21 (D:Nat→Obj) (w:World) (os:OsState) (pos:Pos):segRunT treeTable pw w 11 gV 1 27 (S23 D w os) (pieceOf (st 21) bL az pos [topFrame dX])=some (.next,(nu D w os),az,⟨176,0,215,15⟩):=by kernel_rfl!
set_option maxHeartbeats 1000000
noncomputable def kO:List Stmt:=(yL (dF 101)[4]!).a
noncomputable abbrev fT101:TS:=⟨["self","ws","T","S","count","b","n","nt","ch"],["count"],(gB 101).names⟩
noncomputable def nR:SS := .ite (.cmp .Eq (.var 8) (.var 3)) (.asg 6 (.bin .Add (.var 6) (.lit (.int 1))) <| .asg 5 (.bin .Add (.var 5) (.lit (.int 1))) <| .nil) (.ite (.cmp .Eq (.var 8) (.var 2)) (.asg 6 (.bin .Add (.var 6) (.lit (.int 1))) <| .asg 7 (.bin .Add (.var 7) (.lit (.int 1))) <| .ite (.cmp .GtE (.var 5) (.bcall .len (.cons (.var 4) .nil))) (.ext 4 (.bin .Mult (.list (.cons (.lit (.int 0)) .nil)) (.bin .Add (.bin .Sub (.var 5) (.bcall .len (.cons (.var 4) .nil))) (.lit (.int 1)))) <| .nil) (.nil) <| .put 4 (.var 5) .Add (.var 5) (.lit (.int 1)) <| .asg 5 (.lit (.int 0)) <| .nil) (.brk <| .nil) <| .nil) <| .nil
theorem fE101:dS nR fT101.L kO=kO:=by kernel_rfl!
theorem fO101:Dp fT101 ["self","ws","T","S","count","b","n","nt"] nR kO=true:=by kernel_rfl!
noncomputable abbrev fT5:TS:=⟨["r","g","b","maxc","minc","sumc","rangec","l","s","rc","gc","bc","h"],[],(gB 5).names⟩
noncomputable def fP5:SS := .asg 3 (.bcall .max (.cons (.var 0) (.cons (.var 1) (.cons (.var 2) .nil)))) <| .asg 4 (.bcall .min (.cons (.var 0) (.cons (.var 1) (.cons (.var 2) .nil)))) <| .asg 5 (.bin .Add (.var 3) (.var 4)) <| .asg 6 (.bin .Sub (.var 3) (.var 4)) <| .asg 7 (.bin .Div (.var 5) (.lit (.float 4611686018427387904))) <| .ite (.cmp .Eq (.var 4) (.var 3)) (.ret (.tup (.cons (.lit (.float 0)) (.cons (.var 7) (.cons (.lit (.float 0)) .nil)))) <| .nil) (.nil) <| .ite (.cmp .LtE (.var 7) (.lit (.float 4602678819172646912))) (.asg 8 (.bin .Div (.var 6) (.var 5)) <| .nil) (.asg 8 (.bin .Div (.var 6) (.bin .Sub (.bin .Sub (.lit (.float 4611686018427387904)) (.var 3)) (.var 4))) <| .nil) <| .asg 9 (.bin .Div (.bin .Sub (.var 3) (.var 0)) (.var 6)) <| .asg 10 (.bin .Div (.bin .Sub (.var 3) (.var 1)) (.var 6)) <| .asg 11 (.bin .Div (.bin .Sub (.var 3) (.var 2)) (.var 6)) <| .ite (.cmp .Eq (.var 0) (.var 3)) (.asg 12 (.bin .Sub (.var 11) (.var 10)) <| .nil) (.ite (.cmp .Eq (.var 1) (.var 3)) (.asg 12 (.bin .Sub (.bin .Add (.lit (.float 4611686018427387904)) (.var 9)) (.var 11)) <| .nil) (.asg 12 (.bin .Sub (.bin .Add (.lit (.float 4616189618054758400)) (.var 10)) (.var 9)) <| .nil) <| .nil) <| .asg 12 (.bin .Mod (.bin .Div (.var 12) (.lit (.float 4618441417868443648))) (.lit (.float 4607182418800017408))) <| .ret (.tup (.cons (.var 12) (.cons (.var 7) (.cons (.var 8) .nil)))) <| .nil
theorem fE5:dS fP5 fT5.L (dF 5)=dF 5:=by kernel_rfl!
theorem fO5:Dp fT5 ["r","g","b"] fP5 (dF 5)=true:=by kernel_rfl!
noncomputable abbrev fT6:TS:=⟨["h","l","s","m2","m1"],[],(gB 6).names⟩
noncomputable def fP6:SS := .ite (.cmp .Eq (.var 2) (.lit (.float 0))) (.ret (.tup (.cons (.var 1) (.cons (.var 1) (.cons (.var 1) .nil)))) <| .nil) (.nil) <| .ite (.cmp .LtE (.var 1) (.lit (.float 4602678819172646912))) (.asg 3 (.bin .Mult (.var 1) (.bin .Add (.lit (.float 4607182418800017408)) (.var 2))) <| .nil) (.asg 3 (.bin .Sub (.bin .Add (.var 1) (.var 2)) (.bin .Mult (.var 1) (.var 2))) <| .nil) <| .asg 4 (.bin .Sub (.bin .Mult (.lit (.float 4611686018427387904)) (.var 1)) (.var 3)) <| .ret (.tup (.cons (.call "_v" (.cons (.var 4) (.cons (.var 3) (.cons (.bin .Add (.var 0) (.glob "ONE_THIRD")) .nil)))) (.cons (.call "_v" (.cons (.var 4) (.cons (.var 3) (.cons (.var 0) .nil)))) (.cons (.call "_v" (.cons (.var 4) (.cons (.var 3) (.cons (.bin .Sub (.var 0) (.glob "ONE_THIRD")) .nil)))) .nil)))) <| .nil
theorem fE6:dS fP6 fT6.L (dF 6)=dF 6:=by kernel_rfl!
theorem fO6:Dp fT6 ["h","l","s"] fP6 (dF 6)=true:=by kernel_rfl!
noncomputable abbrev fT7:TS:=⟨["m1","m2","hue"],[],(gB 7).names⟩
noncomputable def fP7:SS := .asg 2 (.bin .Mod (.var 2) (.lit (.float 4607182418800017408))) <| .ite (.cmp .Lt (.var 2) (.glob "ONE_SIXTH")) (.ret (.bin .Add (.var 0) (.bin .Mult (.bin .Mult (.bin .Sub (.var 1) (.var 0)) (.var 2)) (.lit (.float 4618441417868443648)))) <| .nil) (.nil) <| .ite (.cmp .Lt (.var 2) (.lit (.float 4602678819172646912))) (.ret (.var 1) <| .nil) (.nil) <| .ite (.cmp .Lt (.var 2) (.glob "TWO_THIRD")) (.ret (.bin .Add (.var 0) (.bin .Mult (.bin .Mult (.bin .Sub (.var 1) (.var 0)) (.bin .Sub (.glob "TWO_THIRD") (.var 2))) (.lit (.float 4618441417868443648)))) <| .nil) (.nil) <| .ret (.var 0) <| .nil
theorem fE7:dS fP7 fT7.L (dF 7)=dF 7:=by kernel_rfl!
theorem fO7:Dp fT7 ["m1","m2","hue"] fP7 (dF 7)=true:=by kernel_rfl!
noncomputable abbrev fT8:TS:=⟨["r","g","b","maxc","minc","rangec","v","s","rc","gc","bc","h"],[],(gB 8).names⟩
noncomputable def fP8:SS := .asg 3 (.bcall .max (.cons (.var 0) (.cons (.var 1) (.cons (.var 2) .nil)))) <| .asg 4 (.bcall .min (.cons (.var 0) (.cons (.var 1) (.cons (.var 2) .nil)))) <| .asg 5 (.bin .Sub (.var 3) (.var 4)) <| .asg 6 (.var 3) <| .ite (.cmp .Eq (.var 4) (.var 3)) (.ret (.tup (.cons (.lit (.float 0)) (.cons (.lit (.float 0)) (.cons (.var 6) .nil)))) <| .nil) (.nil) <| .asg 7 (.bin .Div (.var 5) (.var 3)) <| .asg 8 (.bin .Div (.bin .Sub (.var 3) (.var 0)) (.var 5)) <| .asg 9 (.bin .Div (.bin .Sub (.var 3) (.var 1)) (.var 5)) <| .asg 10 (.bin .Div (.bin .Sub (.var 3) (.var 2)) (.var 5)) <| .ite (.cmp .Eq (.var 0) (.var 3)) (.asg 11 (.bin .Sub (.var 10) (.var 9)) <| .nil) (.ite (.cmp .Eq (.var 1) (.var 3)) (.asg 11 (.bin .Sub (.bin .Add (.lit (.float 4611686018427387904)) (.var 8)) (.var 10)) <| .nil) (.asg 11 (.bin .Sub (.bin .Add (.lit (.float 4616189618054758400)) (.var 9)) (.var 8)) <| .nil) <| .nil) <| .asg 11 (.bin .Mod (.bin .Div (.var 11) (.lit (.float 4618441417868443648))) (.lit (.float 4607182418800017408))) <| .ret (.tup (.cons (.var 11) (.cons (.var 7) (.cons (.var 6) .nil)))) <| .nil
theorem fE8:dS fP8 fT8.L (dF 8)=dF 8:=by kernel_rfl!
theorem fO8:Dp fT8 ["r","g","b"] fP8 (dF 8)=true:=by kernel_rfl!
noncomputable abbrev fT9:TS:=⟨["h","s","v","i","f","p","q","t"],[],(gB 9).names⟩
noncomputable def fP9:SS := .ite (.cmp .Eq (.var 1) (.lit (.float 0))) (.ret (.tup (.cons (.var 2) (.cons (.var 2) (.cons (.var 2) .nil)))) <| .nil) (.nil) <| .asg 3 (.bcall .int (.cons (.bin .Mult (.var 0) (.lit (.float 4618441417868443648))) .nil)) <| .asg 4 (.bin .Sub (.bin .Mult (.var 0) (.lit (.float 4618441417868443648))) (.var 3)) <| .asg 5 (.bin .Mult (.var 2) (.bin .Sub (.lit (.float 4607182418800017408)) (.var 1))) <| .asg 6 (.bin .Mult (.var 2) (.bin .Sub (.lit (.float 4607182418800017408)) (.bin .Mult (.var 1) (.var 4)))) <| .asg 7 (.bin .Mult (.var 2) (.bin .Sub (.lit (.float 4607182418800017408)) (.bin .Mult (.var 1) (.bin .Sub (.lit (.float 4607182418800017408)) (.var 4))))) <| .asg 3 (.bin .Mod (.var 3) (.lit (.int 6))) <| .ite (.cmp .Eq (.var 3) (.lit (.int 0))) (.ret (.tup (.cons (.var 2) (.cons (.var 7) (.cons (.var 5) .nil)))) <| .nil) (.nil) <| .ite (.cmp .Eq (.var 3) (.lit (.int 1))) (.ret (.tup (.cons (.var 6) (.cons (.var 2) (.cons (.var 5) .nil)))) <| .nil) (.nil) <| .ite (.cmp .Eq (.var 3) (.lit (.int 2))) (.ret (.tup (.cons (.var 5) (.cons (.var 2) (.cons (.var 7) .nil)))) <| .nil) (.nil) <| .ite (.cmp .Eq (.var 3) (.lit (.int 3))) (.ret (.tup (.cons (.var 5) (.cons (.var 6) (.cons (.var 2) .nil)))) <| .nil) (.nil) <| .ite (.cmp .Eq (.var 3) (.lit (.int 4))) (.ret (.tup (.cons (.var 7) (.cons (.var 5) (.cons (.var 2) .nil)))) <| .nil) (.nil) <| .ite (.cmp .Eq (.var 3) (.lit (.int 5))) (.ret (.tup (.cons (.var 2) (.cons (.var 5) (.cons (.var 6) .nil)))) <| .nil) (.nil) <| .nil
theorem fE9:dS fP9 fT9.L (dF 9)=dF 9:=by kernel_rfl!
theorem fO9:Dp fT9 ["h","s","v"] fP9 (dF 9)=true:=by kernel_rfl!
noncomputable abbrev fT12:TS:=⟨["code"],[],(gB 12).names⟩
noncomputable def fP12:SS := .ret (.cmp .In (.bcall .ord (.cons (.var 0) .nil)) (.glob "b1_set")) <| .nil
theorem fE12:dS fP12 fT12.L (dF 12)=dF 12:=by kernel_rfl!
theorem fO12:Dp fT12 ["code"] fP12 (dF 12)=true:=by kernel_rfl!
noncomputable abbrev fT14:TS:=⟨["code","r"],[],(gB 14).names⟩
noncomputable def YH:SS := .asg 1 (.meth (.glob "b3_exceptions") "get" (.cons (.bcall .ord (.cons (.var 0) .nil)) .nil)) <| .ite (.cmp .IsNot (.var 1) (.lit .none)) (.ret (.var 1) <| .nil) (.nil) <| .ret (.meth (.var 0) "lower" .nil) <| .nil
theorem fE14:dS YH fT14.L (dF 14)=dF 14:=by kernel_rfl!
theorem fO14:Dp fT14 ["code"] YH (dF 14)=true:=by kernel_rfl!
noncomputable abbrev fT102:TS:=⟨["self","count","trailing"],[],(gB 102).names⟩
noncomputable def RZ:SS := .tupl [1,2] (.attr (.var 0) .norm) <| .ret (.bcall .max (.cons (.bin .Sub (.bcall .len (.cons (.var 1) .nil)) (.lit (.int 1))) (.cons (.var 2) .nil))) <| .nil
theorem fE102:dS RZ fT102.L (dF 102)=dF 102:=by kernel_rfl!
theorem fO102:Dp fT102 ["self"] RZ (dF 102)=true:=by kernel_rfl!
noncomputable abbrev fT103:TS:=⟨["self","tabsize","count","trailing","il","i"],[],(gB 103).names⟩
noncomputable def Ny:SS := .tupl [2,3] (.attr (.var 0) .norm) <| .asg 4 (.lit (.int 0)) <| .for_ 5 (.bcall .range (.cons (.var 1) (.cons (.bcall .len (.cons (.var 2) .nil)) .nil))) (.asg 4 (.bin .Add (.var 4) (.bin .Mult (.bin .FloorDiv (.var 5) (.var 1)) (.sub (.var 2) (.var 5)))) <| .nil) <| .ret (.bin .Add (.var 3) (.bin .Mult (.var 1) (.bin .Add (.var 4) (.attr (.var 0) .nt)))) <| .nil
theorem fE103:dS Ny fT103.L (dF 103)=dF 103:=by kernel_rfl!
theorem fO103:Dp fT103 ["self","tabsize"] Ny (dF 103)=true:=by kernel_rfl!
noncomputable abbrev fT106:TS:=⟨["self","other","n","ts"],[],(gB 106).names⟩
noncomputable def Sy:SS := .ite (.cmp .GtE (.attr (.var 0) .n) (.attr (.var 1) .n)) (.ret (.lit (.bool false)) <| .nil) (.nil) <| .ite (.band (.cons (.attr (.var 0) .simple) (.cons (.attr (.var 1) .simple) .nil))) (.ret (.cmp .LtE (.attr (.var 0) .nt) (.attr (.var 1) .nt)) <| .nil) (.nil) <| .asg 2 (.bin .Add (.bcall .max (.cons (.meth (.var 0) "longest_run_of_spaces" .nil) (.cons (.meth (.var 1) "longest_run_of_spaces" .nil) .nil))) (.lit (.int 1))) <| .for_ 3 (.bcall .range (.cons (.lit (.int 2)) (.cons (.bin .Add (.var 2) (.lit (.int 1))) .nil))) (.ite (.cmp .GtE (.meth (.var 0) "indent_level" (.cons (.var 3) .nil)) (.meth (.var 1) "indent_level" (.cons (.var 3) .nil))) (.ret (.lit (.bool false)) <| .nil) (.nil) <| .nil) <| .ret (.lit (.bool true)) <| .nil
theorem fE106:dS Sy fT106.L (dF 106)=dF 106:=by kernel_rfl!
theorem fO106:Dp fT106 ["self","other"] Sy (dF 106)=true:=by kernel_rfl!
noncomputable abbrev fT18:TS:=⟨["level","way","letter","mark"],[],(gB 18).names⟩
noncomputable def Qj:SS := .ret (.sub (.list (.cons (.var 2) (.cons (.bin .Add (.var 3) (.var 2)) (.cons (.bin .Add (.var 2) (.var 3)) .nil)))) (.bin .Mod (.bin .FloorDiv (.var 1) (.lit (.int 324))) (.lit (.int 3)))) <| .nil
noncomputable def Ry:SS := .asg 3 (.bcall .chr (.cons (.sub (.bin .Add (.list (.cons (.lit (.int 173)) (.cons (.lit (.int 847)) (.cons (.lit (.int 6150)) (.cons (.lit (.int 6155)) (.cons (.lit (.int 6156)) (.cons (.lit (.int 6157)) (.cons (.lit (.int 8203)) (.cons (.lit (.int 8204)) (.cons (.lit (.int 8205)) (.cons (.lit (.int 8288)) (.cons (.lit (.int 65279)) .nil)))))))))))) (.bcall .list (.cons (.bcall .range (.cons (.lit (.int 65024)) (.cons (.lit (.int 65040)) .nil))) .nil))) (.bin .Mod (.bin .FloorDiv (.var 1) (.lit (.int 12))) (.lit (.int 27)))) .nil)) <| Qj
noncomputable def H6:SS := .asg 2 (.bcall .chr (.cons (.bin .Add (.sub (.list (.cons (.lit (.int 97)) (.cons (.lit (.int 65)) (.cons (.lit (.int 119808)) (.cons (.lit (.int 119860)) (.cons (.lit (.int 119912)) (.cons (.lit (.int 120016)) (.cons (.lit (.int 120172)) (.cons (.lit (.int 120224)) (.cons (.lit (.int 120276)) (.cons (.lit (.int 120328)) (.cons (.lit (.int 120380)) (.cons (.lit (.int 120432)) .nil))))))))))))) (.bin .Mod (.var 1) (.lit (.int 12)))) (.var 0)) .nil)) <| Ry
theorem fE18:dS H6 fT18.L (dF 18)=dF 18:=by kernel_rfl!
theorem fO18:Dp fT18 ["level","way"] H6 (dF 18)=true:=by kernel_rfl!
noncomputable abbrev fT19:TS:=⟨["text"],[],(gB 19).names⟩
noncomputable def HX:SS := .ret (.bin .Sub (.bcall .ord (.cons (.meth (.lit (.str "")) "join" (.cons (.comp (.cons (.not (.call "in_table_b1" (.cons (.var 0) .nil))) .nil) (.call "map_table_b3" (.cons (.var 0) .nil)) (.var 0)) .nil)) .nil)) (.lit (.int 97))) <| .nil
theorem fE19:dS HX fT19.L (dF 19)=dF 19:=by kernel_rfl!
theorem fO19:Dp fT19 ["text"] HX (dF 19)=true:=by kernel_rfl!
noncomputable abbrev fT20:TS:=⟨["three","way","roles","parts","hue","share","value","paint","light","eighths"],[],(gB 20).names⟩
noncomputable def Rk:SS := .ret (.comp2 (.cons (.cmp .Eq (.sub (.var 4) (.var 0)) (.var 1)) .nil) (.bin .FloorDiv (.sub (.var 11) (.var 0)) .mil) (.bcall .range (.cons (.lit (.int 3)) .nil)) (.bcall .range (.cons (.lit (.int 3)) .nil))) <| .nil
noncomputable def Oe:SS := .ite (.bor (.cons (.not (.cmp2 .LtE .Lt (.lit (.float 0)) (.var 4) (.lit (.float 4607182418800017408)))) (.cons (.cmp .NotEq (.comp (.cons (.cmp .NotEq (.bin .Mod (.var 0) .mil) (.lit (.int 0))) .nil) (.var 0) (.var 9)) (.list .nil)) .nil))) (.ret (.list .nil) <| .nil) (.nil) <| Rk
noncomputable def Hv:SS := .asg 9 (.comp .nil (.bcall .round (.cons (.bin .Mult (.bin .Mult (.lit (.int 8)) .mil) (.var 0)) .nil)) (.var 7)) <| Oe
noncomputable def Nk:SS := .ite (.cmp .Eq (.bin .Mod (.bin .FloorDiv (.var 1) (.lit (.int 6))) (.lit (.int 2))) (.lit (.int 0))) (.tupl [4,5,6] (.call "rgb_to_hsv" (.cons (.sub (.var 3) (.lit (.int 0))) (.cons (.sub (.var 3) (.lit (.int 1))) (.cons (.sub (.var 3) (.lit (.int 2))) .nil)))) <| .asg 7 (.call "hsv_to_rgb" (.cons (.bin .Add (.bin .Add (.var 4) (.lit (.float 4602678819172646912))) (.bin .Mod (.bin .FloorDiv (.var 1) (.lit (.int 12))) (.lit (.int 3)))) (.cons (.var 5) (.cons (.var 6) .nil)))) <| .nil) (.tupl [4,8,5] (.call "rgb_to_hls" (.cons (.sub (.var 3) (.lit (.int 0))) (.cons (.sub (.var 3) (.lit (.int 1))) (.cons (.sub (.var 3) (.lit (.int 2))) .nil)))) <| .asg 7 (.call "hls_to_rgb" (.cons (.bin .Sub (.bin .Add (.var 4) (.lit (.float 4609434218613702656))) (.bin .Mod (.bin .FloorDiv (.var 1) (.lit (.int 12))) (.lit (.int 4)))) (.cons (.var 8) (.cons (.var 5) .nil)))) <| .nil) <| Hv
noncomputable def QX:SS := .asg 3 (.comp .nil (.bin .Div (.sub (.var 1) (.var 0)) (.lit (.int 8))) (.var 2)) <| Nk
noncomputable def I4:SS := .asg 2 (.sub (.list (.cons (.list (.cons (.lit (.int 0)) (.cons (.lit (.int 1)) (.cons (.lit (.int 2)) .nil)))) (.cons (.list (.cons (.lit (.int 0)) (.cons (.lit (.int 2)) (.cons (.lit (.int 1)) .nil)))) (.cons (.list (.cons (.lit (.int 1)) (.cons (.lit (.int 0)) (.cons (.lit (.int 2)) .nil)))) (.cons (.list (.cons (.lit (.int 1)) (.cons (.lit (.int 2)) (.cons (.lit (.int 0)) .nil)))) (.cons (.list (.cons (.lit (.int 2)) (.cons (.lit (.int 0)) (.cons (.lit (.int 1)) .nil)))) (.cons (.list (.cons (.lit (.int 2)) (.cons (.lit (.int 1)) (.cons (.lit (.int 0)) .nil)))) .nil))))))) (.bin .Mod (.var 1) (.lit (.int 6)))) <| QX
theorem fE20:dS I4 fT20.L (dF 20)=dF 20:=by kernel_rfl!
theorem fO20:Dp fT20 ["three","way"] I4 (dF 20)=true:=by kernel_rfl!
noncomputable abbrev lwL:List Str:=["script","x","drawn","rows","columns","fronts","page","place","level","spot","ink","tents","lines","typed","down","right","line","under","below","above","order","levels","sweep","least","greatest","turned","leads"]
noncomputable abbrev lTA:TS:=⟨lwL,["page"],(gB 21).names⟩
noncomputable def Jq:SS := .ite (.cmp .NotEq (.comp .nil (.bcall .round (.cons (.bin .Mult (.bin .Mult (.lit (.int 15952)) .mil) (.var 0)) .nil)) (.var 10)) (.comp .nil (.bin .Mult .mil (.bin .Add (.bin .Mult (.bin .Sub (.lit (.int 8)) (.var 9)) (.lit (.int 997))) (.bin .Mult (.bin .Mult (.lit (.int 2)) (.var 9)) (.var 0)))) (.var 11))) (.ret (.lit (.bool false)) <| .nil) (.nil) <| .nil
noncomputable def Jj:SS := .asg 11 (.comp .nil (.bcall .max (.cons (.lit (.int 0)) (.cons (.bcall .min (.cons (.lit (.int 997)) (.cons (.bin .Sub (.bcall .abs (.cons (.bin .Sub (.bin .Mod (.bin .Add (.bin .Mult (.lit (.int 6)) (.var 10)) (.bin .Mult (.var 0) (.lit (.int 997)))) (.lit (.int 5982))) (.lit (.int 2991))) .nil)) (.lit (.int 997))) .nil))) .nil))) (.list (.cons (.lit (.int 0)) (.cons (.lit (.int 4)) (.cons (.lit (.int 2)) .nil))))) <| Jq
noncomputable def Jk:SS := .asg 10 (.call "hls_to_rgb" (.cons (.bin .Sub (.bin .Add (.bin .Div (.var 9) (.lit (.int 997))) (.var 7)) (.lit (.int 2))) (.cons (.lit (.float 4602678819172646912)) (.cons (.bin .Div (.var 8) (.lit (.int 8))) .nil)))) <| Jj
noncomputable def BR:SS := .asg 9 (.bin .Mod (.bin .Mult (.lit (.int 61)) (.var 1)) (.lit (.int 997))) <| Jk
noncomputable def Bw:SS := .ins 6 (.bin .Mod (.bin .FloorDiv (.var 1) (.lit (.int 9))) (.bin .Add (.var 7) (.lit (.int 1)))) (.list (.cons (.bin .FloorDiv (.var 7) (.var 4)) (.cons (.bin .Mod (.var 7) (.var 4)) (.cons (.var 8) (.cons (.bin .FloorDiv (.var 1) (.lit (.int 54))) .nil))))) <| BR
noncomputable def Jl:SS := .scal 8 (.bcall .max (.cons (.bin .Add (.list (.cons (.bin .Mod (.var 1) (.lit (.int 9))) .nil)) (.comp (.cons (.band (.cons (.cmp .LtE (.sub (.var 0) (.lit (.int 0))) (.bin .FloorDiv (.var 8) (.var 5))) (.cons (.cmp .LtE (.sub (.var 0) (.lit (.int 1))) (.bin .Mod (.var 8) (.var 5))) .nil))) .nil) (.sub (.var 0) (.lit (.int 2))) (.var 6))) .nil)) <| Bw
noncomputable def Bh:SS := .asg 1 (.sub (.var 2) (.bin .Add (.lit (.int 1)) (.var 7))) <| Jl
noncomputable def Vi:SS := .for_ 7 (.bcall .range (.cons (.bin .Mult (.var 3) (.var 4)) .nil)) Bh <| .nil
noncomputable def lA_3:SS := .own 6 <| Vi
noncomputable def lA_2:SS := .asg 5 (.sub (.list (.cons (.list (.cons (.lit (.str "")) (.cons (.lit (.str "")) .nil))) (.cons (.list (.cons (.lit (.str "\t")) (.cons (.lit (.str "\t")) .nil))) (.cons (.list (.cons (.lit (.str " \t\t")) (.cons (.lit (.str "\t \t")) .nil))) (.cons (.list (.cons (.lit (.str "  \t \t")) (.cons (.lit (.str " \t  \t")) .nil))) .nil))))) (.bin .Mod (.bin .FloorDiv (.sub (.var 2) (.lit (.int 0))) (.lit (.int 3))) (.lit (.int 4)))) <| lA_3
noncomputable def lA_1:SS := .tupl [3,4] (.sub (.list (.cons (.tup (.cons (.lit (.int 2)) (.cons (.lit (.int 2)) .nil))) (.cons (.tup (.cons (.lit (.int 2)) (.cons (.lit (.int 3)) .nil))) (.cons (.tup (.cons (.lit (.int 3)) (.cons (.lit (.int 2)) .nil))) .nil)))) (.bin .Mod (.sub (.var 2) (.lit (.int 0))) (.lit (.int 3)))) <| lA_2
noncomputable def Ox:SS := .asg 2 (.bin .Add (.comp .nil (.bin .Mod (.var 0) .mil) (.slt (.var 0) (.lit (.int 7)))) (.slf (.list (.cons (.lit (.int 7)) (.cons (.lit (.int 21601)) (.cons (.lit (.int 37857)) (.cons (.lit (.int 4603)) (.cons (.lit (.int 27029)) (.cons (.lit (.int 17841)) (.cons (.lit (.int 493)) .nil)))))))) (.bcall .len (.cons (.slt (.var 0) (.lit (.int 7))) .nil)))) <| lA_1
noncomputable def lBA:List Stmt:=((dF 21).take 5).drop 0
theorem lEA:dS Ox lwL lBA=lBA:=by kernel_rfl!
theorem lOA:yW 30 Ox lTA lBA 30=true:=by kernel_rfl!
noncomputable abbrev lTB:TS:=⟨lwL,[],(gB 21).names⟩
noncomputable def Vy:SS := .asg 19 (.comp .nil (.comp (.cons (.sub (.sub (.var 19) (.var 1)) (.var 0)) .nil) (.var 0) (.var 13)) (.var 12)) <| .nil
noncomputable def Uj:SS := .asg 18 (.comp .nil (.comp (.cons (.sub (.sub (.var 19) (.var 0)) (.var 1)) .nil) (.var 0) (.var 13)) (.var 12)) <| Vy
noncomputable def Uw:SS := .ite (.cmp .NotEq (.comp2 (.cons (.band (.cons (.cmp .IsNot (.var 0) (.lit (.bool true))) (.cons (.cmp .IsNot (.var 0) (.lit (.bool false))) .nil))) .nil) (.var 0) (.var 17) (.var 0)) (.list .nil)) (.ret (.lit (.bool false)) <| .nil) (.nil) <| Uj
noncomputable def Ud:SS := .asg 17 (.comp .nil (.comp .nil (.meth (.sub (.var 28) (.var 1)) "less" (.cons (.sub (.var 28) (.var 0)) .nil)) (.var 13)) (.var 12)) <| Uw
noncomputable def WR:SS := .asg 26 (.comp .nil (.call "Whitespace" (.cons (.bin .Add (.bin .Add (.bin .Add (.sub (.var 6) (.bin .Mod (.var 0) (.lit (.int 2)))) (.bin .Mult (.var 15) (.sub (.sub (.var 7) (.var 0)) (.lit (.int 0))))) (.bin .Mult (.var 16) (.sub (.sub (.var 7) (.var 0)) (.lit (.int 1))))) (.sub (.var 14) (.var 0))) .nil)) (.var 12)) <| Ud
noncomputable def Tz:SS := .tupl [14,15] (.sub (.list (.cons (.list (.cons (.lit (.str "\t")) (.cons (.lit (.str " ")) .nil))) (.cons (.list (.cons (.lit (.str "\t")) (.cons (.lit (.str "  ")) .nil))) (.cons (.list (.cons (.lit (.str "  \t")) (.cons (.lit (.str "\t")) .nil))) (.cons (.list (.cons (.lit (.str "\t")) (.cons (.lit (.str "  \t")) .nil))) .nil))))) (.bin .Add (.bin .Sub (.var 3) (.lit (.int 2))) (.bin .Mult (.bin .Mod (.bin .FloorDiv (.sub (.var 2) (.lit (.int 0))) (.lit (.int 6))) (.lit (.int 2))) (.lit (.int 2))))) <| WR
noncomputable def lB_1:SS := .asg 13 (.comp .nil (.call "_law_typed" (.cons (.sub (.var 0) (.lit (.int 2))) (.cons (.sub (.var 0) (.lit (.int 3))) .nil))) (.var 6)) <| Tz
noncomputable def M7:SS := .asg 12 (.bcall .range (.cons (.bcall .len (.cons (.var 6) .nil)) .nil)) <| lB_1
noncomputable def lBB:List Stmt:=((dF 21).take 13).drop 5
theorem lEB:dS M7 lwL lBB=lBB:=by kernel_rfl!
theorem lOB:yW 30 M7 lTB lBB 30=true:=by kernel_rfl!
noncomputable abbrev lTC:TS:=⟨lwL,[],(gB 21).names⟩
noncomputable def lC_2:SS := .ret (.lit (.bool true)) <| .nil
noncomputable def qb:SS := .ite (.cmp .Eq (.bin .Add (.bin .Add (.sub (.sub (.var 6) (.var 16)) (.lit (.int 0))) (.sub (.sub (.var 6) (.var 16)) (.lit (.int 1)))) (.lit (.int 1))) (.var 22)) (.ite (.cmp .NotEq (.list (.cons (.bin .Sub (.lit (.int 8)) (.sub (.var 21) (.var 16))) .nil)) (.comp (.cons (.band (.cons (.cmp .Eq (.bin .Add (.sub (.var 0) (.lit (.int 0))) (.sub (.sub (.var 7) (.var 17)) (.lit (.int 0)))) (.bin .Sub (.var 4) (.lit (.int 1)))) (.cons (.cmp .Eq (.bin .Add (.sub (.var 0) (.lit (.int 1))) (.sub (.sub (.var 7) (.var 17)) (.lit (.int 1)))) (.bin .Sub (.var 5) (.lit (.int 1)))) .nil))) .nil) (.sub (.var 0) (.lit (.int 2))) (.var 6))) (.ret (.lit (.bool false)) <| .nil) (.nil) <| .nil) (.nil) <| .nil
noncomputable def Cm:SS := .for_ 16 (.var 12) qb <| .nil
noncomputable def Jy:SS := .asg 21 (.comp .nil (.call "_law_read" (.cons (.var 0) .nil)) (.var 13)) <| Cm
noncomputable def wU:SS := .asg 13 (.comp .nil (.call "_law_typed" (.cons (.sub (.var 22) (.var 0)) (.cons (.bin .Add (.sub (.sub (.var 7) (.var 0)) (.lit (.int 3))) (.bin .Mult (.lit (.int 29)) (.var 23))) .nil))) (.var 12)) <| Jy
noncomputable def yl:SS := .asg 21 (.bin .Add (.bin .Add (.slt (.var 21) (.var 16)) (.slc (.var 25) (.lit (.int 1)) (.lit (.int 2)))) (.slf (.var 21) (.bin .Add (.var 16) (.lit (.int 1))))) <| .nil
noncomputable def yt:SS := .ite (.cmp .NotEq (.bin .Add (.slt (.var 25) (.lit (.int 1))) (.slf (.var 25) (.lit (.int 2)))) (.list (.cons (.var 24) (.cons (.var 23) .nil)))) (.ret (.lit (.bool false)) <| .nil) (.nil) <| yl
noncomputable def xG:SS := .asg 25 (.call "_law_turned" (.cons (.list (.cons (.var 23) (.cons (.sub (.var 21) (.var 16)) (.cons (.var 24) .nil)))) (.cons (.bin .Add (.bin .Add (.bin .FloorDiv (.sub (.var 2) (.lit (.int 0))) (.lit (.int 12))) (.bin .Mult (.lit (.int 7)) (.var 22))) (.bin .Mult (.lit (.int 5)) (.var 16))) .nil))) <| yt
noncomputable def xn:SS := .asg 24 (.bcall .min (.cons (.bin .Add (.list (.cons (.lit (.int 8)) .nil)) (.comp .nil (.sub (.var 22) (.var 0)) (.sub (.var 19) (.var 16)))) .nil)) <| xG
noncomputable def sH:SS := .asg 23 (.bcall .max (.cons (.bin .Add (.list (.cons (.lit (.int 0)) .nil)) (.comp .nil (.sub (.var 22) (.var 0)) (.sub (.var 18) (.var 16)))) .nil)) <| xn
noncomputable def wQ:SS := .for_ 16 (.var 20) sH <| wU
noncomputable def lC_1:SS := .for_ 22 (.bcall .range (.cons (.lit (.int 1)) (.cons (.bin .Add (.var 3) (.var 4)) .nil))) wQ <| lC_2
noncomputable def VM:SS := .asg 21 (.comp .nil (.call "_law_read" (.cons (.var 0) .nil)) (.var 13)) <| lC_1
noncomputable def lBC:List Stmt:=((dF 21).take 17).drop 14
theorem lEC:dS VM lwL lBC=lBC:=by kernel_rfl!
theorem lOC:yW 30 VM lTC lBC 30=true:=by kernel_rfl!
theorem getInt {l:List Int} {n:Nat} (h:n < l.length):(l.map D.int)[n]? = some (.int (l.getD n 0)):=by rw [List.getElem?_map,List.getElem?_eq_getElem h,List.getD_eq_getElem?_getD,List.getElem?_eq_getElem h]; rfl
noncomputable abbrev gU (G:Ctx):Prop:=∀ b:Bn,G.fns.lookup b.name=none
theorem H3 (G:Ctx) (hG:gU G) (x:Ws) (hl:x.count.length≤1000):eE G 30 30 (gB 102).names [] ["self"] (dF 102) [.ws x]=some (.int (if x.b > (x.count.length:Int)-1 then x.b else (x.count.length:Int)-1)):=by
 refine DG (t:=fT102) hG 3 fE102 fO102 rfl ?_
 dsimp only [RZ,wS,wX,wL,wA,wO,bH,bF,bC,fP,fX,fC,fQ,fK,b7,cu,cG,bQ,bZ,bR,cD,cF,cg,cz,bY,bT,bU,cA,fJ,f9,gf,fH,fB,fM,fV,fG,gb,fZ,fY,fD,fc,fj,gh,fL,fU,aX,aN,aA,aC,aZ,aB,aY,aP,aV,aU,aR,eN,eQ,eV,d9,aW,aM,bh,bG,bI,cond_true,cond_false]
 rw [List.length_map]
 exact ⟨Nat.lt_of_le_of_lt hl (by decide),rfl⟩
noncomputable def JR (ts:Int) (c:List Int):Nat→Int
 | 0=>0
 | j+1=>JR ts c j+(ts+j) / ts*c.getD (ts+j).toNat 0
theorem Kv (G:Ctx) (hG:gU G) (x:Ws) (hl:x.count.length≤1000) (ts:Int) (h1:0 < ts) (h2:ts≤1000) :
  eE G 30 30 (gB 103).names [] ["self","tabsize"] (dF 103) [.ws x,.int ts]=some (.int (x.b+ts*(JR ts x.count ((x.count.length:Int)-ts).toNat+x.nt))):=by
 refine DG (t:=fT103) hG 6 fE103 fO103 rfl ?_
 dsimp only [Ny,wS,wX,wL,wA,wO,bH,bF,bC,fP,fX,fC,fQ,fK,b7,cu,cG,bQ,bZ,bR,cD,cF,cg,cz,bY,bT,bU,cA,fJ,f9,gf,fH,fB,fM,fV,fG,gb,fZ,fY,fD,fc,fj,gh,fL,fU,aX,aN,aA,aC,aZ,aB,aY,aP,aV,aU,aR,eN,eQ,eV,d9,aW,aM,bh,bG,bI,cond_true,cond_false]
 rw [List.length_map]
 have tb:ts.natAbs < 2 ^ 62:=by omega
 refine ⟨Nat.lt_of_le_of_lt hl (by decide),by omega,oV (fun j kn=>∃ v,kn=[some (.ws x),some (.int ts),some (.tup (x.count.map .int)),some (.int x.b),some (.int (JR ts x.count j)),v]) ⟨_,rfl⟩ (fun j d kn hj I M hM=>?_) fun kn I=>?_⟩
 ·obtain ⟨v,rfl⟩:=I
  obtain ⟨hj,rfl⟩:=zP hj
  dsimp only [wS,wX,wL,wA,wO,bH,bF,bC,fP,fX,fC,fQ,fK,b7,cu,cG,bQ,bZ,bR,cD,cF,cg,cz,bY,bT,bU,cA,fJ,f9,gf,fH,fB,fM,fV,fG,gb,fZ,fY,fD,fc,fj,gh,fL,fU,aX,aN,aA,aC,aZ,aB,aY,aP,aV,aU,aR,eN,eQ,eV,d9,aW,aM,bh,bG,bI,cond_true,cond_false]
  have e:0≤(ts+(j:Int)) / ts:=Int.ediv_nonneg (by omega) (by omega)
  have e':(ts+(j:Int)) / ts≤ts+j:=Int.ediv_le_self _ (by omega)
  generalize hz:(ts+(j:Int)) / ts=z at e e' ⊢
  have b1:ts < 2 ^ 60∧0≤ts+(j:Int)∧ts+(j:Int) < 2 ^ 62∧(ts+(j:Int)).toNat < x.count.length∧z.natAbs < 2 ^ 62:=by omega
  refine ⟨⟨h1,b1.1⟩,_,(s_tup b1.2.1 b1.2.2.1 (by rw [List.length_map]; exact Nat.lt_of_le_of_lt hl (by decide))).trans (getInt b1.2.2.2.1),?_⟩
  dsimp only [wS,wX,wL,wA,wO,bH,bF,bC,fP,fX,fC,fQ,fK,b7,cu,cG,bQ,bZ,bR,cD,cF,cg,cz,bY,bT,bU,cA,fJ,f9,gf,fH,fB,fM,fV,fG,gb,fZ,fY,fD,fc,fj,gh,fL,fU,aX,aN,aA,aC,aZ,aB,aY,aP,aV,aU,aR,eN,eQ,eV,d9,aW,aM,bh,bG,bI,cond_true,cond_false]
  exact ⟨b1.2.2.2.2,hM _ ⟨_,by subst hz; rfl⟩⟩
 ·obtain ⟨v,rfl⟩:=I
  dsimp only [wS,wX,wL,wA,wO,bH,bF,bC,fP,fX,fC,fQ,fK,b7,cu,cG,bQ,bZ,bR,cD,cF,cg,cz,bY,bT,bU,cA,fJ,f9,gf,fH,fB,fM,fV,fG,gb,fZ,fY,fD,fc,fj,gh,fL,fU,aX,aN,aA,aC,aZ,aB,aY,aP,aV,aU,aR,eN,eQ,eV,d9,aW,aM,bh,bG,bI,cond_true,cond_false]
  exact ⟨tb,by rw [jL]⟩
noncomputable def lJ (x:Ws):Int:=if x.b > (x.count.length:Int)-1 then x.b else (x.count.length:Int)-1
noncomputable def XF (x:Ws) (ts:Int):Int:=x.b+ts*(JR ts x.count ((x.count.length:Int)-ts).toNat+x.nt)
noncomputable def Gu (x:Ws):Bool:=decide (x.count.length≤900)&&decide (0≤x.b)&&decide (x.b≤900)
noncomputable def Jb:Fn:=arg1 asW fun x=>au (Gu x) (.int (lJ x))
noncomputable def ilF:Fn:=arg2 asW Gr fun x ts=>au (Gu x&&decide (0 < ts)&&decide (ts≤1000)) (.int (XF x ts))
theorem Cg {x:Ws} (h:Gu x=true):x.count.length≤900∧0≤x.b∧x.b≤900:=by
 simpa [Gu,Bool.and_eq_true,and_assoc] using h
theorem Eb {x:Ws} (h:Gu x=true):0≤lJ x+1∧lJ x≤900:=by
 obtain ⟨a,b,c⟩:=Cg h
 unfold lJ
 split <;> omega
noncomputable def nW (x y:Ws):Bool:=if x.n≥y.n then false else if x.count.length≤1∧y.count.length≤1 then decide (x.nt≤y.nt) else
 (eF 2 ((if lJ y > lJ x then lJ y else lJ x)+1+1)).all fun d=>match d with | .int ts=>!decide (XF x ts≥XF y ts) | _=>false
noncomputable def Xm:Fn:=arg2 asW asW fun x y=>au (Gu x&&Gu y) (.bool (nW x y))
theorem Xf {x:Ws} (h:Gu x=true):Jb [.ws x]=some (.int (lJ x)):=bu h
theorem Yj {x:Ws} {ts:Int} (h:Gu x=true) (h1:0 < ts) (h2:ts≤1000):ilF [.ws x,.int ts]=some (.int (XF x ts)):=bu (by simp [h,h1,h2])
theorem U3 (G:Ctx) (hG:gU G) (hM1:G.meths.lookup ("longest_run_of_spaces":Str)=some Jb) (hM2:G.meths.lookup ("indent_level":Str)=some ilF) (x y:Ws) (hx:Gu x=true) (hy:Gu y=true) :
  eE G 30 30 (gB 106).names [] ["self","other"] (dF 106) [.ws x,.ws y]=some (.bool (nW x y)):=by
 refine DG (t:=fT106) hG 4 fE106 fO106 rfl ?_
 dsimp only [Sy,wS,wX,wL,wA,wO,bH,bF,bC,fP,fX,fC,fQ,fK,b7,cu,cG,bQ,bZ,bR,cD,cF,cg,cz,bY,bT,bU,cA,fJ,f9,gf,fH,fB,fM,fV,fG,gb,fZ,fY,fD,fc,fj,gh,fL,fU,aX,aN,aA,aC,aZ,aB,aY,aP,aV,aU,aR,eN,eQ,eV,d9,aW,aM,bh,bG,bI,cond_true,cond_false]
 have bx:=Eb hx
 have by':=Eb hy
 unfold nW
 by_cases h1:x.n≥y.n
 ·rw [if_pos h1]; exact yes h1 rfl
 rw [if_neg h1]
 refine no h1 (Qf ?_)
 by_cases h2:x.count.length≤1∧y.count.length≤1
 ·rw [if_pos h2,decide_eq_true h2.1,decide_eq_true h2.2]; exact rfl
 rw [if_neg h2]
 refine nob (by rw [← Bool.decide_and]; exact decide_eq_false h2) ⟨_,uz hM1 (Xf hx),_,uz hM1 (Xf hy),?_⟩
 dsimp only [wS,wX,wL,wA,wO,bH,bF,bC,fP,fX,fC,fQ,fK,b7,cu,cG,bQ,bZ,bR,cD,cF,cg,cz,bY,bT,bU,cA,fJ,f9,gf,fH,fB,fM,fV,fG,gb,fZ,fY,fD,fc,fj,gh,fL,fU,aX,aN,aA,aC,aZ,aB,aY,aP,aV,aU,aR,eN,eQ,eV,d9,aW,aM,bh,bG,bI,cond_true,cond_false]
 generalize hm:(if lJ y > lJ x then lJ y else lJ x)=m
 have hb:-1≤m∧m≤900:=by split at hm <;> omega (config:={})
 refine ⟨by omega,Nq (fun d=>match d with | .int ts=>!decide (XF x ts≥XF y ts) | _=>false) (fun kn=>∃ a b,kn=[some (.ws x),some (.ws y),a,b]) (.bool false) ⟨_,_,rfl⟩ (fun d kn hd I M hM hR=>?_) (fun ha kn I=>?_) fun ha=>by rw [ha]⟩
 ·obtain ⟨_,_,rfl⟩:=I
  obtain ⟨j,hj⟩:=List.mem_iff_getElem?.mp hd
  obtain ⟨hj1,rfl⟩:=zP hj
  have hb1:0 < 2+(j:Int)∧2+(j:Int)≤1000:=by omega
  dsimp only [wS,wX,wL,wA,wO,bH,bF,bC,fP,fX,fC,fQ,fK,b7,cu,cG,bQ,bZ,bR,cD,cF,cg,cz,bY,bT,bU,cA,fJ,f9,gf,fH,fB,fM,fV,fG,gb,fZ,fY,fD,fc,fj,gh,fL,fU,aX,aN,aA,aC,aZ,aB,aY,aP,aV,aU,aR,eN,eQ,eV,d9,aW,aM,bh,bG,bI,cond_true,cond_false]
  refine ⟨_,uz hM2 (Yj hx hb1.1 hb1.2),_,uz hM2 (Yj hy hb1.1 hb1.2),?_⟩
  dsimp only [wS,wX,wL,wA,wO,bH,bF,bC,fP,fX,fC,fQ,fK,b7,cu,cG,bQ,bZ,bR,cD,cF,cg,cz,bY,bT,bU,cA,fJ,f9,gf,fH,fB,fM,fV,fG,gb,fZ,fY,fD,fc,fj,gh,fL,fU,aX,aN,aA,aC,aZ,aB,aY,aP,aV,aU,aR,eN,eQ,eV,d9,aW,aM,bh,bG,bI,cond_true,cond_false]
  by_cases hp:XF x (2+(j:Int))≥XF y (2+(j:Int))
  ·exact yes hp (hR (by show (!decide _)=_; rw [decide_eq_true hp]; rfl))
  ·exact no hp (hM (by show (!decide _)=_; rw [decide_eq_false hp]; rfl) _ ⟨_,_,rfl⟩)
 ·obtain ⟨_,_,rfl⟩:=I
  rw [ha]
noncomputable def Ae (c:List Int) (k:Nat):List Int :=
 let c':=if k≥c.length then c++List.replicate (k-c.length+1) 0 else c
 c'.set k (c'.getD k 0+1)
noncomputable def dC:List Nat→Int→Int→Int→List Int→Int × Int × Int × List Int
 | [],n,nt,b,c=>(n,nt,b,c)
 | ch :: r,n,nt,b,c=>if ch=32 then dC r (n+1) nt (b+1) c else if ch=9 then dC r (n+1) (nt+1) 0 (Ae c b.toNat) else (n,nt,b,c)
theorem Mg {c:List Int} {k:Nat} (h:c.length≤901) (h2:k≤900):(Ae c k).length≤901:=by
 unfold Ae
 simp only [List.length_set]
 split
 ·simp; omega
 ·exact h
theorem Nv {c:Nat} {k:Nat} {s:Str} (hs:s=⟨#[k]⟩) (h:c≠k):¬ ((⟨#[c]⟩:Str)=s):=fun q=>h (by rw [hs] at q; simpa using q)
theorem Ub {n:Nat}:(List.replicate n [D.int 0]).flatten=(List.replicate n (0:Int)).map D.int:=by
 induction n with
 | zero=>rfl
 | succ n ih=>rw [List.replicate_succ,List.flatten_cons,ih,List.replicate_succ]; rfl
noncomputable def kh (xo:Addr) (x:Str) (n nt b:Int) (c:List Int) (v:Option D):Kn:=[some (.obj xo),some (.str x),some (.str "\t"),some (.str " "),some (.list (c.map .int)),some (.int b),some (.int n),some (.int nt),v]
theorem WL {c:List Int} {b:Int} (h0:0≤b) (hb:b≤900) (hc:c.length≤901):∃ c':List Int,(if (c.length:Int)≤b then c++List.replicate (b-c.length+1).toNat 0 else c)=c'∧b.toNat < c'.length∧c'.length≤901∧Ae c b.toNat=c'.set b.toNat (c'.getD b.toNat 0+1):=by
 refine ⟨_,rfl,?_,?_,?_⟩
 ·split <;> first | omega | (simp; omega)
 ·split <;> first | assumption | (simp; omega)
 ·unfold Ae
  by_cases q:(c.length:Int)≤b
  ·rw [if_pos (show b.toNat≥c.length by omega),if_pos q,show b.toNat-c.length+1=(b-c.length+1).toNat by omega]
  ·rw [if_neg (show ¬ b.toNat≥c.length by omega),if_neg q]
section
variable {G:Ctx} {xo:Addr} {x:Str} {N B:Kn→Prop} {R:D→Prop} {n nt b:Int} {c:List Int}
theorem ini_s (h:N (kh xo x (n+1) nt (b+1) c (some (.str ⟨#[32]⟩)))):wS G nR (kh xo x n nt b c (some (.str ⟨#[32]⟩))) N B R:=by
 unfold kh
 dsimp only [nR,wS,wX,wL,wA,wO,bH,bF,bC,fP,fX,fC,fQ,fK,b7,cu,cG,bQ,bZ,bR,cD,cF,cg,cz,bY,bT,bU,cA,fJ,f9,gf,fH,fB,fM,fV,fG,gb,fZ,fY,fD,fc,fj,gh,fL,fU,aX,aN,aA,aC,aZ,aB,aY,aP,aV,aU,aR,eN,eQ,eV,d9,aW,aM,bh,bG,bI,cond_true,cond_false]
 exact yes (by decide +kernel) h
theorem ini_x {ch:Nat} (h1:ch≠32) (h2:ch≠9) (h:B (kh xo x n nt b c (some (.str ⟨#[ch]⟩)))):wS G nR (kh xo x n nt b c (some (.str ⟨#[ch]⟩))) N B R:=by
 unfold kh
 dsimp only [nR,wS,wX,wL,wA,wO,bH,bF,bC,fP,fX,fC,fQ,fK,b7,cu,cG,bQ,bZ,bR,cD,cF,cg,cz,bY,bT,bU,cA,fJ,f9,gf,fH,fB,fM,fV,fG,gb,fZ,fY,fD,fc,fj,gh,fL,fU,aX,aN,aA,aC,aZ,aB,aY,aP,aV,aU,aR,eN,eQ,eV,d9,aW,aM,bh,bG,bI,cond_true,cond_false]
 exact no (Nv (k:=32) (by decide +kernel) h1) (no (Nv (k:=9) (by decide +kernel) h2) h)
theorem ini_t (h0:0≤b) (hb:b≤900) (hc:c.length≤901) (h:N (kh xo x (n+1) (nt+1) 0 (Ae c b.toNat) (some (.str ⟨#[9]⟩)))):wS G nR (kh xo x n nt b c (some (.str ⟨#[9]⟩))) N B R:=by
 obtain ⟨c',hc0,hc1,hc2,hc3⟩:=WL h0 hb hc
 rw [hc3] at h
 unfold kh at h ⊢
 dsimp only [nR,wS,wX,wL,wA,wO,bH,bF,bC,fP,fX,fC,fQ,fK,b7,cu,cG,bQ,bZ,bR,cD,cF,cg,cz,bY,bT,bU,cA,fJ,f9,gf,fH,fB,fM,fV,fG,gb,fZ,fY,fD,fc,fj,gh,fL,fU,aX,aN,aA,aC,aZ,aB,aY,aP,aV,aU,aR,eN,eQ,eV,d9,aW,aM,bh,bG,bI,cond_true,cond_false]
 have e:(c.map D.int).length=c.length:=List.length_map ..
 have q:(c.map D.int).length < 2 ^ 62∧b < 2 ^ 62:=by omega
 refine no (by decide +kernel) (yes (by decide +kernel) ⟨q.1,?_⟩)
 have put:∀ l,l=c'.map D.int→∃ r,jW (D.list l) (D.int b)=some r∧uF .Add r (D.int 1) fun d=>JF d fun d=>(0≤b∧b < 2 ^ 62∧b.toNat < l.length) ∧
   N [some (.obj xo),some (.str x),some (.str "\t"),some (.str " "),some (.list (l.set b.toNat d)),some (.int 0),some (.int (n+1)),some (.int (nt+1)),some (.str ⟨#[9]⟩)]:=fun l hl=>by
  subst hl
  refine ⟨_,(fW h0 q.2).trans (getInt hc1),_,rfl,⟨h0,q.2,by rw [List.length_map]; exact hc1⟩,?_⟩
  rw [← List.map_set]
  exact h
 by_cases hq:((c.map D.int).length:Int)≤b
 ·rw [if_pos (e▸hq)] at hc0
  refine yes hq ⟨q.1,_,b_lmul (by omega) (by omega) (by decide) (by decide),?_⟩
  rw [Ub]
  refine ⟨c.map D.int++(List.replicate (b-((c.map D.int).length:Int)+1).toNat 0).map D.int,?_,put _ ?_⟩
  ·show (intsOf _).bind _=_
   rw [jH,Option.bind_some,bu (decide_eq_true (by simp; have:sizeLine=16777216:=rfl; omega (config:={})))]; rfl
  ·rw [e,← hc0,List.map_append]
 ·rw [if_neg (e▸hq)] at hc0
  exact no hq (put _ (congrArg _ hc0))
theorem init_W:∀ {l:List Nat} {n nt b:Int} {c:List Int} {v:Option D},l.length≤900→0≤b→b+l.length≤900→c.length≤901 →
  ((dC l n nt b c).2.2.2.length≤901→0≤(dC l n nt b c).2.2.1→(dC l n nt b c).2.2.1≤900→∀ v,N (kh xo x (dC l n nt b c).1 (dC l n nt b c).2.1 (dC l n nt b c).2.2.1 (dC l n nt b c).2.2.2 v)) →
  xq (fun d kn Q=>Q (bC kn 8 d)) (fun kn N B R=>wS G nR kn N B R) (l.map fun c=>D.str ⟨#[c]⟩) (kh xo x n nt b c v) N R:=by
 intro l
 induction l with
 | nil =>
   intro n nt b c v h1 h2 h3 h4 hN
   exact hN h4 h2 (by show b≤900; simpa using h3) v
 | cons ch r ih =>
   intro n nt b c v h1 h2 h3 h4 hN
   rw [List.length_cons] at h1 h3
   have hb:b≤900∧r.length≤900∧0≤b+1∧b+1+r.length≤900∧(0:Int)+r.length≤900∧b.toNat≤900:=by omega
   unfold dC at hN
   show wS G nR (kh xo x n nt b c (some (.str ⟨#[ch]⟩))) _ _ R
   by_cases hS:ch=32
   ·rw [if_pos hS] at hN
    rw [hS]
    exact ini_s (ih hb.2.1 hb.2.2.1 hb.2.2.2.1 h4 hN)
   rw [if_neg hS] at hN
   by_cases hT:ch=9
   ·rw [if_pos hT] at hN
    rw [hT]
    exact ini_t h2 hb.1 h4 (ih hb.2.1 (Int.le_refl 0) hb.2.2.2.2.1 (Mg h4 hb.2.2.2.2.2) hN)
   ·rw [if_neg hT] at hN
    exact ini_x hS hT (hN h4 h2 hb.1 _)
theorem LK (G:Ctx) (hG:gU G) (xo:Addr) (x:Str) (py:Pos) {l:List Nat} (hl:l.length≤890):∃ ρ',forLoop (gB 101).names [("count":Str)] (wC (cP G 30) (gB 101).names [("count":Str)] 30) (.Name ("ch":Str) py) kO (l.map fun c=>D.str ⟨#[c]⟩) (Hj xo x)=some (.next,ρ')∧ρ'.lookup ("self":Str)=some (D.obj xo) ∧
   ρ'.lookup ("n":Str)=some (.int (dC l 0 0 0 []).1)∧ρ'.lookup ("nt":Str)=some (.int (dC l 0 0 0 []).2.1)∧ρ'.lookup ("b":Str)=some (.int (dC l 0 0 0 []).2.2.1)∧ρ'.lookup ("count":Str)=some (.list ((dC l 0 0 0 []).2.2.2.map .int)) ∧
   (dC l 0 0 0 []).2.2.2.length≤901:=by
 obtain ⟨ht,h3⟩:=aK fO101
 obtain ⟨h1,h2⟩:=aK ht
 have X:Kns fT101.all (Hj xo x) (kh xo x 0 0 0 [] none):=by
  have e:Hj xo x=(["self","ws","T","S","count","b","n","nt"]:List Str).zip [.obj xo,.str x,.str "\t",.str " ",.list [],.int 0,.int 0,.int 0]:=rfl
  rw [e]
  exact HB (n:=9) h1 h2 rfl
 obtain ⟨⟨fl,ρ'⟩,e,q⟩:=Bf (G:=G) (u:=nR) (tg := .Name ("ch":Str) py) (l:=kO) (bnd:=fun d kn Q=>Q (bC kn 8 d)) (N:=fun kn=>(∃ v,kn=kh xo x (dC l 0 0 0 []).1 (dC l 0 0 0 []).2.1 (dC l 0 0 0 []).2.2.1 (dC l 0 0 0 []).2.2.2 v)∧(dC l 0 0 0 []).2.2.2.length≤901) (R:=fun _=>False) (B:=fun _=>False)
  (fun X w=>by have:=SS.right (SE.right hG) nR h3 X w; rw [fE101] at this; exact this) (fun {d kn ρ P} X w=>⟨_,rfl,_,X.set (by decide +kernel) (by decide +kernel),w⟩) X (init_W (aF hl (by decide)) (Int.le_refl 0) (by omega) (by simp) fun a _ _ v=>⟨⟨v,rfl⟩,a⟩)
 cases fl with
 | next =>
  obtain ⟨kn,X,⟨v,rfl⟩,hl⟩:=q
  exact ⟨ρ',e,X.v _ 0 _ rfl (by decide +kernel) rfl,X.v _ 6 _ rfl (by decide +kernel) rfl,X.v _ 7 _ rfl (by decide +kernel) rfl,X.v _ 5 _ rfl (by decide +kernel) rfl,X.v _ 4 _ rfl (by decide +kernel) rfl,hl⟩
 | brk=>obtain ⟨_,_,q⟩:=q; exact q.elim
 | ret r=>exact q.elim
end
noncomputable def tY (x:Str):Int × Int × Int × List Int:=dC x.cps.toList 0 0 0 []
noncomputable def Xb (x:Str):Option Ws:=au (decide (x.cps.toList.length≤890)) ⟨x,(tY x).1,(tY x).2.1,(tY x).2.2.2,(tY x).2.2.1⟩
theorem Kp:InitBody (gB 101).names (dF 101) kO:=by
 refine ⟨⟨(fun i=>List.getD [_,_,_,_,_,_,_,_,_,_,_,_,_,_,_,_,_,_,_,_,_,_,_,_,_,_,_,_,_,_,_,_,_,_,_,_,_,_,_,_,_,_,_,_,_,_,_,_,_] i default),(fun i=>List.getD [_,_,_,_,_] i 0),rfl,fun env S=>?_⟩,by decide +kernel,by decide +kernel⟩
 obtain ⟨hn,hk,_,_,_,_,_⟩:=S
 cases env
 cases ‹Scope›
 dsimp only at hn hk
 subst hn hk
 kernel_rfl!
theorem Vo (G:Ctx) (hG:gU G):∀ x ws,Xb x=some ws→∀ xo py,∃ ρ',forLoop (gB 101).names [("count":Str)] (wC (cP G 30) (gB 101).names [("count":Str)] 30) (.Name ("ch":Str) py) kO (x.cps.toList.map fun c=>D.str ⟨#[c]⟩) (Hj xo x)=some (.next,ρ')∧List.lookup ("self" : Str) ρ'=some (D.obj xo) ∧
   List.lookup ("n" : Str) ρ'=some (.int ws.n)∧List.lookup ("nt" : Str) ρ'=some (.int ws.nt)∧List.lookup ("b" : Str) ρ'=some (.int ws.b)∧List.lookup ("count" : Str) ρ'=some (.list (ws.count.map .int))∧ws.raw=x∧ws.count.length≤1000:=by
 intro x ws h xo py
 obtain ⟨h1,rfl⟩:=ak h
 have h1:x.cps.toList.length≤890:=cI h1
 obtain ⟨ρ',a1,a2,a3,a4,a5,a6,a7⟩:=LK G hG xo x py h1
 exact ⟨ρ',a1,a2,a3,a4,a5,a6,rfl,aF a7 (by decide)⟩
theorem W4 {G:Ctx} {m:Str} {t:Mt} {x:Str} {ds:List D} {r:D} (hm:xT m=some t) (h:uw t (.str x) ds=some r):vL G m (.str x) ds=some r:=by show (xT m).bind _=_; rw [hm]; exact h
theorem m_imap {G:Ctx} {m:Str} {t:Mt} {x:Int→Option Str} {ds:List D} {r:D} (hm:xT m=some t) (h:uw t (.imap x) ds=some r):vL G m (.imap x) ds=some r:=by show (xT m).bind _=_; rw [hm]; exact h
theorem b1_eq (G:Ctx) (hG:gU G) {S:Int→Bool} (hS:G.vals.lookup ("b1_set":Str)=some (.iset S)) (c:Nat) :
  eE G 30 30 (gB 12).names [] ["code"] (dF 12) [.str ⟨#[c]⟩]=some (.bool (S c)):=by
 refine DG (t:=fT12) hG 1 fE12 fO12 rfl ?_
 dsimp only [fP12,q7,wS,wX,wL,wA,wO,bH,bF,bC,fP,fX,fC,fQ,fK,b7,cu,cG,bQ,bZ,bR,cD,cF,cg,cz,bY,bT,bU,cA,fJ,f9,gf,fH,fB,fM,fV,fG,gb,fZ,fY,fD,fc,fj,gh,fL,fU,aX,aN,aA,aC,aZ,aB,aY,aP,aV,aU,aR,eN,eQ,eV,d9,aW,aM,bh,bG,bI,cond_true,cond_false]
 exact ⟨_,Hz,_,hS,_,c_inS,rfl⟩
noncomputable def Tf (f:Int→Option Str) (c:Nat):Str:=match f c with
 | some x=>x
 | none=>Txt.lower ⟨#[c]⟩
theorem b3_eq (G:Ctx) (hG:gU G) {f:Int→Option Str} (hf:G.vals.lookup ("b3_exceptions":Str)=some (.imap f)) (c:Nat) (hl:Builtin.Str.tooLong (Txt.lower ⟨#[c]⟩).length=false) :
  eE G 30 30 (gB 14).names [] ["code"] (dF 14) [.str ⟨#[c]⟩]=some (.str (Tf f c)):=by
 refine DG (t:=fT14) hG 2 fE14 fO14 rfl ?_
 dsimp only [YH,q7,wS,wX,wL,wA,wO,bH,bF,bC,fP,fX,fC,fQ,fK,b7,cu,cG,bQ,bZ,bR,cD,cF,cg,cz,bY,bT,bU,cA,fJ,f9,gf,fH,fB,fM,fV,fG,gb,fZ,fY,fD,fc,fj,gh,fL,fU,aX,aN,aA,aC,aZ,aB,aY,aP,aV,aU,aR,eN,eQ,eV,d9,aW,aM,bh,bG,bI,cond_true,cond_false]
 refine ⟨_,hf,_,Hz,_,m_imap YJ cm_get,?_⟩
 unfold Tf
 cases f c with
 | none=>exact ⟨_,c_isn0,_,W4 Rt (QG hl),rfl⟩
 | some x=>exact ⟨_,Z0,rfl⟩
noncomputable def b1F (S:Int→Bool):Fn:=arg1 asS fun x=>au (decide (x.length=1)) (.bool (S (x.cps.getD 0 0:Nat)))
noncomputable def b3F (f:Int→Option Str):Fn:=arg1 asS fun x=>au (decide (x.length=1)&&!Builtin.Str.tooLong (Txt.lower ⟨#[x.cps.getD 0 0]⟩).length) (.str (Tf f (x.cps.getD 0 0)))
noncomputable def uX:List (Option Expr):=match st 13 with
 | .Assign _ (.Dict ks _ _) _=>ks
 | _=>[]
noncomputable def vJ:List Expr:=match st 13 with
 | .Assign _ (.Dict _ vs _) _=>vs
 | _=>[]
noncomputable def wM:Pos:=match st 13 with
 | .Assign _ (.Dict _ _ p) _=>p
 | _=>default
noncomputable def dictApos:Pos:=match st 13 with
 | .Assign _ _ p=>p
 | _=>default
noncomputable def GQ:List Expr:=match st 13 with
 | .Assign ts _ _=>ts
 | _=>[]
noncomputable def dictL:List (Int × Str):=(litsOf uX vJ).getD []
noncomputable def zj:Nat:=348
noncomputable def dm:List (Int × Str) × List (Int × Str) × List Obj:=shape zj dictL [] [] []
noncomputable def dictObjs:List Obj:=bO (ents zj dm.1++cW (zj+3*dm.1.length) dm.2.1) (dm.1++dm.2.1).length :: (dm.2.2++[bO (cW (zj+3*dm.1.length) dm.2.1) dm.2.1.length])
noncomputable def aG (i:Nat):Obj:=(dictObjs[i-75]?).getD default
theorem VG:st 13=.Assign GQ (.Dict uX vJ wM) dictApos:=by kernel_rfl!
theorem Li:(litsOf uX vJ).isSome=true:=by kernel_rfl!
theorem dict_L:litsOf uX vJ=some dictL:=by
 obtain ⟨x,hx⟩:=Option.isSome_iff_exists.mp Li
 unfold dictL; rw [hx]; rfl
theorem QC:asc (dictL.map (·.1))=true:=by kernel_rfl!
theorem N8:dictL.length=650:=by kernel_rfl!
theorem Hi:(!dm.1.isEmpty&&!dm.2.1.isEmpty&&Nat.ble dm.2.1.length 15&&Nat.beq (dm.1++dm.2.1).length 650&&Nat.beq dictObjs.length 39)=true:=by kernel_rfl!
theorem K1:swapsWithSole GQ (.Dict uX vJ wM) dictApos.line bL=pure false:=by kernel_rfl!
theorem Mj (w:World) (os:OsState):((Xn w os).abs.toks,(Xn w os).abs.gens,(Xn w os).abs.heap.objs.size)=(zj,(#[]:Array GenState),75):=by kernel_rfl!
theorem LQ (D:Nat→Obj) (w:World) (os:OsState):(SM D w os).abs.heap=gP ((Xn w os).abs.heap.push (D 75)) [D 76,D 77,D 78,D 79,D 80,D 81,D 82,D 83,D 84,D 85,D 86,D 87,D 88,D 89,D 90,D 91,D 92,D 93,D 94,D 95,D 96,D 97,D 98,D 99,D 100,D 101,D 102,D 103,D 104,D 105,D 106,D 107,D 108,D 109,D 110,D 111,D 112,D 113]:=by kernel_rfl!
theorem JW:[aG 76,aG 77,aG 78,aG 79,aG 80,aG 81,aG 82,aG 83,aG 84,aG 85,aG 86,aG 87,aG 88,aG 89,aG 90,aG 91,aG 92,aG 93,aG 94,aG 95,aG 96,aG 97,aG 98,aG 99,aG 100,aG 101,aG 102,aG 103,aG 104,aG 105,aG 106,aG 107,aG 108,aG 109,aG 110,aG 111,aG 112,aG 113]=dm.2.2++[bO (cW (zj+3*dm.1.length) dm.2.1) dm.2.1.length]:=by kernel_rfl!
theorem Hm (D:Nat→Obj) (w:World) (os:OsState) (pos:Pos):segRunT treeTable pw w 11 gV 1 40 (SM D w os) ⟨(storeOf GQ (.Dict uX vJ wM) bL (.ref 75)).wrap doneF deadEnd id id,az,pos,[topFrame dX]⟩=some (.next,S16 D w os,az,⟨93,0,93,13⟩):=by kernel_rfl!
set_option maxHeartbeats 2000000
noncomputable def b1List:List Int:=[173,847,6150,6155,6156,6157,8203,8204,8205,8288,65279,65024,65025,65026,65027,65028,65029,65030,65031,65032,65033,65034,65035,65036,65037,65038,65039]
noncomputable def JM (i:Int):Bool:=b1List.contains i
noncomputable def nP (k:Int):Option Str:=dictL.lookup k
noncomputable def Xr (c:Nat):Bool:=!Builtin.Str.tooLong (Txt.lower ⟨#[c]⟩).length
noncomputable def n8 (l:List Nat):List Nat:=(l.filter fun (c:Nat)=>!JM (c:Int)).flatMap fun (c:Nat)=>(Tf nP c).cps.toList
theorem zy {a b:List Nat}:n8 (a++b)=n8 a++n8 b:=by unfold n8; rw [List.filter_append,List.flatMap_append]
noncomputable def alphaL:List Int:=[97,65,119808,119860,119912,120016,120172,120224,120276,120328,120380,120432]
noncomputable def MK (lv w:Int):Nat:=(alphaL.getD (w % 12).toNat 0+lv).toNat
noncomputable def RM (w:Int):Nat:=(b1List.getD (w / 12 % 27).toNat 0).toNat
noncomputable def wg (lv w:Int):List Nat:=if w / 324 % 3=0 then [MK lv w] else if w / 324 % 3=1 then [RM w,MK lv w] else [MK lv w,RM w]
noncomputable def tH (lv w:Int):Str:=⟨(wg lv w).toArray⟩
noncomputable def Io (j k:Nat):Bool:=(n8 [(alphaL.getD j 0+(k:Int)).toNat]==[97+k])&&Xr (alphaL.getD j 0+(k:Int)).toNat&&!(Nat.beq (alphaL.getD j 0+(k:Int)).toNat 32)&&!(Nat.beq (alphaL.getD j 0+(k:Int)).toNat 9)&&decide (0≤alphaL.getD j 0∧alphaL.getD j 0+(k:Int)≤1114111)
noncomputable def Oh (i:Nat):Bool:=(n8 [(b1List.getD i 0).toNat]==[])&&Xr (b1List.getD i 0).toNat&&!(Nat.beq (b1List.getD i 0).toNat 32)&&!(Nat.beq (b1List.getD i 0).toNat 9)&&decide (0≤b1List.getD i 0∧b1List.getD i 0≤1114111)
theorem JP:((List.range 12).all (fun j=>(List.range 9).all fun k=>Io j k)&&(List.range 27).all Oh)=true:=by decide +kernel
theorem VR {j k:Nat} (h:j < 12) (h2:k < 9):Io j k=true:=List.all_eq_true.mp (List.all_eq_true.mp (bj JP).1 j (List.mem_range.mpr h)) k (List.mem_range.mpr h2)
theorem Vt {i:Nat} (h:i < 27):Oh i=true:=List.all_eq_true.mp (bj JP).2 i (List.mem_range.mpr h)
structure Sign (c:Nat) (l:List Nat) (i:Int):Prop where
 p:n8 [c]=l
 ok:Xr c=true
 n1:c≠32
 n2:c≠9
 lo:0≤i
 hi:i≤1114111
theorem sign_of {c:Nat} {l:List Nat} {i j:Int} (h:((n8 [c]==l)&&Xr c&&!(Nat.beq c 32)&&!(Nat.beq c 9)&&decide (0≤j∧i≤1114111))=true) (hj:j≤i):Sign c l i:=by
 obtain ⟨h,h5⟩:=aK h
 obtain ⟨h,h4⟩:=aK h
 obtain ⟨h,h3⟩:=aK h
 obtain ⟨h1,h2⟩:=aK h
 obtain ⟨q1,q2⟩:=cI h5
 exact ⟨eq_of_beq h1,h2,fun q=>by rw [q] at h3; exact dM h3,fun q=>by rw [q] at h4; exact dM h4,Int.le_trans q1 hj,q2⟩
theorem DR {lv w:Int} (h0:0≤lv) (h8:lv≤8):Sign (MK lv w) [97+lv.toNat] (alphaL.getD (w % 12).toNat 0+lv):=by
 have h:=VR (j:=(w % 12).toNat) (k:=lv.toNat) (by omega) (by omega)
 unfold Io at h
 rw [Int.toNat_of_nonneg h0] at h
 exact sign_of h (Int.le_add_of_nonneg_right h0)
theorem Ez {w:Int}:Sign (RM w) [] (b1List.getD (w / 12 % 27).toNat 0):=sign_of (Vt (i:=(w / 12 % 27).toNat) (by omega)) (Int.le_refl _)
theorem QR:[D.int 173,D.int 847,D.int 6150,D.int 6155,D.int 6156,D.int 6157,D.int 8203,D.int 8204,D.int 8205,D.int 8288,D.int 65279]++eF 65024 65040=b1List.map .int:=by kernel_rfl!
theorem pick3 {α:Type} {a b c:α} {k:Int} (h0:0≤k) (h3:k < 3):[a,b,c][k.toNat]? = some (if k=0 then a else if k=1 then b else c):=by
 rcases (by omega:k=0∨k=1∨k=2) with rfl | rfl | rfl <;> rfl
theorem N6 (G:Ctx) (hG:gU G) (lv w:Int) (h0:0≤lv) (h8:lv≤8):eE G 30 30 (gB 18).names [] ["level","way"] (dF 18) [.int lv,.int w]=some (.str (tH lv w)):=by
 refine DG (t:=fT18) hG 4 fE18 fO18 rfl ?_
 have L:=DR (w:=w) h0 h8
 have M:=Ez (w:=w)
 dsimp only [H6,Ry,Qj,q7,wS,wX,wL,wA,wO,bH,bF,bC,fP,fX,fC,fQ,fK,b7,cu,cG,bQ,bZ,bR,cD,cF,cg,cz,bY,bT,bU,cA,fJ,f9,gf,fH,fB,fM,fV,fG,gb,fZ,fY,fD,fc,fj,gh,fL,fU,aX,aN,aA,aC,aZ,aB,aY,aP,aV,aU,aR,eN,eQ,eV,d9,aW,aM,bh,bG,bI,cond_true,cond_false]
 refine ⟨by decide,_,(fW (by omega) (by omega)).trans (getInt (l:=alphaL) (by show (w % 12).toNat < 12; omega)),?_⟩
 dsimp only [wS,wX,wL,wA,wO,bH,bF,bC,fP,fX,fC,fQ,fK,b7,cu,cG,bQ,bZ,bR,cD,cF,cg,cz,bY,bT,bU,cA,fJ,f9,gf,fH,fB,fM,fV,fG,gb,fZ,fY,fD,fc,fj,gh,fL,fU,aX,aN,aA,aC,aZ,aB,aY,aP,aV,aU,aR,eN,eQ,eV,d9,aW,aM,bh,bG,bI,cond_true,cond_false]
 refine ⟨⟨L.lo,L.hi⟩,_,Wq (by decide) (by decide) (by decide) (by decide),?_⟩
 dsimp only [wS,wX,wL,wA,wO,bH,bF,bC,fP,fX,fC,fQ,fK,b7,cu,cG,bQ,bZ,bR,cD,cF,cg,cz,bY,bT,bU,cA,fJ,f9,gf,fH,fB,fM,fV,fG,gb,fZ,fY,fD,fc,fj,gh,fL,fU,aX,aN,aA,aC,aZ,aB,aY,aP,aV,aU,aR,eN,eQ,eV,d9,aW,aM,bh,bG,bI,cond_true,cond_false]
 refine ⟨by decide,⟨by decide,by decide⟩,by decide,?_⟩
 rw [QR]
 refine ⟨_,(fW (by omega) (by omega)).trans (getInt (l:=b1List) (by show (w / 12 % 27).toNat < 27; omega)),?_⟩
 dsimp only [wS,wX,wL,wA,wO,bH,bF,bC,fP,fX,fC,fQ,fK,b7,cu,cG,bQ,bZ,bR,cD,cF,cg,cz,bY,bT,bU,cA,fJ,f9,gf,fH,fB,fM,fV,fG,gb,fZ,fY,fD,fc,fj,gh,fL,fU,aX,aN,aA,aC,aZ,aB,aY,aP,aV,aU,aR,eN,eQ,eV,d9,aW,aM,bh,bG,bI,cond_true,cond_false]
 refine ⟨⟨M.lo,M.hi⟩,show 2≤16000000 by decide,show 2≤16000000 by decide,⟨by decide,by decide⟩,by decide,_,(fW (by omega) (by omega)).trans (pick3 (by omega) (by omega)),?_⟩
 unfold tH wg MK RM
 split
 ·rfl
 ·split <;> rfl
theorem Gn {lv w:Int} (h0:0≤lv) (h8:lv≤8):n8 (wg lv w)=[97+lv.toNat]∧∀ c∈wg lv w,Xr c=true∧c≠32∧c≠9:=by
 have L:=DR (w:=w) h0 h8
 have M:=Ez (w:=w)
 have e:∀ a b:Nat,[a,b]=[a]++[b]:=fun _ _=>rfl
 have l:∀ c,c=MK lv w→Xr c=true∧c≠32∧c≠9:=fun c q=>by subst q; exact ⟨L.ok,L.n1,L.n2⟩
 have m:∀ c,c=RM w→Xr c=true∧c≠32∧c≠9:=fun c q=>by subst q; exact ⟨M.ok,M.n1,M.n2⟩
 unfold wg
 split
 ·exact ⟨L.p,fun c hc=>l c (List.mem_singleton.mp hc)⟩
 ·split
  ·refine ⟨by rw [e,zy,L.p,M.p]; rfl,fun c hc=>?_⟩
   rcases cM hc with q | hc
   ·exact m c q
   ·exact l c (List.mem_singleton.mp hc)
  ·refine ⟨by rw [e,zy,L.p,M.p]; rfl,fun c hc=>?_⟩
   rcases cM hc with q | hc
   ·exact l c q
   ·exact m c (List.mem_singleton.mp hc)
noncomputable def CW (l:List Str):Str:=⟨(l.flatMap fun p=>p.cps.toList).toArray⟩
theorem Ld:("":Str).cps=#[]:=by decide +kernel
theorem J0:∀ (l:List Str) (a:Array Nat),(l.foldl (fun acc p=>acc++("":Str).cps++p.cps) a)=(a.toList++l.flatMap fun p=>p.cps.toList).toArray:=by
 intro l
 induction l with
 | nil =>
   intro a
   simp
 | cons p l ih =>
   intro a
   rw [List.foldl_cons,ih,Ld]
   simp
theorem NZ (l:List Str):Txt.join ("":Str) l=CW l:=by
 show Str.mk _=_
 unfold CW
 cases l with
 | nil=>rfl
 | cons p l =>
  congr 1
  show (l.foldl (fun acc p=>acc++("":Str).cps++p.cps) p.cps)=_
  rw [J0]; simp
theorem TV (l:List Str):(CW l).length=(l.map Str.length).sum:=by
 unfold CW
 show (List.flatMap _ l).toArray.size=_
 simp only [List.size_toArray,List.length_flatMap]
 rfl
theorem J4:("":Str).length=0:=by decide +kernel
theorem QF:∀ (l:List Str) (a:Nat),l.foldl (fun (a:Nat) (p:Str)=>a+p.length+("":Str).length) a=a+(l.map Str.length).sum:=by
 intro l
 induction l with
 | nil =>
   intro a
   simp
 | cons p l ih =>
   intro a
   rw [List.foldl_cons,ih,List.map_cons,List.sum_cons,J4]; omega
theorem Vd {l:List Str} (h:(CW l).length≤16000000):uw .join (.str ("":Str)) [.list (l.map .str)]=some (.str (CW l)):=by
 show (strsOf (l.map .str)).bind (fun ts=>au (!Builtin.Str.tooLong (ts.toArray.foldl (fun (a:Nat) (p:Str)=>a+p.length+("":Str).length) 0)&&decide ((Txt.join ("":Str) ts).length≤sizeLine)) (D.str (Txt.join ("":Str) ts)))=_
 rw [Hy,Option.bind_some]
 have hz:(16000000:Nat)≤sizeLine:=by decide
 rw [NZ]
 refine bu ?_
 rw [Bool.and_eq_true]
 refine ⟨?_,by simpa using aF h hz⟩
 have e:(l.toArray.foldl (fun (a:Nat) (p:Str)=>a+p.length+("":Str).length) 0)=(CW l).length:=by
  rw [TV]
  have:=QF l 0
  rw [Nat.zero_add] at this
  rw [← this]; simp
 rw [e]
 unfold Builtin.Str.tooLong
 have:=aF h hz
 simp; exact this
theorem ZJ {S:Int→Bool} {c:Nat}:b1F S [.str ⟨#[c]⟩]=some (.bool (S c)):=nr rfl
theorem b3F_eq {f:Int→Option Str} {c:Nat} (h:Builtin.Str.tooLong (Txt.lower ⟨#[c]⟩).length=false):b3F f [.str ⟨#[c]⟩]=some (.str (Tf f c)):=by
 show au (decide ((⟨#[c]⟩:Str).length=1)&&!Builtin.Str.tooLong (Txt.lower ⟨#[(⟨#[c]⟩:Str).cps.getD 0 0]⟩).length) _=_
 have e:(⟨#[c]⟩:Str).cps.getD 0 0=c:=rfl
 rw [e,h]; rfl
theorem pick {b:Bool} {P:D→Prop} (h:P (.bool b)):cond b (P (.bool true)) (P (.bool false)):=by cases b <;> exact h
theorem Q6 {l:List Nat}:(l.filter fun (c:Nat)=>!JM c).map (fun (c:Nat)=>D.str (Tf nP c))=((l.filter fun (c:Nat)=>!JM c).map fun (c:Nat)=>Tf nP c).map D.str:=by rw [List.map_map]; rfl
theorem Qx {l:List Nat}:CW ((l.filter fun (c:Nat)=>!JM c).map fun (c:Nat)=>Tf nP c)=⟨(n8 l).toArray⟩:=by
 unfold CW n8
 rw [List.flatMap_map]
theorem WT (G:Ctx) (hG:gU G) (hB1:G.fns.lookup ("in_table_b1":Str)=some (b1F JM)) (hB3:G.fns.lookup ("map_table_b3":Str)=some (b3F nP)) {lv w:Int} (h0:0≤lv) (h8:lv≤8) :
  eE G 30 30 (gB 19).names [] ["text"] (dF 19) [.str (tH lv w)]=some (.int lv):=by
 refine DG (t:=fT19) hG 1 fE19 fO19 rfl ?_
 obtain ⟨p1,p2⟩:=Gn (w:=w) h0 h8
 have hl:(wg lv w).length≤2:=by
  unfold wg
  by_cases q:w / 324 % 3=0
  ·rw [if_pos q]; exact Nat.le_succ 1
  ·rw [if_neg q]; split <;> exact Nat.le_refl 2
 dsimp only [HX,q7,tH,wS,wX,wL,wA,wO,bH,bF,bC,fP,fX,fC,fQ,fK,b7,cu,cG,bQ,bZ,bR,cD,cF,cg,cz,bY,bT,bU,cA,fJ,f9,gf,fH,fB,fM,fV,fG,gb,fZ,fY,fD,fc,fj,gh,fL,fU,aX,aN,aA,aC,aZ,aB,aY,aP,aV,aU,aR,eN,eQ,eV,d9,aW,aM,bh,bG,bI,cond_true,cond_false]
 refine ⟨by rw [List.length_map]; exact aF hl (by decide),gC (g:=fun (c:Nat)=>D.str (Tf nP c)) (p:=fun (c:Nat)=>!JM c) (fun c hc P h=>⟨_,kZ hB1 ZJ,pick h⟩) (fun c hc _ P h=>⟨_,kZ hB3 (b3F_eq (by have h:=(p2 c hc).1; unfold Xr at h; simpa using h)),h⟩) ?_⟩
 have hc:=Qx (l:=wg lv w)
 rw [p1] at hc
 have hj:=Vd (l:=((wg lv w).filter fun (c:Nat)=>!JM c).map fun (c:Nat)=>Tf nP c) (by rw [hc]; show 1≤16000000; decide)
 rw [hc] at hj
 rw [Q6]
 refine ⟨_,W4 T3 hj,_,Hz,?_⟩
 show D.int (((97+lv.toNat:Nat):Int)-97)=_
 congr 1; omega
noncomputable def KE:Nat:=1074
noncomputable def KB:Nat:=1075
noncomputable def KB2:Nat:=2150
noncomputable def KU:Nat:=1022
noncomputable def KV:Nat:=1021
theorem KE_val:KE=1074:=rfl
theorem Bg:KB=1075:=rfl
theorem W2:KB2=2150:=rfl
theorem Zm:KU=1022:=rfl
theorem ZD:KV=1021:=rfl
noncomputable def M4:Nat:=4503599627370496
noncomputable def Dl:Nat:=9223372036854775808
noncomputable def v9:Nat:=9218868437227405312
theorem Us:M4=4503599627370496:=rfl
theorem wR:Dl=9223372036854775808:=rfl
theorem Fd:v9=9218868437227405312:=rfl
noncomputable def aq {α:Type} (n:Nat) (k:Nat→α):α:=@Nat.rec (fun _=>α) (k 0) (fun m _=>k (Nat.succ m)) n
theorem ao {α:Type} {n:Nat} {k:Nat→α}:aq n k=k n:=by cases n <;> rfl
noncomputable def SN (x:Nat):Nat:=Nat.mod (Nat.div x M4) 2048
noncomputable def frN (x:Nat):Nat:=Nat.mod x M4
noncomputable def lM (x:Nat):Bool:=Nat.ble Dl x
noncomputable def jY (x:Nat):Nat:=cond (Nat.beq (SN x) 0) (frN x) (Nat.add M4 (frN x))
noncomputable def dR (x:Nat):Nat:=cond (Nat.beq (SN x) 0) 1 (SN x)
noncomputable def cR (x:Nat):Bool:=cond (Nat.beq (SN x) 2047) false true
noncomputable def zm (n d:Nat):Nat:=aq (Nat.div n d) fun q=>aq (Nat.mul 2 (Nat.mod n d)) fun r=>cond (or (Nat.ble (Nat.succ d) r) (and (Nat.beq r d) (Nat.beq (Nat.mod q 2) 1))) (Nat.succ q) q
noncomputable def ovN (mag:Nat):Nat:=cond (Nat.ble v9 mag) v9 mag
noncomputable def Og (n d E:Nat):Nat:=aq (cond (Nat.ble E KE) (aq (Nat.mul n (Nat.pow 2 (Nat.sub KE E))) fun a=>zm a d) (aq (Nat.mul d (Nat.pow 2 (Nat.sub E KE))) fun b=>zm n b)) fun h=>aq (Nat.add (Nat.mul E M4) h) ovN
noncomputable def geN (n d ln ld:Nat):Bool:=cond (Nat.ble ld ln) (Nat.ble (Nat.mul d (Nat.pow 2 (Nat.sub ln ld))) n) (Nat.ble d (Nat.mul n (Nat.pow 2 (Nat.sub ld ln))))
noncomputable def lg1 (n a:Nat):Nat:=cond (Nat.ble 2 n) (Nat.succ a) a
noncomputable def lg2 (n a:Nat):Nat:=cond (Nat.ble 4 n) (aq (Nat.div n 4) fun m=>lg1 m (Nat.add a 2)) (lg1 n a)
noncomputable def lg4 (n a:Nat):Nat:=cond (Nat.ble 16 n) (aq (Nat.div n 16) fun m=>lg2 m (Nat.add a 4)) (lg2 n a)
noncomputable def lg8 (n a:Nat):Nat:=cond (Nat.ble 256 n) (aq (Nat.div n 256) fun m=>lg4 m (Nat.add a 8)) (lg4 n a)
noncomputable def K8 (n a:Nat):Nat:=cond (Nat.ble 65536 n) (aq (Nat.div n 65536) fun m=>lg8 m (Nat.add a 16)) (lg8 n a)
noncomputable def ZG:Nat:=4294967296
noncomputable def ZK:Nat:=18446744073709551616
noncomputable def Ed:Nat:=340282366920938463463374607431768211456
noncomputable def KN (n a:Nat):Nat:=cond (Nat.ble ZG n) (aq (Nat.div n ZG) fun m=>K8 m (Nat.add a 32)) (K8 n a)
noncomputable def Gw (n a:Nat):Nat:=cond (Nat.ble ZK n) (aq (Nat.div n ZK) fun m=>KN m (Nat.add a 64)) (KN n a)
noncomputable def Ku:Nat:=Nat.mul Ed Ed
noncomputable def JX:Nat:=Nat.mul Ku Ku
noncomputable def zK:Nat:=Nat.mul JX JX
noncomputable def Yc:Nat:=Nat.mul zK zK
noncomputable def Ac (n a:Nat):Nat:=cond (Nat.ble Ed n) (aq (Nat.div n Ed) fun m=>Gw m (Nat.add a 128)) (Gw n a)
noncomputable def zB (n a:Nat):Nat:=cond (Nat.ble Ku n) (aq (Nat.div n Ku) fun m=>Ac m (Nat.add a 256)) (Ac n a)
noncomputable def zX (n a:Nat):Nat:=cond (Nat.ble JX n) (aq (Nat.div n JX) fun m=>zB m (Nat.add a 512)) (zB n a)
noncomputable def Dk (n a:Nat):Nat:=cond (Nat.ble zK n) (aq (Nat.div n zK) fun m=>zX m (Nat.add a 1024)) (zX n a)
noncomputable def lgN (n:Nat):Nat:=cond (Nat.ble Ed n) (cond (Nat.ble Yc n) (Nat.log2 n) (Dk n 0)) (Gw n 0)
noncomputable def uL (n d ld:Nat):Nat:=cond (Nat.beq n 0) 0 (aq (lgN n) fun ln=>aq (Nat.sub (cond (geN n d ln ld) (Nat.add ln KU) (Nat.add ln KV)) ld) fun E=>Og n d E)
noncomputable def roundN (n d:Nat):Nat:=aq (lgN d) fun ld=>uL n d ld
noncomputable def pJ (neg:Bool) (mag:Nat):Nat:=cond neg (Nat.add Dl mag) mag
noncomputable def H5 (neg:Bool) (m E B:Nat):Nat:=pJ neg (cond (Nat.ble B E) (aq (Nat.mul m (Nat.pow 2 (Nat.sub E B))) fun n=>uL n 1 0) (aq (Nat.sub B E) fun ld=>aq (Nat.pow 2 ld) fun d=>uL m d ld))
noncomputable def Wb (x y:Nat):Nat:=cond (and (cR x) (cR y)) (aq (Nat.mul (jY x) (jY y)) fun m=>aq (Nat.add (dR x) (dR y)) fun E=>H5 (xor (lM x) (lM y)) m E KB2) (Float64.mul (UInt64.ofNat x) (UInt64.ofNat y)).toNat
noncomputable def wj (a b:Nat):Nat:=cond (Nat.ble a b) a b
noncomputable def Vg (sx sy:Bool) (P Q G:Nat):Nat :=
 cond (xor sx sy) (cond (Nat.beq P Q) 0 (cond (Nat.ble P Q) (aq (Nat.sub Q P) fun m=>H5 sy m G KB) (aq (Nat.sub P Q) fun m=>H5 sx m G KB)))
  (aq (Nat.add P Q) fun m=>cond (Nat.beq m 0) (cond sx Dl 0) (H5 sx m G KB))
noncomputable def Gq (x:Nat):Bool:=cond (Nat.beq (jY x) 0) false true
noncomputable def addA (x y:Nat):Nat:=aq (wj (dR x) (dR y)) fun G=>aq (Nat.mul (jY x) (Nat.pow 2 (Nat.sub (dR x) G))) fun P=>aq (Nat.mul (jY y) (Nat.pow 2 (Nat.sub (dR y) G))) fun Q=>Vg (lM x) (lM y) P Q G
noncomputable def zc (x y:Nat):Nat:=cond (and (cR x) (cR y)) (cond (Gq x) (cond (Gq y) (addA x y) x) (cond (Gq y) y (addA x y))) (Float64.add (UInt64.ofNat x) (UInt64.ofNat y)).toNat
noncomputable def Z5 (x:Nat):Nat:=cond (cR x) (cond (lM x) (Nat.sub x Dl) (Nat.add x Dl)) (Float64.neg (UInt64.ofNat x)).toNat
noncomputable def Bd (x y:Nat):Nat:=aq (Z5 y) fun z=>zc x z
noncomputable def divN (x y:Nat):Nat:=cond (and (and (cR x) (cR y)) (cond (Nat.beq (jY y) 0) false true))
 (pJ (xor (lM x) (lM y)) (cond (Gq x) (cond (Nat.ble (dR y) (dR x)) (aq (Nat.mul (jY x) (Nat.pow 2 (Nat.sub (dR x) (dR y)))) fun n=>aq (jY y) fun d=>roundN n d) (aq (jY x) fun n=>aq (Nat.mul (jY y) (Nat.pow 2 (Nat.sub (dR y) (dR x)))) fun d=>roundN n d)) 0))
 (Float64.div (UInt64.ofNat x) (UInt64.ofNat y)).toNat
noncomputable def ltS (sx sy:Bool) (P Q:Nat):Bool:=cond sx (cond sy (Nat.ble (Nat.succ Q) P) (cond (Nat.beq (Nat.add P Q) 0) false true)) (cond sy false (Nat.ble (Nat.succ P) Q))
noncomputable def eqS (sx sy:Bool) (P Q:Nat):Bool:=cond (xor sx sy) (Nat.beq (Nat.add P Q) 0) (Nat.beq P Q)
noncomputable def MT (x y:Nat):Nat:=Nat.mul (jY x) (Nat.pow 2 (Nat.sub (dR x) (wj (dR x) (dR y))))
noncomputable def M3 (x y:Nat):Nat:=Nat.mul (jY y) (Nat.pow 2 (Nat.sub (dR y) (wj (dR x) (dR y))))
noncomputable def alR (x y:Nat) (f:Nat→Nat→Bool):Bool:=cond (and (Gq x) (Gq y)) (aq (MT x y) fun P=>aq (M3 x y) (f P)) (f (jY x) (jY y))
noncomputable def ltN (x y:Nat):Bool:=cond (and (cR x) (cR y)) (alR x y (ltS (lM x) (lM y))) (flt (UInt64.ofNat x) (UInt64.ofNat y))
noncomputable def eqN (x y:Nat):Bool:=cond (and (cR x) (cR y)) (alR x y (eqS (lM x) (lM y))) (feq (UInt64.ofNat x) (UInt64.ofNat y))
noncomputable def leN (x y:Nat):Bool:=or (ltN x y) (eqN x y)
noncomputable def JH (x:Nat):Bool:=and (cR x) (Nat.beq (jY x) 0)
theorem oW {a b:Nat}:Nat.mod a b=a % b:=rfl
theorem dZ {a b:Nat}:Nat.div a b=a / b:=rfl
theorem dg {a b:Nat}:Nat.add a b=a+b:=rfl
theorem d7 {a b:Nat}:Nat.sub a b=a-b:=rfl
theorem dH {a b:Nat}:Nat.mul a b=a*b:=rfl
theorem kI {a b:Nat}:Nat.pow a b=a ^ b:=rfl
section
variable {x y:UInt64}
theorem toNat_lt:x.toNat < 18446744073709551616:=x.toNat_lt
theorem iW {a b:Nat}:Nat.beq a b=decide (a=b):=BT.beq_eq a b
theorem cZ {a b:Nat}:Nat.ble a b=decide (a≤b):=by
 by_cases h:a≤b
 ·rw [decide_eq_true h,Nat.ble_eq_true_of_le h]
 ·rw [decide_eq_false h]
  cases q:Nat.ble a b with
  | false=>rfl
  | true=>exact absurd (dw q) h
theorem bJ {α:Type} {p:Prop} [Decidable p] {a b:α}:cond (decide p) a b=if p then a else b:=by by_cases h:p <;> simp [h]
theorem Qh:(2:Nat) ^ 63=Dl:=by rw [wR]
theorem zx:(2:Nat) ^ 52=M4:=by rw [Us]
theorem Gh:Float64.infMag=v9:=by unfold Float64.infMag; rw [Fd]
theorem Ze:(x.toNat / 2 ^ 63==1)=lM x.toNat:=by
 have:=@toNat_lt x
 unfold lM
 rw [Qh,cZ,Bool.eq_iff_iff]
 simp only [beq_iff_eq,decide_eq_true_eq]
 rw [wR]
 omega
theorem bK (h:cR x.toNat=true):Float64.decode x=.fin (lM x.toNat) (jY x.toNat) ((dR x.toNat:Int)-1075):=by
 unfold Float64.decode
 rw [Ze]
 unfold cR at h
 unfold jY dR
 rw [iW] at h ⊢
 rw [bJ] at h ⊢
 rw [bJ]
 have h1:SN x.toNat=x.toNat / 2 ^ 52 % 2048:=by unfold SN; rw [dZ,oW,zx]
 have h2:frN x.toNat=x.toNat % 2 ^ 52:=by unfold frN; rw [oW,zx]
 rw [h1] at h ⊢
 rw [h2,dg,zx]
 rw [zx] at h
 generalize x.toNat / M4 % 2048=ex at h ⊢
 generalize x.toNat % M4=fr
 by_cases q:ex=2047
 ·rw [if_pos q] at h; cases h
 ·by_cases q0:ex=0
  ·subst q0; rfl
  ·simp only [q,q0,if_false,beq_iff_eq]
theorem fin_isFinite:Float64.isFinite x=cR x.toNat:=by
 cases h:cR x.toNat with
 | true=>unfold Float64.isFinite; rw [bK h]
 | false =>
  unfold cR at h
  rw [iW,bJ] at h
  have h1:SN x.toNat=x.toNat / 2 ^ 52 % 2048:=by unfold SN; rw [dZ,oW,zx]
  rw [h1] at h
  unfold Float64.isFinite Float64.decode
  simp only []
  generalize x.toNat / 2 ^ 52 % 2048=ex at h ⊢
  by_cases q:ex=2047
  ·subst q
   by_cases r:x.toNat % 2 ^ 52=0 <;> simp [r]
  ·rw [if_neg q] at h; cases h
theorem uB {neg:Bool} {mag:Nat} (h:mag≤v9):(Float64.pack neg mag).toNat=pJ neg mag:=by
 rw [Fd] at h
 unfold Float64.pack pJ
 cases neg
 ·simp only [Bool.false_eq_true,if_false,Nat.zero_add,cond_false]
  exact Nat.mod_eq_of_lt (Nat.lt_of_le_of_lt h (by decide))
 ·simp only [if_true,cond_true,dg,Qh]
  exact Nat.mod_eq_of_lt (by rw [wR]; omega)
theorem Rw {m:Nat}:ovN m=min v9 m:=by
 unfold ovN
 rw [cZ,bJ]
 by_cases h:v9≤m
 ·rw [if_pos h,Nat.min_eq_left h]
 ·rw [if_neg h,Nat.min_eq_right (Nat.le_of_lt (Nat.not_le.mp h))]
theorem Kr {q r d:Nat}:(decide (r > d)||(r==d&&q % 2==1))=(decide (d+1≤r)||(decide (r=d)&&decide (q % 2=1))):=by
 rw [Bool.eq_iff_iff]
 simp only [Bool.or_eq_true,Bool.and_eq_true,decide_eq_true_eq,beq_iff_eq]
 omega
theorem yx {n d:Nat}:Float64.halfEven n d=zm n d:=by
 unfold Float64.halfEven zm
 simp only [ao]
 simp only [dZ,oW,dH,Nat.succ_eq_add_one,iW,cZ,Kr]
 generalize (decide (d+1≤2*(n % d))||(decide (2*(n % d)=d)&&decide (n / d % 2=1)))=c
 cases c <;> simp
theorem ovN_le {m:Nat}:ovN m≤v9:=by rw [Rw]; exact Nat.min_le_left _ _
theorem Tu {n d E:Nat}:Og n d E≤v9:=by unfold Og; simp only [ao]; exact ovN_le
theorem N7 {n k a:Nat} (h:2 ^ k≤n):Nat.log2 (n / 2 ^ k)+(a+k)=Nat.log2 n+a:=by
 have hp:0 < 2 ^ k:=Nat.pow_pos (by decide)
 have h1:n / 2 ^ k≠0:=by
  have:=Nat.div_pos h hp
  exact Nat.ne_of_gt this
 have h2:n≠0:=by omega
 obtain ⟨u,v⟩:=(Nat.log2_eq_iff h1).mp rfl
 have:Nat.log2 n=Nat.log2 (n / 2 ^ k)+k:=by
  refine (Nat.log2_eq_iff h2).mpr ⟨?_,?_⟩
  ·rw [Nat.pow_add]
   exact aF (Nat.mul_le_mul_right _ u) (Nat.div_mul_le_self n (2 ^ k))
  ·rw [show Nat.log2 (n / 2 ^ k)+k+1=(Nat.log2 (n / 2 ^ k)+1)+k by exact Nat.add_right_comm _ _ _,Nat.pow_add]
   exact (Nat.div_lt_iff_lt_mul hp).mp v
 omega
theorem K32_sq:ZG=65536*65536:=by decide +kernel
theorem ZC:ZK=ZG*ZG:=by decide +kernel
theorem Tt:Ed=ZK*ZK:=by decide +kernel
theorem Zb {n a:Nat} (h:n < 4) (h0:n≠0):lg1 n a=Nat.log2 n+a:=by
 unfold lg1
 rw [cZ,bJ]
 by_cases q:2≤n
 ·rw [if_pos q,(Nat.log2_eq_iff h0).mpr ⟨show 2 ^ 1≤n from q,h⟩]; omega
 ·rw [if_neg q,(Nat.log2_eq_iff h0).mpr ⟨show 2 ^ 0≤n by exact Nat.pos_of_ne_zero h0,Nat.not_le.mp q⟩]; omega
theorem pL {f g:Nat→Nat→Nat} {k K n a:Nat} (hK:K=2 ^ k) (hf:∀ n a,f n a=cond (Nat.ble K n) (g (n / K) (a+k)) (g n a)) (hg:∀ n a,n < K→n≠0→g n a=Nat.log2 n+a) (h:n < K*K) (h0:n≠0):f n a=Nat.log2 n+a:=by
 rw [hf,cZ,bJ]
 have hp:0 < 2 ^ k:=Nat.pow_pos (by decide)
 by_cases q:K≤n
 ·subst hK
  rw [if_pos q,hg _ _ ((Nat.div_lt_iff_lt_mul hp).mpr h) (by have:=Nat.div_pos q hp; exact Nat.ne_of_gt this),N7 q]
 ·rw [if_neg q,hg _ _ (Nat.not_le.mp q) h0]
theorem lg2_eq {n a:Nat} (h:n < 16) (h0:n≠0):lg2 n a=Nat.log2 n+a:=pL (f:=lg2) (g:=lg1) (k:=2) (K:=4) rfl (fun n a=>by unfold lg2; rw [ao]; rfl) (fun n a=>Zb) h h0
theorem Zn {n a:Nat} (h:n < 256) (h0:n≠0):lg4 n a=Nat.log2 n+a:=pL (f:=lg4) (g:=lg2) (k:=4) (K:=16) rfl (fun n a=>by unfold lg4; rw [ao]; rfl) (fun n a=>lg2_eq) h h0
theorem lg8_eq {n a:Nat} (h:n < 65536) (h0:n≠0):lg8 n a=Nat.log2 n+a:=pL (f:=lg8) (g:=lg4) (k:=8) (K:=256) rfl (fun n a=>by unfold lg8; rw [ao,dZ,dg]) (fun n a=>Zn) h h0
theorem VN {n a:Nat} (h:n < ZG) (h0:n≠0):K8 n a=Nat.log2 n+a:=pL (f:=K8) (g:=lg8) (k:=16) (K:=65536) (by decide) (fun n a=>by unfold K8; rw [ao,dZ,dg]) (fun n a=>lg8_eq) (by rw [← K32_sq]; exact h) h0
theorem Wz {n a:Nat} (h:n < ZK) (h0:n≠0):KN n a=Nat.log2 n+a:=pL (f:=KN) (g:=K8) (k:=32) (K:=ZG) (by decide +kernel) (fun n a=>by unfold KN; rw [ao,dZ,dg]) (fun n a=>VN) (by rw [← ZC]; exact h) h0
theorem Jp {n a:Nat} (h:n < Ed) (h0:n≠0):Gw n a=Nat.log2 n+a:=pL (f:=Gw) (g:=KN) (k:=64) (K:=ZK) (by decide +kernel) (fun n a=>by unfold Gw; rw [ao,dZ,dg]) (fun n a=>Wz) (by rw [← Tt]; exact h) h0
theorem O6 {n a:Nat} (h:n < Ku) (h0:n≠0):Ac n a=Nat.log2 n+a:=pL (f:=Ac) (g:=Gw) (k:=128) (K:=Ed) (by decide +kernel) (fun n a=>by unfold Ac; rw [ao,dZ,dg]) (fun n a=>Jp) h h0
theorem Qn {n a:Nat} (h:n < JX) (h0:n≠0):zB n a=Nat.log2 n+a:=pL (f:=zB) (g:=Ac) (k:=256) (K:=Ku) (by decide +kernel) (fun n a=>by unfold zB; rw [ao,dZ,dg]) (fun n a=>O6) h h0
theorem O7 {n a:Nat} (h:n < zK) (h0:n≠0):zX n a=Nat.log2 n+a:=pL (f:=zX) (g:=zB) (k:=512) (K:=JX) (by decide +kernel) (fun n a=>by unfold zX; rw [ao,dZ,dg]) (fun n a=>Qn) h h0
theorem Km {n a:Nat} (h:n < Yc) (h0:n≠0):Dk n a=Nat.log2 n+a:=pL (f:=Dk) (g:=zX) (k:=1024) (K:=zK) (by decide +kernel) (fun n a=>by unfold Dk; rw [ao,dZ,dg]) (fun n a=>O7) h h0
theorem Gz {n:Nat} (h0:n≠0):lgN n=Nat.log2 n:=by
 unfold lgN
 rw [cZ,bJ]
 split
 ·rw [cZ,bJ]
  split
  ·rfl
  ·rw [Km (by omega) h0]; rfl
 ·rw [Jp (by omega) h0]; rfl
theorem J8 {n d:Nat}:roundN n d≤v9:=by
 unfold roundN uL
 simp only [ao]
 rw [iW,bJ]
 split
 ·exact Nat.zero_le _
 ·exact Tu
theorem I8 {a b k:Nat} {c:Int} (hc:c+k=1074):(max ((a:Int)-b-c) (-1074)+1074).toNat=a+k-b:=by
 rcases Int.le_total ((a:Int)-b-c) (-1074) with q | q
 ·rw [Int.max_eq_right q]; omega
 ·rw [Int.max_eq_left q]; omega
theorem KY {n d ln ld E:Nat} {g:Bool} {e:Int} (hE:E=(if g=true then ln+KU else ln+KV)-ld) (he:e=max (if g=true then (ln:Int)-ld-52 else (ln:Int)-ld-53) (-1074)) :
   min Float64.infMag ((e+1074).toNat*2 ^ 52+Float64.halfEven (Float64.shift n d (-e)).1 (Float64.shift n d (-e)).2)=Og n d E:=by
 unfold Og
 simp only [ao]
 rw [Rw,cZ,bJ]
 have h1:(e+1074).toNat=E:=by
  rw [Zm,ZD] at hE
  subst hE he
  cases g
  ·exact I8 (by decide)
  ·exact I8 (by decide)
 rw [h1,Gh,zx,yx]
 unfold Float64.shift
 have hk:=KE_val
 have h5:e+1074=E:=by omega (config:={})
 by_cases q:E≤KE
 ·rw [if_pos q,if_pos (by omega)]
  have e3:(-e).toNat=KE-E:=by omega
  rw [e3,dg,dH,dH,kI,d7]
 ·rw [if_neg q,if_neg (by omega)]
  have e3:(- -e).toNat=E-KE:=by omega
  rw [e3,dg,dH,dH,kI,d7]
theorem YL {n d ln ld:Nat}:(decide ((Float64.shift n d (-((ln:Int)-ld))).1≥(Float64.shift n d (-((ln:Int)-ld))).2))=geN n d ln ld:=by
 unfold geN Float64.shift
 simp only [d7,dH,kI]
 rw [cZ,bJ]
 by_cases q:ld≤ln
 ·rw [if_pos q]
  by_cases q2:ln=ld
  ·subst q2
   rw [if_pos (by omega),cZ]
   have e1:(-((ln:Int)-ln)).toNat=0:=by omega
   have e2:ln-ln=0:=by omega
   simp only [e1,e2,Nat.pow_zero,Nat.mul_one,ge_iff_le]
  ·rw [if_neg (by omega),cZ]
   have e1:(- -((ln:Int)-ld)).toNat=ln-ld:=by omega
   simp only [e1,ge_iff_le]
 ·rw [if_neg q,if_pos (by omega),cZ]
  have e1:(-((ln:Int)-ld)).toNat=ld-ln:=by omega
  simp only [e1,ge_iff_le]
theorem Vv {p:Prop} [Decidable p] {α:Type} {a b:α}:(if p then a else b)=if decide p=true then a else b:=by by_cases h:p <;> simp [h]
theorem Kf {n d:Nat} (hd:d≠0):Float64.roundMag n d=roundN n d:=by
 unfold roundN uL
 simp only [ao]
 rw [iW,bJ]
 by_cases h0:n=0
 ·subst h0; rw [if_pos rfl]; unfold Float64.roundMag; rfl
 rw [if_neg h0]
 unfold Float64.roundMag
 rw [if_neg (by simpa using h0),Gz h0,Gz hd]
 generalize Nat.log2 n=ln
 generalize Nat.log2 d=ld
 simp only []
 rw [Vv (p:=(Float64.shift n d (-((ln:Int)-ld))).1≥(Float64.shift n d (-((ln:Int)-ld))).2),YL]
 simp only [d7,dg]
 refine KY (g:=geN n d ln ld) ?_ rfl
 cases geN n d ln ld <;> simp
theorem oG {neg:Bool} {n d:Nat} (hd:d≠0):(Float64.ofFrac neg n d).toNat=pJ neg (roundN n d):=by
 unfold Float64.ofFrac
 rw [Kf hd,uB J8]
theorem zT {n d ld:Nat} (h:d≠0) (h2:Nat.log2 d=ld):uL n d ld=roundN n d:=by
 unfold roundN
 rw [ao,Gz h,h2]
theorem oZ {neg:Bool} {m E B:Nat} {e:Int} (h:e=(E:Int)-B):(Float64.ofBin neg m e).toNat=H5 neg m E B:=by
 unfold Float64.ofBin H5 Float64.shift
 simp only [ao]
 simp only [d7,dH,kI]
 rw [cZ,bJ]
 by_cases q:B≤E
 ·rw [if_pos (by omega),if_pos q,oG (Nat.one_ne_zero),zT Nat.one_ne_zero (by decide)]
  have:e.toNat=E-B:=by omega
  simp only [this]
 ·have hp:(2:Nat) ^ (B-E)≠0:=Nat.pos_iff_ne_zero.mp (Nat.pow_pos (by decide))
  have:(-e).toNat=B-E:=by omega
  rw [if_neg (by omega),if_neg q,zT hp Nat.log2_two_pow,oG (by rw [this,Nat.one_mul]; exact hp)]
  simp only [this,Nat.one_mul]
theorem toU {x:UInt64}:UInt64.ofNat x.toNat=x:=UInt64.ofNat_toNat
theorem JQ {a b:Bool}:(a != b)=xor a b:=by cases a <;> cases b <;> rfl
theorem Xj:(Float64.mul x y).toNat=Wb x.toNat y.toNat:=by
 unfold Wb
 simp only [ao]
 cases hx:cR x.toNat with
 | false=>simp only [Bool.false_and,cond_false,toU]
 | true =>
  cases hy:cR y.toNat with
  | false=>simp only [Bool.and_false,cond_false,toU]
  | true =>
   simp only [Bool.and_true,cond_true]
   unfold Float64.mul
   rw [bK hx,bK hy]
   simp only [JQ,dH,dg]
   exact oZ (by have:=W2; omega)
theorem V5 {a b:Nat}:wj a b=min a b:=by
 unfold wj
 rw [cZ,bJ]
 split <;> omega
theorem Ue {a b:Bool} {P Q G:Nat} {g:Int} (hg:g=(G:Int)-KB):(if (Float64.sgn a P+Float64.sgn b Q==0)=true then Float64.zero (a&&b) else Float64.ofBin (decide (Float64.sgn a P+Float64.sgn b Q < 0)) (Float64.sgn a P+Float64.sgn b Q).natAbs g).toNat=Vg a b P Q G:=by
 have hz:∀ s,(Float64.zero s).toNat=cond s Dl 0:=fun s=>by
  unfold Float64.zero
  rw [uB (Nat.zero_le _)]
  cases s <;> rfl
 unfold Vg Float64.sgn
 simp only [ao]
 cases a <;> cases b
 ·simp only [Bool.false_eq_true,if_false,Bool.xor_false,cond_false,iW,bJ,dg]
  by_cases h:P+Q=0
  ·rw [if_pos h,if_pos (by simp; omega),hz]; rfl
  ·rw [if_neg h,if_neg (by simp; omega),oZ hg]
   have e1:decide ((P:Int)+Q < 0)=false:=by simp; omega
   have e2:((P:Int)+Q).natAbs=P+Q:=by omega
   rw [e1,e2]
 ·simp only [Bool.false_eq_true,if_false,if_true,Bool.false_xor,cond_true,iW,bJ,cZ,d7]
  by_cases h:P=Q
  ·rw [if_pos h,if_pos (by simp; omega),hz]; rfl
  ·rw [if_neg h,if_neg (by simp; omega),oZ hg]
   by_cases h2:P≤Q
   ·rw [if_pos h2]
    have e1:decide ((P:Int) + -Q < 0)=true:=by simp; omega
    have e2:((P:Int) + -Q).natAbs=Q-P:=by omega
    rw [e1,e2]
   ·rw [if_neg h2]
    have e1:decide ((P:Int) + -Q < 0)=false:=by simp; omega
    have e2:((P:Int) + -Q).natAbs=P-Q:=by omega
    rw [e1,e2]
 ·simp only [Bool.false_eq_true,if_false,if_true,Bool.xor_false,cond_true,iW,bJ,cZ,d7]
  by_cases h:P=Q
  ·rw [if_pos h,if_pos (by simp; omega),hz]; rfl
  ·rw [if_neg h,if_neg (by simp; omega),oZ hg]
   by_cases h2:P≤Q
   ·rw [if_pos h2]
    have e1:decide (-(P:Int)+Q < 0)=false:=by simp; omega
    have e2:(-(P:Int)+Q).natAbs=Q-P:=by omega
    rw [e1,e2]
   ·rw [if_neg h2]
    have e1:decide (-(P:Int)+Q < 0)=true:=by simp; omega
    have e2:(-(P:Int)+Q).natAbs=P-Q:=by omega
    rw [e1,e2]
 ·simp only [if_true,Bool.xor_self,cond_false,cond_true,iW,bJ,dg]
  by_cases h:P+Q=0
  ·rw [if_pos h,if_pos (by simp; omega),hz]; rfl
  ·rw [if_neg h,if_neg (by simp; omega),oZ hg]
   have e1:decide (-(P:Int) + -Q < 0)=true:=by simp; omega
   have e2:(-(P:Int) + -Q).natAbs=P+Q:=by omega
   rw [e1,e2]
theorem wK {a b:Bool} {m k E F:Nat}:Float64.align a m ((E:Int)-1075) b k ((F:Int)-1075)=(Float64.sgn a (Nat.mul m (Nat.pow 2 (Nat.sub E (wj E F)))),Float64.sgn b (Nat.mul k (Nat.pow 2 (Nat.sub F (wj E F)))),((wj E F:Nat):Int)-1075):=by
 unfold Float64.align
 rw [V5]
 simp only [d7,dH,kI]
 have e1:min ((E:Int)-1075) ((F:Int)-1075)=((min E F:Nat):Int)-1075:=by omega
 rw [e1]
 have e2:((E:Int)-1075-(((min E F:Nat):Int)-1075)).toNat=E-min E F:=by omega
 have e3:((F:Int)-1075-(((min E F:Nat):Int)-1075)).toNat=F-min E F:=by omega
 rw [e2,e3]
theorem Ua {n K:Nat} (hK:0 < K) (h:n < 4096*K) (k:n / K % 2048≠2047):(2048*K≤n→n-2048*K < 2047*K)∧(n < 2048*K→n < 2047*K):=by
 have a:=(Nat.div_lt_iff_lt_mul hK).mpr h
 refine ⟨fun q=>?_,fun q=>?_⟩
 ·have b:=(Nat.le_div_iff_mul_le hK).mpr q
  have c:n < 4095*K:=(Nat.div_lt_iff_lt_mul hK).mp (by omega)
  rw [show 4095=2047+2048 by rfl,Nat.add_mul] at c
  exact Nat.sub_lt_right_of_lt_add q c
 ·have b:=(Nat.div_lt_iff_lt_mul hK).mpr q
  exact (Nat.div_lt_iff_lt_mul hK).mp (by omega)
theorem packN_t {m:Nat}:pJ true m=Dl+m:=rfl
theorem Q5 (h:cR x.toNat=true):∃ t,t < Float64.infMag∧Float64.pack (lM x.toNat) t=x:=by
 have k:x.toNat / M4 % 2048≠2047:=fun q=>by
  unfold cR SN at h; rw [oW,dZ,q] at h; exact nomatch h
 have hp:∀ {a t},t < v9→pJ a t=x.toNat→Float64.pack a t=x:=fun q e=>UInt64.toNat_inj.mp ((uB (Nat.le_of_lt q)).trans e)
 have e1:v9=2047*M4:=by decide +kernel
 have e2:Dl=2048*M4:=by decide +kernel
 obtain ⟨u,v⟩:=Ua (by decide +kernel) (Nat.lt_of_lt_of_eq (@toNat_lt x) (by decide +kernel:_=4096*M4)) k
 rw [← e1,← e2] at u v
 unfold lM
 rw [Gh,cZ]
 by_cases q:Dl≤x.toNat
 ·rw [decide_eq_true q]
  exact ⟨_,u q,hp (u q) (packN_t.trans (Nat.add_sub_cancel' q))⟩
 ·rw [decide_eq_false q]
  exact ⟨_,v (Nat.lt_of_not_le q),hp (v (Nat.lt_of_not_le q)) rfl⟩
open PySem.Float64 (V) in
theorem Fz {r:UInt64} {a:Bool} {t:Nat} (R:Float64.Right r a (V t) 1) (h:t < Float64.infMag):r=Float64.pack a t:=by
 obtain ⟨u,rfl,h1,h2,h3⟩:=R
 have hu:u < Float64.infMag:=by
  rcases Nat.lt_or_ge u Float64.infMag with q | q
  ·exact q
  ·have p:=h2.mp (Nat.le_antisymm h1 q)
   have m:=Float64.V_mono (Nat.le_sub_one_of_lt h)
   rw [show Float64.infMag-1=2045*2 ^ 52+(2 ^ 53-1) by decide,Float64.V_at (by decide) (.inl (by decide))] at m
   have k:=aF p (Nat.mul_le_mul_left 2 m)
   rw [Nat.one_mul,← Nat.mul_assoc] at k
   exact absurd (Nat.le_of_mul_le_mul_right k (Nat.two_pow_pos 2045)) (by decide)
 have d:=(h3 hu t).1
 have e:V u=V t:=by
  unfold Float64.dist at d
  rw [Nat.one_mul,Nat.one_mul,Nat.sub_self] at d
  exact Nat.le_antisymm (Nat.le_of_sub_eq_zero (Nat.eq_zero_of_add_eq_zero (Nat.le_zero.mp d)).2) (Nat.le_of_sub_eq_zero (Nat.eq_zero_of_add_eq_zero (Nat.le_zero.mp d)).1)
 rcases Nat.lt_trichotomy u t with q | q | q
 ·exact absurd (e▸Float64.V_lt q) (Nat.lt_irrefl _)
 ·rw [q]
 ·exact absurd (e▸Float64.V_lt q) (Nat.lt_irrefl _)
theorem Uc {n:Nat} (h:Gq n=false):jY n=0:=by
 unfold Gq at h; rw [iW] at h
 by_cases q:jY n=0
 ·exact q
 ·rw [decide_eq_false q] at h; exact nomatch h
theorem Jv {d:Nat}:roundN 0 d=0:=by unfold roundN; rw [ao]; rfl
theorem Ww {k d:Nat}:roundN (0*k) d=0:=by rw [Nat.zero_mul]; exact Jv
theorem Xw (h:cR x.toNat=true) (n:Gq x.toNat=false):Float64.val x=0:=by
 rw [Float64.val_eq (bK h),Uc n,Nat.zero_mul]
 unfold Float64.sgn; cases lM x.toNat <;> rfl
theorem zu {z:UInt64} (hx:cR x.toNat=true) (hy:cR y.toNat=true) (hz:cR z.toNat=true) (n:Gq z.toNat=true) (e:Float64.val x+Float64.val y=Float64.val z):Float64.add x y=z:=by
 obtain ⟨t,ht,hp⟩:=Q5 hz
 have v:=Float64.val_pack (lM z.toNat) ht
 rw [hp] at v
 have w:=Float64.val_natAbs (bK hz)
 rw [v,Float64.sgn_natAbs] at w
 have v0:Float64.V t≠0:=by
  rw [w]
  refine Nat.mul_ne_zero (fun q=>?_) (Nat.ne_of_gt (Nat.two_pow_pos _))
  unfold Gq at n; rw [q] at n; exact nomatch n
 have R:=(Float64.add_right (bK hx) (bK hy)).2 (by rw [e,v]; unfold Float64.sgn; split <;> omega)
 rw [e,v,Float64.sgn_natAbs] at R
 rw [← hp]
 refine Fz ?_ ht
 rw [show lM z.toNat=decide (Float64.sgn (lM z.toNat) (Float64.V t) < 0) by unfold Float64.sgn; cases lM z.toNat <;> simp <;> omega]
 exact R
theorem vM:(Float64.add x y).toNat=zc x.toNat y.toNat:=by
 unfold zc addA
 simp only [ao]
 cases hx:cR x.toNat with
 | false=>simp only [Bool.false_and,cond_false,toU]
 | true =>
  cases hy:cR y.toNat with
  | false=>simp only [Bool.and_false,cond_false,toU]
  | true =>
   simp only [Bool.and_true,cond_true]
   have A:(Float64.add x y).toNat=Vg (lM x.toNat) (lM y.toNat) (Nat.mul (jY x.toNat) (Nat.pow 2 (Nat.sub (dR x.toNat) (wj (dR x.toNat) (dR y.toNat))))) (Nat.mul (jY y.toNat) (Nat.pow 2 (Nat.sub (dR y.toNat) (wj (dR x.toNat) (dR y.toNat))))) (wj (dR x.toNat) (dR y.toNat)):=by
    unfold Float64.add
    rw [bK hx,bK hy]
    simp only [wK]
    exact Ue (by rw [Bg]; rfl)
   cases p:Gq x.toNat <;> cases q:Gq y.toNat
   ·exact A
   ·exact congrArg _ (zu hx hy hy q (by rw [Xw hx p,Int.zero_add]))
   ·exact congrArg _ (zu hx hy hx p (by rw [Xw hy q,Int.add_zero]))
   ·exact A
theorem Xz {a:Nat} (h:a < Dl):a ^^^ Dl=Dl+a:=by
 rw [← Qh] at h ⊢
 apply Nat.eq_of_testBit_eq
 intro j
 rw [Nat.testBit_xor,Nat.testBit_two_pow]
 by_cases hj:j=63
 ·subst hj
  rw [Nat.testBit_lt_two_pow h,Nat.testBit_two_pow_add_eq,Nat.testBit_lt_two_pow h]; simp
 ·have e:decide (63=j)=false:=by simp; omega
  rw [e,Bool.xor_false]
  by_cases hlt:j < 63
  ·rw [Nat.testBit_two_pow_add_gt hlt]
  ·have h1:a < 2 ^ j:=Nat.lt_of_lt_of_le h (Nat.pow_le_pow_right (by decide) (by omega))
   have h2:2 ^ 63+a < 2 ^ j:=by
    have:2 ^ 64≤2 ^ j:=Nat.pow_le_pow_right (by decide) (by omega)
    omega
   rw [Nat.testBit_lt_two_pow h1,Nat.testBit_lt_two_pow h2]
theorem neg_N:(Float64.neg x).toNat=Z5 x.toNat:=by
 unfold Z5
 cases hx:cR x.toNat with
 | false=>simp only [cond_false,toU]
 | true =>
  simp only [cond_true,d7,dg]
  have hn:Float64.isNaN x=false:=by unfold Float64.isNaN; rw [bK hx]
  unfold Float64.neg
  rw [hn,if_neg (by decide),UInt64.toNat_xor]
  have hp:(Float64.pack true 0).toNat=Dl:=by rw [uB (Nat.zero_le _)]; unfold pJ; rw [cond_true,dg,Nat.add_zero]
  rw [hp]
  have hlt:=@toNat_lt x
  have hk:=wR
  unfold lM
  rw [cZ,bJ]
  by_cases h:Dl≤x.toNat
  ·rw [if_pos h]
   have e:x.toNat=(x.toNat-Dl) ^^^ Dl:=by rw [Xz (by omega)]; omega
   rw [e,Nat.xor_assoc,Nat.xor_self,Nat.xor_zero,← e]
  ·rw [if_neg h,Xz (by omega)]; omega
theorem z9:(Float64.sub x y).toNat=Bd x.toNat y.toNat:=by
 unfold Float64.sub Bd
 rw [ao]
 rw [vM,neg_N]
theorem div_N:(Float64.div x y).toNat=divN x.toNat y.toNat:=by
 unfold divN
 simp only [ao]
 cases hx:cR x.toNat with
 | false=>simp only [Bool.false_and,cond_false,toU]
 | true =>
  cases hy:cR y.toNat with
  | false=>simp only [Bool.and_false,Bool.false_and,cond_false,toU]
  | true =>
   simp only [Bool.and_true,Bool.true_and,iW,bJ]
   by_cases h:jY y.toNat=0
   ·rw [if_pos h,cond_false,toU,toU]
   ·rw [if_neg h,cond_true]
    unfold Float64.div
    rw [bK hx,bK hy]
    simp only [beq_iff_eq,h,if_false,JQ]
    have hp:∀ k,jY y.toNat*2 ^ k≠0:=fun k=>Nat.mul_ne_zero h (Nat.pos_iff_ne_zero.mp (Nat.pow_pos (by decide)))
    rw [oG (by
     unfold Float64.shift
     split
     ·exact h
     ·exact hp _)]
    congr 1
    unfold Float64.shift
    cases p:Gq x.toNat with
    | false =>
     rw [Uc p]
     split
     ·exact Ww
     ·exact Jv
    | true =>
    rw [cZ,bJ,cond_true]
    simp only [d7,dH,kI]
    by_cases q:dR y.toNat≤dR x.toNat
    ·rw [if_pos q,if_pos (by omega)]
     have e:((dR x.toNat:Int)-1075-((dR y.toNat:Int)-1075)).toNat=dR x.toNat-dR y.toNat:=by omega
     rw [e]
    ·rw [if_neg q,if_neg (by omega)]
     have e:(-((dR x.toNat:Int)-1075-((dR y.toNat:Int)-1075))).toNat=dR y.toNat-dR x.toNat:=by omega
     rw [e]
theorem al_0 {f:Nat→Nat→Bool} (h:∀ k n,f 0 (k+1)=f 0 (n+1)) {Q d:Nat} (hd:0 < d):f 0 (Q*d)=f 0 Q:=by
 induction Q using Nat.casesAuxOn with
 | zero=>rw [Nat.zero_mul]
 | succ n =>
  obtain ⟨k,e⟩:=Nat.exists_eq_succ_of_ne_zero (Nat.mul_ne_zero (Nat.succ_ne_zero n) (Nat.ne_of_gt hd))
  rw [e]; exact h k n
theorem Od {x y:Nat} {f:Nat→Nat→Bool} (h:∀ k n,f 0 (k+1)=f 0 (n+1)) (h':∀ k n,f (k+1) 0=f (n+1) 0):alR x y f=f (MT x y) (M3 x y):=by
 have hp:∀ k,MT x y=k→alR x y f=f k (M3 x y):=fun k e=>by
  subst e
  unfold alR
  rw [ao,ao]
  cases p:Gq x with
  | false =>
   unfold MT M3
   rw [Uc p,dH,Nat.zero_mul]
   exact (al_0 h (Nat.two_pow_pos _)).symm
  | true =>
   cases q:Gq y with
   | false =>
    unfold MT M3
    rw [Uc q,dH,dH,Nat.zero_mul]
    exact (al_0 (f:=fun a b=>f b a) h' (Nat.two_pow_pos _)).symm
   | true=>rfl
 exact hp _ rfl
theorem Xx {k n:Nat}:Nat.ble 0 k=Nat.ble 0 n:=by cases k <;> cases n <;> rfl
theorem Xg {a b:Bool} (k n:Nat):ltS a b 0 (k+1)=ltS a b 0 (n+1)∧ltS a b (k+1) 0=ltS a b (n+1) 0:=by
 cases a <;> cases b
 ·exact ⟨@Xx k n,rfl⟩
 ·exact ⟨rfl,rfl⟩
 ·exact ⟨rfl,rfl⟩
 ·exact ⟨rfl,@Xx k n⟩
theorem XN {a b:Bool} (k n:Nat):eqS a b 0 (k+1)=eqS a b 0 (n+1)∧eqS a b (k+1) 0=eqS a b (n+1) 0:=by
 cases a <;> cases b <;> exact ⟨rfl,rfl⟩
theorem cmpI {p q:Int}:compare p q=if p < q then .lt else if p=q then .eq else .gt:=rfl
theorem lt_N:flt x y=ltN x.toNat y.toNat:=by
 unfold ltN
 rw [Od (fun k n=>(Xg k n).1) fun k n=>(Xg k n).2]
 cases hx:cR x.toNat with
 | false=>simp only [Bool.false_and,cond_false,toU]
 | true =>
  cases hy:cR y.toNat with
  | false=>simp only [Bool.and_false,cond_false,toU]
  | true =>
   simp only [Bool.and_true,cond_true]
   unfold flt Float64.cmp
   rw [bK hx,bK hy]
   simp only [wK]
   show (some (compare (Float64.sgn (lM x.toNat) (MT x.toNat y.toNat)) (Float64.sgn (lM y.toNat) (M3 x.toNat y.toNat)))==some .lt)=_
   generalize MT x.toNat y.toNat=P
   generalize M3 x.toNat y.toNat=Q
   unfold ltS Float64.sgn
   rw [cmpI]
   cases lM x.toNat <;> cases lM y.toNat <;> simp only [Bool.false_eq_true,if_false,if_true,cond_false,cond_true,cZ,iW,bJ,dg,Nat.succ_eq_add_one]
   ·by_cases h:P+1≤Q
    ·rw [if_pos (by omega)]; simp [h]
    ·rw [if_neg (by omega)]; split <;> simp [h]
   ·rw [if_neg (by omega)]; split <;> rfl
   ·by_cases h:P+Q=0
    ·rw [if_neg (by omega),if_pos h]; split <;> rfl
    ·rw [if_pos (by omega),if_neg h]; rfl
   ·by_cases h:Q+1≤P
    ·rw [if_pos (by omega)]; simp [h]
    ·rw [if_neg (by omega)]; split <;> simp [h]
theorem eq_N:feq x y=eqN x.toNat y.toNat:=by
 unfold eqN
 rw [Od (fun k n=>(XN k n).1) fun k n=>(XN k n).2]
 cases hx:cR x.toNat with
 | false=>simp only [Bool.false_and,cond_false,toU]
 | true =>
  cases hy:cR y.toNat with
  | false=>simp only [Bool.and_false,cond_false,toU]
  | true =>
   simp only [Bool.and_true,cond_true]
   unfold feq Float64.cmp
   rw [bK hx,bK hy]
   simp only [wK]
   show (some (compare (Float64.sgn (lM x.toNat) (MT x.toNat y.toNat)) (Float64.sgn (lM y.toNat) (M3 x.toNat y.toNat)))==some .eq)=_
   generalize MT x.toNat y.toNat=P
   generalize M3 x.toNat y.toNat=Q
   unfold eqS Float64.sgn
   rw [cmpI]
   cases lM x.toNat <;> cases lM y.toNat <;> simp only [Bool.false_eq_true,if_false,if_true,Bool.xor_false,Bool.false_xor,Bool.xor_self,Bool.xor_true,Bool.not_false,Bool.not_true,cond_false,cond_true,cZ,iW,bJ,dg]
   ·by_cases h:P=Q
    ·rw [if_neg (by omega),if_pos (by omega)]; simp [h]
    ·by_cases h2:(P:Int) < Q
     ·rw [if_pos h2]; simp [h]
     ·rw [if_neg h2,if_neg (by omega)]; simp [h]
   ·by_cases h:P+Q=0
    ·rw [if_neg (by omega),if_pos (by omega)]; simp [h]
    ·rw [if_neg (by omega),if_neg (by omega)]; simp; omega
   ·by_cases h:P+Q=0
    ·rw [if_neg (by omega),if_pos (by omega)]; simp [h]
    ·rw [if_pos (by omega)]; simp; omega
   ·by_cases h:P=Q
    ·rw [if_neg (by omega),if_pos (by omega)]; simp [h]
    ·by_cases h2:-(P:Int) < -Q
     ·rw [if_pos h2]; simp [h]
     ·rw [if_neg h2,if_neg (by omega)]; simp [h]
theorem le_N:fle x y=leN x.toNat y.toNat:=by
 have:fle x y=(flt x y||feq x y):=rfl
 rw [this,lt_N,eq_N]; rfl
end
noncomputable def zz (a b:Nat):Nat:=cond (ltN a b) b a
noncomputable def zr (a b:Nat):Nat:=cond (ltN b a) b a
noncomputable def F1:Nat:=4607182418800017408
noncomputable def Zj (x:Nat):Nat:=aq (Nat.mod (MT x F1) (M3 x F1)) fun m=>aq (wj (dR x) 1023) fun G=>H5 (lM x) m G KB
noncomputable def fixN (r:Nat):Nat:=cond (JH r) 0 (cond (ltN r 0) (zc r F1) r)
noncomputable def Bq (x:Nat):Nat:=cond (cR x) (aq (Zj x) fixN) (gG (UInt64.ofNat x) 4607182418800017408).toNat
noncomputable def RL (x:Nat):Int:=cond (and (cR x) (cond (lM x) false true)) (Int.ofNat (cond (Nat.ble KB (dR x)) (Nat.mul (jY x) (Nat.pow 2 (Nat.sub (dR x) KB))) (Nat.div (jY x) (Nat.pow 2 (Nat.sub KB (dR x)))))) (G5 (UInt64.ofNat x))
noncomputable def uv (x:Nat):Nat:=cond (Nat.ble KB (dR x)) (zm (Nat.mul (jY x) (Nat.pow 2 (Nat.sub (dR x) KB))) 1) (aq (jY x) fun n=>aq (Nat.pow 2 (Nat.sub KB (dR x))) fun d=>zm n d)
noncomputable def Ce (x:Nat):Int:=cond (cR x) (cond (lM x) (Int.negOfNat (uv x)) (Int.ofNat (uv x))) (eG (UInt64.ofNat x))
section
variable {x y:UInt64}
theorem Rj:(fmax x y).toNat=zz x.toNat y.toNat:=by
 have e:fmax x y=if flt x y=true then y else x:=rfl
 rw [e,lt_N]
 unfold zz
 cases ltN x.toNat y.toNat <;> rfl
theorem Ol:(fmin x y).toNat=zr x.toNat y.toNat:=by
 have e:fmin x y=if flt y x=true then y else x:=rfl
 rw [e,lt_N]
 unfold zr
 cases ltN y.toNat x.toNat <;> rfl
theorem zero_N:Float64.isZero x=JH x.toNat:=by
 unfold JH
 cases hx:cR x.toNat with
 | true =>
  unfold Float64.isZero
  rw [bK hx,Bool.true_and,iW]
  cases h:jY x.toNat with
  | zero=>rfl
  | succ n=>simp
 | false =>
  have:Float64.isFinite x=false:=fin_isFinite.trans hx
  rw [Bool.false_and]
  unfold Float64.isFinite at this
  unfold Float64.isZero
  cases hd:Float64.decode x with
  | fin=>rw [hd] at this; cases this
  | nan=>rfl
  | inf=>rfl
theorem vN (h:cR x.toNat=true):Float64.isInf x=false:=by unfold Float64.isInf; rw [bK h]
theorem f1_nat:(4607182418800017408:UInt64).toNat=F1:=by unfold F1; decide
theorem fin1:cR F1=true:=by decide +kernel
theorem Rg:(gG x 4607182418800017408).toNat=Bq x.toNat:=by
 unfold Bq
 simp only [ao]
 cases hx:cR x.toNat with
 | false=>simp only [cond_false,toU]
 | true =>
  rw [cond_true]
  have hr:(Float64.fmod x 4607182418800017408).toNat=Zj x.toNat:=by
   unfold Float64.fmod Zj
   simp only [ao]
   rw [bK hx,bK (x:=4607182418800017408) (by rw [f1_nat]; exact fin1),f1_nat]
   have e1:jY F1=4503599627370496:=by decide +kernel
   have e2:dR F1=1023:=by decide +kernel
   simp only [wK]
   rw [if_neg (by rw [e1]; decide)]
   show (Float64.ofBin _ ((Float64.sgn false (MT x.toNat F1)).toNat % (Float64.sgn false (M3 x.toNat F1)).toNat) _).toNat=_
   generalize MT x.toNat F1=P
   generalize M3 x.toNat F1=Q
   rw [e2]
   have e3:(Float64.sgn false P).toNat=P:=rfl
   have e4:(Float64.sgn false Q).toNat=Q:=rfl
   rw [e3,e4,oW]
   exact oZ (by rw [Bg]; rfl)
  have hy:Float64.lt 4607182418800017408 (Float64.zero false)=false:=by decide +kernel
  have hc:(Float64.copysign (Float64.zero false) 4607182418800017408).toNat=0:=by decide +kernel
  have hz:(Float64.zero false).toNat=0:=by decide +kernel
  unfold gG Float64.divmod fixN
  generalize Float64.fmod x 4607182418800017408=m at hr ⊢
  rw [← hr,← zero_N]
  have hl:Float64.lt m (Float64.zero false)=ltN m.toNat 0:=by
   have:Float64.lt m (Float64.zero false)=flt m (Float64.zero false):=rfl
   rw [this,lt_N,hz]
  show (if Float64.isZero m=true then (Float64.copysign (Float64.zero false) 4607182418800017408,Float64.div (Float64.sub x m) 4607182418800017408)
   else if (Float64.lt 4607182418800017408 (Float64.zero false) != Float64.lt m (Float64.zero false))=true then (Float64.add m 4607182418800017408,Float64.sub (Float64.div (Float64.sub x m) 4607182418800017408) Float64.one)
   else (m,Float64.div (Float64.sub x m) 4607182418800017408)).1.toNat=_
  rw [hy,hl]
  by_cases h1:Float64.isZero m=true
  ·rw [if_pos h1,h1,cond_true]; exact hc
  ·have h1':Float64.isZero m=false:=by simpa using h1
   rw [if_neg h1,h1',cond_false]
   cases ltN m.toNat 0
   ·rw [if_neg (by decide),cond_false]
   ·rw [if_pos (by decide),cond_true]
    have:=vM (x:=m) (y:=4607182418800017408)
    rw [f1_nat] at this
    exact this
theorem int_N:G5 x=RL x.toNat:=by
 unfold RL
 cases hx:cR x.toNat with
 | false=>simp only [Bool.false_and,cond_false,toU]
 | true =>
  cases hs:lM x.toNat with
  | true=>simp only [cond_true,Bool.and_false,cond_false,toU]
  | false =>
   simp only [cond_false,Bool.and_true,cond_true]
   unfold G5 Flt.toInt
   rw [bK hx,hs]
   show Float64.truncOf false (jY x.toNat) _=_
   unfold Float64.truncOf Float64.floorOf Float64.sgn
   have hk:=Bg
   rw [cZ,bJ]
   simp only [Bool.false_eq_true,if_false,d7,dH,kI,dZ]
   by_cases h:KB≤dR x.toNat
   ·rw [if_pos h,if_pos (by omega)]
    have e:((dR x.toNat:Int)-1075).toNat=dR x.toNat-KB:=by omega
    rw [e]
    show (jY x.toNat:Int)*2 ^ (dR x.toNat-KB)=((jY x.toNat*2 ^ (dR x.toNat-KB):Nat):Int)
    push_cast; rfl
   ·rw [if_neg h,if_neg (by omega)]
    have e:(-((dR x.toNat:Int)-1075)).toNat=KB-dR x.toNat:=by omega
    rw [e]
    show Int.fdiv (jY x.toNat:Int) (2 ^ (KB-dR x.toNat))=((jY x.toNat / 2 ^ (KB-dR x.toNat):Nat):Int)
    rw [Int.fdiv_eq_ediv_of_nonneg _ (Int.pow_nonneg (by decide))]
    push_cast; rfl
theorem Wn:eG x=Ce x.toNat:=by
 unfold Ce
 cases hx:cR x.toNat with
 | false=>simp only [cond_false,toU]
 | true =>
  rw [cond_true]
  unfold eG Flt.toInt
  rw [bK hx]
  show Float64.nearestOf _ (jY x.toNat) _=_
  unfold Float64.nearestOf
  have hn:Float64.halfEven (Float64.shift (jY x.toNat) 1 ((dR x.toNat:Int)-1075)).1 (Float64.shift (jY x.toNat) 1 ((dR x.toNat:Int)-1075)).2=uv x.toNat:=by
   unfold uv Float64.shift
   simp only [ao]
   have hk:=Bg
   rw [cZ,bJ]
   simp only [d7,dH,kI]
   by_cases h:KB≤dR x.toNat
   ·rw [if_pos h,if_pos (by omega),yx]
    have e:((dR x.toNat:Int)-1075).toNat=dR x.toNat-KB:=by omega
    rw [e]
   ·rw [if_neg h,if_neg (by omega),yx]
    have e:(-((dR x.toNat:Int)-1075)).toNat=KB-dR x.toNat:=by omega
    rw [e,Nat.one_mul]
  show Float64.sgn _ (Float64.halfEven (Float64.shift (jY x.toNat) 1 ((dR x.toNat:Int)-1075)).1 (Float64.shift (jY x.toNat) 1 ((dR x.toNat:Int)-1075)).2)=_
  rw [hn]
  cases lM x.toNat
  ·rfl
  ·show -((uv x.toNat:Nat):Int)=Int.negOfNat (uv x.toNat)
   cases uv x.toNat <;> rfl
theorem Pk {m:Nat}:pJ (false != false) m=m:=rfl
theorem WF {m:Nat}:pJ false m=m:=rfl
theorem Cv {a b:Nat} (hb:b≠0):(gj a b).toNat=roundN a b:=by
 unfold gj
 have e1:decide ((a:Int) < 0)=false:=by simp
 have e2:decide ((b:Int) < 0)=false:=by simp
 rw [e1,e2,Int.natAbs_natCast,Int.natAbs_natCast,oG hb,Pk]
theorem mY {a:Nat}:(Float64.ofInt a).toNat=roundN a 1:=by
 unfold Float64.ofInt
 have e1:decide ((a:Int) < 0)=false:=by simp
 rw [e1,oG (by decide),WF,Int.natAbs_natCast]
end
inductive KD where
 | int (n:Nat) | flo (n:Nat) | tup (l:List Nat)
inductive FR:List Nat→List D→Prop where
 | nil:FR [] []
 | cons {x:UInt64} {l:List Nat} {ds:List D}:FR l ds→FR (x.toNat :: l) (.float x :: ds)
inductive KR:KD→D→Prop where
 | int (n:Nat):KR (.int n) (.int n)
 | flo (x:UInt64):KR (.flo x.toNat) (.float x)
 | tup {l:List Nat} {ds:List D}:FR l ds→KR (.tup l) (.tup ds)
inductive KRL:List KD→List D→Prop where
 | nil:KRL [] []
 | cons {k:KD} {d:D} {l:List KD} {ds:List D}:KR k d→KRL l ds→KRL (k :: l) (d :: ds)
noncomputable abbrev Kk:=List (Option KD)
noncomputable def Mx (l:Kk):Nat→Option KD:=@List.rec _ (fun _=>Nat→Option KD) (fun _=>none) (fun o _ ih i=>@Nat.casesOn (fun _=>Option KD) i o ih) l
noncomputable def setC (l:Kk):Nat→KD→Kk:=@List.rec _ (fun _=>Nat→KD→Kk) (fun _ _=>[]) (fun o r ih i d=>@Nat.casesOn (fun _=>Kk) i (some d :: r) fun i=>o :: ih i d) l
noncomputable def KnR (kk:Kk) (kn:Kn):Prop:=∀ i k,Mx kk i=some k→∃ d,bF kn i=some d∧KR k d
noncomputable def cBF (op:Operator) (a b:Nat) (c:KD→Bool):Bool:=match op with
 | .Add=>aq (zc a b) fun n=>c (.flo n)
 | .Sub=>aq (Bd a b) fun n=>c (.flo n)
 | .Mult=>aq (Wb a b) fun n=>c (.flo n)
 | .Div=>cond (JH b) false (aq (divN a b) fun n=>c (.flo n))
 | .Mod=>cond (Nat.beq b F1) (aq (Bq a) fun n=>c (.flo n)) false
 | _=>false
noncomputable def cBFI (op:Operator) (a m:Nat) (c:KD→Bool):Bool:=match op with
 | .Sub=>aq (roundN m 1) fun f=>cond (cR f) (aq (Bd a f) fun n=>c (.flo n)) false
 | _=>false
noncomputable def cBI (op:Operator) (a b:Nat) (c:KD→Bool):Bool:=match op with
 | .Mod=>cond (Nat.beq b 0) false (aq (Nat.mod a b) fun n=>c (.int n))
 | _=>false
noncomputable def cB (op:Operator) (x y:KD) (c:KD→Bool):Bool:=match x with
 | .flo a=>(match y with | .flo b=>cBF op a b c | .int m=>cBFI op a m c | _=>false)
 | .int a=>(match y with | .int b=>cBI op a b c | _=>false)
 | _=>false
noncomputable def cCF (op:CmpOp) (a b:Nat) (A B:Bool):Bool:=match op with
 | .Eq=>cond (eqN a b) A B
 | .Lt=>cond (ltN a b) A B
 | .LtE=>cond (leN a b) A B
 | _=>false
noncomputable def cC (op:CmpOp) (x y:KD) (A B:Bool):Bool:=match x with
 | .flo a=>(match y with | .flo b=>cCF op a b A B | _=>false)
 | .int a=>(match y with | .int b=>(match op with | .Eq=>cond (Nat.beq a b) A B | _=>false) | _=>false)
 | _=>false
noncomputable def intK (x:Nat) (k:Nat→Bool):Bool:=cond (and (cR x) (cond (lM x) false true)) (aq (cond (Nat.ble KB (dR x)) (Nat.mul (jY x) (Nat.pow 2 (Nat.sub (dR x) KB))) (Nat.div (jY x) (Nat.pow 2 (Nat.sub KB (dR x))))) k) false
noncomputable def Vb (l:List KD):(List Nat→Bool)→Bool:=@List.rec _ (fun _=>(List Nat→Bool)→Bool) (fun c=>c []) (fun k _ ih c=>@KD.casesOn (fun _=>Bool) k (fun _=>false) (fun n=>ih fun r=>c (n :: r)) fun _=>false) l
noncomputable def cN1 (b:Bn) (x:Nat) (c:KD→Bool):Bool:=match b with | .int=>intK x fun n=>c (.int n) | _=>false
noncomputable def cN3 (b:Bn) (x y z:Nat) (c:KD→Bool):Bool:=match b with
 | .max=>aq (zz x y) fun m=>aq (zz m z) fun n=>c (.flo n)
 | .min=>aq (zr x y) fun m=>aq (zr m z) fun n=>c (.flo n)
 | _=>false
noncomputable def cN (b:Bn) (l:List Nat) (c:KD→Bool):Bool:=match l with
 | []=>false
 | x :: r=>(match r with
  | []=>cN1 b x c
  | y :: r=>(match r with
   | []=>false
   | z :: r=>(match r with
    | []=>cN3 b x y z c
    | _ :: _=>false)))
noncomputable def cBn (b:Bn) (l:List KD) (c:KD→Bool):Bool:=Vb l fun l=>cN b l c
structure KG where
 f:Str→List KD→(KD→Bool)→Bool
 g:Str→(Nat→Bool)→Bool
section
variable (H:KG)
noncomputable abbrev ZX:=Kk→(KD→Bool)→Bool
noncomputable abbrev ZL:=Kk→(List KD→Bool)→Bool
noncomputable def zN:ZX:=fun _ _=>false
noncomputable def zLit (d:D):ZX:=fun _ c=>@D.casesOn (fun _=>Bool) d false (fun _=>false) (fun i=>@Int.casesOn (fun _=>Bool) i (fun n=>c (.int n)) fun _=>false) (fun x=>aq x.toNat fun n=>c (.flo n)) (fun _=>false) (fun _=>false) (fun _=>false) (fun _ _=>false) (fun _=>false) (fun _=>false) (fun _=>false) fun _=>false
noncomputable def zVar (i:Nat):ZX:=fun kk c=>@Option.casesOn _ (fun _=>Bool) (Mx kk i) false c
noncomputable def cX (e:SE):ZX:=@SE.rec (fun _=>ZX) (fun _=>ZL) zLit zN zVar (fun x _ c=>H.g x fun n=>c (.flo n)) (fun op _ _ a b kk c=>a kk fun x=>b kk fun y=>cB op x y c) (fun _ _ _ _ _=>zN) (fun _ _ _ _ _ _ _ _=>zN) (fun _ _=>zN) (fun _ _=>zN) (fun _ _=>zN) (fun _ _=>zN) (fun _ l kk c=>l kk fun l=>Vb l fun r=>c (.tup r)) (fun _ _ _ _=>zN) (fun _ _ _ _=>zN) (fun _ _ _ _=>zN) (fun _ _ _=>zN) (fun _ _ _ _ _ _=>zN) (fun f _ l kk c=>l kk fun l=>H.f f l c) (fun b _ l kk c=>l kk fun l=>cBn b l c) (fun _ _ _ _ _=>zN) (fun _ _ _ _ _ _=>zN) (fun _ _ _ _ _ _ _ _=>zN) (fun _ c=>c []) (fun _ _ a r kk c=>a kk fun x=>r kk fun l=>c (x :: l)) e
noncomputable def cL (l:SL):ZL:=@SL.rec (fun _=>ZX) (fun _=>ZL) zLit zN zVar (fun x _ c=>H.g x fun n=>c (.flo n)) (fun op _ _ a b kk c=>a kk fun x=>b kk fun y=>cB op x y c) (fun _ _ _ _ _=>zN) (fun _ _ _ _ _ _ _ _=>zN) (fun _ _=>zN) (fun _ _=>zN) (fun _ _=>zN) (fun _ _=>zN) (fun _ l kk c=>l kk fun l=>Vb l fun r=>c (.tup r)) (fun _ _ _ _=>zN) (fun _ _ _ _=>zN) (fun _ _ _ _=>zN) (fun _ _ _=>zN) (fun _ _ _ _ _ _=>zN) (fun f _ l kk c=>l kk fun l=>H.f f l c) (fun b _ l kk c=>l kk fun l=>cBn b l c) (fun _ _ _ _ _=>zN) (fun _ _ _ _ _ _=>zN) (fun _ _ _ _ _ _ _ _=>zN) (fun _ c=>c []) (fun _ _ a r kk c=>a kk fun x=>r kk fun l=>c (x :: l)) l
noncomputable def cT (e:SE) (kk:Kk) (A B:Bool):Bool:=match e with
 | .cmp op a b=>cX H a kk fun x=>cX H b kk fun y=>cC op x y A B
 | _=>false
noncomputable def cS (s:SS):Kk→(Kk→Bool)→(KD→Bool)→Bool:=@SS.rec (fun _=>Kk→(Kk→Bool)→(KD→Bool)→Bool) (fun kk N _=>N kk) (fun i e _ r kk N R=>cX H e kk fun x=>r (setC kk i x) N R)
 (fun _ _ _ _ _ _ _=>false) (fun _ _ _ _ _ _=>false) (fun _ _ _ _ _ _ _=>false) (fun _ _ _ _ _ _ _=>false) (fun _ _ _ _ _ _ _ _ _ _=>false) (fun _ _ _ _ _ _ _ _=>false)
 (fun c _ _ _ a b r kk N R=>cT H c kk (a kk (fun kk=>r kk N R) R) (b kk (fun kk=>r kk N R) R))
 (fun _ _ _ _ _ _ _ _ _=>false) (fun e _ _ kk _ R=>cX H e kk R) (fun _ _ _ _ _=>false) s
end
noncomputable def argC (n:Nat):List KD→Kk:=@Nat.rec (fun _=>List KD→Kk) (fun _=>[]) (fun _ ih l=>@List.casesOn _ (fun _=>Kk) l (none :: ih []) fun d ds=>some d :: ih ds) n
noncomputable def cFn (H:KG) (n:Nat) (s:SS) (l:List KD) (c:KD→Bool):Bool:=cS H s (argC n l) (fun _=>false) c
noncomputable def KQ (c:KD→Bool) (d:D):Prop:=∃ k,KR k d∧c k=true
theorem oY {n:Nat} {c:Nat→Bool} (h:aq n c=true):c n=true:=by rw [ao] at h; exact h
theorem KQ.force {n:Nat} {c:KD→Bool} {x:UInt64} (e:x.toNat=n) (h:aq n (fun n=>c (.flo n))=true):KQ c (.float x):=⟨_,.flo x,by rw [e]; exact oY h⟩
theorem KQ.flo {c:KD→Bool} {x:UInt64} (h:c (.flo x.toNat)=true):KQ c (.float x):=⟨_,.flo x,h⟩
theorem Dd {b c:Bool} (h:cond b false c=true):b=false∧c=true:=by induction b using Bool.casesOn with | true=>exact dM h | false=>exact ⟨rfl,h⟩
theorem jC {b c:Bool} (h:cond b c false=true):b=true∧c=true:=by induction b using Bool.casesOn with | true=>exact ⟨rfl,h⟩ | false=>exact dM h
theorem f1_at {x:UInt64} (h:Nat.beq x.toNat F1=true):x=4607182418800017408:=UInt64.toNat_inj.mp ((Nat.eq_of_beq_eq_true h).trans f1_nat.symm)
theorem nz1:Float64.isZero 4607182418800017408=false:=by decide +kernel
theorem YX {op:Operator} {x y:UInt64} {c:KD→Bool} {Q:D→Prop} (h:cBF op x.toNat y.toNat c=true) (q:∀ d,KQ c d→Q d):aN op x y Q:=by
 induction op using Operator.casesOn with
 | Add=>exact q _ (.force vM h)
 | Sub=>exact q _ (.force z9 h)
 | Mult=>exact q _ (.force Xj h)
 | Div =>
  obtain ⟨h1,h2⟩:=Dd h
  exact ⟨zero_N.trans h1,q _ (.force div_N h2)⟩
 | Mod =>
  obtain ⟨h1,h2⟩:=jC h
  obtain rfl:=f1_at h1
  exact ⟨nz1,q _ (.force Rg h2)⟩
 | _=>exact dM h
theorem cB_ok {op:Operator} {k m:KD} {d e:D} {c:KD→Bool} {Q:D→Prop} (h:cB op k m c=true) (hd:KR k d) (he:KR m e) (q:∀ d,KQ c d→Q d):uF op d e Q:=by
 cases hd with
 | flo x=>cases he with
  | flo y=>exact YX h q
  | int m=>induction op using Operator.casesOn with
   | Sub =>
    obtain ⟨h1,h2⟩:=jC (oY (show aq (roundN m 1) (fun f=>cond (cR f) (aq (Bd x.toNat f) fun n=>c (.flo n)) false)=true from h))
    exact ⟨vN (by rw [mY]; exact h1),q _ (.force (by rw [z9,mY]) h2)⟩
   | _=>exact dM h
  | tup _=>exact dM h
 | int n=>cases he with
  | int m=>induction op using Operator.casesOn with
   | Mod =>
    obtain ⟨h1,h2⟩:=Dd h
    have hm:m≠0:=fun q=>by rw [q] at h1; exact dM h1.symm
    exact ⟨by omega,q _ ⟨_,.int (n % m),oY h2⟩⟩
   | _=>exact dM h
  | _=>exact dM h
 | tup _=>exact dM h
theorem cC_ok {op:CmpOp} {k m:KD} {d e:D} {A B:Bool} {P Q:Prop} (h:cC op k m A B=true) (hA:A=true→P) (hB:B=true→Q) (hd:KR k d) (he:KR m e):v7 op d e fun r=>pG r P Q:=by
 have go:∀ {b b':Bool},b'=b→cond b A B=true→cond b' P Q:=fun {b b'} e h=>by
  subst e; induction b' using Bool.casesOn with
  | true=>exact hA h
  | false=>exact hB h
 cases hd with
 | flo x=>cases he with
  | flo y=>induction op using CmpOp.casesOn with
   | Eq=>exact go eq_N h
   | Lt=>exact go lt_N h
   | LtE=>exact go le_N h
   | _=>exact dM h
  | _=>exact dM h
 | int n=>cases he with
  | int m=>induction op using CmpOp.casesOn with
   | Eq=>exact go (b':=decide ((n:Int)=m)) (by rw [iW]; exact decide_eq_decide.mpr Int.ofNat_inj) h
   | _=>exact dM h
  | _=>exact dM h
 | tup _=>exact dM h
theorem KRL.flo_inv {n:Nat} {l:List KD} {ds:List D} (h:KRL (.flo n :: l) ds):∃ (x:UInt64) (r:List D),ds=.float x :: r∧n=x.toNat∧KRL l r:=by
 cases h with
 | cons a q=>cases a with | flo x=>exact ⟨x,_,rfl,rfl,q⟩
theorem Bj:∀ {l:List KD} {ds:List D} {c:List Nat→Bool},Vb l c=true→KRL l ds→∃ r,FR r ds∧c r=true
 | [],ds,c,h,q=>by cases q; exact ⟨[],.nil,h⟩
 | .flo n :: l,ds,c,h,q=>by
  obtain ⟨x,r,rfl,rfl,q'⟩:=q.flo_inv
  obtain ⟨r,a,b⟩:=Bj (l:=l) (c:=fun r=>c (x.toNat :: r)) h q'
  exact ⟨_,.cons a,b⟩
theorem Ti {x:UInt64} {c:Nat→Bool} (h:intK x.toNat c=true):Float64.isFinite x=true∧∃ n:Nat,G5 x=n∧c n=true:=by
 obtain ⟨h1,h2⟩:=jC h
 have h3:=(aK h1).1
 refine ⟨fin_isFinite.trans h3,_,?_,oY h2⟩
 rw [int_N]
 unfold RL
 rw [h1]; rfl
theorem cN1_ok {b:Bn} {x:UInt64} {c:KD→Bool} {Q:D→Prop} (h:cN1 b x.toNat c=true) (q:∀ d,KQ c d→Q d):d9 b [.float x] Q:=by
 induction b using Bn.casesOn with
 | int =>
  obtain ⟨h1,n,h2,h3⟩:=Ti h
  exact ⟨h1,q _ ⟨_,by rw [h2]; exact .int n,h3⟩⟩
 | _=>exact dM h
theorem Za {b:Bn} {x y z:UInt64} {c:KD→Bool} {Q:D→Prop} (h:cN3 b x.toNat y.toNat z.toNat c=true) (q:∀ d,KQ c d→Q d):d9 b [.float x,.float y,.float z] Q:=by
 induction b using Bn.casesOn with
 | max=>exact q _ (.force (x:=fmax (fmax x y) z) (by rw [Rj,Rj]) (oY (n:=zz x.toNat y.toNat) (c:=fun m=>aq (zz m z.toNat) fun n=>c (.flo n)) h))
 | min=>exact q _ (.force (x:=fmin (fmin x y) z) (by rw [Ol,Ol]) (oY (n:=zr x.toNat y.toNat) (c:=fun m=>aq (zr m z.toNat) fun n=>c (.flo n)) h))
 | _=>exact dM h
theorem cN_ok {b:Bn} {l:List Nat} {ds:List D} {c:KD→Bool} {Q:D→Prop} (h:cN b l c=true) (v:FR l ds) (q:∀ d,KQ c d→Q d):d9 b ds Q:=by
 cases v with
 | nil=>exact dM h
 | cons v=>cases v with
  | nil=>exact cN1_ok h q
  | cons v=>cases v with
   | nil=>exact dM h
   | cons v=>cases v with
    | nil=>exact Za h q
    | cons _=>exact dM h
theorem cBn_ok {b:Bn} {l:List KD} {ds:List D} {c:KD→Bool} {Q:D→Prop} (h:cBn b l c=true) (a:KRL l ds) (q:∀ d,KQ c d→Q d):d9 b ds Q:=by obtain ⟨_,v,h⟩:=Bj h a; exact cN_ok h v q
structure KGok (H:KG) (G:Ctx):Prop where
 f:∀ {f l ds c},H.f f l c=true→KRL l ds→∃ r,SQ G f ds=some r∧KQ c r
 g:∀ {x c},H.g x c=true→∃ y:UInt64,G.vals.lookup x=some (.float y)∧c y.toNat=true
section
variable {H:KG} {G:Ctx}
noncomputable def PCX (H:KG) (G:Ctx) (e:SE):Prop:=∀ ⦃kk:Kk⦄ ⦃kn:Kn⦄ ⦃c:KD→Bool⦄ ⦃Q:D→Prop⦄,cX H e kk c=true→KnR kk kn→(∀ d,KQ c d→Q d)→wX G e kn Q
noncomputable def PCL (H:KG) (G:Ctx) (l:SL):Prop:=∀ ⦃kk:Kk⦄ ⦃kn:Kn⦄ ⦃c:List KD→Bool⦄ ⦃Q:List D→Prop⦄,cL H l kk c=true→KnR kk kn→(∀ ds k,KRL k ds→c k=true→Q ds)→wL G l kn Q
theorem PCX.no {e:SE} (h:∀ kk c,cX H e kk c=false):PCX H G e:=fun kk kn c Q q=>dM ((h kk c).symm.trans q)
theorem c_lit {d:D}:PCX H G (.lit d):=fun kk kn c Q h X q=>q d (by
 induction d using D.casesOn with
 | float x=>exact .force rfl h
 | int i=>induction i using Int.casesOn with
  | ofNat n=>exact ⟨_,.int n,h⟩
  | _=>exact dM h
 | _=>exact dM h)
theorem c_var {i:Nat}:PCX H G (.var i):=fun kk kn c Q h X q=>by
 have h:@Option.casesOn _ (fun _=>Bool) (Mx kk i) false c=true:=h
 cases e:Mx kk i with
 | none=>rw [e] at h; exact dM h
 | some k =>
  rw [e] at h
  obtain ⟨d,hd,r⟩:=X i k e
  show XK (bF kn i) Q
  rw [hd]; exact q d ⟨k,r,h⟩
theorem Yz (K:KGok H G) {x:Str}:PCX H G (.glob x):=fun kk kn c Q h X q=>by
 obtain ⟨y,e,h⟩:=K.g h
 exact ⟨_,e,q _ (.flo h)⟩
theorem Zk (K:KGok H G) {f:Str} {l:SL} (A:PCL H G l):PCX H G (.call f l):=fun kk kn c Q h X q=>A h X fun ds k r h=>by
 obtain ⟨d,e,h⟩:=K.f h r
 exact ⟨d,e,q d h⟩
theorem c_tup {l:SL} (A:PCL H G l):PCX H G (.tup l):=fun kk kn c Q h X q=>A h X fun ds k r h=>by
 obtain ⟨r,a,h⟩:=Bj h r
 exact q _ ⟨_,.tup a,h⟩
mutual
theorem xm (K:KGok H G):∀ e:SE,PCX H G e
 | .lit _=>c_lit
 | .var _=>c_var
 | .glob _=>Yz K
 | .bin _ a b=>fun kk kn c Q h X q=>xm K a h X fun d ⟨k,r,h⟩=>xm K b h X fun e ⟨m,s,h⟩=>cB_ok h r s q
 | .bcall _ l=>fun kk kn c Q h X q=>I9 K l h X fun ds k r h=>cBn_ok h r q
 | .call _ l=>Zk K (I9 K l)
 | .tup l=>c_tup (I9 K l)
 | .mil | .cmp .. | .cmp2 .. | .not _ | .band _ | .bor _ | .list _ | .sub .. | .slt .. | .slf .. | .slc .. | .attr .. | .meth .. | .comp .. | .comp2 .. => .no fun _ _=>rfl
theorem I9 (K:KGok H G):∀ l:SL,PCL H G l
 | .nil=>fun kk kn c Q h X q=>q [] [] .nil h
 | .cons a l=>fun kk kn c Q h X q=>xm K a h X fun d ⟨k,r,h⟩=>I9 K l h X fun ds ks s h=>q _ _ (.cons r s) h
end
theorem cT_ok (K:KGok H G) {e:SE} {kk:Kk} {kn:Kn} {A B:Bool} {P Q:Prop} (h:cT H e kk A B=true) (X:KnR kk kn) (hA:A=true→P) (hB:B=true→Q):wX G e kn fun d=>pG d P Q:=by
 induction e using SE.casesOn with
 | cmp op a b=>exact xm K a h X fun d ⟨k,r,h⟩=>xm K b h X fun e ⟨m,s,h⟩=>cC_ok h hA hB r s
 | _=>exact dM h
theorem KnR.set {kk:Kk}:∀ {kn:Kn} {i:Nat} {k:KD} {d:D},kk.length=kn.length→KnR kk kn→KR k d→KnR (setC kk i k) (bC kn i d):=by
 induction kk with
 | nil=>intro _ _ _ _ _ _ _ j m h; exact aO h
 | cons o kk ih =>
  intro kn i k d hl X r j m h
  induction kn using List.casesOn with
  | nil=>exact nomatch hl
  | cons p kn =>
   induction i using Nat.casesAuxOn with
   | zero =>
    induction j using Nat.casesAuxOn with
    | zero=>obtain rfl:=aj h; exact ⟨d,rfl,r⟩
    | succ j=>exact X (j+1) m h
   | succ i =>
    induction j using Nat.casesAuxOn with
    | zero=>exact X 0 m h
    | succ j=>exact ih (Nat.succ.inj hl) (fun j m h=>X (j+1) m h) r j m h
theorem Ew:∀ {kk:Kk} {i:Nat} {k:KD},(setC kk i k).length=kk.length
 | [],_,_=>rfl
 | _ :: _,0,_=>rfl
 | _ :: kk,i+1,_=>congrArg (·+1) (Ew (kk:=kk))
theorem Eo:∀ {kk:Kn} {i:Nat} {k:D},(bC kk i k).length=kk.length
 | [],_,_=>rfl
 | _ :: _,0,_=>rfl
 | _ :: kk,i+1,_=>congrArg (·+1) (Eo (kk:=kk))
noncomputable def PCS (H:KG) (G:Ctx) (s:SS):Prop:=∀ ⦃kk:Kk⦄ ⦃kn:Kn⦄ ⦃c:KD→Bool⦄ ⦃n:Kk→Bool⦄ ⦃N B:Kn→Prop⦄ ⦃R:D→Prop⦄,cS H s kk n c=true→(∀ d,KQ c d→R d)→kk.length=kn.length→KnR kk kn→(∀ kk kn,kk.length=kn.length→KnR kk kn→n kk=true→N kn)→wS G s kn N B R
theorem PCS.no {s:SS} (h:∀ kk n c,cS H s kk n c=false):PCS H G s:=fun kk kn c n N B R q=>dM ((h kk n c).symm.trans q)
theorem zU (K:KGok H G):∀ s:SS,PCS H G s
 | .nil=>fun kk kn c n N B R h q l X hn=>hn kk kn l X h
 | .asg i e r=>fun kk kn c n N B R h q l X hn=>xm K e h X fun d ⟨k,a,h⟩=>zU K r h q (by rw [Ew,Eo,l]) (X.set l a) hn
 | .ite x a b r=>fun kk kn c n N B R h q l X hn=>cT_ok K (e:=x) h X (fun h=>zU K a h q l X fun kk kn l X h=>zU K r h q l X hn) (fun h=>zU K b h q l X fun kk kn l X h=>zU K r h q l X hn)
 | .ret e _=>fun kk kn c n N B R h q l X hn=>xm K e h X q
 | .scal .. | .own .. | .ext .. | .tupl .. | .put .. | .ins .. | .for_ .. | .brk _ => .no fun _ _ _=>rfl
theorem Jo:∀ {n:Nat} {l:List KD} {ds:List D},KRL l ds→KnR (argC n l) (bH n ds)∧(argC n l).length=(bH n ds).length
 | 0,l,ds,a=>⟨fun i k h=>(nomatch h),rfl⟩
 | n+1,[],ds,a=>by
  cases a
  obtain ⟨h,l⟩:=Jo (n:=n) .nil
  refine ⟨fun i k e=>?_,congrArg (·+1) l⟩
  induction i using Nat.casesAuxOn with
  | zero=>exact aO e
  | succ i=>exact h i k e
 | n+1,k :: l,ds,a=>by
  cases a with
  | cons r a =>
   obtain ⟨h,l⟩:=Jo (n:=n) a
   refine ⟨fun i k e=>?_,congrArg (·+1) l⟩
   induction i using Nat.casesAuxOn with
   | zero=>obtain rfl:=aj e; exact ⟨_,rfl,r⟩
   | succ i=>exact h i k e
theorem NQ (K:KGok H G) (hG:∀ b:Bn,G.fns.lookup b.name=none) {n:Nat} {t:TS} {pn:List Str} {body:List Stmt} {s:SS} {l:List KD} {ds:List D} {c:KD→Bool} (hs:dS s t.L body=body) (ht:Dp t pn s body=true) (hl:ds.length=pn.length) (h:cFn H n s l c=true) (a:KRL l ds) :
  ∃ r,eE G 30 30 t.sc t.W pn body ds=some r∧KQ c r:=Uy hG n hs ht hl (zU K s h (fun d h=>h) (Jo a).2 (Jo a).1 fun _ _ _ _ h=>nomatch h)
end
set_option maxHeartbeats 1000000
noncomputable abbrev c13:UInt64:=4599676419421066581
noncomputable abbrev c16:UInt64:=4595172819793696085
noncomputable abbrev c23:UInt64:=4604180019048437077
noncomputable abbrev f1:UInt64:=4607182418800017408
noncomputable def B13:Nat:=4599676419421066581
noncomputable def B16:Nat:=4595172819793696085
noncomputable def B23:Nat:=4604180019048437077
theorem Cx:c13.toNat=B13:=by decide +kernel
theorem Jg:c16.toNat=B16:=by decide +kernel
theorem I7:c23.toNat=B23:=by decide +kernel
theorem RX:f1.toNat=F1:=by decide +kernel
theorem PP:(0:UInt64).toNat=0:=by decide +kernel
noncomputable def yK (t:UInt64 × UInt64 × UInt64):D := .tup [.float t.1,.float t.2.1,.float t.2.2]
noncomputable def gT (x:Str) (c:Nat→Bool):Bool:=cond (x == "ONE_THIRD") (c B13) (cond (x == "ONE_SIXTH") (c B16) (cond (x == "TWO_THIRD") (c B23) false))
noncomputable def H0:KG:=⟨fun _ _ _=>false,gT⟩
noncomputable def H1:KG:=⟨fun f l c=>cond (Nat.beq l.length 3&&f == "_v") (cFn H0 3 fP7 l c) false,gT⟩
noncomputable def rV (G:Ctx):Fn:=eE G 30 30 (gB 7).names [] ["m1","m2","hue"] (dF 7)
noncomputable def TF (G:Ctx):Fn:=eE G 30 30 (gB 5).names [] ["r","g","b"] (dF 5)
noncomputable def o5 (G:Ctx):Fn:=eE G 30 30 (gB 6).names [] ["h","l","s"] (dF 6)
noncomputable def Uq (G:Ctx):Fn:=eE G 30 30 (gB 8).names [] ["r","g","b"] (dF 8)
noncomputable def wJ (G:Ctx):Fn:=eE G 30 30 (gB 9).names [] ["h","s","v"] (dF 9)
structure GV (G:Ctx):Prop where
 b:gU G
 v:∀ {x c},gT x c=true→∃ y:UInt64,G.vals.lookup x=some (.float y)∧c y.toNat=true
theorem W3 {G:Ctx} (b:gU G) (h1:G.vals.lookup ("ONE_THIRD":Str)=some (.float c13)) (h2:G.vals.lookup ("ONE_SIXTH":Str)=some (.float c16)) (h3:G.vals.lookup ("TWO_THIRD":Str)=some (.float c23)):GV G:=⟨b,fun {x c} h=>by
 unfold gT at h
 cases e1:x == "ONE_THIRD" with
 | true=>rw [e1] at h; rw [eq_of_beq e1]; exact ⟨_,h1,by rw [Cx]; exact h⟩
 | false =>
  rw [e1,cond_false] at h
  cases e2:x == "ONE_SIXTH" with
  | true=>rw [e2] at h; rw [eq_of_beq e2]; exact ⟨_,h2,by rw [Jg]; exact h⟩
  | false =>
   rw [e2,cond_false] at h
   obtain ⟨e3,h⟩:=jC h
   rw [eq_of_beq e3]; exact ⟨_,h3,by rw [I7]; exact h⟩⟩
theorem k0_ok {G:Ctx} (V:GV G):KGok H0 G:=⟨fun h=>(nomatch h),V.v⟩
theorem KRL.len {l:List KD} {ds:List D} (h:KRL l ds):l.length=ds.length:=by induction h with | nil=>rfl | cons _ _ ih=>exact congrArg (·+1) ih
theorem k1_ok {G G':Ctx} (V:GV G) (V':GV G') (h:G'.fns.lookup ("_v":Str)=some (rV G)):KGok H1 G':=⟨fun {f l ds c} e a=>by
 obtain ⟨e1,e2⟩:=jC e
 obtain ⟨e3,e4⟩:=aK e1
 obtain ⟨r,h1,h2⟩:=NQ (t:=fT7) (k0_ok V) V.b fE7 fO7 (a.len.symm.trans (Nat.eq_of_beq_eq_true e3)) e2 a
 exact ⟨r,by unfold SQ; rw [eq_of_beq e4,h]; exact h1,h2⟩,V'.v⟩
noncomputable def tupK (k:KD) (c:Nat→Nat→Nat→Bool):Bool:=match k with
 | .tup l=>(match l with
  | []=>false
  | x :: l=>(match l with
   | []=>false
   | y :: l=>(match l with
    | []=>false
    | z :: l=>(match l with | []=>c x y z | _ :: _=>false))))
 | _=>false
theorem Vl {d:D} {c:Nat→Nat→Nat→Bool} (h:KQ (fun k=>tupK k c) d):∃ x y z:UInt64,d=yK (x,y,z)∧c x.toNat y.toNat z.toNat=true:=by
 obtain ⟨k,r,h⟩:=h
 cases r with
 | tup a=>cases a with
  | nil=>exact nomatch h
  | cons a=>cases a with
   | nil=>exact nomatch h
   | cons a=>cases a with
    | nil=>exact nomatch h
    | cons a=>cases a with
     | nil=>exact ⟨_,_,_,rfl,h⟩
     | cons _=>exact nomatch h
 | _=>exact nomatch h
noncomputable def Px (n:Nat) (s:SS) (x y z:Nat) (c:Nat→Nat→Nat→Bool):Bool:=cFn H1 n s [.flo x,.flo y,.flo z] fun k=>tupK k c
theorem wI {G:Ctx} (K:KGok H1 G) (hG:gU G) {n:Nat} {t:TS} {pn:List Str} {body:List Stmt} {s:SS} {x y z:UInt64} {c:Nat→Nat→Nat→Bool} (hs:dS s t.L body=body) (ht:Dp t pn s body=true) (hl:pn.length=3) (h:Px n s x.toNat y.toNat z.toNat c=true) :
  ∃ u v w:UInt64,eE G 30 30 t.sc t.W pn body [.float x,.float y,.float z]=some (yK (u,v,w))∧c u.toNat v.toNat w.toNat=true:=by
 obtain ⟨r,h1,h2⟩:=NQ K hG hs ht (ds:=[.float x,.float y,.float z]) hl.symm h (.cons (.flo x) (.cons (.flo y) (.cons (.flo z) .nil)))
 obtain ⟨u,v,w,rfl,h3⟩:=Vl h2
 exact ⟨u,v,w,h1,h3⟩
noncomputable def GD (x:Nat) (k:Nat→Bool):Bool:=cond (cR x) (aq (uv x) fun m=>cond (lM x) (cond (Nat.beq m 0) (k 0) false) (k m)) false
theorem Wx {x:UInt64} {k:Nat→Bool} (h:GD x.toNat k=true):cR x.toNat=true∧∃ i:Nat,eG x=i∧k i=true:=by
 unfold GD at h
 simp only [ao] at h
 rw [Wn]
 unfold Ce
 cases h1:cR x.toNat with
 | false=>rw [h1,cond_false] at h; cases h
 | true =>
  rw [h1,cond_true] at h
  refine ⟨rfl,?_⟩
  rw [cond_true]
  generalize uv x.toNat=m at h ⊢
  cases h2:lM x.toNat with
  | false=>rw [h2,cond_false] at h; exact ⟨m,rfl,h⟩
  | true =>
   rw [h2,cond_true,iW,bJ] at h
   by_cases q:m=0
   ·rw [if_pos q] at h; subst q; exact ⟨0,rfl,h⟩
   ·rw [if_neg q] at h; cases h
noncomputable def jZ (n:Nat) (f:Nat→Bool):Bool:=@Nat.rec (fun _=>Bool) true (fun m ih=>and (f m) ih) n
theorem cH {f:Nat→Bool}:∀ {n:Nat},jZ n f=true→∀ i,i < n→f i=true:=by
 intro n
 induction n with
 | zero =>
   intro _ i hi
   exact absurd hi (Nat.not_lt_zero i)
 | succ n ih =>
   intro h i hi
   have h:(f n&&jZ n f)=true:=h
   obtain ⟨h1,h2⟩:=bj h
   by_cases q:i=n
   ·rw [q]; exact h1
   ·exact ih h2 i (by omega)
noncomputable def mxN (a b:Nat):Nat:=cond (Nat.ble a b) b a
noncomputable def Td (a b:Nat):Nat:=cond (Nat.ble a b) a b
noncomputable def sw4 (a b c d:Nat) (k:Nat→Nat→Nat→Nat→Bool):Bool :=
 aq (Nat.sub (Nat.add 8 (mxN b c)) d) fun d'=>aq (Nat.sub (Nat.add d' a) c) fun c'=>aq (Nat.sub (Nat.add d' a) b) fun b'=>aq (Nat.sub (Td b' c') a) fun a'=>k a' b' c' d'
noncomputable def sw6 (a b c d e f:Nat) (k:Nat→Nat→Nat→Nat→Nat→Nat→Bool):Bool :=
 aq (Nat.sub (Nat.add 8 (mxN c e)) f) fun f'=>aq (Nat.sub (Nat.add f' (mxN b d)) e) fun e'=>aq (Nat.sub (Nat.add f' b) c) fun c'=>aq (Nat.sub (Nat.add e' a) d) fun d' =>
 aq (Nat.sub (Nat.add (Td c' e') a) b) fun b'=>aq (Nat.sub (Td b' d') a) fun a'=>k a' b' c' d' e' f'
noncomputable def rec4 (a b c d:Nat):Bool :=
 sw4 a b c d fun a1 b1 c1 d1=>and (Nat.beq (Nat.add a1 d) 8) (sw4 a1 b1 c1 d1 fun a2 b2 c2 d2=>and (and (Nat.beq (Nat.add b2 c) 8) (Nat.beq (Nat.add c2 b) 8)) (sw4 a2 b2 c2 d2 fun a3 b3 c3 d3=>Nat.beq (Nat.add d3 a) 8))
noncomputable def rec6 (a b c d e f:Nat):Bool :=
 sw6 a b c d e f fun a1 b1 c1 d1 e1 f1=>and (Nat.beq (Nat.add a1 f) 8) (sw6 a1 b1 c1 d1 e1 f1 fun a2 b2 c2 d2 e2 f2=>and (and (Nat.beq (Nat.add b2 e) 8) (Nat.beq (Nat.add d2 c) 8))
  (sw6 a2 b2 c2 d2 e2 f2 fun a3 b3 c3 d3 e3 f3=>and (and (Nat.beq (Nat.add c3 d) 8) (Nat.beq (Nat.add e3 b) 8)) (sw6 a3 b3 c3 d3 e3 f3 fun a4 b4 c4 d4 e4 f4=>Nat.beq (Nat.add f4 a) 8)))
theorem chk4:(jZ 9 fun d=>jZ (Nat.succ d) fun b=>jZ (Nat.succ d) fun c=>jZ (Nat.succ (Td b c)) fun a=>rec4 a b c d)=true:=by decide +kernel
theorem chk6:(jZ 9 fun f=>jZ (Nat.succ f) fun e=>jZ (Nat.succ f) fun c=>jZ (Nat.succ (Td c e)) fun b=>jZ (Nat.succ e) fun d=>jZ (Nat.succ (Td b d)) fun a=>rec6 a b c d e f)=true:=by decide +kernel
noncomputable def B05:Nat:=4602678819172646912
noncomputable def B15:Nat:=4609434218613702656
noncomputable def M8:Nat:=4710347945566797824
noncomputable def DW (x e:Nat):Bool:=aq (Wb M8 x) fun x=>GD x fun t=>Nat.beq t (Nat.mul 1000000 e)
noncomputable def Q9 (e f g x y z:Nat):Bool:=and (DW x e) (and (DW y f) (DW z g))
noncomputable def hsvN (x y z e f g:Nat):Bool:=Px 12 fP8 x y z fun hue share value=>and (leN 0 hue) (and (ltN hue F1) (aq (zc hue B05) fun h=>jZ 3 fun k=>aq (roundN k 1) fun kf=>cond (cR kf) (aq (zc h kf) fun h=>Px 8 fP9 h share value (Q9 e f g)) false))
noncomputable def hlsN (x y z e f g:Nat):Bool:=Px 13 fP5 x y z fun hue light share=>and (leN 0 hue) (and (ltN hue F1) (aq (zc hue B15) fun h=>jZ 4 fun k=>aq (roundN k 1) fun kf=>cond (cR kf) (aq (Bd h kf) fun h=>Px 5 fP6 h light share (Q9 e f g)) false))
noncomputable def Qo (s a b c:Nat):Bool:=aq (roundN a 8) fun x=>aq (roundN b 8) fun y=>aq (roundN c 8) fun z=>and (and (cR x) (and (cR y) (cR z))) (and (hsvN x y z (Nat.sub s a) (Nat.sub s b) (Nat.sub s c)) (hlsN x y z (Nat.sub s a) (Nat.sub s b) (Nat.sub s c)))
noncomputable def mx3 (a b c:Nat):Nat:=aq (cond (Nat.ble a b) b a) fun m=>cond (Nat.ble m c) c m
noncomputable def mn3 (a b c:Nat):Nat:=aq (cond (Nat.ble a b) a b) fun m=>cond (Nat.ble m c) m c
noncomputable def pH (a:Nat):Bool:=jZ 9 fun b=>jZ 9 fun c=>aq (Nat.add (mx3 a b c) (mn3 a b c)) fun s=>Qo s a b c
theorem ZR:(Float64.ofInt (8*1000000)).toNat=M8:=by decide +kernel
noncomputable abbrev c05:UInt64:=4602678819172646912
noncomputable abbrev c15:UInt64:=4609434218613702656
theorem JG:c05.toNat=B05:=by decide +kernel
theorem Wv:c15.toNat=B15:=by decide +kernel
structure Eigh (x:UInt64) (e:Nat):Prop where
 fin:Float64.isFinite (Float64.mul (Float64.ofInt (8*1000000)) x)=true
 r:eG (Float64.mul (Float64.ofInt (8*1000000)) x)=((1000000*e:Nat):Int)
theorem Dg {x:UInt64} {e:Nat} (h:DW x.toNat e=true):Eigh x e:=by
 unfold DW at h
 rw [ao,← ZR,← Xj] at h
 obtain ⟨g0,i0,e0,h⟩:=Wx h
 exact ⟨fin_isFinite.trans g0,e0.trans (congrArg _ (Nat.eq_of_beq_eq_true h))⟩
inductive Paint (o:Option D) (e f g:Nat):Prop where
 | mk (p q s:UInt64) (h:o=some (yK (p,q,s))) (hp:Eigh p e) (hq:Eigh q f) (hs:Eigh s g):Paint o e f g
theorem El {o:Option D} {e f g:Nat} (h:∃ p q s:UInt64,o=some (yK (p,q,s))∧Q9 e f g p.toNat q.toNat s.toNat=true):Paint o e f g:=by
 obtain ⟨p,q,s,h,w⟩:=h
 obtain ⟨w1,w⟩:=aK w
 obtain ⟨w2,w3⟩:=aK w
 exact ⟨p,q,s,h,Dg w1,Dg w2,Dg w3⟩
inductive Hsv (G:Ctx) (x y z:UInt64) (e f g:Nat):Prop where
 | mk (hue share value:UInt64) (h:Uq G [.float x,.float y,.float z]=some (yK (hue,share,value))) (h0:fle 0 hue=true) (h1:flt hue f1=true)
  (p:∀ k:Nat,k < 3→Float64.isInf (Float64.ofInt k)=false∧Paint (wJ G [.float (Float64.add (Float64.add hue c05) (Float64.ofInt k)),.float share,.float value]) e f g):Hsv G x y z e f g
inductive Hls (G:Ctx) (x y z:UInt64) (e f g:Nat):Prop where
 | mk (hue light share:UInt64) (h:TF G [.float x,.float y,.float z]=some (yK (hue,light,share))) (h0:fle 0 hue=true) (h1:flt hue f1=true)
  (p:∀ k:Nat,k < 4→Float64.isInf (Float64.ofInt k)=false∧Paint (o5 G [.float (Float64.sub (Float64.add hue c15) (Float64.ofInt k)),.float light,.float share]) e f g):Hls G x y z e f g
theorem ZQ {G:Ctx} (K:KGok H1 G) (hG:gU G) {x y z:UInt64} {e f g:Nat} (h:hsvN x.toNat y.toNat z.toNat e f g=true):Hsv G x y z e f g:=by
 obtain ⟨u,v,w,h1,h⟩:=wI (t:=fT8) K hG fE8 fO8 rfl h
 obtain ⟨h2,h⟩:=aK h
 obtain ⟨h3,h⟩:=aK h
 rw [ao,← JG,← vM] at h
 refine ⟨u,v,w,h1,le_N.trans (by rw [PP]; exact h2),lt_N.trans (by rw [RX]; exact h3),fun k hk=>?_⟩
 have h:=cH h k hk
 rw [ao] at h
 obtain ⟨h4,h⟩:=jC h
 rw [ao,← mY,← vM] at h
 exact ⟨vN (by rw [mY]; exact h4),El (wI (t:=fT9) K hG fE9 fO9 rfl h)⟩
theorem hls_ok {G:Ctx} (K:KGok H1 G) (hG:gU G) {x y z:UInt64} {e f g:Nat} (h:hlsN x.toNat y.toNat z.toNat e f g=true):Hls G x y z e f g:=by
 obtain ⟨u,v,w,h1,h⟩:=wI (t:=fT5) K hG fE5 fO5 rfl h
 obtain ⟨h2,h⟩:=aK h
 obtain ⟨h3,h⟩:=aK h
 rw [ao,← Wv,← vM] at h
 refine ⟨u,v,w,h1,le_N.trans (by rw [PP]; exact h2),lt_N.trans (by rw [RX]; exact h3),fun k hk=>?_⟩
 have h:=cH h k hk
 rw [ao] at h
 obtain ⟨h4,h⟩:=jC h
 rw [ao,← mY,← z9] at h
 exact ⟨vN (by rw [mY]; exact h4),El (wI (t:=fT6) K hG fE6 fO6 rfl h)⟩
structure Turned (G:Ctx) (s a b c:Nat):Prop where
 x:Float64.isInf (gj a 8)=false
 y:Float64.isInf (gj b 8)=false
 z:Float64.isInf (gj c 8)=false
 hsv:Hsv G (gj a 8) (gj b 8) (gj c 8) (s-a) (s-b) (s-c)
 hls:Hls G (gj a 8) (gj b 8) (gj c 8) (s-a) (s-b) (s-c)
theorem NK {G:Ctx} (K:KGok H1 G) (hG:gU G) {s a b c:Nat} (h:Qo s a b c=true):Turned G s a b c:=by
 unfold Qo at h
 rw [ao,ao,ao,← Cv (b:=8) (by decide),← Cv (b:=8) (by decide),← Cv (b:=8) (by decide)] at h
 obtain ⟨h1,h⟩:=aK h
 obtain ⟨h2,h1⟩:=aK h1
 obtain ⟨h3,h4⟩:=aK h1
 obtain ⟨h5,h6⟩:=aK h
 exact ⟨vN h2,vN h3,vN h4,ZQ K hG h5,hls_ok K hG h6⟩
theorem turn0:pH 0=true:=by decide +kernel
theorem turn1:pH 1=true:=by decide +kernel
theorem turn2:pH 2=true:=by decide +kernel
theorem turn3:pH 3=true:=by decide +kernel
theorem turn4:pH 4=true:=by decide +kernel
theorem turn5:pH 5=true:=by decide +kernel
theorem turn6:pH 6=true:=by decide +kernel
theorem turn7:pH 7=true:=by decide +kernel
theorem turn8:pH 8=true:=by decide +kernel
theorem mx3_eq {a b c:Nat}:mx3 a b c=max (max a b) c:=by
 unfold mx3
 rw [ao,cZ,cZ,bJ,bJ]
 omega
theorem mn3_eq {a b c:Nat}:mn3 a b c=min (min a b) c:=by
 unfold mn3
 rw [ao,cZ,cZ,bJ,bJ]
 omega
theorem RP {G:Ctx} (K:KGok H1 G) (hG:gU G) {s a b c:Nat} (ha:a < 9) (hb:b < 9) (hc:c < 9) (hs:s=max (max a b) c+min (min a b) c):Turned G s a b c:=by
 have h:pH a=true:=by
  rcases (by omega:a=0∨a=1∨a=2∨a=3∨a=4∨a=5∨a=6∨a=7∨a=8) with rfl | rfl | rfl | rfl | rfl | rfl | rfl | rfl | rfl
  ·exact turn0
  ·exact turn1
  ·exact turn2
  ·exact turn3
  ·exact turn4
  ·exact turn5
  ·exact turn6
  ·exact turn7
  ·exact turn8
 have h:=cH (cH h b hb) c hc
 rw [ao,mx3_eq,mn3_eq] at h
 exact NK K hG (by rw [hs]; exact h)
structure EighI (x:UInt64) (e:Int):Prop where
 fin:Float64.isFinite (Float64.mul (Float64.ofInt (8*1000000)) x)=true
 r:eG (Float64.mul (Float64.ofInt (8*1000000)) x)=1000000*e
theorem nf8:Float64.isInf (Float64.ofInt (8*1000000))=false:=by decide +kernel
structure Perm3 (a b c:Int):Prop where
 h:(a=0∧b=1∧c=2)∨(a=0∧b=2∧c=1)∨(a=1∧b=0∧c=2)∨(a=1∧b=2∧c=0)∨(a=2∧b=0∧c=1)∨(a=2∧b=1∧c=0)
theorem Perm3.bd {a b c:Int} (P:Perm3 a b c):0≤a∧a < 3∧0≤b∧b < 3∧0≤c∧c < 3:=by
 rcases P.h with ⟨rfl,rfl,rfl⟩ | ⟨rfl,rfl,rfl⟩ | ⟨rfl,rfl,rfl⟩ | ⟨rfl,rfl,rfl⟩ | ⟨rfl,rfl,rfl⟩ | ⟨rfl,rfl,rfl⟩ <;> decide
theorem md0 {w k:Int} (h:0 < k):0≤w % k:=Int.emod_nonneg w (Int.ne_of_gt h)
theorem mdN {w:Int} {k:Nat} (h:0 < (k:Int)):(w % (k:Int)).toNat < k:=(Int.toNat_lt (md0 h)).mpr (Int.emod_lt_of_pos w h)
theorem Xk:eF 0 3=[0,1,2].map D.int:=by kernel_rfl!
section
variable {G:Ctx} {k0 k1 k3 k5 k6 k8:Option D} {hue p q s:UInt64}
theorem chan {a b c r:Int} {T:Int→Int} (P:Perm3 a b c) (hr:r=0∨r=1∨r=2) {Q:List D→Prop} (h:Q [.int (T r)]) :
  nJ (fun d' Q=>∃ r,jW (D.list [D.int (1000000*T a),D.int (1000000*T b),D.int (1000000*T c)]) d'=some r∧uF Operator.FloorDiv r (D.int 1000000) Q)
   (fun d' Q=>∃ u,jW (D.list [D.int a,D.int b,D.int c]) d'=some u∧v7 CmpOp.Eq u (.int r) fun d=>pG d (Q (D.bool true)) (Q (D.bool false))) ([0,1,2].map D.int) Q:=by
 refine gC (g:=fun i => .int (T ([a,b,c].getD i.toNat 0))) (p:=fun i=>decide ([a,b,c].getD i.toNat 0=r)) (fun i hi X hX=>?_) (fun i hi _ X hX=>?_) ?_
 ·have hi:i=0∨i=1∨i=2:=by simpa using hi
  refine ⟨.int ([a,b,c].getD i.toNat 0),(fW (by omega) (by omega)).trans (getInt (l:=[a,b,c]) (by show i.toNat < 3; omega)),?_⟩
  show cond _ _ _
  generalize decide ([a,b,c].getD i.toNat 0=r)=u at hX ⊢
  cases u <;> exact hX
 ·have hi:i=0∨i=1∨i=2:=by simpa using hi
  refine ⟨.int (1000000*T ([a,b,c].getD i.toNat 0)),(fW (by omega) (by omega)).trans ?_,⟨by decide,by decide⟩,?_⟩
  ·rcases hi with rfl | rfl | rfl <;> rfl
  ·rw [Int.mul_ediv_cancel_left _ (by decide)]; exact hX
 ·have e:([0,1,2].filter fun i:Int=>decide ([a,b,c].getD i.toNat 0=r)).map (fun i=>D.int (T ([a,b,c].getD i.toNat 0)))=[.int (T r)]:=by
   rcases P.h with ⟨rfl,rfl,rfl⟩ | ⟨rfl,rfl,rfl⟩ | ⟨rfl,rfl,rfl⟩ | ⟨rfl,rfl,rfl⟩ | ⟨rfl,rfl,rfl⟩ | ⟨rfl,rfl,rfl⟩ <;> rcases hr with rfl | rfl | rfl <;> rfl
  rw [e]; exact h
theorem xN {a b c t0 t1 t2:Int} {T:Int→Int} (h0:fle 0 hue=true) (h1:flt hue f1=true) (P:Perm3 a b c) (hT:T 0=t0∧T 1=t1∧T 2=t2) (e1:EighI p (T a)) (e2:EighI q (T b)) (e3:EighI s (T c)) :
  wS G Hv [k0,k1,some (.list [.int a,.int b,.int c]),k3,some (.float hue),k5,k6,some (yK (p,q,s)),k8,none] (fun _=>False) (fun _=>False) fun r=>r=.list [.int t0,.int t1,.int t2]:=by
 dsimp only [Hv,yK,nJ,wS,wX,wL,wA,wO,bH,bF,bC,fP,fX,fC,fQ,fK,b7,cu,cG,bQ,bZ,bR,cD,cF,cg,cz,bY,bT,bU,cA,fJ,f9,gf,fH,fB,fM,fV,fG,gb,fZ,fY,fD,fc,fj,gh,fL,fU,aX,aN,aA,aC,aZ,aB,aY,aP,aV,aU,aR,eN,eQ,eV,d9,aW,aM,bh,bG,bI,cond_true,cond_false]
 rw [e1.r,e2.r,e3.r]
 refine ⟨show 3≤16000000 by decide,by decide,nf8,e1.fin,by decide,nf8,e2.fin,by decide,nf8,e3.fin,?_⟩
 dsimp only [Oe,wS,wX,wL,wA,wO,bH,bF,bC,fP,fX,fC,fQ,fK,b7,cu,cG,bQ,bZ,bR,cD,cF,cg,cz,bY,bT,bU,cA,fJ,f9,gf,fH,fB,fM,fV,fG,gb,fZ,fY,fD,fc,fj,gh,fL,fU,aX,aN,aA,aC,aZ,aB,aY,aP,aV,aU,aR,eN,eQ,eV,d9,aW,aM,bh,bG,bI,cond_true,cond_false]
 rw [h0,cond_true,h1]
 refine ⟨show 3≤16000000 by decide,?_⟩
 rw [show [D.int (1000000*T a),D.int (1000000*T b),D.int (1000000*T c)]=[T a,T b,T c].map (fun x=>D.int (1000000*x)) from rfl]
 refine gC (g:=fun x=>D.int (1000000*x)) (p:=fun _=>false) (fun x _ X hX=>⟨by decide,?_⟩) (fun _ _ h=>nomatch h) ?_
 ·rw [Int.mul_emod_right]; exact hX
 rw [show ([T a,T b,T c].filter fun _=>false)=[] from rfl]
 refine ⟨_,Du (l:=[]) (m:=[]),?_⟩
 dsimp only [Rk,wS,wX,wL,wA,wO,bH,bF,bC,fP,fX,fC,fQ,fK,b7,cu,cG,bQ,bZ,bR,cD,cF,cg,cz,bY,bT,bU,cA,fJ,f9,gf,fH,fB,fM,fV,fG,gb,fZ,fY,fD,fc,fj,gh,fL,fU,aX,aN,aA,aC,aZ,aB,aY,aP,aV,aU,aR,eN,eQ,eV,d9,aW,aM,bh,bG,bI,cond_true,cond_false]
 refine non rfl ⟨by decide,by rw [Xk]; show 3≤16000000; decide,?_⟩
 rw [Xk]
 refine ⟨by decide,chan P (.inl rfl) ⟨by decide,chan P (.inr (.inl rfl)) ⟨by decide,chan P (.inr (.inr rfl)) ⟨show 3≤16000000 by decide,?_⟩⟩⟩⟩
 rw [hT.1,hT.2.1,hT.2.2]; rfl
end
theorem EighI.of {x:UInt64} {e:Nat} {i:Int} (h:Eigh x e) (hi:i=(e:Int)):EighI x i:=⟨h.fin,by rw [h.r,hi]; exact Int.natCast_mul _ _⟩
noncomputable def eH (l v g:Int) (i:Int):Int:=if i=0 then l else if i=1 then v else g
theorem Oj {k:Int} (h0:0≤k) (h6:k < 6):∃ a b c,Perm3 a b c∧[D.list [.int 0,.int 1,.int 2],.list [.int 0,.int 2,.int 1],.list [.int 1,.int 0,.int 2],.list [.int 1,.int 2,.int 0],.list [.int 2,.int 0,.int 1],.list [.int 2,.int 1,.int 0]][k.toNat]? = some (.list [.int a,.int b,.int c]):=by
 rcases (by omega:k=0∨k=1∨k=2∨k=3∨k=4∨k=5) with rfl | rfl | rfl | rfl | rfl | rfl
 ·exact ⟨_,_,_,⟨.inl ⟨rfl,rfl,rfl⟩⟩,rfl⟩
 ·exact ⟨_,_,_,⟨.inr (.inl ⟨rfl,rfl,rfl⟩)⟩,rfl⟩
 ·exact ⟨_,_,_,⟨.inr (.inr (.inl ⟨rfl,rfl,rfl⟩))⟩,rfl⟩
 ·exact ⟨_,_,_,⟨.inr (.inr (.inr (.inl ⟨rfl,rfl,rfl⟩)))⟩,rfl⟩
 ·exact ⟨_,_,_,⟨.inr (.inr (.inr (.inr (.inl ⟨rfl,rfl,rfl⟩))))⟩,rfl⟩
 ·exact ⟨_,_,_,⟨.inr (.inr (.inr (.inr (.inr ⟨rfl,rfl,rfl⟩))))⟩,rfl⟩
theorem Ht {a b c:D} {k:Int} {d:D} (h:[a,b,c][k.toNat]? = some d) (h0:0≤k) (h1:k < 3):jW (.list [a,b,c]) (.int k)=some d:=(fW h0 (Int.lt_trans h1 (by decide))).trans h
theorem yc {l v g k:Int} (h0:0≤k) (h1:k < 3):jW (.list [.int l,.int v,.int g]) (.int k)=some (.int (eH l v g k)):=Ht (by
 rcases (by omega:k=0∨k=1∨k=2) with rfl | rfl | rfl <;> rfl) h0 h1
structure Rol (l v g a b c:Int) (A B C:Nat):Prop where
 pa:eH l v g a=A
 pb:eH l v g b=B
 pc:eH l v g c=C
 la:A < 9
 lb:B < 9
 lc:C < 9
 ta:eH g (l+g-v) l a=((max (max A B) C+min (min A B) C-A:Nat):Int)
 tb:eH g (l+g-v) l b=((max (max A B) C+min (min A B) C-B:Nat):Int)
 tc:eH g (l+g-v) l c=((max (max A B) C+min (min A B) C-C:Nat):Int)
theorem mm1 {L V G:Nat} (h1:L≤V) (h2:V≤G):max (max L V) G=G∧min (min L V) G=L:=by omega
theorem mm2 {L V G:Nat} (h1:L≤V) (h2:V≤G):max (max L G) V=G∧min (min L G) V=L:=by omega
theorem mm3 {L V G:Nat} (h1:L≤V) (h2:V≤G):max (max V G) L=G∧min (min V G) L=L:=by omega
theorem mmc {a b c:Nat}:max (max a b) c=max (max b a) c∧min (min a b) c=min (min b a) c:=⟨congrArg (max · c) (Nat.max_comm a b),congrArg (min · c) (Nat.min_comm a b)⟩
theorem tr1 {L V G:Nat} (h1:L≤V) (h2:V≤G):(G:Int)=((G+L-L:Nat):Int)∧(L:Int)+G-V=((G+L-V:Nat):Int)∧(L:Int)=((G+L-G:Nat):Int):=by omega
theorem rol_of {l v g a b c:Int} (h0:0≤l) (h1:l≤v) (h2:v≤g) (h3:g≤8) (P:Perm3 a b c):∃ A B C,Rol l v g a b c A B C:=by
 obtain ⟨L,rfl⟩:=Int.eq_ofNat_of_zero_le h0
 obtain ⟨V,rfl⟩:=Int.eq_ofNat_of_zero_le (Int.le_trans h0 h1)
 obtain ⟨G,rfl⟩:=Int.eq_ofNat_of_zero_le (Int.le_trans (Int.le_trans h0 h1) h2)
 have key:∀ X Y Z:Nat,max (max X Y) Z=G→min (min X Y) Z=L→∀ {a b c:Int},eH L V G a=X→eH L V G b=Y→eH L V G c=Z→eH G (L+G-V) L a=((G+L-X:Nat):Int)→eH G (L+G-V) L b=((G+L-Y:Nat):Int)→eH G (L+G-V) L c=((G+L-Z:Nat):Int)→X < 9→Y < 9→Z < 9→∃ A B C,Rol L V G a b c A B C :=
  fun X Y Z e1 e2 {a b c} q1 q2 q3 t1 t2 t3 l1 l2 l3=>⟨X,Y,Z,q1,q2,q3,l1,l2,l3,by rw [e1,e2]; exact t1,by rw [e1,e2]; exact t2,by rw [e1,e2]; exact t3⟩
 have hG:G < 9:=Int.ofNat_lt.mp (Int.lt_of_le_of_lt h3 (by decide))
 have hV:V < 9:=Nat.lt_of_le_of_lt (Int.ofNat_le.mp h2) hG
 have hL:L < 9:=Nat.lt_of_le_of_lt (Int.ofNat_le.mp h1) hV
 have m:L≤V∧V≤G:=⟨Int.ofNat_le.mp h1,Int.ofNat_le.mp h2⟩
 obtain ⟨tL,tV,tG⟩:=tr1 m.1 m.2
 have q1:=mm1 m.1 m.2
 have q2:=mm2 m.1 m.2
 have q3:=mm3 m.1 m.2
 rcases P.h with ⟨rfl,rfl,rfl⟩ | ⟨rfl,rfl,rfl⟩ | ⟨rfl,rfl,rfl⟩ | ⟨rfl,rfl,rfl⟩ | ⟨rfl,rfl,rfl⟩ | ⟨rfl,rfl,rfl⟩
 ·exact key L V G (q1.1) (q1.2) rfl rfl rfl tL tV tG hL hV hG
 ·exact key L G V (q2.1) (q2.2) rfl rfl rfl tL tG tV hL hG hV
 ·exact key V L G ((mmc.1.trans q1.1)) ((mmc.2.trans q1.2)) rfl rfl rfl tV tL tG hV hL hG
 ·exact key V G L (q3.1) (q3.2) rfl rfl rfl tV tG tL hV hG hL
 ·exact key G L V ((mmc.1.trans q2.1)) ((mmc.2.trans q2.2)) rfl rfl rfl tG tL tV hG hL hV
 ·exact key G V L ((mmc.1.trans q3.1)) ((mmc.2.trans q3.2)) rfl rfl rfl tG tV tL hG hV hL
theorem Ka (G:Ctx) (hG:gU G) {G1:Ctx} (K:KGok H1 G1) (hG1:gU G1) (h1:G.fns.lookup ("hsv_to_rgb":Str)=some (wJ G1)) (h2:G.fns.lookup ("rgb_to_hsv":Str)=some (Uq G1)) (h3:G.fns.lookup ("hls_to_rgb":Str)=some (o5 G1)) (h4:G.fns.lookup ("rgb_to_hls":Str)=some (TF G1))
  {l v g w:Int} (l0:0≤l) (lv:l≤v) (vg:v≤g) (g8:g≤8):eE G 30 30 (gB 20).names [] ["three","way"] (dF 20) [.list [.int l,.int v,.int g],.int w]=some (.list [.int g,.int (l+g-v),.int l]):=by
 refine DG (t:=fT20) hG 10 fE20 fO20 rfl ?_
 obtain ⟨a,b,c,P,hr⟩:=Oj (k:=w % 6) (md0 (by decide)) (Int.emod_lt_of_pos w (by decide))
 obtain ⟨A,B,C,R⟩:=rol_of l0 lv vg g8 P
 have Z:=RP K hG1 R.la R.lb R.lc rfl
 have hp:=P.bd
 dsimp only [I4,QX,nJ,wS,wX,wL,wA,wO,bH,bF,bC,fP,fX,fC,fQ,fK,b7,cu,cG,bQ,bZ,bR,cD,cF,cg,cz,bY,bT,bU,cA,fJ,f9,gf,fH,fB,fM,fV,fG,gb,fZ,fY,fD,fc,fj,gh,fL,fU,aX,aN,aA,aC,aZ,aB,aY,aP,aV,aU,aR,eN,eQ,eV,d9,aW,aM,bh,bG,bI,cond_true,cond_false]
 refine ⟨by decide,_,(fW (md0 (by decide)) (Int.lt_trans (Int.emod_lt_of_pos w (by decide)) (by decide))).trans hr,?_⟩
 dsimp only [nJ,wS,wX,wL,wA,wO,bH,bF,bC,fP,fX,fC,fQ,fK,b7,cu,cG,bQ,bZ,bR,cD,cF,cg,cz,bY,bT,bU,cA,fJ,f9,gf,fH,fB,fM,fV,fG,gb,fZ,fY,fD,fc,fj,gh,fL,fU,aX,aN,aA,aC,aZ,aB,aY,aP,aV,aU,aR,eN,eQ,eV,d9,aW,aM,bh,bG,bI,cond_true,cond_false]
 refine ⟨show 3≤16000000 by decide,.int A,(yc hp.1 hp.2.1).trans (by rw [R.pa]),⟨by decide,Z.x⟩,.int B,(yc hp.2.2.1 hp.2.2.2.1).trans (by rw [R.pb]),⟨by decide,Z.y⟩,.int C,(yc hp.2.2.2.2.1 hp.2.2.2.2.2).trans (by rw [R.pc]),⟨by decide,Z.z⟩,?_⟩
 dsimp only [Nk,wS,wX,wL,wA,wO,bH,bF,bC,fP,fX,fC,fQ,fK,b7,cu,cG,bQ,bZ,bR,cD,cF,cg,cz,bY,bT,bU,cA,fJ,f9,gf,fH,fB,fM,fV,fG,gb,fZ,fY,fD,fc,fj,gh,fL,fU,aX,aN,aA,aC,aZ,aB,aY,aP,aV,aU,aR,eN,eQ,eV,d9,aW,aM,bh,bG,bI,cond_true,cond_false]
 refine ⟨⟨by decide,by decide⟩,by decide,?_⟩
 have ht:eH g (l+g-v) l 0=g∧eH g (l+g-v) l 1=l+g-v∧eH g (l+g-v) l 2=l:=⟨rfl,rfl,rfl⟩
 by_cases hc:w / 6 % 2=0
 ·obtain ⟨hue,share,value,e1,z0,z1,p⟩:=Z.hsv
  obtain ⟨i1,p,q,s,e2,y1,y2,y3⟩:=p (w / 12 % 3).toNat (mdN (k:=3) (by decide))
  rw [Int.toNat_of_nonneg (md0 (by decide))] at i1 e2
  exact yes hc ⟨_,Ht rfl (by decide) (by decide),_,Ht rfl (by decide) (by decide),_,Ht rfl (by decide) (by decide),_,kZ h2 e1,⟨by decide,by decide⟩,by decide,i1,_,kZ h1 e2,xN z0 z1 P ht (.of y1 R.ta) (.of y2 R.tb) (.of y3 R.tc)⟩
 ·obtain ⟨hue,light,share,e1,z0,z1,p⟩:=Z.hls
  obtain ⟨i1,p,q,s,e2,y1,y2,y3⟩:=p (w / 12 % 4).toNat (mdN (k:=4) (by decide))
  rw [Int.toNat_of_nonneg (md0 (by decide))] at i1 e2
  exact no hc ⟨_,Ht rfl (by decide) (by decide),_,Ht rfl (by decide) (by decide),_,Ht rfl (by decide) (by decide),_,kZ h4 e1,⟨by decide,by decide⟩,by decide,i1,_,kZ h3 e2,xN z0 z1 P ht (.of y1 R.ta) (.of y2 R.tb) (.of y3 R.tc)⟩
noncomputable abbrev Rl:=Nat→Nat→Bool
noncomputable def ph (n:Nat) (R:Rl) (l:Nat):List Nat:=(List.range n).filter fun b=>R b l
noncomputable def o8 (n:Nat) (R:Rl) (l:Nat):List Nat:=(List.range n).filter fun d=>R l d
noncomputable def Do (n:Nat) (R:Rl) (v:Nat→Int) (l:Nat):Int:=ju (0 :: (ph n R l).map v)
noncomputable def Dm (n:Nat) (R:Rl) (v:Nat→Int) (l:Nat):Int:=je (8 :: (o8 n R l).map v)
noncomputable def stp (n:Nat) (R:Rl) (v:Nat→Int) (l:Nat):Nat→Int:=fun i=>if i=l then Dm n R v l+Do n R v l-v l else v i
section
variable {n:Nat} {R:Rl} {v v0 h:Nat→Int} {l:Nat}
theorem mem_bel {b:Nat}:b∈ph n R l↔b < n∧R b l=true:=by unfold ph; rw [List.mem_filter,List.mem_range]
theorem mem_abo {b:Nat}:b∈o8 n R l↔b < n∧R l b=true:=by unfold o8; rw [List.mem_filter,List.mem_range]
structure MxIs (n:Nat) (R:Rl) (v:Nat→Int) (l:Nat) (x:Int):Prop where
 lo:0≤x
 ge:∀ b,b < n→R b l=true→v b≤x
 at_:x=0∨∃ b,b < n∧R b l=true∧x=v b
structure MnIs (n:Nat) (R:Rl) (v:Nat→Int) (l:Nat) (x:Int):Prop where
 hi:x≤8
 le:∀ b,b < n→R l b=true→x≤v b
 at_:x=8∨∃ b,b < n∧R l b=true∧x=v b
theorem mx_is:MxIs n R v l (Do n R v l):=by
 refine ⟨wN 0 aH,fun b hb hr=>wN _ (cJ _ (List.mem_map_of_mem (mem_bel.mpr ⟨hb,hr⟩))),?_⟩
 rcases cM (yq (ns:=0 :: (ph n R l).map v) (by exact nofun)) with e | e
 ·exact .inl e
 ·obtain ⟨b,hb,e⟩:=List.mem_map.mp e
  exact .inr ⟨b,(mem_bel.mp hb).1,(mem_bel.mp hb).2,e.symm⟩
theorem mn_is:MnIs n R v l (Dm n R v l):=by
 refine ⟨Ao 8 aH,fun b hb hr=>Ao _ (cJ _ (List.mem_map_of_mem (mem_abo.mpr ⟨hb,hr⟩))),?_⟩
 rcases cM (En (ns:=8 :: (o8 n R l).map v) (by exact nofun)) with e | e
 ·exact .inl e
 ·obtain ⟨b,hb,e⟩:=List.mem_map.mp e
  exact .inr ⟨b,(mem_abo.mp hb).1,(mem_abo.mp hb).2,e.symm⟩
theorem MxIs.le_of {x y:Int} (a:MxIs n R v l x) (h0:0≤y) (h:∀ b,b < n→R b l=true→v b≤y):x≤y:=by
 rcases a.at_ with e | ⟨b,hb,hr,e⟩
 ·rw [e]; exact h0
 ·rw [e]; exact h b hb hr
theorem MnIs.ge_of {x y:Int} (a:MnIs n R v l x) (h0:y≤8) (h:∀ b,b < n→R l b=true→y≤v b):y≤x:=by
 rcases a.at_ with e | ⟨b,hb,hr,e⟩
 ·rw [e]; exact h0
 ·rw [e]; exact h b hb hr
theorem Pa (e:∀ b,b < n→R b l=true→v b=h b):Do n R v l=Do n R h l :=
 Int.le_antisymm (mx_is.le_of mx_is.lo fun b hb hr=>by rw [e b hb hr]; exact mx_is.ge b hb hr) (mx_is.le_of mx_is.lo fun b hb hr=>by rw [← e b hb hr]; exact mx_is.ge b hb hr)
theorem Dy (e:∀ b,b < n→R l b=true→v b=h b):Dm n R v l=Dm n R h l :=
 Int.le_antisymm (mn_is.ge_of mn_is.hi fun b hb hr=>by rw [← e b hb hr]; exact mn_is.le b hb hr) (mn_is.ge_of mn_is.hi fun b hb hr=>by rw [e b hb hr]; exact mn_is.le b hb hr)
structure Mon (n:Nat) (R:Rl) (v:Nat→Int):Prop where
 lo:∀ a,a < n→0≤v a
 hi:∀ a,a < n→v a≤8
 up:∀ a b,a < n→b < n→R a b=true→v a≤v b
structure SwI (n:Nat) (R:Rl) (v0:Nat→Int) (pre:List Nat) (h:Nat→Int):Prop where
 lt:∀ a,a∈pre→a < n
 out:∀ i,i ∉ pre→h i=v0 i
 dn:∀ a,a∈pre→∀ b,b < n→R b a=true→v0 b≤h a
 b0:∀ a,a∈pre→0≤h a∧h a≤8
 eq:∀ a,a∈pre→h a=Dm n R h a+Do n R v0 a-v0 a
 up:∀ a,a∈pre→∀ d,d < n→R a d=true→h a≤h d
theorem SwI.nil:SwI n R v0 [] v0:=⟨fun _ h=>(nomatch h),fun _ _=>rfl,fun _ h=>(nomatch h),fun _ h=>(nomatch h),fun _ h=>(nomatch h),fun _ h=>(nomatch h)⟩
theorem SwI.le (S:SwI n R v0 pre h) (M:Mon n R v0) (hn:l < n) (hl:l ∉ pre) (hA:∀ d,d < n→R l d=true→d∈pre) (hB:∀ b,b < n→R b l=true→b ∉ pre) :
  0≤Do n R h l∧Do n R h l≤h l∧h l≤Dm n R h l∧Dm n R h l≤8∧Do n R h l=Do n R v0 l:=by
 have e:=S.out l hl
 have em:Do n R h l=Do n R v0 l:=Pa fun b hb hr=>S.out b (hB b hb hr)
 refine ⟨mx_is.lo,?_,?_,mn_is.hi,em⟩
 ·rw [em,e]; exact mx_is.le_of (M.lo l hn) fun b hb hr=>M.up b l hb hn hr
 ·rw [e]; exact mn_is.ge_of (M.hi l hn) fun d hd hr=>S.dn d (hA d hd hr) l hn hr
theorem SwI.step (S:SwI n R v0 pre h) (M:Mon n R v0) (hn:l < n) (hl:l ∉ pre) (hA:∀ d,d < n→R l d=true→d∈pre) (hB:∀ b,b < n→R b l=true→b ∉ pre) (hi:R l l=false):SwI n R v0 (pre++[l]) (stp n R h l):=by
 obtain ⟨b1,b2,b3,b4,b5⟩:=S.le M hn hl hA hB
 have sl:stp n R h l l=Dm n R h l+Do n R h l-h l:=if_pos rfl
 have so:∀ i,i≠l→stp n R h l i=h i:=fun i q=>if_neg q
 have el:=S.out l hl
 have mem:∀ a,a∈pre++[l]→a∈pre∧a≠l∨a=l:=fun a ha=>by
  rcases List.mem_append.mp ha with q | q
  ·exact .inl ⟨q,fun t=>hl (t▸q)⟩
  ·exact .inr (List.mem_singleton.mp q)
 have na:∀ a,a∈pre→R a l=true→a < n→False:=fun a ha hr hn'=>hB a hn' hr ha
 have mnl:Dm n R (stp n R h l) l=Dm n R h l:=Dy fun b hb hr=>so b fun t=>by rw [t,hi] at hr; cases hr
 refine ⟨fun a ha=>(mem a ha).elim (fun q=>S.lt a q.1) fun q=>q▸hn,fun i q=>?_,fun a ha b hb hr=>?_,fun a ha=>?_,fun a ha=>?_,fun a ha d hd hr=>?_⟩
 ·rw [so i fun t=>q (by rw [t]; exact List.mem_append_right _ aH)]
  exact S.out i fun t=>q (List.mem_append_left _ t)
 ·rcases mem a ha with ⟨q,t⟩ | rfl
  ·rw [so a t]; exact S.dn a q b hb hr
  ·rw [sl]
   have:=(mx_is (n:=n) (R:=R) (v:=v0) (l:=a)).ge b hb hr
   omega
 ·rcases mem a ha with ⟨q,t⟩ | rfl
  ·rw [so a t]; exact S.b0 a q
  ·rw [sl]; omega
 ·rcases mem a ha with ⟨q,t⟩ | rfl
  ·rw [so a t,S.eq a q]
   have:Dm n R (stp n R h l) a=Dm n R h a:=Dy fun b hb hr=>so b fun t=>by
    subst t
    exact na a q hr (S.lt a q)
   rw [this]
  ·rw [sl,mnl,el,b5]
 ·rcases mem a ha with ⟨q,t⟩ | rfl
  ·by_cases x:d=l
   ·subst x; exact (na a q hr (S.lt a q)).elim
   ·rw [so a t,so d x]; exact S.up a q d hd hr
  ·have x:d≠a:=fun t=>by rw [t,hi] at hr; cases hr
   rw [sl,so d x]
   have:=(mn_is (n:=n) (R:=R) (v:=h) (l:=a)).le d hd hr
   omega
structure Top (n:Nat) (R:Rl) (out:List Nat):Prop where
 all:∀ a,a < n→a∈out
 lt:∀ a,a∈out→a < n
 nd:out.Nodup
 top:out.Pairwise fun x y=>R x y=false
 irr:∀ a,R a a=false
theorem Top.at {pre post:List Nat} (T:Top n R (pre++l :: post)):l < n∧l ∉ pre∧(∀ d,d < n→R l d=true→d∈pre)∧∀ b,b < n→R b l=true→b ∉ pre:=by
 have nd:=List.nodup_append.mp T.nd
 have tp:=List.pairwise_append.mp T.top
 refine ⟨T.lt l (List.mem_append_right _ aH),fun h=>nd.2.2 l h l aH rfl,fun d hd hr=>?_,fun b hb hr h=>?_⟩
 ·rcases List.mem_append.mp (T.all d hd) with q | q
  ·exact q
  ·rcases cM q with q | q
   ·rw [q,T.irr] at hr; cases hr
   ·have:=(List.pairwise_cons.mp tp.2.1).1 d q
    rw [this] at hr; cases hr
 ·have:=tp.2.2 b h l aH
  rw [this] at hr; cases hr
noncomputable def HY (n:Nat) (R:Rl) (v:Nat→Int) (out:List Nat):Nat→Int:=out.foldl (stp n R) v
theorem Nu {pre post:List Nat} (T:Top n R (pre++post)) (M:Mon n R v0):SwI n R v0 pre (HY n R v0 pre):=by
 have go:∀ (q r:List Nat),q++r=pre→SwI n R v0 q (HY n R v0 q)→SwI n R v0 (q++r) (HY n R v0 (q++r)):=by
  intro q r
  induction r generalizing q with
  | nil=>intro _ S; rw [List.append_nil]; exact S
  | cons l r ih =>
   intro e S
   have T':Top n R (q++l :: (r++post)):=by
    have e3:q++l :: (r++post)=pre++post:=by rw [← e]; simp
    rw [e3]; exact T
   obtain ⟨h1,h2,h3,h4⟩:=T'.at
   have S2:=S.step M h1 h2 h3 h4 (T.irr l)
   have e2:stp n R (HY n R v0 q) l=HY n R v0 (q++[l]):=by unfold HY; rw [List.foldl_append]; rfl
   have e1:q++l :: r=(q++[l])++r:=by simp
   rw [e2] at S2
   rw [e1]
   exact ih (q++[l]) (by rw [← e1]; exact e) S2
 have:=go [] pre rfl .nil
 exact this
structure Swept (n:Nat) (R:Rl) (v h:Nat→Int):Prop where
 mon:Mon n R h
 eq:∀ a,a < n→h a=Dm n R h a+Do n R v a-v a
theorem Jw {out:List Nat} (T:Top n R out) (M:Mon n R v0):Swept n R v0 (HY n R v0 out):=by
 have S:=Nu (pre:=out) (post:=[]) (by rw [List.append_nil]; exact T) M
 exact ⟨⟨fun a ha=>(S.b0 a (T.all a ha)).1,fun a ha=>(S.b0 a (T.all a ha)).2,fun a b ha hb hr=>S.up a (T.all a ha) b hb hr⟩,fun a ha=>S.eq a (T.all a ha)⟩
end
noncomputable def uR (w:Nat) (p q:Nat):Bool:=Nat.ble (p / w) (q / w)&&Nat.ble (p % w) (q % w)&&!(Nat.beq p q)
structure Plc (n:Nat) (R S:Rl) (ln pl:Nat→Nat):Prop where
 l:∀ q,q < n→ln q < n
 p:∀ a,a < n→pl a < n
 lp:∀ a,a < n→ln (pl a)=a
 pq:∀ q,q < n→pl (ln q)=q
 r:∀ a b,a < n→b < n→R a b=S (pl a) (pl b)
section
variable {n:Nat} {R S:Rl} {ln pl:Nat→Nat} {v h:Nat→Int}
theorem Plc.mon (P:Plc n R S ln pl) (M:Mon n R v):Mon n S (fun q=>v (ln q)) :=
 ⟨fun q hq=>M.lo _ (P.l q hq),fun q hq=>M.hi _ (P.l q hq),fun p q hp hq hr=>M.up _ _ (P.l p hp) (P.l q hq) (by rw [P.r _ _ (P.l p hp) (P.l q hq),P.pq p hp,P.pq q hq]; exact hr)⟩
theorem Plc.mx (P:Plc n R S ln pl) {q:Nat} (hq:q < n):Do n R v (ln q)=Do n S (fun q=>v (ln q)) q:=by
 refine Int.le_antisymm (mx_is.le_of mx_is.lo fun b hb hr=>?_) (mx_is.le_of mx_is.lo fun p hp hr=>?_)
 ·have:=(mx_is (n:=n) (R:=S) (v:=fun q=>v (ln q)) (l:=q)).ge (pl b) (P.p b hb) (by rw [P.r b _ hb (P.l q hq),P.pq q hq] at hr; exact hr)
  rw [P.lp b hb] at this; exact this
 ·exact mx_is.ge (ln p) (P.l p hp) (by rw [P.r _ _ (P.l p hp) (P.l q hq),P.pq p hp,P.pq q hq]; exact hr)
theorem Plc.mn (P:Plc n R S ln pl) {q:Nat} (hq:q < n):Dm n R v (ln q)=Dm n S (fun q=>v (ln q)) q:=by
 refine Int.le_antisymm (mn_is.ge_of mn_is.hi fun p hp hr=>?_) (mn_is.ge_of mn_is.hi fun b hb hr=>?_)
 ·exact mn_is.le (ln p) (P.l p hp) (by rw [P.r _ _ (P.l q hq) (P.l p hp),P.pq p hp,P.pq q hq]; exact hr)
 ·have:=(mn_is (n:=n) (R:=S) (v:=fun q=>v (ln q)) (l:=q)).le (pl b) (P.p b hb) (by rw [P.r _ b (P.l q hq) hb,P.pq q hq] at hr; exact hr)
  rw [P.lp b hb] at this; exact this
theorem Plc.swept (P:Plc n R S ln pl) (W:Swept n R v h):Swept n S (fun q=>v (ln q)) (fun q=>h (ln q)) :=
 ⟨P.mon W.mon,fun q hq=>by
  have:=W.eq (ln q) (P.l q hq)
  rw [P.mx hq,P.mn hq] at this; exact this⟩
end
theorem yN {a b:Int} {l:List Int}:ju (a :: b :: l)=ju ((if b > a then b else a) :: l):=rfl
theorem oE {a b:Int} {l:List Int}:je (a :: b :: l)=je ((if b < a then b else a) :: l):=rfl
section
variable {a b c:Int} {l:List Int}
theorem qN (h:a≤b):ju (a :: b :: l)=ju (b :: l):=by
 rw [yN]
 by_cases q:b > a
 ·rw [if_pos q]
 ·rw [if_neg q,Int.le_antisymm h (Int.not_lt.mp q)]
theorem mx_m (h:b≤c):ju [a,b,c]=ju [a,c]:=by
 rw [yN]
 by_cases q:b > a
 ·rw [if_pos q,qN h,qN (Int.le_trans (Int.le_of_lt q) h)]
 ·rw [if_neg q]
theorem Fe (h:b≤a):je (a :: b :: l)=je (b :: l):=by
 rw [oE]
 by_cases q:b < a
 ·rw [if_pos q]
 ·rw [if_neg q,Int.le_antisymm (Int.not_lt.mp q) h]
theorem TX (h:a≤b):je (a :: b :: l)=je (a :: l):=by rw [oE,if_neg (Int.not_lt.mpr h)]
theorem U5 (h:a≤c):je (a :: b :: c :: l)=je (a :: b :: l):=by
 rw [oE,oE (b:=b)]
 by_cases q:b < a
 ·rw [if_pos q,TX (Int.le_trans (Int.le_of_lt q) h)]
 ·rw [if_neg q,TX h]
end
theorem Zh {a b:Nat}:ju [(a:Int),b]=((mxN a b:Nat):Int):=by
 unfold mxN
 rw [cZ,bJ,yN]
 show (if (b:Int) > a then (b:Int) else a)=_
 split <;> split <;> omega
theorem mn_N {a b:Nat}:je [(a:Int),b]=((Td a b:Nat):Int):=by
 unfold Td
 rw [cZ,bJ,oE]
 show (if (b:Int) < a then (b:Int) else a)=_
 split <;> split <;> omega
theorem Ep {H m x z:Int} {m' x' z':Nat} (e:H=m+x-z) (lo:0≤H) (hm:m=m') (hx:x=x') (hz:z=z'):H=((Nat.sub (Nat.add m' x') z':Nat):Int):=by
 subst hm hx hz
 show H=((m'+x' - z':Nat):Int)
 omega
theorem st_0 {H m z:Int} {m' z':Nat} (e:H=m+0-z) (lo:0≤H) (hm:m=m') (hz:z=z'):H=((Nat.sub m' z':Nat):Int):=by
 subst hm hz
 show H=((m' - z':Nat):Int)
 omega
structure Fo (F:Nat→Int) (a b c d:Nat):Prop where
 a:F 0=a
 b:F 1=b
 c:F 2=c
 d:F 3=d
structure Si (F:Nat→Int) (a b c d e f:Nat):Prop where
 a:F 0=a
 b:F 1=b
 c:F 2=c
 d:F 3=d
 e:F 4=e
 f:F 5=f
theorem Ih {F H:Nat→Int} {a b c d:Nat} {k:Nat→Nat→Nat→Nat→Bool} (M:Mon 4 (uR 2) F) (W:Swept 4 (uR 2) F H) (V:Fo F a b c d) (h:sw4 a b c d k=true):∃ a' b' c' d',k a' b' c' d'=true∧Fo H a' b' c' d':=by
 unfold sw4 at h
 simp only [ao] at h
 obtain ⟨v0,v1,v2,v3⟩:=V
 have up:∀ p q,p < 4→q < 4→uR 2 p q=true→F p≤F q:=M.up
 have uh:∀ p q,p < 4→q < 4→uR 2 p q=true→H p≤H q:=W.mon.up
 have z0:=M.lo 0 (by decide)
 have lo:=W.mon.lo
 have hi:=W.mon.hi
 have e3:=Ep (m':=8) (W.eq 3 (by decide)) (lo 3 (by decide)) rfl (((qN z0).trans (qN (up 0 1 (by decide) (by decide) rfl))).trans (by show ju [F 1,F 2]=_; rw [v1,v2]; exact Zh)) v3
 have e2:=Ep (W.eq 2 (by decide)) (lo 2 (by decide)) ((Fe (hi 3 (by decide))).trans e3) ((qN z0).trans v0) v2
 have e1:=Ep (W.eq 1 (by decide)) (lo 1 (by decide)) ((Fe (hi 3 (by decide))).trans e3) ((qN z0).trans v0) v1
 have e0:=st_0 (W.eq 0 (by decide)) (lo 0 (by decide)) (((Fe (hi 1 (by decide))).trans (U5 (uh 1 3 (by decide) (by decide) rfl))).trans (by show je [H 1,H 2]=_; rw [e1,e2]; exact mn_N)) v0
 exact ⟨_,_,_,_,h,e0,e1,e2,e3⟩
theorem By {F H:Nat→Int} {a b c d e f:Nat} {k:Nat→Nat→Nat→Nat→Nat→Nat→Bool} (M:Mon 6 (uR 3) F) (W:Swept 6 (uR 3) F H) (V:Si F a b c d e f) (h:sw6 a b c d e f k=true):∃ a' b' c' d' e' f',k a' b' c' d' e' f'=true∧Si H a' b' c' d' e' f':=by
 unfold sw6 at h
 simp only [ao] at h
 obtain ⟨v0,v1,v2,v3,v4,v5⟩:=V
 have up:∀ p q,p < 6→q < 6→uR 3 p q=true→F p≤F q:=M.up
 have uh:∀ p q,p < 6→q < 6→uR 3 p q=true→H p≤H q:=W.mon.up
 have z0:=M.lo 0 (by decide)
 have lo:=W.mon.lo
 have hi:=W.mon.hi
 have e5:=Ep (m':=8) (W.eq 5 (by decide)) (lo 5 (by decide)) rfl (((qN z0).trans ((qN (up 0 1 (by decide) (by decide) rfl)).trans ((qN (up 1 2 (by decide) (by decide) rfl)).trans (mx_m (up 3 4 (by decide) (by decide) rfl))))).trans (by show ju [F 2,F 4]=_; rw [v2,v4]; exact Zh)) v5
 have e4:=Ep (W.eq 4 (by decide)) (lo 4 (by decide)) ((Fe (hi 5 (by decide))).trans e5) (((qN z0).trans (qN (up 0 1 (by decide) (by decide) rfl))).trans (by show ju [F 1,F 3]=_; rw [v1,v3]; exact Zh)) v4
 have e2:=Ep (W.eq 2 (by decide)) (lo 2 (by decide)) ((Fe (hi 5 (by decide))).trans e5) (((qN z0).trans (qN (up 0 1 (by decide) (by decide) rfl))).trans v1) v2
 have e3:=Ep (W.eq 3 (by decide)) (lo 3 (by decide)) (((Fe (hi 4 (by decide))).trans (TX (uh 4 5 (by decide) (by decide) rfl))).trans e4) ((qN z0).trans v0) v3
 have e1:=Ep (W.eq 1 (by decide)) (lo 1 (by decide)) (((Fe (hi 2 (by decide))).trans (U5 (uh 2 5 (by decide) (by decide) rfl))).trans (by show je [H 2,H 4]=_; rw [e2,e4]; exact mn_N)) ((qN z0).trans v0) v1
 have e0:=st_0 (W.eq 0 (by decide)) (lo 0 (by decide)) (((Fe (hi 1 (by decide))).trans ((TX (uh 1 2 (by decide) (by decide) rfl)).trans ((U5 (uh 1 4 (by decide) (by decide) rfl)).trans (U5 (uh 1 5 (by decide) (by decide) rfl))))).trans (by show je [H 1,H 3]=_; rw [e1,e3]; exact mn_N)) v0
 exact ⟨_,_,_,_,_,_,h,e0,e1,e2,e3,e4,e5⟩
theorem lA {x:Int} (h0:0≤x) (h8:x≤8):∃ a:Nat,x=a∧a < 9:=⟨x.toNat,(Int.toNat_of_nonneg h0).symm,by omega⟩
theorem Om {a b c:Nat} (h1:a≤b) (h2:a≤c):a < Nat.succ (Td b c):=by
 unfold Td
 rw [cZ,bJ]
 split
 ·exact Nat.lt_succ_of_le h1
 ·exact Nat.lt_succ_of_le h2
theorem zb {x y:Int} {a b:Nat} (h:Nat.beq (Nat.add a b) 8=true) (hx:x=a) (hy:y=b):x+y=8:=by
 subst hx hy
 have:a+b=8:=Nat.eq_of_beq_eq_true h
 omega
theorem Zi {V:Nat→Nat→Int} (M:Mon 4 (uR 2) (V 0)) (W:∀ s,s < 3→Swept 4 (uR 2) (V s) (V (s+1))):∀ p,p < 4→V (p / 2+p % 2+1) p+V 0 (3-p)=8:=by
 obtain ⟨a,ea,ha⟩:=lA (M.lo 0 (by decide)) (M.hi 0 (by decide))
 obtain ⟨b,eb,hb⟩:=lA (M.lo 1 (by decide)) (M.hi 1 (by decide))
 obtain ⟨c,ec,hc⟩:=lA (M.lo 2 (by decide)) (M.hi 2 (by decide))
 obtain ⟨d,ed,hd⟩:=lA (M.lo 3 (by decide)) (M.hi 3 (by decide))
 have up:∀ {p q:Nat} {x y:Nat},p < 4→q < 4→uR 2 p q=true→V 0 p=x→V 0 q=y→x≤y:=fun {p q x y} hp hq hr e1 e2=>by have:=M.up p q hp hq hr; rw [e1,e2] at this; exact Int.ofNat_le.mp this
 have h:=cH (cH (cH (cH chk4 d hd) b (Nat.lt_succ_of_le (up (p:=1) (q:=3) (by decide) (by decide) rfl eb ed))) c (Nat.lt_succ_of_le (up (p:=2) (q:=3) (by decide) (by decide) rfl ec ed))) a (Om (up (p:=0) (q:=1) (by decide) (by decide) rfl ea eb) (up (p:=0) (q:=2) (by decide) (by decide) rfl ea ec))
 obtain ⟨a1,b1,c1,d1,h,V1⟩:=Ih M (W 0 (by decide)) ⟨ea,eb,ec,ed⟩ h
 obtain ⟨h1,h⟩:=bj h
 obtain ⟨a2,b2,c2,d2,h,V2⟩:=Ih (W 0 (by decide)).mon (W 1 (by decide)) V1 h
 obtain ⟨h2,h⟩:=bj h
 obtain ⟨h2,h3⟩:=bj h2
 obtain ⟨a3,b3,c3,d3,h4,V3⟩:=Ih (W 1 (by decide)).mon (W 2 (by decide)) V2 h
 intro p hp
 rcases (by omega:p=0∨p=1∨p=2∨p=3) with rfl | rfl | rfl | rfl
 ·exact zb h1 V1.a ed
 ·exact zb h2 V2.b ec
 ·exact zb h3 V2.c eb
 ·exact zb h4 V3.d ea
theorem Pu {V:Nat→Nat→Int} (M:Mon 6 (uR 3) (V 0)) (W:∀ s,s < 4→Swept 6 (uR 3) (V s) (V (s+1))):∀ p,p < 6→V (p / 3+p % 3+1) p+V 0 (5-p)=8:=by
 obtain ⟨a,ea,ha⟩:=lA (M.lo 0 (by decide)) (M.hi 0 (by decide))
 obtain ⟨b,eb,hb⟩:=lA (M.lo 1 (by decide)) (M.hi 1 (by decide))
 obtain ⟨c,ec,hc⟩:=lA (M.lo 2 (by decide)) (M.hi 2 (by decide))
 obtain ⟨d,ed,hd⟩:=lA (M.lo 3 (by decide)) (M.hi 3 (by decide))
 obtain ⟨e,ee,he⟩:=lA (M.lo 4 (by decide)) (M.hi 4 (by decide))
 obtain ⟨f,ef,hf⟩:=lA (M.lo 5 (by decide)) (M.hi 5 (by decide))
 have up:∀ {p q:Nat} {x y:Nat},p < 6→q < 6→uR 3 p q=true→V 0 p=x→V 0 q=y→x≤y:=fun {p q x y} hp hq hr e1 e2=>by have:=M.up p q hp hq hr; rw [e1,e2] at this; exact Int.ofNat_le.mp this
 have h:=cH (cH (cH (cH (cH (cH chk6 f hf) e (Nat.lt_succ_of_le (up (p:=4) (q:=5) (by decide) (by decide) rfl ee ef))) c (Nat.lt_succ_of_le (up (p:=2) (q:=5) (by decide) (by decide) rfl ec ef)))
  b (Om (up (p:=1) (q:=2) (by decide) (by decide) rfl eb ec) (up (p:=1) (q:=4) (by decide) (by decide) rfl eb ee))) d (Nat.lt_succ_of_le (up (p:=3) (q:=4) (by decide) (by decide) rfl ed ee))) a (Om (up (p:=0) (q:=1) (by decide) (by decide) rfl ea eb) (up (p:=0) (q:=3) (by decide) (by decide) rfl ea ed))
 obtain ⟨a1,b1,c1,d1,e1,f1,h,V1⟩:=By M (W 0 (by decide)) ⟨ea,eb,ec,ed,ee,ef⟩ h
 obtain ⟨h1,h⟩:=bj h
 obtain ⟨a2,b2,c2,d2,e2,f2,h,V2⟩:=By (W 0 (by decide)).mon (W 1 (by decide)) V1 h
 obtain ⟨h2,h⟩:=bj h
 obtain ⟨h2,h3⟩:=bj h2
 obtain ⟨a3,b3,c3,d3,e3,f3,h,V3⟩:=By (W 1 (by decide)).mon (W 2 (by decide)) V2 h
 obtain ⟨h4,h⟩:=bj h
 obtain ⟨h4,h5⟩:=bj h4
 obtain ⟨a4,b4,c4,d4,e4,f4,h6,V4⟩:=By (W 2 (by decide)).mon (W 3 (by decide)) V3 h
 intro p hp
 rcases (by omega:p=0∨p=1∨p=2∨p=3∨p=4∨p=5) with rfl | rfl | rfl | rfl | rfl | rfl
 ·exact zb h1 V1.a ef
 ·exact zb h2 V2.b ee
 ·exact zb h4 V3.c ed
 ·exact zb h3 V2.d ec
 ·exact zb h5 V3.e eb
 ·exact zb h6 V4.f ea
section
open PySem.Float64 (V dist pack infMag decode V_at Right roundUn halfEven val)
structure IsV (x:UInt64) (n:Nat):Prop where
 h:∃ m e,decode x=.fin false m e∧m*2 ^ (e+1074).toNat=n
theorem IsV.pack {t:Nat} (h:t < infMag):IsV (Float64.pack false t) (V t):=⟨Float64.decode_pack false h⟩
theorem rep {n k:Nat} (h:n < 2 ^ 53):∃ t,V t=n*2 ^ k:=by
 by_cases h2:2 ^ 52≤n∨k=0
 ·exact ⟨_,V_at (Nat.le_of_lt h) h2⟩
 ·induction k generalizing n with
  | zero=>exact absurd (.inr rfl) h2
  | succ k ih =>
   have hn:n < 2 ^ 52:=Nat.lt_of_not_le fun q=>h2 (.inl q)
   have e:n*2 ^ (k+1)=2*n*2 ^ k:=by rw [Nat.pow_succ]; ac_rfl
   rw [e]
   have h3:2*n < 2 ^ 53:=Nat.mul_lt_mul_of_pos_left hn (by decide:0 < 2)
   by_cases h4:2 ^ 52≤2*n∨k=0
   ·exact ⟨_,V_at (Nat.le_of_lt h3) h4⟩
   ·exact ih h3 h4
theorem gap {a b x z g:Nat} (h:dist a b≤dist a x) (h1:x+z=a) (h2:z < g):a≤b+g∧b≤a+g:=by
 have q:dist a x=z:=by
  subst h1; unfold dist; rw [Nat.add_sub_cancel_left,Nat.sub_eq_zero_of_le (Nat.le_add_right x z)]; rfl
 have k:=Nat.le_of_lt (Nat.lt_of_le_of_lt (q▸h) h2)
 exact ⟨aF (Nat.le_add_of_sub_le (aF (Nat.le_add_right (a-b) (b-a)) k)) (Nat.le_of_eq (Nat.add_comm g b)),
  aF (Nat.le_add_of_sub_le (aF (Nat.le_add_left (b-a) (a-b)) k)) (Nat.le_of_eq (Nat.add_comm g a))⟩
theorem big_le {A B:Nat} (h:A≤B):2*(2 ^ 53*A)≤(2 ^ 54-1)*(32*B):=by omega
theorem near {r:UInt64} {W D k:Nat} (R:Right r false W D) (hD:0 < D) (hk:k≤2040) (hW:W < D*(2 ^ 53*2 ^ k)):∃ N,IsV r N∧W≤D*N+D*2 ^ k∧D*N≤W+D*2 ^ k:=by
 obtain ⟨t,rfl,h1,h2,h3⟩:=R
 have hlt:t < infMag:=by
  rcases Nat.lt_or_ge t infMag with q | q
  ·exact q
  ·have:=h2.mp (Nat.le_antisymm h1 q)
   have hp:2*(2 ^ 53*2 ^ k)≤(2 ^ 54-1)*2 ^ 2045:=by
    rw [show 2045=5+2040 by rfl,Nat.pow_add]
    exact big_le (Nat.pow_le_pow_right (by decide) hk)
   have q1:=aF this (Nat.le_of_lt (Nat.mul_lt_mul_of_pos_left hW (by decide:0 < 2)))
   have q2:2*(D*(2 ^ 53*2 ^ k))=D*(2*(2 ^ 53*2 ^ k)):=by ac_rfl
   have q3:=Nat.mul_le_mul_left D hp
   have q4:2*W < D*((2 ^ 54-1)*2 ^ 2045):=Nat.lt_of_lt_of_le (Nat.lt_of_lt_of_eq (Nat.mul_lt_mul_of_pos_left hW (by decide:0 < 2)) q2) q3
   exact absurd this (Nat.not_le.mpr q4)
 have hg:0 < D*2 ^ k:=Nat.mul_pos hD (Nat.two_pow_pos k)
 obtain ⟨t',ht'⟩:=rep (n:=W / (D*2 ^ k)) (k:=k) ((Nat.div_lt_iff_lt_mul hg).mpr (by rw [show 2 ^ 53*(D*2 ^ k)=D*(2 ^ 53*2 ^ k) by ac_rfl]; exact hW))
 have hn:=(h3 hlt t').1
 rw [ht'] at hn
 have e1:=Nat.div_add_mod W (D*2 ^ k)
 have e2:=Nat.mod_lt W hg
 have e3:D*(W / (D*2 ^ k)*2 ^ k)=D*2 ^ k*(W / (D*2 ^ k)):=by ac_rfl
 rw [e3] at hn
 exact ⟨V t,.pack hlt,gap hn e1 e2⟩
noncomputable def UU:Nat:=2 ^ 1074
inductive DecV (x:UInt64) (n:Nat):Prop where
 | mk (m:Nat) (e:Int) (d:decode x=.fin false m e) (h:m*2 ^ (e+1074).toNat=n) (v:val x=(n:Int)):DecV x n
theorem IsV.dec {x:UInt64} {n:Nat} (h:IsV x n):DecV x n:=by
 obtain ⟨m,e,hd,rfl⟩:=h
 exact ⟨m,e,hd,rfl,Float64.val_eq hd⟩
theorem Qc {x y:UInt64} {X Y k:Nat} (hx:IsV x X) (hy:IsV y Y) (hk:k≤2040) (hW:X*Y < UU*(2 ^ 53*2 ^ k)):∃ N,IsV (Float64.mul x y) N∧X*Y≤UU*N+UU*2 ^ k∧UU*N≤X*Y+UU*2 ^ k:=by
 obtain ⟨m,e,d1,_,v1⟩:=hx.dec
 obtain ⟨n,f,d2,_,v2⟩:=hy.dec
 have R:=Float64.mul_right d1 d2
 rw [v1,v2] at R
 exact near R (Nat.two_pow_pos _) hk hW
theorem RT {x y:UInt64} {X Y k:Nat} (hx:IsV x X) (hy:IsV y Y) (hk:k≤2040) (hW:X+Y < 2 ^ 53*2 ^ k):∃ N,IsV (Float64.add x y) N∧X+Y≤N+2 ^ k∧N≤X+Y+2 ^ k:=by
 obtain ⟨m,e,d1,_,v1⟩:=hx.dec
 obtain ⟨n,f,d2,_,v2⟩:=hy.dec
 obtain ⟨R0,R1⟩:=Float64.add_right d1 d2
 rw [v1,v2] at R0 R1
 by_cases q:(X:Int)+Y=0
 ·rw [R0 q]
  have e:X+Y=0:=by omega
  exact ⟨0,Float64.V_zero▸IsV.pack (t:=0) (by decide),by rw [e]; exact Nat.zero_le _,Nat.zero_le _⟩
 ·have R:=R1 q
  rw [decide_eq_false (by omega),show ((X:Int)+Y).natAbs=X+Y by omega] at R
  obtain ⟨N,a,b,c⟩:=near R (by decide) hk (by rw [Nat.one_mul]; exact hW)
  rw [Nat.one_mul,Nat.one_mul] at b c
  exact ⟨N,a,b,c⟩
theorem Wa {a y b:Nat} (h1:2*y < 2*a+b) (h2:2*a < 2*y+b):2*Float64.dist a y < b:=by unfold Float64.dist; omega
theorem WX {a y z b:Nat} (h:y+b≤z) (h1:2*z < 2*a+b) (hd:2*Float64.dist a y < b):False:=by unfold Float64.dist at hd; omega
theorem Wm {a y z b:Nat} (h:z+b≤y) (h1:2*a < 2*z+b) (hd:2*Float64.dist a y < b):False:=by unfold Float64.dist at hd; omega
theorem ZZ {a b x Z:Nat} (hn:Float64.dist a (b*x)≤Float64.dist a (b*Z)) (k1:2*(b*Z) < 2*a+b) (k2:2*a < 2*(b*Z)+b):x=Z:=by
 have h3:=Nat.lt_of_le_of_lt (Nat.mul_le_mul_left 2 hn) (Wa k1 k2)
 rcases Nat.lt_trichotomy x Z with q | q | q
 ·exact (WX (by rw [← Nat.mul_succ]; exact Nat.mul_le_mul_left b q) k1 h3).elim
 ·exact q
 ·exact (Wm (by rw [← Nat.mul_succ]; exact Nat.mul_le_mul_left b q) k2 h3).elim
theorem H8 {x:UInt64} {P Z:Nat} (hx:IsV x P) (h1:2*P < 2*(Z*UU)+UU) (h2:2*(Z*UU) < 2*P+UU):Float64.isFinite x=true∧eG x=(Z:Int):=by
 obtain ⟨m,e,hd,hv,_⟩:=hx.dec
 have he:=Float64.decode_ge hd
 refine ⟨by unfold Float64.isFinite; rw [hd],?_⟩
 show Flt.toInt Float64.nearestOf x=_
 unfold Flt.toInt
 rw [hd]
 show Float64.nearestOf false m e=_
 unfold Float64.nearestOf
 have s1:=Float64.shift_one m e 1074 (by omega)
 have sp:=Float64.shift_pos m 1 e (by decide)
 rw [show (e+((1074:Nat):Int)).toNat=(e+1074).toNat from rfl,hv] at s1
 show Float64.sgn false (halfEven (Float64.shift m 1 e).1 (Float64.shift m 1 e).2)=_
 generalize (Float64.shift m 1 e).1=a at *
 generalize (Float64.shift m 1 e).2=b at *
 have hn:=Float64.halfEven_nearest a b sp Z
 have s1:a*UU=P*b:=s1
 have hU:0 < UU:=Nat.two_pow_pos _
 generalize UU=U at *
 have k1:2*(b*Z) < 2*a+b:=by
  refine Nat.lt_of_mul_lt_mul_right (a:=U) ?_
  have e1:2*(b*Z)*U=b*(2*(Z*U)):=by ac_rfl
  have e2:(2*a+b)*U=b*(2*P+U):=by rw [Nat.add_mul,Nat.mul_assoc,s1,Nat.mul_add]; ac_rfl
  rw [e1,e2]
  exact Nat.mul_lt_mul_of_pos_left h2 sp
 have k2:2*a < 2*(b*Z)+b:=by
  refine Nat.lt_of_mul_lt_mul_right (a:=U) ?_
  have e1:2*a*U=b*(2*P):=by rw [Nat.mul_assoc,s1]; ac_rfl
  have e2:(2*(b*Z)+b)*U=b*(2*(Z*U)+U):=by rw [Nat.add_mul,Nat.mul_add]; ac_rfl
  rw [e1,e2]
  exact Nat.mul_lt_mul_of_pos_left h1 sp
 rw [ZZ hn k1 k2]; rfl
end
noncomputable def gg:Nat:=2 ^ 1022
theorem UU_g:UU=4503599627370496*gg:=by unfold UU gg; rw [show 1074=52+1022 by rfl,Nat.pow_add]
theorem Z9:0 < gg:=Nat.two_pow_pos _
theorem pw_g (k:Nat):2 ^ (k+1022)=2 ^ k*gg:=Nat.pow_add 2 k 1022
theorem Xl {a b c d:Nat} (hd:0 < d) (h:d*a≤d*b+d*c):a≤b+c:=by
 rw [← Nat.mul_add] at h; exact Nat.le_of_mul_le_mul_left h hd
theorem lin_up {g Q P1 P2 P3 P4 TU M1 U:Nat} (hg:0 < g) (hU:U=4503599627370496*g) (b1:8*P1≤Q+8*g) (b2:P2≤6*P1+2*g) (b3:P3≤M1+P2+2*g) (b4:P4≤15952000000*P3+17179869184*g) (c:5982*Q≤TU+2097152*g) :
  2*P4 < 2*(997000000*(16*M1)+2000000*TU)+U:=by
 have e1:8*P2≤6*Q+64*g:=by omega
 have e2:8*P3≤8*M1+6*Q+80*g:=by omega
 have e3:P4≤1994000000*(8*P3)+17179869184*g:=by omega
 have e4:P4≤1994000000*(8*M1+6*Q+80*g)+17179869184*g:=aF e3 (Nat.add_le_add_right (Nat.mul_le_mul_left _ e2) _)
 omega
theorem Zw {g Q P1 P2 P3 P4 TU M1 U:Nat} (hg:0 < g) (hU:U=4503599627370496*g) (a1:Q≤8*P1+8*g) (a2:6*P1≤P2+2*g) (a3:M1+P2≤P3+2*g) (a4:15952000000*P3≤P4+17179869184*g) (c:TU≤5982*Q+2097152*g) :
  2*(997000000*(16*M1)+2000000*TU) < 2*P4+U:=by
 have e1:6*Q≤8*P2+64*g:=by omega
 have e2:8*M1+6*Q≤8*P3+80*g:=by omega
 have e3:1994000000*(8*P3)≤P4+17179869184*g:=by omega
 have e4:1994000000*(8*M1+6*Q)≤1994000000*(8*P3+80*g):=Nat.mul_le_mul_left _ e2
 omega
theorem yh {x y:UInt64} {X A B D k U:Nat} (hu:UU=U) (hx:IsV x X) (hD:0 < D) {Y:Nat} (hy:IsV y Y) (hk:k≤2040) {g:Nat} (hg:2 ^ k=g) (e:X*Y=D*A) (hU:U=D*B) (hb:A < B*(2 ^ 53*g)):∃ N,IsV (Float64.mul x y) N∧A≤B*N+B*g∧B*N≤A+B*g:=by
 subst hu
 obtain ⟨N,v,a,b⟩:=Qc hx hy hk (by rw [e,hU,Nat.mul_assoc,hg]; exact Nat.mul_lt_mul_of_pos_left hb hD)
 rw [e,hU,Nat.mul_assoc,Nat.mul_assoc,hg] at a b
 exact ⟨N,v,Xl hD a,Xl hD b⟩
theorem R6 {x y:UInt64} {X Y k:Nat} (hx:IsV x X) (hy:IsV y Y) (hk:k≤2040) {g:Nat} (hg:2 ^ k=g) (hW:X+Y < 2 ^ 53*g):∃ N,IsV (Float64.add x y) N∧X+Y≤N+g∧N≤X+Y+g:=by
 subst hg
 exact RT hx hy hk hW
theorem FT {L a b c g:Nat} (hL:L≤8) (h:a≤b+c*g):L*a≤L*b+8*(c*g):=aF (Nat.mul_le_mul_left L h) (by rw [Nat.mul_add]; exact Nat.add_le_add_left (Nat.mul_le_mul_right _ hL) _)
theorem ink_Z {L T M U A:Nat} (h:U=16*A):1000000*(M*997+2*L*T)*U=997000000*(16*(M*A))+2000000*(L*(T*U)):=by
 rw [Nat.mul_add,Nat.add_mul]
 congr 1
 ·rw [show 1000000*(M*997)=997000000*M by omega,h]; ac_rfl
 ·rw [show 2*L*T=2*(L*T) by ac_rfl,show 1000000*(2*(L*T))=2000000*(L*T) by omega]; ac_rfl
theorem UW {x:UInt64} {P Z U:Nat} (hu:UU=U) (hx:IsV x P) (h1:2*P < 2*(Z*U)+U) (h2:2*(Z*U) < 2*P+U):Float64.isFinite x=true∧eG x=(Z:Int):=by
 subst hu; exact H8 hx h1 h2
theorem T5 {U g:Nat} (hu:UU=U) (h22:2 ^ 1022=g) (h23:2 ^ 1023=2*g) (h56:2 ^ 1056=17179869184*g) (hU:U=4503599627370496*g) (hg:0 < g) {y lv m1 six C:UInt64} {Y T L:Nat} (hL:L≤8) (hT:T≤997) (hy:IsV y Y) (c1:5982*Y≤T*U+262144*g) (c2:T*U≤5982*Y+262144*g) (hlv:IsV lv (L*(562949953421312*g))) (hm:IsV m1 ((8-L)*(281474976710656*g))) (h6:IsV six (6*U)) (hC:IsV C (15952000000*U)) :
  Float64.isFinite (Float64.mul C (Float64.add m1 (Float64.mul (Float64.mul lv y) six)))=true∧eG (Float64.mul C (Float64.add m1 (Float64.mul (Float64.mul lv y) six)))=((1000000*((8-L)*997+2*L*T):Nat):Int):=by
 have hU0:0 < U:=by omega
 have hTU:T*U≤997*U:=Nat.mul_le_mul_right _ hT
 have hLY:L*Y≤8*Y:=Nat.mul_le_mul_right _ hL
 have hY:6*Y≤U+300*g:=by omega
 have cl1:5982*(L*Y)≤L*(T*U)+2097152*g:=by
  have:=FT hL c1
  rw [show L*(5982*Y)=5982*(L*Y) by ac_rfl] at this
  omega
 have cl2:L*(T*U)≤5982*(L*Y)+2097152*g:=by
  have:=FT hL c2
  rw [show L*(5982*Y)=5982*(L*Y) by ac_rfl] at this
  omega
 obtain ⟨P1,v1,a1,b1⟩:=yh (A:=L*Y) (B:=8) (D:=562949953421312*g) hu hlv (by omega) hy (by decide) h22 (by ac_rfl) (by omega) (by omega)
 obtain ⟨P2,v2,a2,b2⟩:=yh (A:=6*P1) (B:=1) (D:=U) hu v1 hU0 h6 (by decide) h23 (by ac_rfl) (by omega) (by omega)
 have hM:(8-L)*(281474976710656*g)≤8*(281474976710656*g):=Nat.mul_le_mul_right _ (Nat.sub_le 8 L)
 obtain ⟨P3,v3,a3,b3⟩:=R6 hm v2 (by decide) h23 (by omega)
 obtain ⟨P4,v4,a4,b4⟩:=yh (A:=15952000000*P3) (B:=1) (D:=U) hu hC hU0 v3 (by decide) h56 (by ac_rfl) (by omega) (by omega)
 have eZ:=ink_Z (L:=L) (T:=T) (M:=8-L) (U:=U) (A:=281474976710656*g) (by omega)
 refine UW hu v4 ?_ ?_
 ·rw [eZ]; exact lin_up hg hU b1 (by omega) b3 (by omega) cl1
 ·rw [eZ]; exact Zw hg hU a1 (by omega) a3 (by omega) cl2
theorem Q3 {y lv m1 six C:UInt64} {Y T L:Nat} (hL:L≤8) (hT:T≤997) (hy:IsV y Y) (c1:5982*Y≤T*UU+262144*gg) (c2:T*UU≤5982*Y+262144*gg) (hlv:IsV lv (L*(562949953421312*gg))) (hm:IsV m1 ((8-L)*(281474976710656*gg))) (h6:IsV six (6*UU)) (hC:IsV C (15952000000*UU)) :
  Float64.isFinite (Float64.mul C (Float64.add m1 (Float64.mul (Float64.mul lv y) six)))=true∧eG (Float64.mul C (Float64.add m1 (Float64.mul (Float64.mul lv y) six)))=((1000000*((8-L)*997+2*L*T):Nat):Int) :=
 T5 rfl rfl (pw_g 1) (pw_g 34) UU_g Z9 hL hT hy c1 c2 hlv hm h6 hC
noncomputable def clN (y T:Nat):Bool:=and (and (cR y) (cond (lM y) false true)) (aq (Nat.sub 1075 (dR y)) fun d=>cond (Nat.ble 46 d) (aq (Nat.pow 2 (Nat.sub d 34)) fun sl=>aq (Nat.mul T (Nat.pow 2 d)) fun t=>aq (Nat.mul 5982 (jY y)) fun m=>and (Nat.ble m (Nat.add t sl)) (Nat.ble t (Nat.add m sl))) false)
noncomputable def RN (x T:Nat):Bool:=aq (Bq x) fun y=>cond (ltN y B16) (clN y T) (cond (ltN y B05) (Nat.beq T 997) (cond (ltN y B23) (aq (Bd B23 y) fun z=>clN z T) (Nat.beq T 0)))
noncomputable def lO (spot lag:Nat):Nat:=aq (Nat.mod (Nat.add (Nat.mul 6 spot) (Nat.mul lag 997)) 5982) fun a=>aq (cond (Nat.ble 2991 a) (Nat.sub a 2991) (Nat.sub 2991 a)) fun b=>aq (Nat.sub b 997) fun c=>cond (Nat.ble c 997) c 997
noncomputable def Gg (spot place:Nat):Bool:=aq (roundN spot 997) fun q=>aq (roundN place 1) fun pf=>cond (and (cR q) (cR pf)) (aq (zc q pf) fun a=>aq (Bd a 4611686018427387904) fun h =>
 and (aq (zc h B13) fun x=>aq (lO spot 0) (RN x)) (and (aq (lO spot 4) (RN h)) (aq (Bd h B13) fun x=>aq (lO spot 2) (RN x)))) false
theorem hue0:jZ 997 (Gg · 0)=true:=by decide +kernel
theorem hue1:jZ 997 (Gg · 1)=true:=by decide +kernel
theorem hue2:jZ 997 (Gg · 2)=true:=by decide +kernel
theorem hue3:jZ 997 (Gg · 3)=true:=by decide +kernel
theorem hue4:jZ 997 (Gg · 4)=true:=by decide +kernel
theorem hue5:jZ 997 (Gg · 5)=true:=by decide +kernel
theorem UG {s p:Nat} (hs:s < 997) (hp:p < 6):Gg s p=true:=by
 rcases (by omega:p=0∨p=1∨p=2∨p=3∨p=4∨p=5) with rfl | rfl | rfl | rfl | rfl | rfl
 ·exact cH hue0 s hs
 ·exact cH hue1 s hs
 ·exact cH hue2 s hs
 ·exact cH hue3 s hs
 ·exact cH hue4 s hs
 ·exact cH hue5 s hs
inductive Slope (y:UInt64) (T:Nat):Prop where
 | mk (Y:Nat) (v:IsV y Y) (c1:5982*Y≤T*UU+262144*gg) (c2:T*UU≤5982*Y+262144*gg):Slope y T
theorem Xv {y:UInt64} {T:Nat} (h:clN y.toNat T=true):Slope y T:=by
 obtain ⟨h1,h⟩:=aK h
 obtain ⟨h1,h2⟩:=aK h1
 obtain ⟨h2,_⟩:=Dd h2
 rw [ao] at h
 obtain ⟨h3,h⟩:=jC h
 rw [ao,ao,ao] at h
 obtain ⟨h4,h5⟩:=aK h
 have d:=bK h1
 rw [h2] at d
 have h3:46≤1075-dR y.toNat:=dw h3
 have h4:5982*jY y.toNat≤T*2 ^ (1075-dR y.toNat)+2 ^ (1075-dR y.toNat-34):=dw h4
 have h5:T*2 ^ (1075-dR y.toNat)≤5982*jY y.toNat+2 ^ (1075-dR y.toNat-34):=dw h5
 have he:1≤dR y.toNat:=by
  unfold dR
  cases q:Nat.beq (SN y.toNat) 0 with
  | true=>exact Nat.le_refl _
  | false=>rw [cond_false]; exact Nat.pos_of_ne_zero fun t=>by rw [t] at q; exact nomatch q
 generalize jY y.toNat=m at *
 generalize dR y.toNat=e at *
 have ee:(((e:Int)-1075)+1074).toNat=e-1:=by omega
 have u1:2 ^ (1075-e)*2 ^ (e-1)=UU:=by rw [← Nat.pow_add,show 1075-e+(e-1)=1074 by omega]; rfl
 have u2:2 ^ (1075-e-34)*2 ^ (e-1)=262144*gg:=by rw [← Nat.pow_add,show 1075-e-34+(e-1)=18+1022 by omega,Nat.pow_add]; rfl
 refine ⟨m*2 ^ (e-1),⟨m,_,d,by rw [ee]⟩,?_,?_⟩
 ·have:=Nat.mul_le_mul_right (2 ^ (e-1)) h4
  rw [Nat.add_mul,u2,Nat.mul_assoc,Nat.mul_assoc,u1] at this
  exact this
 ·have:=Nat.mul_le_mul_right (2 ^ (e-1)) h5
  rw [Nat.add_mul,u2,Nat.mul_assoc,Nat.mul_assoc,u1] at this
  exact this
inductive Lag (x:UInt64) (T:Nat):Prop where
 | up (h:flt (gG x f1) c16=true) (s:Slope (gG x f1) T):Lag x T
 | top (h:flt (gG x f1) c16=false) (h2:flt (gG x f1) c05=true) (e:T=997):Lag x T
 | dn (h:flt (gG x f1) c16=false) (h2:flt (gG x f1) c05=false) (h3:flt (gG x f1) c23=true) (s:Slope (Float64.sub c23 (gG x f1)) T):Lag x T
 | bot (h:flt (gG x f1) c16=false) (h2:flt (gG x f1) c05=false) (h3:flt (gG x f1) c23=false) (e:T=0):Lag x T
theorem Hx {x:UInt64} {T:Nat} (h:RN x.toNat T=true):Lag x T:=by
 unfold RN at h
 rw [ao,← Rg,← Jg,← JG,← I7,← lt_N,← lt_N,← lt_N] at h
 cases h1:flt (gG x f1) c16 with
 | true=>rw [h1,cond_true] at h; exact .up h1 (Xv h)
 | false =>
  rw [h1,cond_false] at h
  cases h2:flt (gG x f1) c05 with
  | true=>rw [h2,cond_true] at h; exact .top h1 h2 (Nat.eq_of_beq_eq_true h)
  | false =>
   rw [h2,cond_false] at h
   cases h3:flt (gG x f1) c23 with
   | true=>rw [h3,cond_true,ao,← z9] at h; exact .dn h1 h2 h3 (Xv h)
   | false=>rw [h3,cond_false] at h; exact .bot h1 h2 h3 (Nat.eq_of_beq_eq_true h)
noncomputable abbrev f2:UInt64:=4611686018427387904
noncomputable abbrev f6:UInt64:=4618441417868443648
noncomputable def kC:UInt64:=Float64.ofInt (15952*1000000)
noncomputable def Xc (L:Nat):UInt64:=gj L 8
noncomputable def Aq (L:Nat):UInt64:=Float64.mul c05 (Float64.add f1 (Xc L))
noncomputable def xr (L:Nat):UInt64:=Float64.sub (Float64.mul f2 c05) (Aq L)
structure Ink (x:UInt64) (L T:Nat):Prop where
 fin:Float64.isFinite (Float64.mul kC x)=true
 r:eG (Float64.mul kC x)=((1000000*((8-L)*997+2*L*T):Nat):Int)
structure LvOk (L:Nat):Prop where
 i:Float64.isInf (Xc L)=false
 z:feq (Xc L) 0=decide (L=0)
 m:IsV (xr L) ((8-L)*(281474976710656*gg))
 d:IsV (Float64.sub (Aq L) (xr L)) (L*(562949953421312*gg))
 t:Ink (Aq L) L 997
 b:Ink (xr L) L 0
theorem BW {x:UInt64} {n:Nat} (h:(match Float64.decode x with | .fin false m e=>m*2 ^ (e+1074).toNat==n | _=>false)=true):IsV x n:=by
 cases d:Float64.decode x with
 | fin a m e =>
  rw [d] at h
  cases a with
  | false=>exact ⟨m,e,d,eq_of_beq h⟩
  | true=>exact dM h
 | _=>rw [d] at h; exact dM h
theorem kC_v:IsV kC (15952000000*UU):=BW (by decide +kernel)
theorem f6_v:IsV f6 (6*UU):=BW (by decide +kernel)
noncomputable def lvB (L:Nat):Bool:=!Float64.isInf (Xc L)&&(feq (Xc L) 0==decide (L=0))&&(match Float64.decode (xr L) with | .fin false m e=>m*2 ^ (e+1074).toNat==(8-L)*(281474976710656*gg) | _=>false)&&(match Float64.decode (Float64.sub (Aq L) (xr L)) with | .fin false m e=>m*2 ^ (e+1074).toNat==L*(562949953421312*gg) | _=>false) &&
 Float64.isFinite (Float64.mul kC (Aq L))&&(eG (Float64.mul kC (Aq L))==((1000000*((8-L)*997+2*L*997):Nat):Int))&&Float64.isFinite (Float64.mul kC (xr L))&&(eG (Float64.mul kC (xr L))==((1000000*((8-L)*997+2*L*0):Nat):Int))
theorem Up:(List.range 9).all lvB=true:=by decide +kernel
theorem JT {L:Nat} (h:L < 9):LvOk L:=by
 have h:=List.all_eq_true.mp Up L (List.mem_range.mpr h)
 unfold lvB at h
 obtain ⟨h,h8⟩:=aK h
 obtain ⟨h,h7⟩:=aK h
 obtain ⟨h,h6⟩:=aK h
 obtain ⟨h,h5⟩:=aK h
 obtain ⟨h,h4⟩:=aK h
 obtain ⟨h,h3⟩:=aK h
 obtain ⟨h1,h2⟩:=aK h
 exact ⟨by simpa using h1,eq_of_beq h2,BW h3,BW h4,⟨h5,eq_of_beq h6⟩,⟨h7,eq_of_beq h8⟩⟩
theorem zM {L T:Nat} (hL:L < 9) (hT:T≤997) {y:UInt64} (s:Slope y T):Ink (Float64.add (xr L) (Float64.mul (Float64.mul (Float64.sub (Aq L) (xr L)) y) f6)) L T:=by
 obtain ⟨Y,v,c1,c2⟩:=s
 have K:=JT hL
 obtain ⟨a,b⟩:=Q3 (Nat.le_of_lt_succ hL) hT v c1 c2 K.d K.m f6_v kC_v
 exact ⟨a,b⟩
theorem Rm {G:Ctx} (hG:gU G) (h1:G.vals.lookup ("ONE_SIXTH":Str)=some (.float c16)) (h2:G.vals.lookup ("TWO_THIRD":Str)=some (.float c23)) {L T:Nat} (hL:L < 9) (hT:T≤997) {x:UInt64} (s:Lag x T) :
  ∃ z,rV G [.float (xr L),.float (Aq L),.float x]=some (.float z)∧Ink z L T:=by
 have K:=JT hL
 obtain ⟨d,e,z,rfl,hz⟩:=Uy (t:=fT7) (pn:=["m1","m2","hue"]) (ds:=[.float (xr L),.float (Aq L),.float x]) (R:=fun d=>∃ z,d=.float z∧Ink z L T) hG 3 fE7 fO7 rfl (by
  dsimp only [fP7,wS,wX,wL,wA,wO,bH,bF,bC,fP,fX,fC,fQ,fK,b7,cu,cG,bQ,bZ,bR,cD,cF,cg,cz,bY,bT,bU,cA,fJ,f9,gf,fH,fB,fM,fV,fG,gb,fZ,fY,fD,fc,fj,gh,fL,fU,aX,aN,aA,aC,aZ,aB,aY,aP,aV,aU,aR,eN,eQ,eV,d9,aW,aM,bh,bG,bI,cond_true,cond_false]
  refine ⟨nz1,_,h1,?_⟩
  dsimp only [wS,wX,wL,wA,wO,bH,bF,bC,fP,fX,fC,fQ,fK,b7,cu,cG,bQ,bZ,bR,cD,cF,cg,cz,bY,bT,bU,cA,fJ,f9,gf,fH,fB,fM,fV,fG,gb,fZ,fY,fD,fc,fj,gh,fL,fU,aX,aN,aA,aC,aZ,aB,aY,aP,aV,aU,aR,eN,eQ,eV,d9,aW,aM,bh,bG,bI,cond_true,cond_false]
  cases s with
  | up q s=>exact Wd q ⟨_,rfl,zM hL hT s⟩
  | top q q2 e=>subst e; exact nob q (Wd q2 ⟨_,rfl,K.t⟩)
  | dn q q2 q3 s=>exact nob q (nob q2 ⟨_,h2,Wd q3 ⟨_,h2,_,rfl,zM hL hT s⟩⟩)
  | bot q q2 q3 e=>subst e; exact nob q (nob q2 ⟨_,h2,nob q3 ⟨_,rfl,K.b⟩⟩))
 exact ⟨z,e,hz⟩
theorem ink_0 (T:Nat):Ink c05 0 T:=⟨by decide +kernel,by rw [show 2*0*T=0 by rw [Nat.mul_zero,Nat.zero_mul]]; decide +kernel⟩
inductive Inks (o:Option D) (L a b c:Nat):Prop where
 | mk (x y z:UInt64) (h:o=some (yK (x,y,z))) (hx:Ink x L a) (hy:Ink y L b) (hz:Ink z L c):Inks o L a b c
theorem V0 {G0 G:Ctx} (hG0:gU G0) (h1:G0.vals.lookup ("ONE_SIXTH":Str)=some (.float c16)) (h2:G0.vals.lookup ("TWO_THIRD":Str)=some (.float c23)) (hG:gU G) (h3:G.vals.lookup ("ONE_THIRD":Str)=some (.float c13)) (hv:G.fns.lookup ("_v":Str)=some (rV G0))
  {L a b c:Nat} (hL:L < 9) (ha:a≤997) (hb:b≤997) (hc:c≤997) {x:UInt64} (sa:Lag (Float64.add x c13) a) (sb:Lag x b) (sc:Lag (Float64.sub x c13) c):Inks (o5 G [.float x,.float c05,.float (Xc L)]) L a b c:=by
 have K:=JT hL
 obtain ⟨u,e1,i1⟩:=Rm hG0 h1 h2 hL ha sa
 obtain ⟨v,e2,i2⟩:=Rm hG0 h1 h2 hL hb sb
 obtain ⟨w,e3,i3⟩:=Rm hG0 h1 h2 hL hc sc
 obtain ⟨d,e,x',y',z',rfl,hx,hy,hz⟩:=Uy (t:=fT6) (pn:=["h","l","s"]) (ds:=[.float x,.float c05,.float (Xc L)]) (R:=fun d=>∃ x y z,d=yK (x,y,z)∧Ink x L a∧Ink y L b∧Ink z L c) hG 5 fE6 fO6 rfl (by
  dsimp only [fP6,wS,wX,wL,wA,wO,bH,bF,bC,fP,fX,fC,fQ,fK,b7,cu,cG,bQ,bZ,bR,cD,cF,cg,cz,bY,bT,bU,cA,fJ,f9,gf,fH,fB,fM,fV,fG,gb,fZ,fY,fD,fc,fj,gh,fL,fU,aX,aN,aA,aC,aZ,aB,aY,aP,aV,aU,aR,eN,eQ,eV,d9,aW,aM,bh,bG,bI,cond_true,cond_false]
  rw [K.z]
  by_cases q:L=0
  ·refine yes q ⟨c05,c05,c05,rfl,?_,?_,?_⟩ <;> (subst q; exact ink_0 _)
  ·exact no q (Wd (by decide +kernel) ⟨_,h3,_,kZ hv e1,_,kZ hv e2,_,h3,_,kZ hv e3,u,v,w,rfl,i1,i2,i3⟩))
 exact ⟨x',y',z',e,hx,hy,hz⟩
set_option maxHeartbeats 2000000
noncomputable abbrev Ux (s p:Int):UInt64:=Float64.sub (Float64.add (gj s 997) (Float64.ofInt p)) (Float64.ofInt 2)
structure LG (G:Ctx):Prop where
 bn:gU G
 typed:∀ {lv w:Int},0≤lv→lv≤8→SQ G ("_law_typed":Str) [.int lv,.int w]=some (.str (tH lv w))
 read:∀ {lv w:Int},0≤lv→lv≤8→SQ G ("_law_read":Str) [.str (tH lv w)]=some (.int lv)
 turned:∀ {l v g w:Int},0≤l→l≤v→v≤g→g≤8→SQ G ("_law_turned":Str) [.list [.int l,.int v,.int g],.int w]=some (.list [.int g,.int (l+g-v),.int l])
 ink:∀ {s p L:Nat},s < 997→p < 6→L < 9→Inks (SQ G ("hls_to_rgb":Str) [.float (Ux s p),.float c05,.float (Xc L)]) L (lO s 0) (lO s 4) (lO s 2)
 ws:∀ {x:Str} {ws:Ws},Xb x=some ws→SQ G ("Whitespace":Str) [.str x]=some (.ws ws)
 less:∀ {x y:Ws},Gu x=true→Gu y=true→vL G ("less":Str) (.ws x) [.ws y]=some (.bool (nW x y))
structure Hue (s p:Nat):Prop where
 q:Float64.isInf (gj s 997)=false
 f:Float64.isInf (Float64.ofInt p)=false
 a:Lag (Float64.add (Ux s p) c13) (lO s 0)
 b:Lag (Ux s p) (lO s 4)
 c:Lag (Float64.sub (Ux s p) c13) (lO s 2)
theorem n2_nat:(Float64.ofInt 2).toNat=4611686018427387904:=by decide +kernel
theorem Qg {s p:Nat} (hs:s < 997) (hp:p < 6):Hue s p:=by
 have h:=UG hs hp
 unfold Gg at h
 rw [ao,ao,← Cv (b:=997) (by decide),← mY] at h
 obtain ⟨h1,h⟩:=jC h
 obtain ⟨h1,h2⟩:=aK h1
 rw [ao,ao,← n2_nat,← vM,← z9] at h
 obtain ⟨h3,h⟩:=aK h
 obtain ⟨h4,h5⟩:=aK h
 rw [ao,ao,← Cx,← vM] at h3
 rw [ao] at h4
 rw [ao,ao,← Cx,← z9] at h5
 exact ⟨vN h1,vN h2,Hx h3,Hx h4,Hx h5⟩
theorem Cj {s l:Nat}:lO s l≤997:=by
 unfold lO
 rw [ao,ao,ao,cZ,bJ]
 split
 ·assumption
 ·exact Nat.le_refl _
noncomputable def Ag (s l:Int):Int:=(fun c=>if c > 0 then c else 0) ((fun b=>if b-997 < 997 then b-997 else 997) ((fun a=>if a < 0 then -a else a) ((6*s+l*997) % 5982-2991)))
theorem Cu {s l:Nat}:Ag s l=((lO s l:Nat):Int):=by
 unfold Ag lO
 rw [ao,ao,ao,cZ,cZ,bJ,bJ]
 have e:((6*(s:Int)+l*997) % 5982)=((Nat.mod (Nat.add (Nat.mul 6 s) (Nat.mul l 997)) 5982:Nat):Int):=by
  show _=(((6*s+l*997) % 5982:Nat):Int)
  omega
 rw [e]
 generalize Nat.mod (Nat.add (Nat.mul 6 s) (Nat.mul l 997)) 5982=a
 show (if _ > _ then _ else _)=(((if _ then _ else _):Nat):Int)
 dsimp only
 simp only [d7]
 split <;> split <;> split <;> split <;> split <;> omega
noncomputable def cj (ns:List Int):List Int:=(ns.take 7).map (· % 1000000)++([7,21601,37857,4603,27029,17841,493]:List Int).drop (ns.take 7).length
theorem uJ (ns:List Int):(cj ns).length=7:=by
 unfold cj
 simp only [List.length_append,List.length_map,List.length_drop,List.length_take]
 have:([7,21601,37857,4603,27029,17841,493]:List Int).length=7:=rfl
 omega
structure Cel where
 p:Nat
 l:Int
 w:Int
noncomputable def xU (cols:Nat) (c:Cel):D := .list [.int ((c.p / cols:Nat):Int),.int ((c.p % cols:Nat):Int),.int c.l,.int c.w]
noncomputable def JK (w p q:Nat):Bool:=Nat.ble (p / w) (q / w)&&Nat.ble (p % w) (q % w)
theorem leP_iff {w p q:Nat}:JK w p q=true↔p / w≤q / w∧p % w≤q % w:=by unfold JK; rw [Bool.and_eq_true,Nat.ble_eq,Nat.ble_eq]
theorem leP_le {w p q:Nat} (h:JK w p q=true):p≤q:=by
 obtain ⟨h1,h2⟩:=leP_iff.mp h
 have e1:=Nat.div_add_mod p w
 have e2:=Nat.div_add_mod q w
 have:=Nat.mul_le_mul_left w h1
 omega
structure PgOk (cols j:Nat) (pg:List Cel):Prop where
 perm:(pg.map (·.p)).Perm (List.range j)
 lo:∀ c∈pg,0≤c.l
 hi:∀ c∈pg,c.l≤8
 up:∀ c∈pg,∀ d∈pg,JK cols c.p d.p=true→c.l≤d.l
noncomputable def j5 (cols j:Nat) (pg:List Cel) (x:Int):Int:=ju (x % 9 :: (pg.filter fun c=>JK cols c.p j).map (·.l))
theorem PgOk.len {cols j:Nat} {pg:List Cel} (P:PgOk cols j pg):pg.length=j:=by have:=P.perm.length_eq; rw [List.length_map,List.length_range] at this; exact this
theorem PgOk.lt {cols j:Nat} {pg:List Cel} (P:PgOk cols j pg) {c:Cel} (hc:c∈pg):c.p < j:=List.mem_range.mp (P.perm.mem_iff.mp (List.mem_map_of_mem hc))
theorem PgOk.new {cols j t:Nat} {pg:List Cel} (P:PgOk cols j pg) (x w:Int):PgOk cols (j+1) (pg.take t++⟨j,j5 cols j pg x,w⟩ :: pg.drop t):=by
 have hp:(pg.take t++(⟨j,j5 cols j pg x,w⟩:Cel) :: pg.drop t).Perm (⟨j,j5 cols j pg x,w⟩ :: pg):=by
  have:=List.perm_middle (a:=(⟨j,j5 cols j pg x,w⟩:Cel)) (l₁:=pg.take t) (l₂:=pg.drop t)
  rw [List.take_append_drop] at this; exact this
 have hm:∀ c,c∈pg.take t++(⟨j,j5 cols j pg x,w⟩:Cel) :: pg.drop t→c=⟨j,j5 cols j pg x,w⟩∨c∈pg:=fun c hc=>cM (hp.mem_iff.mp hc)
 have hx:0≤x % 9∧x % 9≤8:=by omega
 have ge:∀ y,y∈x % 9 :: (pg.filter fun c=>JK cols c.p j).map (·.l)→y≤j5 cols j pg x:=wN
 have me:j5 cols j pg x∈x % 9 :: (pg.filter fun c=>JK cols c.p j).map (·.l):=yq (by exact nofun)
 refine ⟨?_,fun c hc=>?_,fun c hc=>?_,fun c hc d hd h=>?_⟩
 ·refine (hp.map _).trans ?_
  rw [List.map_cons,List.range_succ]
  exact (P.perm.cons _).trans (List.perm_append_singleton _ _).symm
 ·rcases hm c hc with rfl | hc
  ·exact Int.le_trans hx.1 (ge _ aH)
  ·exact P.lo c hc
 ·rcases hm c hc with rfl | hc
  ·rcases cM me with e | e
   ·show j5 cols j pg x≤8
    rw [e]; exact hx.2
   ·obtain ⟨d,hd,e⟩:=List.mem_map.mp e
    show j5 cols j pg x≤8
    rw [← e]; exact P.hi d (List.mem_filter.mp hd).1
  ·exact P.hi c hc
 ·rcases hm c hc with rfl | hc <;> rcases hm d hd with rfl | hd
  ·exact Int.le_refl _
  ·exact absurd (leP_le h) (Nat.not_le.mpr (P.lt hd))
  ·exact ge _ (cJ _ (List.mem_map_of_mem (List.mem_filter.mpr ⟨hc,h⟩)))
  ·exact P.up c hc d hd h
structure JA where
 (x place level spot ink tents:Option D)
noncomputable def kA (v:Option D) (dr:List Int) (rows cols:Nat) (fr pg:D) (u:JA):Kn:=[v,u.x,some (.list (dr.map .int)),some (.int rows),some (.int cols),some fr,some pg,u.place,u.level,u.spot,u.ink,u.tents,none,none,none,none,none,none,none,none,none,none,none,none,none,none,none]
noncomputable def gJ (d:Int):Nat:=if d % 3=2 then 3 else 2
noncomputable def zL (d:Int):Nat:=if d % 3=1 then 3 else 2
noncomputable def jP (k:Int):D:=if k=0 then .list [.str "",.str ""] else if k=1 then .list [.str "\t",.str "\t"] else if k=2 then .list [.str " \t\t",.str "\t \t"] else .list [.str "  \t \t",.str " \t  \t"]
section
variable {G:Ctx} {N B:Kn→Prop} {R:D→Prop}
theorem rc_at (d:Int):jW (.list [.tup [.int 2,.int 2],.tup [.int 2,.int 3],.tup [.int 3,.int 2]]) (.int (d % 3))=some (.tup [.int (gJ d),.int (zL d)]):=by
 unfold gJ zL
 rcases (by omega:d % 3=0∨d % 3=1∨d % 3=2) with h | h | h <;> rw [h] <;> rfl
theorem fr_at (k:Int):jW (.list [.list [.str "",.str ""],.list [.str "\t",.str "\t"],.list [.str " \t\t",.str "\t \t"],.list [.str "  \t \t",.str " \t  \t"]]) (.int (k % 4))=some (jP (k % 4)):=by
 rcases (by omega:k % 4=0∨k % 4=1∨k % 4=2∨k % 4=3) with h | h | h | h <;> rw [h] <;> rfl
noncomputable def drK (k1:Option D) (dr:List Int):Kn:=[k1,none,some (.list (dr.map .int)),none,none,none,none,none,none,none,none,none,none,none,none,none,none,none,none,none,none,none,none,none,none,none,none]
theorem Yq {v:Option D} {dr:List Int} (hd:dr.length=7) (h:wS G Vi (kA v dr (gJ (dr.getD 0 0)) (zL (dr.getD 0 0)) (jP (dr.getD 0 0 / 3 % 4)) (.list []) ⟨none,none,none,none,none,none⟩) N B R):wS G lA_1 (drK v dr) N B R:=by
 have hd0:(dr.map D.int)[0]? = some (.int (dr.getD 0 0)):=getInt (by rw [hd]; decide)
 dsimp only [lA_1,lA_2,lA_3,drK,q7,wS,wX,wL,wA,wO,bH,bF,bC,fP,fX,fC,fQ,fK,b7,cu,cG,bQ,bZ,bR,cD,cF,cg,cz,bY,bT,bU,cA,fJ,f9,gf,fH,fB,fM,fV,fG,gb,fZ,fY,fD,fc,fj,gh,fL,fU,aX,aN,aA,aC,aZ,aB,aY,aP,aV,aU,aR,eN,eQ,eV,d9,aW,aM,bh,bG,bI,cond_true,cond_false]
 refine ⟨_,(fW (by decide) (by decide)).trans hd0,by decide,_,rc_at _,?_⟩
 dsimp only [R3,wS,wX,wL,wA,wO,bH,bF,bC,fP,fX,fC,fQ,fK,b7,cu,cG,bQ,bZ,bR,cD,cF,cg,cz,bY,bT,bU,cA,fJ,f9,gf,fH,fB,fM,fV,fG,gb,fZ,fY,fD,fc,fj,gh,fL,fU,aX,aN,aA,aC,aZ,aB,aY,aP,aV,aU,aR,eN,eQ,eV,d9,aW,aM,bh,bG,bI,cond_true,cond_false]
 exact ⟨_,(fW (by decide) (by decide)).trans hd0,⟨by decide,by decide⟩,by decide,_,fr_at _,h⟩
theorem seg_a {ns:List Int} (hl:ns.length≤63) (h:wS G Vi (kA (some (.list (ns.map .int))) (cj ns) (gJ ((cj ns).getD 0 0)) (zL ((cj ns).getD 0 0)) (jP ((cj ns).getD 0 0 / 3 % 4)) (.list []) ⟨none,none,none,none,none,none⟩) N B R):wS G Ox (bH 27 [.list (ns.map .int)]) N B R:=by
 have h:=Yq (uJ ns) h
 have hz:(ns.map D.int).length≤16000000:=by rw [List.length_map]; exact aF hl (by decide)
 have hz6:((ns.take 7).map D.int).length≤7:=by rw [List.length_map,List.length_take]; exact Nat.min_le_left _ _
 have st:=QW hz (k:=7) (by decide) (by decide)
 rw [show (7:Int).toNat=7 from rfl,Ax] at st
 dsimp only [Ox,uP,wS,wX,wL,wA,wO,bH,bF,bC,fP,fX,fC,fQ,fK,b7,cu,cG,bQ,bZ,bR,cD,cF,cg,cz,bY,bT,bU,cA,fJ,f9,gf,fH,fB,fM,fV,fG,gb,fZ,fY,fD,fc,fj,gh,fL,fU,aX,aN,aA,aC,aZ,aB,aY,aP,aV,aU,aR,eN,eQ,eV,d9,aW,aM,bh,bG,bI,cond_true,cond_false]
 refine ⟨_,st,?_⟩
 dsimp only [wS,wX,wL,wA,wO,bH,bF,bC,fP,fX,fC,fQ,fK,b7,cu,cG,bQ,bZ,bR,cD,cF,cg,cz,bY,bT,bU,cA,fJ,f9,gf,fH,fB,fM,fV,fG,gb,fZ,fY,fD,fc,fj,gh,fL,fU,aX,aN,aA,aC,aZ,aB,aY,aP,aV,aU,aR,eN,eQ,eV,d9,aW,aM,bh,bG,bI,cond_true,cond_false]
 refine ⟨aF hz6 (by decide),dB (g:=fun x => .int (x % 1000000)) (fun a _ P h=>h) (fun a _ P h=>⟨by decide,h⟩) ⟨_,st,?_⟩⟩
 dsimp only [wS,wX,wL,wA,wO,bH,bF,bC,fP,fX,fC,fQ,fK,b7,cu,cG,bQ,bZ,bR,cD,cF,cg,cz,bY,bT,bU,cA,fJ,f9,gf,fH,fB,fM,fV,fG,gb,fZ,fY,fD,fc,fj,gh,fL,fU,aX,aN,aA,aC,aZ,aB,aY,aP,aV,aU,aR,eN,eQ,eV,d9,aW,aM,bh,bG,bI,cond_true,cond_false]
 refine ⟨Nat.lt_of_le_of_lt hz6 (by decide),_,Ci (by decide) (Int.natCast_nonneg _) (by omega),?_⟩
 dsimp only [wS,wX,wL,wA,wO,bH,bF,bC,fP,fX,fC,fQ,fK,b7,cu,cG,bQ,bZ,bR,cD,cF,cg,cz,bY,bT,bU,cA,fJ,f9,gf,fH,fB,fM,fV,fG,gb,fZ,fY,fD,fc,fj,gh,fL,fU,aX,aN,aA,aC,aZ,aB,aY,aP,aV,aU,aR,eN,eQ,eV,d9,aW,aM,bh,bG,bI,cond_true,cond_false]
 refine ⟨?_,?_⟩
 ·rw [List.length_map,List.length_drop]; exact aF (Nat.add_le_add (by rw [List.length_map] at hz6; exact hz6) (Nat.sub_le _ _)) (by decide)
 ·have e:(ns.take 7).map (fun x=>D.int (x % 1000000))++List.drop ((((ns.take 7).map D.int).length:Nat):Int).toNat [.int 7,.int 21601,.int 37857,.int 4603,.int 27029,.int 17841,.int 493]=(cj ns).map D.int:=by
   unfold cj
   rw [List.map_append,List.map_map,List.map_drop,List.length_map]; rfl
  rw [e]
  exact h
theorem Pq {l:List Int} (h:l≠[]):dK .max [.list (l.map .int)]=some (.int (ju l)):=by
 show (intsOf (l.map D.int)).bind (fun ns=>au (decide (ns≠[])) (D.int (ju ns)))=_
 rw [jH,Option.bind_some,decide_eq_true h]; rfl
theorem ZV {l:List Int} (h:l≠[]):dK .min [.list (l.map .int)]=some (.int (je l)):=by
 show (intsOf (l.map D.int)).bind (fun ns=>au (decide (ns≠[])) (D.int (je ns)))=_
 rw [jH,Option.bind_some,decide_eq_true h]; rfl
variable {v:Option D} {dr:List Int} {rows cols j:Nat} {fr:D} {u:JA} {pg:List Cel}
theorem dI {c:Cel} {k:Int} {d:D} (h:[D.int ((c.p / cols:Nat):Int),.int ((c.p % cols:Nat):Int),.int c.l,.int c.w][k.toNat]? = some d) (h0:0≤k) (h1:k < 4):jW (xU cols c) (.int k)=some d:=(fW h0 (Int.lt_trans h1 (by decide))).trans h
theorem Zq (L:LG G) (hj:j < 6) {x lv:Int} (h0:0≤lv) (h8:lv≤8) {vQ:D} (k:∀ u,N (kA v dr rows cols fr vQ u)):wS G BR (kA v dr rows cols fr vQ { u with x:=some (.int x),place:=some (.int j),level:=some (.int lv) }) N B R:=by
 obtain ⟨Lv,rfl⟩:=Int.eq_ofNat_of_zero_le h0
 have hL:Lv < 9:=by omega
 obtain ⟨S,hS⟩:=Int.eq_ofNat_of_zero_le (show 0≤61*x % 997 by omega)
 have hS9:S < 997:=by omega
 have K:=JT hL
 have Hu:=Qg hS9 hj
 obtain ⟨X,Y,Z,e,i1,i2,i3⟩:=L.ink hS9 hj hL
 dsimp only [BR,Jk,kA,q7,wS,wX,wL,wA,wO,bH,bF,bC,fP,fX,fC,fQ,fK,b7,cu,cG,bQ,bZ,bR,cD,cF,cg,cz,bY,bT,bU,cA,fJ,f9,gf,fH,fB,fM,fV,fG,gb,fZ,fY,fD,fc,fj,gh,fL,fU,aX,aN,aA,aC,aZ,aB,aY,aP,aV,aU,aR,eN,eQ,eV,d9,aW,aM,bh,bG,bI,cond_true,cond_false]
 rw [hS]
 refine ⟨by decide,by decide,⟨by decide,Hu.q⟩,Hu.f,by decide +kernel,⟨by decide,K.i⟩,_,e,?_⟩
 dsimp only [Jj,q7,wS,wX,wL,wA,wO,bH,bF,bC,fP,fX,fC,fQ,fK,b7,cu,cG,bQ,bZ,bR,cD,cF,cg,cz,bY,bT,bU,cA,fJ,f9,gf,fH,fB,fM,fV,fG,gb,fZ,fY,fD,fc,fj,gh,fL,fU,aX,aN,aA,aC,aZ,aB,aY,aP,aV,aU,aR,eN,eQ,eV,d9,aW,aM,bh,bG,bI,cond_true,cond_false]
 refine ⟨show 3≤16000000 by decide,?_⟩
 rw [show [D.int 0,D.int 4,D.int 2]=[0,4,2].map D.int from rfl]
 refine dB (g:=fun lag=>D.int (Ag S lag)) (fun _ _ _ h=>h) (fun lag hl P hP=>?_) ?_
 ·have hl:lag=0∨lag=4∨lag=2:=by simpa using hl
  refine ⟨by decide,by omega,by decide,_,rfl,?_⟩
  exact hP
 dsimp only [Jq,yK,nJ,List.map_cons,List.map_nil,q7,wS,wX,wL,wA,wO,bH,bF,bC,fP,fX,fC,fQ,fK,b7,cu,cG,bQ,bZ,bR,cD,cF,cg,cz,bY,bT,bU,cA,fJ,f9,gf,fH,fB,fM,fV,fG,gb,fZ,fY,fD,fc,fj,gh,fL,fU,aX,aN,aA,aC,aZ,aB,aY,aP,aV,aU,aR,eN,eQ,eV,d9,aW,aM,bh,bG,bI,cond_true,cond_false]
 have t1:Ag S 0=_:=Cu (l:=0)
 have t2:Ag S 4=_:=Cu (l:=4)
 have t3:Ag S 2=_:=Cu (l:=2)
 have ck:Float64.isInf (Float64.ofInt (15952*1000000))=false:=by decide +kernel
 have ex:∀ T:Nat,((1000000*((8-Lv)*997+2*Lv*T):Nat):Int)=1000000*((8-(Lv:Int))*997+2*(Lv:Int)*(T:Int)):=fun T=>by
  rw [Int.natCast_mul,Int.natCast_add,Int.natCast_mul,Int.natCast_mul,Int.natCast_mul,Int.natCast_sub (Nat.le_of_lt_succ hL)]; rfl
 refine ⟨show 3≤16000000 by decide,by decide,ck,i1.fin,by decide,ck,i2.fin,by decide,ck,i3.fin,show 3≤16000000 by decide,?_⟩
 have b8:(8-(Lv:Int)).natAbs < 2 ^ 62∧(2*(Lv:Int)).natAbs < 2 ^ 62:=by omega
 refine ⟨b8.1,by decide,b8.2,by decide,b8.1,by decide,b8.2,by decide,b8.1,by decide,b8.2,by decide,?_⟩
 have e1:=i1.r
 have e2:=i2.r
 have e3:=i3.r
 unfold kC at e1 e2 e3
 rw [e1,e2,e3,t1,t2,t3,ex,ex,ex]
 refine ⟨_,Du (l:=[_,_,_]) (m:=[_,_,_]),non rfl ?_⟩
 exact k ⟨some (.int x),some (.int j),some (.int Lv),_,_,_⟩
theorem YW (L:LG G) (hd:dr.length=7) (hj:j < 6) (hc:cols=2∨cols=3) (P:PgOk cols j pg) (k:∀ u pg',PgOk cols (j+1) pg'→N (kA v dr rows cols fr (.list (pg'.map (xU cols))) u)) :
  wS G Bh (kA v dr rows cols fr (.list (pg.map (xU cols))) { u with place:=some (.int j) }) N B R:=by
 have hc0:(0:Int) < cols∧(cols:Int) < 2 ^ 60:=by omega
 have hz:=P.len
 dsimp only [Bh,kA,q7,wS,wX,wL,wA,wO,bH,bF,bC,fP,fX,fC,fQ,fK,b7,cu,cG,bQ,bZ,bR,cD,cF,cg,cz,bY,bT,bU,cA,fJ,f9,gf,fH,fB,fM,fV,fG,gb,fZ,fY,fD,fc,fj,gh,fL,fU,aX,aN,aA,aC,aZ,aB,aY,aP,aV,aU,aR,eN,eQ,eV,d9,aW,aM,bh,bG,bI,cond_true,cond_false]
 refine ⟨_,(fW (by omega) (by omega)).trans (getInt (by omega)),?_⟩
 generalize dr.getD (1+(j:Int)).toNat 0=x
 dsimp only [Jl,q7,wS,wX,wL,wA,wO,bH,bF,bC,fP,fX,fC,fQ,fK,b7,cu,cG,bQ,bZ,bR,cD,cF,cg,cz,bY,bT,bU,cA,fJ,f9,gf,fH,fB,fM,fV,fG,gb,fZ,fY,fD,fc,fj,gh,fL,fU,aX,aN,aA,aC,aZ,aB,aY,aP,aV,aU,aR,eN,eQ,eV,d9,aW,aM,bh,bG,bI,cond_true,cond_false]
 refine ⟨by decide,by rw [List.length_map,hz]; omega,gC (g:=fun c => .int c.l) (p:=fun c=>JK cols c.p j) (fun c _ X hX=>?_) (fun c _ _ X hX=>⟨_,dI rfl (by decide) (by decide),hX⟩) ?_⟩
 ·refine ⟨_,dI rfl (by decide) (by decide),hc0,?_⟩
  unfold JK at hX
  rw [cZ,cZ] at hX
  by_cases q:c.p / cols≤j / cols
  ·refine yes (Int.ofNat_le.mpr q) ⟨_,dI rfl (by decide) (by decide),hc0.1,?_⟩
   rw [decide_eq_true q,Bool.true_and] at hX
   by_cases q2:c.p % cols≤j % cols
   ·rw [decide_eq_true q2] at hX; exact yes (Int.ofNat_le.mpr q2) hX
   ·rw [decide_eq_false q2] at hX; exact no (fun t=>q2 (Int.ofNat_le.mp t)) hX
  ·rw [decide_eq_false q,Bool.false_and] at hX; exact no (fun t=>q (Int.ofNat_le.mp t)) hX
 have em:[D.int (x % 9)]++(pg.filter fun c=>JK cols c.p j).map (fun c=>D.int c.l)=(x % 9 :: (pg.filter fun c=>JK cols c.p j).map (·.l)).map D.int:=by rw [List.map_cons,List.map_map]; rfl
 have hlen:((pg.filter fun c=>JK cols c.p j).map fun c=>D.int c.l).length≤j:=by rw [List.length_map,← hz]; exact List.length_filter_le _ _
 refine ⟨by show 1+_≤_; omega,_,(congrArg (fun l=>dK .max [.list l]) em).trans (Pq (by exact nofun)),_,rfl,?_⟩
 have P2:=P.new (t:=(x / 9 % ((j:Int)+1)).toNat) x (x / 54)
 have hn:(⟨j,j5 cols j pg x,x / 54⟩:Cel)∈pg.take (x / 9 % ((j:Int)+1)).toNat++⟨j,j5 cols j pg x,x / 54⟩ :: pg.drop (x / 9 % ((j:Int)+1)).toNat:=List.mem_append_right _ aH
 have h0:=P2.lo _ hn
 have h8:=P2.hi _ hn
 have hk:0≤x / 9 % ((j:Int)+1)∧x / 9 % ((j:Int)+1)≤j:=by
  have:=Int.emod_nonneg (x / 9) (show (j:Int)+1≠0 by omega)
  have:=Int.emod_lt_of_pos (x / 9) (show 0 < (j:Int)+1 by omega)
  omega
 show wS G Bw [v,some (.int x),some (.list (dr.map .int)),some (.int rows),some (.int cols),some fr,some (.list (pg.map (xU cols))),some (.int j),some (.int (j5 cols j pg x)),u.spot,u.ink,u.tents,none,none,none,none,none,none,none,none,none,none,none,none,none,none,none] N B R
 generalize j5 cols j pg x=lv at *
 dsimp only [Bw,wS,wX,wL,wA,wO,bH,bF,bC,fP,fX,fC,fQ,fK,b7,cu,cG,bQ,bZ,bR,cD,cF,cg,cz,bY,bT,bU,cA,fJ,f9,gf,fH,fB,fM,fV,fG,gb,fZ,fY,fD,fc,fj,gh,fL,fU,aX,aN,aA,aC,aZ,aB,aY,aP,aV,aU,aR,eN,eQ,eV,d9,aW,aM,bh,bG,bI,cond_true,cond_false]
 refine ⟨⟨by decide,by decide⟩,by omega,hc0,hc0.1,⟨by decide,by decide⟩,⟨hk.1,by rw [List.length_map,hz]; omega,by rw [List.length_map,hz]; omega⟩,?_⟩
 have e2:(pg.map (xU cols)).take (x / 9 % ((j:Int)+1)).toNat++D.list [.int ((j:Int) / cols),.int ((j:Int) % cols),.int lv,.int (x / 54)] :: (pg.map (xU cols)).drop (x / 9 % ((j:Int)+1)).toNat=(pg.take (x / 9 % ((j:Int)+1)).toNat++⟨j,lv,x / 54⟩ :: pg.drop (x / 9 % ((j:Int)+1)).toNat).map (xU cols):=by
  rw [List.map_append,List.map_cons,List.map_take,List.map_drop]; rfl
 rw [e2]
 exact Zq (u:={ u with x:=some (.int x) }) L hj h0 h8 fun u=>k u _ P2
end
noncomputable def xF (k e:Nat):Str:=match jP k with
 | .list l=>(match l[e]? with | some (.str s)=>s | _=>Str.empty)
 | _=>Str.empty
noncomputable def dirL:List (Str × Str):=[("\t"," "),("\t","  "),("  \t","\t"),("\t","  \t")]
noncomputable def cQ (q:Nat):Nat:=if q % 3=2 then 3 else 2
noncomputable def aD (q:Nat):Nat:=if q % 3=1 then 3 else 2
noncomputable def mz (q:Nat):Str × Str:=dirL.getD (cQ q-2+q / 6*2) default
noncomputable def dnS (q p:Nat):Str:=rM (mz q).1 ((p / aD q:Nat):Int)
noncomputable def rtS (q p:Nat):Str:=rM (mz q).2 ((p % aD q:Nat):Int)
noncomputable def ww (q e p:Nat):Str:=xF (q / 3) e++dnS q p++rtS q p
noncomputable def wsOf (x:Str) (s:Int × Int × Int × List Int):Ws:=⟨x,s.1,s.2.1,s.2.2.2,s.2.2.1⟩
noncomputable def zY (q e p:Nat):Ws:=wsOf Str.empty (tY (ww q e p))
noncomputable def R8 (q e p:Nat):Bool:=(ww q e p).cps.toList.all (fun c=>c==32||c==9)&&Nat.ble (xF (q / 3) e).length 100&&Nat.ble (dnS q p).length 100&&Nat.ble (rtS q p).length 100&&Nat.ble (ww q e p).cps.toList.length 300&&Gu (zY q e p)&&Nat.ble (mz q).1.length 1000&&Nat.ble (mz q).2.length 1000
noncomputable def ZS (q e p f r:Nat):Bool:=nW (zY q e p) (zY q f r)==uR (aD q) p r
theorem VL:((List.range 12).all fun q=>(List.range 2).all fun e=>(List.range (cQ q*aD q)).all fun p=>R8 q e p)=true:=by decide +kernel
theorem TJ:((List.range 12).all fun q=>(List.range 2).all fun e=>(List.range 2).all fun f=>(List.range (cQ q*aD q)).all fun p=>(List.range (cQ q*aD q)).all fun r=>ZS q e p f r)=true:=by decide +kernel
theorem WN {a b:Str}:(a++b).cps.toList=a.cps.toList++b.cps.toList:=by
 show (a.cps++b.cps).toList=_
 simp
theorem JV {c:Nat} {r:List Nat} (h1:c≠32) (h2:c≠9):∀ {l:List Nat} {n nt b:Int} {k:List Int},l.all (fun c=>c==32||c==9)=true→dC (l++c :: r) n nt b k=dC l n nt b k:=by
 intro l
 induction l with
 | nil =>
  intro n nt b k _
  show (if c=32 then _ else if c=9 then _ else _)=_
  rw [if_neg h1,if_neg h2]; rfl
 | cons a l ih =>
  intro n nt b k h
  obtain ⟨ha,hl⟩:=bj (show ((a==32||a==9)&&l.all _)=true from h)
  show (if a=32 then dC (l++c :: r) _ _ _ _ else if a=9 then dC (l++c :: r) _ _ _ _ else _)=if a=32 then dC l _ _ _ _ else if a=9 then dC l _ _ _ _ else _
  rw [ih hl,ih hl]
theorem Ad {lv w:Int} (h0:0≤lv) (h8:lv≤8):∃ c r,wg lv w=c :: r∧c≠32∧c≠9∧(c :: r).length≤2:=by
 have h:=(Gn (w:=w) h0 h8).2
 unfold wg at h ⊢
 by_cases q:w / 324 % 3=0
 ·rw [if_pos q] at h ⊢; exact ⟨_,_,rfl,(h _ aH).2.1,(h _ aH).2.2,Nat.le_succ 1⟩
 ·rw [if_neg q] at h ⊢
  by_cases q:w / 324 % 3=1
  ·rw [if_pos q] at h ⊢; exact ⟨_,_,rfl,(h _ aH).2.1,(h _ aH).2.2,Nat.le_refl 2⟩
  ·rw [if_neg q] at h ⊢; exact ⟨_,_,rfl,(h _ aH).2.1,(h _ aH).2.2,Nat.le_refl 2⟩
structure Blk (q e p:Nat):Prop where
 bl:(ww q e p).cps.toList.all (fun c=>c==32||c==9)=true
 f:(xF (q / 3) e).length≤100
 d:(dnS q p).length≤100
 r:(rtS q p).length≤100
 len:(ww q e p).cps.toList.length≤300
 ok:Gu (zY q e p)=true
 z1:(mz q).1.length≤1000
 z2:(mz q).2.length≤1000
theorem HD {q e p:Nat} (hq:q < 12) (he:e < 2) (hp:p < cQ q*aD q):Blk q e p:=by
 have h:=List.all_eq_true.mp (List.all_eq_true.mp (List.all_eq_true.mp VL q (List.mem_range.mpr hq)) e (List.mem_range.mpr he)) p (List.mem_range.mpr hp)
 unfold R8 at h
 obtain ⟨h,h8⟩:=aK h
 obtain ⟨h,h7⟩:=aK h
 obtain ⟨h,h6⟩:=aK h
 obtain ⟨h,h5⟩:=aK h
 obtain ⟨h,h4⟩:=aK h
 obtain ⟨h,h3⟩:=aK h
 obtain ⟨h1,h2⟩:=aK h
 exact ⟨h1,dw h2,dw h3,dw h4,dw h5,h6,dw h7,dw h8⟩
theorem Zc {q e f p r:Nat} (hq:q < 12) (he:e < 2) (hf:f < 2) (hp:p < cQ q*aD q) (hr:r < cQ q*aD q):nW (zY q e p) (zY q f r)=uR (aD q) p r :=
 eq_of_beq (List.all_eq_true.mp (List.all_eq_true.mp (List.all_eq_true.mp (List.all_eq_true.mp (List.all_eq_true.mp TJ q (List.mem_range.mpr hq)) e (List.mem_range.mpr he)) f (List.mem_range.mpr hf)) p (List.mem_range.mpr hp)) r (List.mem_range.mpr hr))
noncomputable def Ai (q e p:Nat) (l w:Int):Ws:=wsOf (ww q e p++tH l w) (tY (ww q e p))
theorem V8 {q e p:Nat} {l w:Int} (B:Blk q e p) (h0:0≤l) (h8:l≤8):Xb (ww q e p++tH l w)=some (Ai q e p l w):=by
 obtain ⟨c,r,ht,n1,n2,hl⟩:=Ad (w:=w) h0 h8
 have e1:(ww q e p++tH l w).cps.toList=(ww q e p).cps.toList++c :: r:=by
  rw [WN,← ht]; rfl
 have e2:tY (ww q e p++tH l w)=tY (ww q e p):=by
  unfold tY
  rw [e1]; exact JV n1 n2 B.bl
 unfold Xb Ai
 rw [e2]
 refine bu ?_
 rw [e1,List.length_append,decide_eq_true]
 have:=B.len
 omega
theorem Ja {q e p:Nat} {l w:Int} (B:Blk q e p):Gu (Ai q e p l w)=true:=B.ok
theorem zQ {q e p f r:Nat} {l w l' w':Int} (hq:q < 12) (he:e < 2) (hf:f < 2) (hp:p < cQ q*aD q) (hr:r < cQ q*aD q):nW (Ai q e p l w) (Ai q f r l' w')=uR (aD q) p r:=Zc hq he hf hp hr
theorem Zx {x y:Ws} (h:nW x y=true):x.n < y.n:=by
 unfold nW at h
 by_cases q:x.n≥y.n
 ·rw [if_pos q] at h; cases h
 ·exact Int.not_le.mp q
structure Pg (q n:Nat) (cel:Nat→Cel):Prop where
 q12:q < 12
 hn:n=cQ q*aD q
 ok:PgOk (aD q) n ((List.range n).map cel)
noncomputable abbrev bz (q:Nat) (cel:Nat→Cel):Rl:=fun a b=>uR (aD q) (cel a).p (cel b).p
noncomputable def lU (q:Nat) (cel:Nat→Cel) (a:Nat):Ws:=Ai q (a % 2) (cel a).p (cel a).l (cel a).w
noncomputable def Yl (cel:Nat→Cel) (a:Nat):Str:=tH (cel a).l (cel a).w
noncomputable def vQ (q n:Nat) (cel:Nat→Cel):D := .list (((List.range n).map cel).map (xU (aD q)))
noncomputable def lst (n:Nat) (f:Nat→D):D := .list ((List.range n).map f)
section
variable {q n:Nat} {cel:Nat→Cel}
theorem Pg.n6 (h:Pg q n cel):n≤6∧2≤aD q∧aD q≤3:=by
 rw [h.hn]
 unfold cQ aD
 split <;> split <;> omega
theorem Pg.mem (h:Pg q n cel) {a:Nat} (ha:a < n):cel a∈(List.range n).map cel:=List.mem_map_of_mem (List.mem_range.mpr ha)
theorem Pg.lt (h:Pg q n cel) {a:Nat} (ha:a < n):(cel a).p < n:=h.ok.lt (h.mem ha)
theorem Pg.ltq (h:Pg q n cel) {a:Nat} (ha:a < n):(cel a).p < cQ q*aD q:=h.hn▸h.lt ha
theorem jQ:eF 0 (n:Int)=(List.range n).map fun i=>D.int ((i:Nat):Int):=by
 unfold eF
 rw [Int.sub_zero,Int.toNat_natCast]
 exact List.map_congr_left fun i _=>by rw [Int.zero_add]
theorem nT {f:Nat→D} {i:Nat} (hn:n≤6) (h:i < n):jW (lst n f) (.int i)=some (f i):=by
 unfold lst
 rw [fW (Int.natCast_nonneg _) (by omega),Int.toNat_natCast,List.getElem?_map,List.getElem?_range h]; rfl
theorem m5 (hn:n≤6):(0:Int)≤0∧(0:Int) < 2 ^ 24∧(n:Int) < 2 ^ 24 ∧ -2 ^ 24 < (n:Int):=by omega
theorem GR:vQ q n cel=lst n fun i=>xU (aD q) (cel i):=by unfold vQ lst; rw [List.map_map]; rfl
theorem eU {f:Nat→D} (hn:n≤6):((List.range n).map f).length≤16000000:=by rw [List.length_map,List.length_range]; omega
theorem Sd {d:Int} {e:Int} (he:0≤e) (he2:e < 2):jW (jP (d / 3 % 4)) (.int e)=some (.str (xF ((d % 12).toNat / 3) e.toNat)):=by
 have hk:d / 3 % 4=(((d % 12).toNat / 3:Nat):Int):=by omega
 have h4:(d % 12).toNat / 3 < 4:=by omega
 rw [hk]
 generalize (d % 12).toNat / 3=k at h4
 rcases (by omega:k=0∨k=1∨k=2∨k=3) with rfl | rfl | rfl | rfl <;> rcases (by omega:e=0∨e=1) with rfl | rfl <;> rfl
theorem Z3 {d:Int}:jW (.list [.list [.str "\t",.str " "],.list [.str "\t",.str "  "],.list [.str "  \t",.str "\t"],.list [.str "\t",.str "  \t"]]) (.int ((gJ d:Int)-2+d / 6 % 2*2))=some (.list [.str (mz (d % 12).toNat).1,.str (mz (d % 12).toNat).2]):=by
 have e1:gJ d=cQ (d % 12).toNat:=by
  unfold gJ cQ
  have:(d % 3=2)=((d % 12).toNat % 3=2):=propext (by omega)
  simp only [this]
 have e2:d / 6 % 2=(((d % 12).toNat / 6:Nat):Int):=by omega
 have hq:(d % 12).toNat < 12:=by omega
 rw [e1,e2]
 generalize (d % 12).toNat=q at hq
 unfold mz cQ
 rcases (by omega:q / 6=0∨q / 6=1) with h | h <;> rw [h] <;> split <;> rfl
theorem P0 {d:Int}:gJ d=cQ (d % 12).toNat∧zL d=aD (d % 12).toNat:=by
 have h1:(d % 3=2)=((d % 12).toNat % 3=2):=propext (by omega)
 have h2:(d % 3=1)=((d % 12).toNat % 3=1):=propext (by omega)
 unfold gJ cQ zL aD
 simp only [h1,h2]
 exact ⟨trivial,trivial⟩
structure JB where
 (typed down right line under below above order levels sweep least greatest turned leads:Option D)
noncomputable def kB (v:Option D) (dr:List Int) (rows cols:Nat) (fr pg:D) (u:JA) (lines:Option D) (w:JB):Kn:=[v,u.x,some (.list (dr.map .int)),some (.int rows),some (.int cols),some fr,some pg,u.place,u.level,u.spot,u.ink,u.tents,lines,w.typed,w.down,w.right,w.line,w.under,w.below,w.above,w.order,w.levels,w.sweep,w.least,w.greatest,w.turned,w.leads]
noncomputable def jB:JB:=⟨none,none,none,none,none,none,none,none,none,none,none,none,none,none⟩
variable {G:Ctx} {N B:Kn→Prop} {R:D→Prop} {v:Option D} {dr:List Int} {rows:Nat} {fr:D} {u:JA} {w:JB}
theorem seg_b1 (L:LG G) (P:Pg q n cel) (h:wS G Tz (kB v dr rows (aD q) fr (vQ q n cel) u (some (.range 0 n)) { w with typed:=some (lst n fun i => .str (Yl cel i)) }) N B R):wS G M7 (kB v dr rows (aD q) fr (vQ q n cel) u none w) N B R:=by
 have hz:=P.n6.1
 have hl:(((List.range n).map cel).map (xU (aD q))).length=n:=by rw [List.length_map,List.length_map,List.length_range]
 dsimp only [M7,lB_1,kB,vQ,q7,wS,wX,wL,wA,wO,bH,bF,bC,fP,fX,fC,fQ,fK,b7,cu,cG,bQ,bZ,bR,cD,cF,cg,cz,bY,bT,bU,cA,fJ,f9,gf,fH,fB,fM,fV,fG,gb,fZ,fY,fD,fc,fj,gh,fL,fU,aX,aN,aA,aC,aZ,aB,aY,aP,aV,aU,aR,eN,eQ,eV,d9,aW,aM,bh,bG,bI,cond_true,cond_false]
 rw [hl]
 refine ⟨by omega,by omega,dB (g:=fun c => .str (tH c.l c.w)) (fun _ _ _ h=>h) (fun c hc X hX=>⟨_,dI rfl (by decide) (by decide),_,dI rfl (by decide) (by decide),_,L.typed (P.ok.lo c hc) (P.ok.hi c hc),hX⟩) ?_⟩
 rw [show ((List.range n).map cel).map (fun c=>D.str (tH c.l c.w))=(List.range n).map fun i => .str (Yl cel i) by rw [List.map_map]; rfl]
 exact h
theorem YZ {d0:Int} (hd:(dr.map D.int)[0]? = some (.int d0)) (hq:q=(d0 % 12).toNat) (h:wS G WR (kB v dr (gJ d0) (aD q) fr (vQ q n cel) u (some (.range 0 n)) { w with down:=some (.str (mz q).1),right:=some (.str (mz q).2) }) N B R):wS G Tz (kB v dr (gJ d0) (aD q) fr (vQ q n cel) u (some (.range 0 n)) w) N B R:=by
 dsimp only [Tz,kB,wS,wX,wL,wA,wO,bH,bF,bC,fP,fX,fC,fQ,fK,b7,cu,cG,bQ,bZ,bR,cD,cF,cg,cz,bY,bT,bU,cA,fJ,f9,gf,fH,fB,fM,fV,fG,gb,fZ,fY,fD,fc,fj,gh,fL,fU,aX,aN,aA,aC,aZ,aB,aY,aP,aV,aU,aR,eN,eQ,eV,d9,aW,aM,bh,bG,bI,cond_true,cond_false]
 refine ⟨_,(fW (by decide) (by decide)).trans hd,⟨by decide,by decide⟩,by decide,by omega,_,Z3,?_⟩
 subst hq
 exact h
theorem Y6 (L:LG G) (P:Pg q n cel) {k:Int} (hk:k / 3=q / 3) (hfr:∀ {e:Int},0≤e→e < 2→jW fr (.int e)=some (.str (xF (q / 3) e.toNat))) (h:wS G Ud (kB v dr rows (aD q) fr (vQ q n cel) u (some (.range 0 n)) { w with typed:=some (lst n fun i => .str (Yl cel i)),down:=some (.str (mz q).1),right:=some (.str (mz q).2),leads:=some (lst n fun i => .ws (lU q cel i)) }) N B R) :
  wS G WR (kB v dr rows (aD q) fr (vQ q n cel) u (some (.range 0 n)) { w with typed:=some (lst n fun i => .str (Yl cel i)),down:=some (.str (mz q).1),right:=some (.str (mz q).2) }) N B R:=by
 have hz:=P.n6.1
 dsimp only [WR,kB,wS,wX,wL,wA,wO,bH,bF,bC,fP,fX,fC,fQ,fK,b7,cu,cG,bQ,bZ,bR,cD,cF,cg,cz,bY,bT,bU,cA,fJ,f9,gf,fH,fB,fM,fV,fG,gb,fZ,fY,fD,fc,fj,gh,fL,fU,aX,aN,aA,aC,aZ,aB,aY,aP,aV,aU,aR,eN,eQ,eV,d9,aW,aM,bh,bG,bI,cond_true,cond_false]
 refine ⟨m5 hz,?_⟩
 rw [jQ]
 refine ⟨eU hz,dB (g:=fun i => .ws (lU q cel i)) (fun _ _ _ h=>h) (fun i hi X hX=>?_) h⟩
 have hi:i < n:=List.mem_range.mp hi
 have Bk:=HD P.q12 (Nat.mod_lt i (by decide:0 < 2)) (P.ltq hi)
 have hc:=P.mem hi
 have pg:=(congrArg (jW · (.int (i:Nat))) (GR (q:=q) (n:=n) (cel:=cel))).trans (nT hz hi)
 have hm:((i:Int) % 2).toNat=i % 2:=by omega
 refine ⟨by decide,_,hfr (by omega) (by omega),_,pg,_,dI rfl (by decide) (by decide),?_⟩
 rw [hm]
 have hp6:=P.lt hi
 have d6:(cel i).p / aD q≤1000∧(cel i).p % aD q≤1000:=⟨aF (Nat.div_le_self _ _) (by omega),aF (Nat.mod_le _ _) (by omega)⟩
 have tl:(Yl cel i).length≤2:=by
  obtain ⟨c,r,e,_,_,h2⟩:=Ad (w:=(cel i).w) (P.ok.lo _ hc) (P.ok.hi _ hc)
  show (wg _ _).length≤2
  rw [e]; exact h2
 have bf:=Bk.f
 have bd:=Bk.d
 have br:=Bk.r
 have sa:∀ a b:Str,(a++b).length=a.length+b.length:=fun a b=>Array.size_append
 refine ⟨⟨by omega,by omega,Bk.z1⟩,?_⟩
 refine ⟨aF (Nat.add_le_add bf bd) (by decide),_,pg,_,dI rfl (by decide) (by decide),⟨by omega,by omega,Bk.z2⟩,?_⟩
 refine ⟨by rw [sa]; exact aF (Nat.add_le_add (Nat.add_le_add bf bd) br) (by decide),_,nT hz hi,?_⟩
 refine ⟨by rw [sa,sa]; exact aF (Nat.add_le_add (Nat.add_le_add (Nat.add_le_add bf bd) br) tl) (by decide),_,L.ws (V8 Bk (P.ok.lo _ hc) (P.ok.hi _ hc)),hX⟩
theorem ZF (L:LG G) (P:Pg q n cel) (hl:w.leads=some (lst n fun i => .ws (lU q cel i))) (h:wS G Uw (kB v dr rows (aD q) fr (vQ q n cel) u (some (.range 0 n)) { w with under:=some (lst n fun a=>lst n fun b => .bool (bz q cel a b)) }) N B R) :
  wS G Ud (kB v dr rows (aD q) fr (vQ q n cel) u (some (.range 0 n)) w) N B R:=by
 have hz:=P.n6.1
 dsimp only [Ud,kB,wS,wX,wL,wA,wO,bH,bF,bC,fP,fX,fC,fQ,fK,b7,cu,cG,bQ,bZ,bR,cD,cF,cg,cz,bY,bT,bU,cA,fJ,f9,gf,fH,fB,fM,fV,fG,gb,fZ,fY,fD,fc,fj,gh,fL,fU,aX,aN,aA,aC,aZ,aB,aY,aP,aV,aU,aR,eN,eQ,eV,d9,aW,aM,bh,bG,bI,cond_true,cond_false]
 rw [hl]
 refine ⟨m5 hz,?_⟩
 rw [jQ]
 refine ⟨eU hz,dB (g:=fun a=>lst n fun b => .bool (bz q cel a b)) (fun _ _ _ h=>h) (fun a ha X hX=>?_) (by rw [hl] at h; exact h)⟩
 have ha:a < n:=List.mem_range.mp ha
 refine ⟨m5 hz,eU hz,dB (g:=fun b => .bool (bz q cel a b)) (fun _ _ _ h=>h) (fun b hb X hX=>?_) hX⟩
 have hb:b < n:=List.mem_range.mp hb
 have Ba:=HD P.q12 (Nat.mod_lt a (by decide:0 < 2)) (P.ltq ha)
 have Bb:=HD P.q12 (Nat.mod_lt b (by decide:0 < 2)) (P.ltq hb)
 refine ⟨_,nT hz ha,_,nT hz hb,_,L.less (Ja Ba) (Ja Bb),?_⟩
 have e:nW (lU q cel a) (lU q cel b)=bz q cel a b:=zQ P.q12 (Nat.mod_lt a (by decide:0 < 2)) (Nat.mod_lt b (by decide:0 < 2)) (P.ltq ha) (P.ltq hb)
 rw [e]; exact hX
theorem Fy {f:D→(List D→Prop)→Prop}:∀ {items:List D} {Q:List D→Prop},(∀ d∈items,∀ P:List D→Prop,P []→f d P)→Q []→Js f items Q
 | [],Q,_,h=>h
 | d :: ds,Q,hf,h=>hf d aH _ (Fy (fun d hd=>hf d (cJ _ hd)) h)
theorem Ys (P:Pg q n cel) (hu:w.under=some (lst n fun a=>lst n fun b => .bool (bz q cel a b))) (h:wS G Uj (kB v dr rows (aD q) fr (vQ q n cel) u (some (.range 0 n)) w) N B R) :
  wS G Uw (kB v dr rows (aD q) fr (vQ q n cel) u (some (.range 0 n)) w) N B R:=by
 have hz:=P.n6.1
 dsimp only [Uw,kB,wS,wX,wL,wA,wO,bH,bF,bC,fP,fX,fC,fQ,fK,b7,cu,cG,bQ,bZ,bR,cD,cF,cg,cz,bY,bT,bU,cA,fJ,f9,gf,fH,fB,fM,fV,fG,gb,fZ,fY,fD,fc,fj,gh,fL,fU,aX,aN,aA,aC,aZ,aB,aY,aP,aV,aU,aR,eN,eQ,eV,d9,aW,aM,bh,bG,bI,cond_true,cond_false] at h ⊢
 rw [hu] at h ⊢
 refine ⟨eU hz,Fy (fun d hd X hX=>?_) ⟨by decide,_,Du (l:=[]) (m:=[]),non rfl h⟩⟩
 obtain ⟨a,ha,rfl⟩:=List.mem_map.mp hd
 refine gC (f:=fun b=>D.bool (bz q cel a b)) (g:=fun _=>D.none) (p:=fun _=>false) (fun b _ X hX=>?_) (fun _ _ h=>nomatch h) ?_
 ·show cond (!(bz q cel a b==true)) (cond (!(bz q cel a b==false)) (X (.bool true)) (X (.bool false))) (X (.bool false))
  generalize bz q cel a b=t
  cases t <;> exact hX
 ·rw [List.filter_eq_nil_iff.mpr fun _ _=>by decide]; exact hX
theorem YT (P:Pg q n cel) (hu:w.under=some (lst n fun a=>lst n fun b => .bool (bz q cel a b))) (h:wS G Vy (kB v dr rows (aD q) fr (vQ q n cel) u (some (.range 0 n)) { w with below:=some (lst n fun l => .list ((ph n (bz q cel) l).map fun b => .int (b:Nat))) }) N B R) :
  wS G Uj (kB v dr rows (aD q) fr (vQ q n cel) u (some (.range 0 n)) w) N B R:=by
 have hz:=P.n6.1
 dsimp only [Uj,kB,wS,wX,wL,wA,wO,bH,bF,bC,fP,fX,fC,fQ,fK,b7,cu,cG,bQ,bZ,bR,cD,cF,cg,cz,bY,bT,bU,cA,fJ,f9,gf,fH,fB,fM,fV,fG,gb,fZ,fY,fD,fc,fj,gh,fL,fU,aX,aN,aA,aC,aZ,aB,aY,aP,aV,aU,aR,eN,eQ,eV,d9,aW,aM,bh,bG,bI,cond_true,cond_false] at h ⊢
 rw [hu] at h ⊢
 refine ⟨m5 hz,?_⟩
 rw [jQ]
 refine ⟨eU hz,dB (g:=fun l => .list ((ph n (bz q cel) l).map fun b => .int (b:Nat))) (fun _ _ _ h=>h) (fun l hl X hX=>?_) h⟩
 have hl:l < n:=List.mem_range.mp hl
 refine ⟨m5 hz,eU hz,gC (g:=fun b => .int (b:Nat)) (p:=fun b=>bz q cel b l) (fun b hb X hX=>?_) (fun _ _ _ _ h=>h) hX⟩
 have hb:b < n:=List.mem_range.mp hb
 exact ⟨_,nT hz hb,_,nT hz hl,pick hX⟩
theorem YC (P:Pg q n cel) (hu:w.under=some (lst n fun a=>lst n fun b => .bool (bz q cel a b))) (h:N (kB v dr rows (aD q) fr (vQ q n cel) u (some (.range 0 n)) { w with above:=some (lst n fun l => .list ((o8 n (bz q cel) l).map fun b => .int (b:Nat))) })) :
  wS G Vy (kB v dr rows (aD q) fr (vQ q n cel) u (some (.range 0 n)) w) N B R:=by
 have hz:=P.n6.1
 dsimp only [Vy,kB,wS,wX,wL,wA,wO,bH,bF,bC,fP,fX,fC,fQ,fK,b7,cu,cG,bQ,bZ,bR,cD,cF,cg,cz,bY,bT,bU,cA,fJ,f9,gf,fH,fB,fM,fV,fG,gb,fZ,fY,fD,fc,fj,gh,fL,fU,aX,aN,aA,aC,aZ,aB,aY,aP,aV,aU,aR,eN,eQ,eV,d9,aW,aM,bh,bG,bI,cond_true,cond_false] at h ⊢
 rw [hu] at h ⊢
 refine ⟨m5 hz,?_⟩
 rw [jQ]
 refine ⟨eU hz,dB (g:=fun l => .list ((o8 n (bz q cel) l).map fun b => .int (b:Nat))) (fun _ _ _ h=>h) (fun l hl X hX=>?_) h⟩
 have hl:l < n:=List.mem_range.mp hl
 refine ⟨m5 hz,eU hz,gC (g:=fun b => .int (b:Nat)) (p:=fun b=>bz q cel l b) (fun b hb X hX=>?_) (fun _ _ _ _ h=>h) hX⟩
 have hb:b < n:=List.mem_range.mp hb
 exact ⟨_,nT hz hl,_,nT hz hb,pick hX⟩
end
noncomputable def GP (n:Nat) (R:Rl) (v:Nat→Int) (out:List Nat):Nat→Nat→Int
 | 0=>v
 | s+1=>HY n R (GP n R v out s) out
section
variable {q n:Nat} {cel:Nat→Cel} {out:List Nat}
theorem ltP_of {w p r:Nat}:uR w p r=true↔JK w p r=true∧p≠r:=by
 unfold uR JK
 rw [Bool.and_eq_true,Bool.not_eq_true',iW,decide_eq_false_iff_not]
theorem Vp (P:Pg q n cel):Mon n (bz q cel) (fun a=>(cel a).l) :=
 ⟨fun a ha=>P.ok.lo _ (P.mem ha),fun a ha=>P.ok.hi _ (P.mem ha),fun a b ha hb hr=>P.ok.up _ (P.mem ha) _ (P.mem hb) (ltP_of.mp hr).1⟩
theorem wB (P:Pg q n cel) (T:Top n (bz q cel) out):∀ s,Mon n (bz q cel) (GP n (bz q cel) (fun a=>(cel a).l) out s)
 | 0=>Vp P
 | s+1=>(Jw T (wB P T s)).mon
theorem zE (P:Pg q n cel) (T:Top n (bz q cel) out) (s:Nat):Swept n (bz q cel) (GP n (bz q cel) (fun a=>(cel a).l) out s) (GP n (bz q cel) (fun a=>(cel a).l) out (s+1)):=Jw T (wB P T s)
theorem YS {out:List Int} (P:Pg q n cel) (hp:out.Perm ((List.range n).map fun i=>((i:Nat):Int))) (ho:out.Pairwise fun x y => -(lU q cel x.toNat).n ≤ -(lU q cel y.toNat).n) :
  ∃ o:List Nat,out=o.map (fun i=>((i:Nat):Int))∧Top n (bz q cel) o:=by
 have e:out=(out.map Int.toNat).map fun i=>((i:Nat):Int):=by
  rw [List.map_map]
  conv=>lhs; rw [← List.map_id out]
  refine List.map_congr_left fun x hx=>?_
  obtain ⟨i,_,rfl⟩:=List.mem_map.mp (hp.mem_iff.mp hx)
  rfl
 have hp2:(out.map Int.toNat).Perm (List.range n):=by
  have:=hp.map Int.toNat
  rw [List.map_map,show (Int.toNat∘fun i:Nat=>(i:Int))=id from rfl,List.map_id] at this
  exact this
 refine ⟨_,e,fun a ha=>hp2.mem_iff.mpr (List.mem_range.mpr ha),fun a ha=>List.mem_range.mp (hp2.mem_iff.mp ha),hp2.nodup_iff.mpr List.nodup_range,?_,fun a=>?_⟩
 ·rw [List.pairwise_map]
  refine ho.imp_of_mem fun {x y} hx hy h=>?_
  have hx:=List.mem_range.mp (hp2.mem_iff.mp (List.mem_map_of_mem hx))
  have hy:=List.mem_range.mp (hp2.mem_iff.mp (List.mem_map_of_mem hy))
  cases hr:bz q cel x.toNat y.toNat with
  | false=>rfl
  | true =>
   have hl:nW (lU q cel x.toNat) (lU q cel y.toNat)=true:=(zQ P.q12 (Nat.mod_lt _ (by decide:0 < 2)) (Nat.mod_lt _ (by decide:0 < 2)) (P.ltq hx) (P.ltq hy)).trans hr
   have:=Zx hl
   omega
 ·cases hr:bz q cel a a with
  | false=>rfl
  | true=>exact absurd rfl (ltP_of.mp hr).2
noncomputable def Gs (n:Nat) (cel:Nat→Cel) (p:Nat):Nat:=((List.range n).find? fun a=>(cel a).p==p).getD 0
theorem Pg.inj (P:Pg q n cel) {a b:Nat} (ha:a < n) (hb:b < n) (h:(cel a).p=(cel b).p):a=b:=by
 have nd:(((List.range n).map cel).map (·.p)).Nodup:=P.ok.perm.nodup_iff.mpr List.nodup_range
 rw [List.map_map,List.nodup_iff_pairwise_ne,List.pairwise_map] at nd
 rcases Nat.lt_trichotomy a b with q | q | q
 ·have:=List.pairwise_iff_getElem.mp nd a b (by rw [List.length_range]; exact ha) (by rw [List.length_range]; exact hb) q
  rw [List.getElem_range,List.getElem_range] at this
  exact absurd h this
 ·exact q
 ·have:=List.pairwise_iff_getElem.mp nd b a (by rw [List.length_range]; exact hb) (by rw [List.length_range]; exact ha) q
  rw [List.getElem_range,List.getElem_range] at this
  exact absurd h.symm this
theorem vh (P:Pg q n cel) {p:Nat} (hp:p < n):Gs n cel p < n∧(cel (Gs n cel p)).p=p:=by
 have hm:p∈((List.range n).map cel).map (·.p):=P.ok.perm.mem_iff.mpr (List.mem_range.mpr hp)
 obtain ⟨c,hc,e⟩:=List.mem_map.mp hm
 obtain ⟨a,ha,rfl⟩:=List.mem_map.mp hc
 unfold Gs
 cases hf:(List.range n).find? fun a=>(cel a).p==p with
 | none=>exact absurd e (by have:=List.find?_eq_none.mp hf a ha; simpa using this)
 | some b =>
  have h1:=List.find?_some hf
  have h2:=List.mem_of_find?_eq_some hf
  exact ⟨List.mem_range.mp h2,by simpa using h1⟩
theorem plc (P:Pg q n cel):Plc n (bz q cel) (uR (aD q)) (Gs n cel) (fun a=>(cel a).p) :=
 ⟨fun r hr=>(vh P hr).1,fun a ha=>P.lt ha,fun a ha=>P.inj (vh P (P.lt ha)).1 ha (vh P (P.lt ha)).2,fun r hr=>(vh P hr).2,fun a b _ _=>rfl⟩
noncomputable def yR (p:Nat):Nat:=p % 2*3+p / 2
noncomputable def Te (p:Nat):Nat:=p % 3*2+p / 3
theorem Zt:((List.range 6).all fun p=>Nat.blt (yR p) 6&&Nat.blt (Te p) 6&&Nat.beq (yR (Te p)) p&&Nat.beq (Te (yR p)) p&&Nat.beq (yR p / 3+yR p % 3) (p / 2+p % 2)&&Nat.beq (5-yR p) (yR (5-p))&&(List.range 6).all fun r=>uR 2 p r==uR 3 (yR p) (yR r))=true:=by decide +kernel
structure TrIs (p:Nat):Prop where
 t:yR p < 6
 r:Te p < 6
 tr:yR (Te p)=p
 rt:Te (yR p)=p
 rk:yR p / 3+yR p % 3=p / 2+p % 2
 op:5-yR p=yR (5-p)
 lt:∀ r,r < 6→uR 2 p r=uR 3 (yR p) (yR r)
theorem vW {p:Nat} (hp:p < 6):TrIs p:=by
 have h:=List.all_eq_true.mp Zt p (List.mem_range.mpr hp)
 obtain ⟨h,h7⟩:=aK h
 obtain ⟨h,h6⟩:=aK h
 obtain ⟨h,h5⟩:=aK h
 obtain ⟨h,h4⟩:=aK h
 obtain ⟨h,h3⟩:=aK h
 obtain ⟨h1,h2⟩:=aK h
 exact ⟨dw h1,dw h2,Nat.eq_of_beq_eq_true h3,Nat.eq_of_beq_eq_true h4,Nat.eq_of_beq_eq_true h5,Nat.eq_of_beq_eq_true h6,fun r hr=>eq_of_beq (List.all_eq_true.mp h7 r (List.mem_range.mpr hr))⟩
theorem Plc.tr {R:Rl} {ln pl:Nat→Nat} (P:Plc 6 R (uR 2) ln pl):Plc 6 R (uR 3) (fun p=>ln (Te p)) (fun a=>yR (pl a)) :=
 ⟨fun r hr=>P.l _ (vW hr).r,fun a ha=>(vW (P.p a ha)).t,fun a ha=>by show ln (Te (yR (pl a)))=a; rw [(vW (P.p a ha)).rt,P.lp a ha],fun r hr=>by show yR (pl (ln (Te r)))=r; rw [P.pq _ (vW hr).r,(vW hr).tr],fun a b ha hb=>by rw [P.r a b ha hb,(vW (P.p a ha)).lt _ (P.p b hb)]⟩
theorem Yu (P:Pg q n cel) (T:Top n (bz q cel) out) {a b:Nat} (ha:a < n) (hb:b < n) (h:(cel b).p=n-1-(cel a).p):GP n (bz q cel) (fun a=>(cel a).l) out ((cel a).p / aD q+(cel a).p % aD q+1) a+(cel b).l=8:=by
 have L:=plc P
 have hla:Gs n cel (cel a).p=a:=L.lp a ha
 have hlb:Gs n cel (cel b).p=b:=L.lp b hb
 have W:=fun s=>L.swept (zE P T s)
 have hpa:=P.lt ha
 rcases (by unfold aD cQ at *; split <;> split <;> omega:(aD q=2∧cQ q=2)∨(aD q=3∧cQ q=2)∨(aD q=2∧cQ q=3)) with ⟨h1,h2⟩ | ⟨h1,h2⟩ | ⟨h1,h2⟩
 ·obtain rfl:n=4:=by rw [P.hn,h1,h2]
  rw [h1] at W ⊢
  have:=Zi (V:=fun s p=>GP 4 (bz q cel) (fun a=>(cel a).l) out s (Gs 4 cel p)) (by have:=L.mon (Vp P); rw [h1] at this; exact this) (fun s _=>W s) (cel a).p hpa
  rw [hla,← h,hlb] at this; exact this
 ·obtain rfl:n=6:=by rw [P.hn,h1,h2]
  rw [h1] at W ⊢
  have:=Pu (V:=fun s p=>GP 6 (bz q cel) (fun a=>(cel a).l) out s (Gs 6 cel p)) (by have:=L.mon (Vp P); rw [h1] at this; exact this) (fun s _=>W s) (cel a).p hpa
  rw [hla,← h,hlb] at this; exact this
 ·obtain rfl:n=6:=by rw [P.hn,h1,h2]
  rw [h1] at L
  have W:=fun s=>L.tr.swept (zE P T s)
  rw [h1]
  have t:=vW hpa
  have:=Pu (V:=fun s p=>GP 6 (bz q cel) (fun a=>(cel a).l) out s (Gs 6 cel (Te p))) (L.tr.mon (Vp P)) (fun s _=>W s) (yR (cel a).p) t.t
  rw [t.rt,t.rk,t.op,← h,(vW (P.lt hb)).rt,hla,hlb] at this; exact this
end
structure JC where
 (v fr down right under leads:Option D)
 u:JA
structure JD where
 (line sweep least greatest turned:Option D)
noncomputable def kW (c:JC) (dr:List Int) (q n:Nat) (cel:Nat→Cel) (ord:List Nat) (ty lv:D) (d:JD):Kn:=[c.v,c.u.x,some (.list (dr.map .int)),some (.int (cQ q:Nat)),some (.int (aD q:Nat)),c.fr,some (vQ q n cel),c.u.place,c.u.level,c.u.spot,c.u.ink,c.u.tents,some (.range 0 n),some ty,c.down,c.right,d.line,c.under,
 some (lst n fun l => .list ((ph n (bz q cel) l).map fun b => .int (b:Nat))),some (lst n fun l => .list ((o8 n (bz q cel) l).map fun b => .int (b:Nat))),some (.list (ord.map fun i=>D.int ((i:Nat):Int))),some lv,d.sweep,d.least,d.greatest,d.turned,c.leads]
noncomputable def kW0 (c:JC) (dr:List Int) (q n:Nat) (cel:Nat→Cel) (ord:List Nat) (ty:D):Kn:=[c.v,c.u.x,some (.list (dr.map .int)),some (.int (cQ q:Nat)),some (.int (aD q:Nat)),c.fr,some (vQ q n cel),c.u.place,c.u.level,c.u.spot,c.u.ink,c.u.tents,some (.range 0 n),some ty,c.down,c.right,none,c.under,
 some (lst n fun l => .list ((ph n (bz q cel) l).map fun b => .int (b:Nat))),some (lst n fun l => .list ((o8 n (bz q cel) l).map fun b => .int (b:Nat))),some (.list (ord.map fun i=>D.int ((i:Nat):Int))),none,none,none,none,none,c.leads]
theorem m16 {α:Type} {l:List α} {f:α→D} (h:l.length≤6):(l.map f).length≤16000000:=by rw [List.length_map]; exact aF h (by decide)
theorem m17 {α:Type} {l:List α} {f:α→D} {d:D} (h:l.length≤6):[d].length+(l.map f).length≤16000000:=by rw [List.length_map]; exact aF (Nat.add_le_add_left h 1) (by decide)
theorem JL {n l:Nat} {f:Nat→D} {d:D} (h:n≤6):(((List.range n).map f).take l).length+[d].length≤16000000∧(((List.range n).map f).take l++[d]).length+(((List.range n).map f).drop (l+1)).length≤16000000:=by
 rw [List.length_append,List.length_take,List.length_drop,List.length_map,List.length_range]
 show _+1≤_∧_+1+_≤_
 omega
theorem int_s {l n:Nat} (hl:l < n) (h:n≤6):(l:Int) < 2 ^ 62∧0≤(l:Int)+1∧(l:Int)+1 < 2 ^ 62∧((l:Int)+1).toNat=l+1:=by omega
theorem YB {a b c:D}:mK (.list [a,b,c]) (some 1) (some 2)=some (.list [b]):=rfl
theorem set_r {n l:Nat} {f:Nat→D} {x:D} (h:l < n):((List.range n).map f).take l++[x]++((List.range n).map f).drop (l+1)=(List.range n).map fun i=>if i=l then x else f i:=by
 have e:=List.set_eq_take_append_cons_drop (l:=(List.range n).map f) (i:=l) (a:=x)
 rw [if_pos (by rw [List.length_map,List.length_range]; exact h)] at e
 rw [List.append_assoc,List.singleton_append,← e]
 refine List.ext_getElem (by simp) fun i h1 h2=>?_
 rw [List.getElem_set]
 simp only [List.getElem_map,List.getElem_range]
 by_cases q:l=i
 ·rw [if_pos q,if_pos q.symm]
 ·rw [if_neg q,if_neg fun t=>q t.symm]
section
variable {q n:Nat} {cel:Nat→Cel} {G:Ctx} {N B:Kn→Prop} {R:D→Prop} {c:JC} {dr:List Int} {ord:List Nat} {ty:D} {d:JD} {h:Nat→Int} {l:Nat} {s:Int}
theorem turn_c (L:LG G) (P:Pg q n cel) (hd:dr.length=7) (hl:l < n) (b:0≤Do n (bz q cel) h l∧Do n (bz q cel) h l≤h l∧h l≤Dm n (bz q cel) h l∧Dm n (bz q cel) h l≤8)
  (k:∀ d':JD,N (kW c dr q n cel ord ty (lst n fun i => .int (stp n (bz q cel) h l i)) { d' with sweep:=some (.int s) })):wS G sH (kW c dr q n cel ord ty (lst n fun i => .int (h i)) { d with line:=some (.int l),sweep:=some (.int s) }) N B R:=by
 have hz:=P.n6.1
 have lb:(ph n (bz q cel) l).length≤6:=aF (List.length_filter_le _ _) (by rw [List.length_range]; exact hz)
 have la:(o8 n (bz q cel) l).length≤6:=aF (List.length_filter_le _ _) (by rw [List.length_range]; exact hz)
 dsimp only [sH,kW,q7,wS,wX,wL,wA,wO,bH,bF,bC,fP,fX,fC,fQ,fK,b7,cu,cG,bQ,bZ,bR,cD,cF,cg,cz,bY,bT,bU,cA,fJ,f9,gf,fH,fB,fM,fV,fG,gb,fZ,fY,fD,fc,fj,gh,fL,fU,aX,aN,aA,aC,aZ,aB,aY,aP,aV,aU,aR,eN,eQ,eV,d9,aW,aM,bh,bG,bI,cond_true,cond_false]
 refine ⟨_,nT hz hl,?_⟩
 dsimp only [wS,wX,wL,wA,wO,bH,bF,bC,fP,fX,fC,fQ,fK,b7,cu,cG,bQ,bZ,bR,cD,cF,cg,cz,bY,bT,bU,cA,fJ,f9,gf,fH,fB,fM,fV,fG,gb,fZ,fY,fD,fc,fj,gh,fL,fU,aX,aN,aA,aC,aZ,aB,aY,aP,aV,aU,aR,eN,eQ,eV,d9,aW,aM,bh,bG,bI,cond_true,cond_false]
 refine ⟨m16 lb,dB (g:=fun b => .int (h b)) (fun _ _ _ h=>h) (fun b hb X hX=>⟨_,nT hz (mem_bel.mp hb).1,hX⟩) ?_⟩
 have e1:[D.int 0]++(ph n (bz q cel) l).map (fun b=>D.int (h b))=(0 :: (ph n (bz q cel) l).map h).map D.int:=by rw [List.map_cons,List.map_map]; rfl
 refine ⟨m17 lb,_,(congrArg (fun x=>dK .max [.list x]) e1).trans (Pq (by exact nofun)),?_⟩
 dsimp only [xn,q7,wS,wX,wL,wA,wO,bH,bF,bC,fP,fX,fC,fQ,fK,b7,cu,cG,bQ,bZ,bR,cD,cF,cg,cz,bY,bT,bU,cA,fJ,f9,gf,fH,fB,fM,fV,fG,gb,fZ,fY,fD,fc,fj,gh,fL,fU,aX,aN,aA,aC,aZ,aB,aY,aP,aV,aU,aR,eN,eQ,eV,d9,aW,aM,bh,bG,bI,cond_true,cond_false]
 refine ⟨_,nT hz hl,?_⟩
 dsimp only [wS,wX,wL,wA,wO,bH,bF,bC,fP,fX,fC,fQ,fK,b7,cu,cG,bQ,bZ,bR,cD,cF,cg,cz,bY,bT,bU,cA,fJ,f9,gf,fH,fB,fM,fV,fG,gb,fZ,fY,fD,fc,fj,gh,fL,fU,aX,aN,aA,aC,aZ,aB,aY,aP,aV,aU,aR,eN,eQ,eV,d9,aW,aM,bh,bG,bI,cond_true,cond_false]
 refine ⟨m16 la,dB (g:=fun b => .int (h b)) (fun _ _ _ h=>h) (fun b hb X hX=>⟨_,nT hz (mem_abo.mp hb).1,hX⟩) ?_⟩
 have e2:[D.int 8]++(o8 n (bz q cel) l).map (fun b=>D.int (h b))=(8 :: (o8 n (bz q cel) l).map h).map D.int:=by rw [List.map_cons,List.map_map]; rfl
 refine ⟨m17 la,_,(congrArg (fun x=>dK .min [.list x]) e2).trans (ZV (by exact nofun)),?_⟩
 dsimp only [xG,q7,wS,wX,wL,wA,wO,bH,bF,bC,fP,fX,fC,fQ,fK,b7,cu,cG,bQ,bZ,bR,cD,cF,cg,cz,bY,bT,bU,cA,fJ,f9,gf,fH,fB,fM,fV,fG,gb,fZ,fY,fD,fc,fj,gh,fL,fU,aX,aN,aA,aC,aZ,aB,aY,aP,aV,aU,aR,eN,eQ,eV,d9,aW,aM,bh,bG,bI,cond_true,cond_false]
 change 0≤ju (0 :: (ph n (bz q cel) l).map h)∧ju (0 :: (ph n (bz q cel) l).map h)≤h l∧h l≤je (8 :: (o8 n (bz q cel) l).map h)∧je (8 :: (o8 n (bz q cel) l).map h)≤8 at b
 refine ⟨_,nT hz hl,_,(fW (by decide) (by decide)).trans (getInt (by rw [hd]; decide)),⟨by decide,by decide⟩,by decide,by decide,_,L.turned b.1 b.2.1 b.2.2.1 b.2.2.2,?_⟩
 have hs:∀ i,stp n (bz q cel) h l i=if i=l then ju (0 :: (ph n (bz q cel) l).map h)+je (8 :: (o8 n (bz q cel) l).map h)-h l else h i:=fun i=>by
  unfold stp Do Dm
  rw [Int.add_comm]
 simp only [hs] at k
 generalize ju (0 :: (ph n (bz q cel) l).map h)=lo at *
 generalize je (8 :: (o8 n (bz q cel) l).map h)=hi at *
 dsimp only [yt,uP,wS,wX,wL,wA,wO,bH,bF,bC,fP,fX,fC,fQ,fK,b7,cu,cG,bQ,bZ,bR,cD,cF,cg,cz,bY,bT,bU,cA,fJ,f9,gf,fH,fB,fM,fV,fG,gb,fZ,fY,fD,fc,fj,gh,fL,fU,aX,aN,aA,aC,aZ,aB,aY,aP,aV,aU,aR,eN,eQ,eV,d9,aW,aM,bh,bG,bI,cond_true,cond_false]
 refine ⟨_,QW (show 3≤16000000 by decide) (by decide) (by decide),_,Ci (show 3≤16000000 by decide) (by decide) (by decide),?_⟩
 refine ⟨show 2≤16000000 by decide,_,Du (l:=[hi,lo]) (m:=[hi,lo]),non rfl ?_⟩
 have zl:((List.range n).map fun i=>D.int (h i)).length≤16000000:=eU hz
 dsimp only [yl,uP,wS,wX,wL,wA,wO,bH,bF,bC,fP,fX,fC,fQ,fK,b7,cu,cG,bQ,bZ,bR,cD,cF,cg,cz,bY,bT,bU,cA,fJ,f9,gf,fH,fB,fM,fV,fG,gb,fZ,fY,fD,fc,fj,gh,fL,fU,aX,aN,aA,aC,aZ,aB,aY,aP,aV,aU,aR,eN,eQ,eV,d9,aW,aM,bh,bG,bI,cond_true,cond_false]
 obtain ⟨i1,i2,i3,i4⟩:=int_s hl hz
 refine ⟨_,QW zl (Int.natCast_nonneg _) i1,_,YB,?_⟩
 dsimp only [wS,wX,wL,wA,wO,bH,bF,bC,fP,fX,fC,fQ,fK,b7,cu,cG,bQ,bZ,bR,cD,cF,cg,cz,bY,bT,bU,cA,fJ,f9,gf,fH,fB,fM,fV,fG,gb,fZ,fY,fD,fc,fj,gh,fL,fU,aX,aN,aA,aC,aZ,aB,aY,aP,aV,aU,aR,eN,eQ,eV,d9,aW,aM,bh,bG,bI,cond_true,cond_false]
 rw [Int.toNat_natCast]
 refine ⟨(JL hz).1,_,Ci zl i2 i3,?_⟩
 dsimp only [wS,wX,wL,wA,wO,bH,bF,bC,fP,fX,fC,fQ,fK,b7,cu,cG,bQ,bZ,bR,cD,cF,cg,cz,bY,bT,bU,cA,fJ,f9,gf,fH,fB,fM,fV,fG,gb,fZ,fY,fD,fc,fj,gh,fL,fU,aX,aN,aA,aC,aZ,aB,aY,aP,aV,aU,aR,eN,eQ,eV,d9,aW,aM,bh,bG,bI,cond_true,cond_false]
 rw [i4]
 refine ⟨(JL hz).2,?_⟩
 rw [set_r hl]
 have:=k ⟨some (.int l),some (.int s),some (.int lo),some (.int hi),some (.list [.int hi,.int (lo+hi-h l),.int lo])⟩
 rw [show (fun i=>D.int (if i=l then lo+hi-h l else h i))=fun i=>if i=l then D.int (lo+hi-h l) else D.int (h i) from funext fun i=>by split <;> rfl] at this
 exact this
theorem Yy (L:LG G) (P:Pg q n cel) (hd:dr.length=7) (T:Top n (bz q cel) ord) (M:Mon n (bz q cel) h) (k:∀ d':JD,wS G wU (kW c dr q n cel ord ty (lst n fun i => .int (HY n (bz q cel) h ord i)) { d' with sweep:=some (.int s) }) N B R) :
  wS G wQ (kW c dr q n cel ord ty (lst n fun i => .int (h i)) { d with sweep:=some (.int s) }) N B R:=by
 dsimp only [wQ,kW,wS,wX,wL,wA,wO,bH,bF,bC,fP,fX,fC,fQ,fK,b7,cu,cG,bQ,bZ,bR,cD,cF,cg,cz,bY,bT,bU,cA,fJ,f9,gf,fH,fB,fM,fV,fG,gb,fZ,fY,fD,fc,fj,gh,fL,fU,aX,aN,aA,aC,aZ,aB,aY,aP,aV,aU,aR,eN,eQ,eV,d9,aW,aM,bh,bG,bI,cond_true,cond_false]
 refine oV (fun j kn=>∃ d':JD,kn=kW c dr q n cel ord ty (lst n fun i => .int (HY n (bz q cel) h (ord.take j) i)) { d' with sweep:=some (.int s) }) ⟨d,rfl⟩ (fun j x kn hj ⟨d',e⟩ M' hM=>?_) fun kn ⟨d',e⟩=>?_
 ·subst e
  rw [List.getElem?_map] at hj
  obtain ⟨l,hl,rfl⟩:=Option.map_eq_some_iff.mp hj
  obtain ⟨hjl,hl⟩:=List.getElem?_eq_some_iff.mp hl
  have e1:ord=ord.take j++l :: ord.drop (j+1):=by rw [← hl,List.getElem_cons_drop,List.take_append_drop]
  have T':Top n (bz q cel) (ord.take j++l :: ord.drop (j+1)):=e1▸T
  obtain ⟨t1,t2,t3,t4⟩:=T'.at
  obtain ⟨b1,b2,b3,b4,_⟩:=(Nu T' M).le M t1 t2 t3 t4
  have e2:∀ i,stp n (bz q cel) (HY n (bz q cel) h (ord.take j)) l i=HY n (bz q cel) h (ord.take (j+1)) i:=fun i=>by
   unfold HY
   rw [List.take_add_one,List.getElem?_eq_getElem hjl,hl,Option.toList_some,List.foldl_append]; rfl
  refine turn_c (d:={ d' with sweep:=some (.int s) }) L P hd t1 ⟨b1,b2,b3,b4⟩ fun d2=>hM _ ⟨d2,?_⟩
  rw [show (fun i=>D.int (stp n (bz q cel) (HY n (bz q cel) h (ord.take j)) l i))=fun i=>D.int (HY n (bz q cel) h (ord.take (j+1)) i) from funext fun i=>by rw [e2]]
 ·subst e
  rw [List.length_map,List.take_length]
  exact k d'
theorem seg_c1 (L:LG G) (P:Pg q n cel) (M:Mon n (bz q cel) h) (k:∀ ty,wS G Cm (kW c dr q n cel ord ty (lst n fun i => .int (h i)) { d with sweep:=some (.int s) }) N B R) :
  wS G wU (kW c dr q n cel ord ty (lst n fun i => .int (h i)) { d with sweep:=some (.int s) }) N B R:=by
 have hz:=P.n6.1
 dsimp only [wU,Jy,kW,wS,wX,wL,wA,wO,bH,bF,bC,fP,fX,fC,fQ,fK,b7,cu,cG,bQ,bZ,bR,cD,cF,cg,cz,bY,bT,bU,cA,fJ,f9,gf,fH,fB,fM,fV,fG,gb,fZ,fY,fD,fc,fj,gh,fL,fU,aX,aN,aA,aC,aZ,aB,aY,aP,aV,aU,aR,eN,eQ,eV,d9,aW,aM,bh,bG,bI,cond_true,cond_false] at k ⊢
 refine ⟨m5 hz,?_⟩
 rw [jQ]
 refine ⟨eU hz,dB (g:=fun i => .str (tH (h i) ((cel i).w+29*s))) (fun _ _ _ h=>h) (fun i hi X hX=>?_) ⟨eU hz,dB (g:=fun i => .int (h i)) (fun _ _ _ h=>h) (fun i hi X hX=>?_) (k _)⟩⟩
 ·have hi:i < n:=List.mem_range.mp hi
  refine ⟨_,nT hz hi,_,(congrArg (jW · (.int (i:Nat))) (GR (q:=q) (n:=n) (cel:=cel))).trans (nT hz hi),_,dI rfl (by decide) (by decide),by decide,_,L.typed (M.lo i hi) (M.hi i hi),hX⟩
 ·have hi:i < n:=List.mem_range.mp hi
  exact ⟨_,L.read (M.lo i hi) (M.hi i hi),hX⟩
theorem VK (P:Pg q n cel) {r:Nat} (hr:r < n):((List.range n).map cel).filter (fun c=>decide (c.p=r))=[cel (Gs n cel r)]:=by
 obtain ⟨h1,h2⟩:=vh P hr
 rw [List.filter_map]
 have e:(List.range n).filter ((fun c:Cel=>decide (c.p=r))∘cel)=[Gs n cel r]:=by
  have e2:(List.range n).filter ((fun c:Cel=>decide (c.p=r))∘cel)=(List.range n).filter (·==Gs n cel r):=List.filter_congr fun a ha=>by
   have ha:=List.mem_range.mp ha
   show decide ((cel a).p=r)=(a==Gs n cel r)
   by_cases t:a=Gs n cel r
   ·rw [t,h2,decide_eq_true rfl,beq_self_eq_true]
   ·rw [decide_eq_false fun z=>t (P.inj ha h1 (z.trans h2.symm)),beq_eq_false_iff_ne.mpr t]
  rw [e2,List.filter_beq,List.Nodup.count List.nodup_range,if_pos (List.mem_range.mpr h1)]; rfl
 rw [e]; rfl
noncomputable def VD (w r:Nat):Bool:=(List.range (r*w)).all fun a=>(List.range (r*w)).all fun b=>decide ((b / w+a / w+1=r∧b % w+a % w+1=w)↔b=r*w-1-a)
theorem An:VD 2 2=true∧VD 3 2=true∧VD 2 3=true:=by decide +kernel
theorem YG {w r a b:Nat} (h:VD w r=true) (ha:a < r*w) (hb:b < r*w):(b / w+a / w+1=r∧b % w+a % w+1=w)↔b=r*w-1-a:=cI (List.all_eq_true.mp (List.all_eq_true.mp h a (List.mem_range.mpr ha)) b (List.mem_range.mpr hb))
theorem WQ (P:Pg q n cel) {a b:Nat} (ha:a < n) (hb:b < n):(b / aD q+a / aD q+1=cQ q∧b % aD q+a % aD q+1=aD q)↔b=n-1-a:=by
 rw [P.hn] at ha hb ⊢
 refine YG ?_ ha hb
 unfold cQ aD
 split <;> split <;> first | exact An.1 | exact An.2.1 | exact An.2.2 | omega
theorem nat_eq {x y r:Nat}:((x:Int)+(y:Int)=(r:Int)-1)↔x+y+1=r:=by omega
theorem turn_d (P:Pg q n cel) {out:List Nat} (T:Top n (bz q cel) out) {sw:Nat} (hh:∀ i,h i=GP n (bz q cel) (fun a=>(cel a).l) out sw i) (hl:l < n) (hs:s=(sw:Int)) (k:N (kW c dr q n cel ord ty (lst n fun i => .int (h i)) { d with line:=some (.int l),sweep:=some (.int s) })) :
  wS G qb (kW c dr q n cel ord ty (lst n fun i => .int (h i)) { d with line:=some (.int l),sweep:=some (.int s) }) N B R:=by
 have hz:=P.n6.1
 have pg:=(congrArg (jW · (.int (l:Nat))) (GR (q:=q) (n:=n) (cel:=cel))).trans (nT hz hl)
 have hp:=P.lt hl
 dsimp only [qb,kW,wS,wX,wL,wA,wO,bH,bF,bC,fP,fX,fC,fQ,fK,b7,cu,cG,bQ,bZ,bR,cD,cF,cg,cz,bY,bT,bU,cA,fJ,f9,gf,fH,fB,fM,fV,fG,gb,fZ,fY,fD,fc,fj,gh,fL,fU,aX,aN,aA,aC,aZ,aB,aY,aP,aV,aU,aR,eN,eQ,eV,d9,aW,aM,bh,bG,bI,cond_true,cond_false] at k ⊢
 refine ⟨_,pg,_,dI rfl (by decide) (by decide),_,pg,_,dI rfl (by decide) (by decide),?_⟩
 by_cases hc:(((cel l).p / aD q:Nat):Int)+(((cel l).p % aD q:Nat):Int)+1=s
 ·refine yes hc ⟨_,nT hz hl,?_⟩
  obtain ⟨h1,h2⟩:=vh P (p:=n-1-(cel l).p) (by omega)
  have hr:=Yu P T hl h1 h2
  refine ⟨by rw [List.length_map,List.length_map,List.length_range]; omega,gC (g:=fun c => .int c.l) (p:=fun c=>decide (c.p=n-1-(cel l).p)) (fun c hc X hX=>?_) (fun c _ _ X hX=>⟨_,dI rfl (by decide) (by decide),hX⟩) ?_⟩
  ·have io:=WQ P hp (P.ok.lt hc)
   refine ⟨_,dI rfl (by decide) (by decide),_,pg,_,dI rfl (by decide) (by decide),?_⟩
   by_cases q1:c.p / aD q+(cel l).p / aD q+1=cQ q
   ·refine yes (nat_eq.mpr q1) ⟨_,dI rfl (by decide) (by decide),_,pg,_,dI rfl (by decide) (by decide),?_⟩
    by_cases q2:c.p % aD q+(cel l).p % aD q+1=aD q
    ·rw [decide_eq_true (io.mp ⟨q1,q2⟩)] at hX; exact yes (nat_eq.mpr q2) hX
    ·rw [decide_eq_false fun t=>q2 (io.mpr t).2] at hX; exact no (fun t=>q2 (nat_eq.mp t)) hX
   ·rw [decide_eq_false fun t=>q1 (io.mpr t).1] at hX; exact no (fun t=>q1 (nat_eq.mp t)) hX
  ·rw [VK P (by omega)]
   refine ⟨_,Du (l:=[8-h l]) (m:=[(cel (Gs n cel (n-1-(cel l).p))).l]),non ?_ k⟩
   have e:sw=(cel l).p / aD q+(cel l).p % aD q+1:=by omega
   rw [← e,← hh] at hr
   rw [show 8-h l=(cel (Gs n cel (n-1-(cel l).p))).l by omega]
 ·exact no hc k
theorem turn_e (L:LG G) (P:Pg q n cel) (hd:dr.length=7) (T:Top n (bz q cel) ord) {j:Nat} (hh:∀ i,h i=GP n (bz q cel) (fun a=>(cel a).l) ord j i) (k:∀ ty d,N (kW c dr q n cel ord ty (lst n fun i => .int (GP n (bz q cel) (fun a=>(cel a).l) ord (j+1) i)) d)) :
  wS G wQ (kW c dr q n cel ord ty (lst n fun i => .int (h i)) { d with sweep:=some (.int (1+(j:Int))) }) N B R:=by
 obtain rfl:h=GP n (bz q cel) (fun a=>(cel a).l) ord j:=funext hh
 have hz:=P.n6.1
 refine Yy L P hd T (wB P T j) fun d1=>?_
 refine seg_c1 (h:=GP n (bz q cel) (fun a=>(cel a).l) ord (j+1)) L P (wB P T (j+1)) fun ty=>?_
 dsimp only [Cm,kW,wS,wX,wL,wA,wO,bH,bF,bC,fP,fX,fC,fQ,fK,b7,cu,cG,bQ,bZ,bR,cD,cF,cg,cz,bY,bT,bU,cA,fJ,f9,gf,fH,fB,fM,fV,fG,gb,fZ,fY,fD,fc,fj,gh,fL,fU,aX,aN,aA,aC,aZ,aB,aY,aP,aV,aU,aR,eN,eQ,eV,d9,aW,aM,bh,bG,bI,cond_true,cond_false]
 refine ⟨m5 hz,?_⟩
 rw [jQ]
 refine oV (fun i kn=>∃ d':JD,kn=kW c dr q n cel ord ty (lst n fun i => .int (GP n (bz q cel) (fun a=>(cel a).l) ord (j+1) i)) { d' with sweep:=some (.int (1+(j:Int))) }) ⟨d1,rfl⟩ (fun i x kn hi ⟨d',e⟩ M' hM=>?_) fun kn ⟨d',e⟩=>by subst e; exact k ty _
 subst e
 rw [List.getElem?_map] at hi
 obtain ⟨l,hl,rfl⟩:=Option.map_eq_some_iff.mp hi
 have hl:l < n:=List.mem_range.mp (List.mem_of_getElem? hl)
 exact turn_d (d:={ d' with sweep:=some (.int (1+(j:Int))) }) P T (fun _=>rfl) hl (by omega) (hM _ ⟨{ d' with line:=some (.int l),sweep:=some (.int (1+(j:Int))) },rfl⟩)
theorem Y9 (L:LG G) (P:Pg q n cel) (hd:dr.length=7) (T:Top n (bz q cel) ord):wS G VM (kW0 c dr q n cel ord (lst n fun i => .str (Yl cel i))) N B fun r=>r=.bool true:=by
 have hz:=P.n6.1
 have hR:cQ q≤3∧aD q≤3:=⟨by unfold cQ; split <;> omega,P.n6.2.2⟩
 dsimp only [VM,lC_1,kW0,q7,wS,wX,wL,wA,wO,bH,bF,bC,fP,fX,fC,fQ,fK,b7,cu,cG,bQ,bZ,bR,cD,cF,cg,cz,bY,bT,bU,cA,fJ,f9,gf,fH,fB,fM,fV,fG,gb,fZ,fY,fD,fc,fj,gh,fL,fU,aX,aN,aA,aC,aZ,aB,aY,aP,aV,aU,aR,eN,eQ,eV,d9,aW,aM,bh,bG,bI,cond_true,cond_false]
 refine ⟨eU hz,dB (g:=fun i => .int (cel i).l) (fun _ _ _ h=>h) (fun i hi X hX=>⟨_,L.read (P.ok.lo _ (P.mem (List.mem_range.mp hi))) (P.ok.hi _ (P.mem (List.mem_range.mp hi))),hX⟩) ⟨⟨by decide,by decide,by omega,by omega⟩,?_⟩⟩
 refine oV (fun j kn=>∃ ty d,kn=kW c dr q n cel ord ty (lst n fun i => .int (GP n (bz q cel) (fun a=>(cel a).l) ord j i)) d) ⟨_,⟨none,none,none,none,none⟩,rfl⟩ (fun j x kn hj ⟨ty,d',e⟩ M' hM=>?_) fun kn ⟨ty,d',e⟩=>?_
 ·subst e
  have hlt:j < ((cQ q:Int)+aD q-1).toNat:=by
   have:=(List.getElem?_eq_some_iff.mp hj).1
   rw [jL] at this; exact this
  rw [q8 hlt] at hj
  obtain rfl:=aj hj
  exact turn_e (d:=d') L P hd T (fun _=>rfl) fun ty d=>hM _ ⟨ty,d,rfl⟩
 ·subst e
  dsimp only [lC_2,wS,wX,wL,wA,wO,bH,bF,bC,fP,fX,fC,fQ,fK,b7,cu,cG,bQ,bZ,bR,cD,cF,cg,cz,bY,bT,bU,cA,fJ,f9,gf,fH,fB,fM,fV,fG,gb,fZ,fY,fD,fc,fj,gh,fL,fU,aX,aN,aA,aC,aZ,aB,aY,aP,aV,aU,aR,eN,eQ,eV,d9,aW,aM,bh,bG,bI,cond_true,cond_false]
end
section
variable {prog:Program} {w:World} {A:Around} {E:Value→Shared→Prop} {s:Shared}
theorem Hf {R:Result→Shared→Prop} {r:Addr} {a b c:Int} {t u v:Tok} {n:Nat} (hh:A.handled=none) (hr:IsRange s.heap r a b c t u v) (hsmall:Builtin.Range.small a b c=true)
  (hn:Builtin.Range.rangeSize a b c=n) (hlen:n≤2 ^ 24)
  (h:∀ h' tk acc c',(∀ b o,s.heap.get? b=some o→h'.get? b=some o)→h'.get? s.heap.objs.size=some { cls := .type "list",dict:=none,data := .seq acc c',slots:=#[] }→ItemsOf (fun i v=>∃ t,v=.int (a+i*c) t) acc n→R (.ok (.ret (.ref s.heap.objs.size))) { s with heap:=h',toks:=tk }) :
  codeAny (model prog w) A (.builtin "list.__iadd__" ⟨[.ref s.heap.objs.size,.ref r],[]⟩) R { s with heap:=s.heap.push (seqObj "list" #[] 0) }:=by
 refine codeAny_builtin entry_list_iadd' ?_
 rw [Around.under_plainId F.plain_list_iadd _]
 exact wpAny_extend_range hh (aQ _ hr) hsmall hn hlen s.heap.objs.size _ 0 (bw _ rfl) fun h' tk acc c' hk hS hi =>
  h h' tk acc c' (fun b o e=>hk b o (Nat.ne_of_lt (Heap.lt_size e)) (aQ _ e)) hS hi
theorem za {r:Addr} {a b c:Int} {t u v:Tok} {n:Nat} {Q:List Value→Shared→Prop} (hh:A.handled=none) (hr:IsRange s.heap r a b c t u v) (hsmall:Builtin.Range.small a b c=true)
  (hn:Builtin.Range.rangeSize a b c=n) (hlen:n≤2 ^ 24)
  (h:∀ h' tk acc,(∀ b o,s.heap.get? b=some o→h'.get? b=some o)→ItemsOf (fun i v=>∃ t,v=.int (a+i*c) t) acc n→Q acc.toList { s with heap:=h',toks:=tk }) :
  wpAny (model prog w) A (collect (.ref r)) Q E s:=by
 unfold collect
 refine wpAny_bind (wpAny_runValue (codeAny_builtin entry_proto_collect' ?_))
 show wpAny _ _ (do again (.builtin "list.__iadd__" ⟨[← newList [],.ref r],[]⟩)) _ _ s
 refine wpAny_bind (wpAny_newList (wpAny_pure ⟨Code.quiet_builtin _ (by decide +kernel),Hf hh hr hsmall hn hlen fun h' tk acc c' hk hS hi=>?_⟩))
 dsimp only
 refine wpAny_bind (wpAny_load hS ?_)
 exact wpAny_pure (h h' tk acc hk hi)
theorem Ex {g:Int→Int} {vs out:List Value} {ns:List Int} (hi:IntsAre vs ns) (ko:KskOut false (ns.map g) vs out):∃ ns',IntsAre out ns'∧ns'.Perm ns∧ns'.Pairwise fun x y=>g x≤g y:=by
 obtain ⟨ps,hp,rfl,hs⟩:=ko
 have hl:=hi.length
 have hrel:∀ p,p∈(ns.map g).zip vs→p.1=g (numOf p.2)∧p.2∈vs:=by
  rw [← hi.nums,List.map_map,List.zip_map_left]
  intro p hp
  obtain ⟨⟨u,v⟩,hq,rfl⟩:=List.mem_map.mp hp
  obtain ⟨h1,h2⟩:=mem_zip_self hq
  have h1:u=v:=h1
  subst h1
  exact ⟨rfl,h2⟩
 refine ⟨_,intsAre_map _ fun v hv=>?_,?_,?_⟩
 ·obtain ⟨p,hp',rfl⟩:=List.mem_map.mp hv
  exact hi.all _ (hrel p (hp.mem_iff.mp hp')).2
 ·have h1:=(hp.map Prod.snd).map numOf
  rw [List.map_snd_zip (by rw [List.length_map]; exact Nat.le_of_eq hl),hi.nums] at h1
  exact h1
 ·rw [List.pairwise_map,List.pairwise_map]
  refine hs.imp_of_mem fun {p q} hp' hq' hr=>?_
  have hr:p.1≤q.1:=hr
  rw [(hrel p (hp.mem_iff.mp hp')).1,(hrel q (hp.mem_iff.mp hq')).1] at hr
  exact hr
theorem Ik {lo:Int}:∀ {n:Nat} {vs:List Value},vs.length=n→(∀ (i:Nat) (v:Value),vs[i]? = some v→∃ t,v=Value.int (lo+(i:Nat)) t)→IntsAre vs ((List.range n).map fun i=>lo+((i:Nat):Int)):=by
 intro n
 induction n with
 | zero=>intro vs hl _; rw [List.length_eq_zero_iff.mp hl]; exact .nil
 | succ n ih =>
  intro vs hl h
  have hn:n < vs.length:=by rw [hl]; exact Nat.lt_succ_self n
  have e:vs=vs.take n++[vs[n]]:=by rw [List.take_append_getElem,← hl,List.take_length]
  obtain ⟨t,ht⟩:=h n _ (List.getElem?_eq_getElem hn)
  rw [e,ht,List.range_succ,List.map_append]
  refine (ih (by rw [List.length_take,hl]; exact Nat.min_eq_left (Nat.le_succ n)) fun i v hv=>?_).append (.cons _ t .nil)
  rw [List.getElem?_take] at hv
  split at hv
  ·exact h i v hv
  ·exact aO hv
variable {h₀:Heap} {L:Addr} {m:Str→Option Value} {news:List (Addr × Obj)} {Q:Value→Shared→Prop}
theorem Ck {r:Addr} {n:Nat} {t u v:Tok} {f:Addr} (g:Int→Int) (hh:A.handled=none) (F:Fr h₀ L s.heap m) (N:News h₀ L s.heap news) (hr:IsRange s.heap r 0 n 1 t u v) (h64:n < 64)
  (turn:∀ (i:Nat) (t:Tok) (h:Heap) (tk:Nat) (own:List (Addr × Obj)),i < n→Fr h₀ L h m→News h₀ L h (news++own) →
   wpAny (model prog w) A.in1.in1 (call (.ref f) [.int i t]) (KskEnd h₀ L m (news++own) (g i) { s with heap:=h,toks:=tk }) (fun _ _=>False) { s with heap:=h,toks:=tk })
  (done:∀ D vs' ns' c h' tk,Fr h₀ L h' m→News h₀ L h' ((D,seqObj "list" (List.toArray vs') c) :: news)→IntsAre vs' ns'→ns'.Perm ((List.range n).map fun i=>((i:Nat):Int))→(ns'.Pairwise fun x y=>g x≤g y)→(∀ p∈news,p.1 < D) →
   Q (.ref D) { s with heap:=h',toks:=tk }) :
  wpAny (model prog w) A (call (.builtin "sorted") [.ref r] [(("key":Str),.ref f)]) Q E s:=by
 obtain ⟨hsm,hz⟩:=oF (lo:=0) (hi:=(n:Int)) (by omega)
 rw [Int.sub_zero,Int.toNat_natCast] at hz
 refine call_function_entry_kw kind_sorted plain_sorted entry_sorted (ksk_s1 _ _) ?_
 unfold Builtin.«sorted»
 refine wpAny_bind (m:=checkCount "sorted" 1 1 _) (wpAny_pure ?_)
 refine wpAny_bind (za hh hr hsm hz (by omega) fun h₁ tk₁ acc hk hi=>?_)
 have hI:IntsAre acc.toList ((List.range n).map fun i=>((i:Nat):Int)):=by
  have:=Ik (lo:=0) (vs:=acc.toList) (n:=n) (by rw [Array.length_toList]; exact hi.1) fun i v hv=>by
   obtain ⟨t,e⟩:=hi.2 i v (by simpa using hv)
   exact ⟨t,by rw [e,Int.mul_one]⟩
  simpa using this
 have hlen:acc.toList.length=n:=by rw [Array.length_toList]; exact hi.1
 refine wpAny_bind (wpAny_newList ?_ (by rw [hlen,sizeLine_eq]; omega))
 have hoL:(h₁.push (seqObj "list" acc.toList.toArray 0)).get? h₁.objs.size=some (seqObj "list" acc.toList.toArray 0):=bw _ rfl
 have keep:∀ b o,s.heap.get? b=some o→(h₁.push (seqObj "list" acc.toList.toArray 0)).get? b=some o:=fun b o q=>aQ _ (hk b o q)
 have hlt:∀ {b o},s.heap.get? b=some o→b < h₁.objs.size:=fun q=>Heap.lt_size (hk _ _ q)
 have hL:L < h₁.objs.size:=by obtain ⟨o,_,_,e,_⟩:=F.ns; exact hlt e
 refine wpAny_bind (wpAny_holding (wpAny_call_entry_kw slot_list_sort ⟨_,hoL,rfl⟩ entry_list_sort ?body (ksk_l1 _ _)))
 case body =>
  rw [ksk_t1]
  refine ksk_sort (kz:=((List.range n).map fun i=>((i:Nat):Int)).map g) (F.kept keep) (N.grown keep) hoL (Nat.ne_of_gt hL) (Heap.get?_none_of_le (aF F.above (Nat.le_of_lt hL)))
   (fun p hp=>Nat.ne_of_lt (hlt (N p hp).1)) (by rw [List.length_map,List.length_map,List.length_range,hlen]) (by rw [hlen]; exact h64) (fun i v k hv hkz h tk own F' N'=>?_) fun h' tk out c F' N' k'=>⟨_,rfl,?_⟩
  ·obtain ⟨t,e⟩:=hi.2 i v (by simpa using hv)
   have hin:i < n:=by rw [← hlen]; exact (List.getElem?_eq_some_iff.mp hv).1
   have e:v=.int i t:=by rw [e,Int.mul_one,Int.zero_add]
   subst e
   rw [List.getElem?_map,List.getElem?_map,List.getElem?_range hin] at hkz
   obtain rfl:=aj hkz
   exact turn i t h tk own hin F' N'
  ·obtain ⟨ns',a1,a2,a3⟩:=Ex hI k'
   exact wpAny_pure ⟨_,rfl,done _ out.toList ns' c h' tk F' (by simpa using N') a1 a2 a3 fun p hp=>hlt (N p hp).1⟩
end
section
variable {prog:Program} {w:World} {A:Around} {s:Shared} {wsC:Fix} {ok:AP} {K:Frag} {mg:Str→Option Value} {G:Ctx} {n:Nat}
noncomputable abbrev vX (ap:Pos):Arguments:={ posonlyargs:=[],args:=[{ arg := "line",annotation:=none,pos:=ap }],vararg:=none,kwonlyargs:=[],kw_defaults:=[],kwarg:=none,defaults:=[] }
noncomputable abbrev vZ:Sc:=[(("line" : Str),NameKind.local),(("leads" : Str),NameKind.free)]
structure LamSc (sc:Scope):Prop where
 names:sc.names=vZ
 kind:sc.kind=.function
 co:sc.isCoroutine=false
 gen:sc.isGenerator=false
theorem LamSc.cellOk {sc:Scope} (h:LamSc sc) {x:Str} {k:NameKind} (e:sc.names.lookup x=some k):(x = "line" ∧ k=.local)∨(x = "leads" ∧ k=.free):=by
 rw [h.names] at e
 have:=mem_of_lookup e
 simp only [List.mem_cons,Prod.mk.injEq,List.not_mem_nil,or_false] at this
 exact this
theorem QS {name qual:Str} {ap:Pos} {e:Expr} {q:Pos} {sc:Scope} {pm ctv:Value} {c' f cl:Addr} {i:Int} {t:Tok} {lv:Value} {ds:List D} {k:Int} {ke:Nat} (hs:LamSc sc) (C:CtxOk prog w K mg wsC n G) (hA:OkA A (n+1))
  (gl:Gl K mg s.heap) (hf:Fresh ok s.heap) (ho:s.heap.get? f=some (kla_obj name qual (vX ap) (.UnaryOp .USub e q) sc [("leads",cl)] pm c' ctv)) (hcd:s.heap.CodeRec (.ref c') qual)
  (hc:s.heap.IsCell cl (some lv)) (hr:Rep wsC ok s.heap lv (.list ds)) (he:(cP G ke).E vZ [(("line" : Str),D.int i),(("leads" : Str),D.list ds)] e=some (.int k)) :
  wpAny (model prog w) A (call (.ref f) [.int i t]) (fun v s'=>∃ h' tk t',s'={ s with heap:=h',toks:=tk }∧v=.int (-k) t'∧∀ b o,s.heap.get? b=some o→h'.get? b=some o) (fun _ _=>False) s:=by
 have hb:bindArgs (kla_fn name qual (vX ap) (.UnaryOp .USub e q) sc [("leads",cl)] pm (.ref c') ctv) ⟨[.int i t],[]⟩=pure [(("line" : Str),Value.int i t)]:=rfl
 refine wpAny_call (kla_callFunE hA.room ho rfl hs.co hs.gen rfl hcd ?_)
 rw [hb]
 refine wpAny_pure (wpAny_newFunctionEnv (fun x hx q=>?_) (fun x hx=>?_) (fun h₁ hns hsb=>?_) hs.kind)
 ·rw [hs.names] at hx
  simp only [List.mem_cons,List.not_mem_nil,or_false] at hx
  rcases hx with rfl | rfl <;> exact nomatch q
 ·rw [List.mem_singleton.mp hx,hs.names]; rfl
 have hk:∀ b o,s.heap.get? b=some o→h₁.get? b=some o:=fun b o e=>hsb.extBut b o (Nat.ne_of_lt (Heap.lt_size e)) (aQ _ e)
 refine ⟨gl.nl.keeps hk,kla_codeExpr ?_⟩
 refine wpAny_UnaryOp (wpAny_mono ((jD C ke).E (hA.deeper _) (ok:=ok) ⟨gl.keep hk,hf.keep hk,hs.names,hs.kind,rfl,rfl,fun x hx=>?_,fun x d hx=>?_⟩ he) (fun v s' h'=>?_) fun _ _ e=>e.elim)
 ·rw [← hs.names] at hx
  rcases hx with hx | hx <;> rcases hs.cellOk hx with ⟨rfl,e⟩ | ⟨rfl,e⟩ <;> first | exact ⟨cl,(rfl:List.lookup ("leads" : Str) [(("leads" : Str),cl)]=some cl)⟩ | exact nomatch e
 ·have:=mem_of_lookup hx
  simp only [List.mem_cons,Prod.mk.injEq,List.not_mem_nil,or_false] at this
  rcases this with ⟨rfl,rfl⟩ | ⟨rfl,rfl⟩
  ·exact ⟨_,.inl ⟨by show sc.names.lookup _=_; rw [hs.names]; rfl,_,hns,rfl⟩,.int _ t⟩
  ·exact ⟨lv,.inr ⟨.inr (by show sc.names.lookup _=_; rw [hs.names]; rfl),cl,rfl,hc.keeps hk⟩,hr.keep hk⟩
 ·obtain ⟨g,rv⟩:=h'
  obtain ⟨t',rfl⟩:=rv.int_inv
  refine neg_int ⟨s'.heap,s'.toks+1,_,?_,rfl,fun b o e=>g.keep b o (hk b o e)⟩
  obtain ⟨h2,g2,d2,k2,o2⟩:=s'
  have e1:=congrArg Prod.fst g.gens
  have e2:=congrArg Prod.snd g.gens
  have e3:=g.os
  cases e1; cases e2; cases e3; rfl
end
section
variable {prog:Program} {w:World} {A:Around} {s:Shared} {wsC:Fix} {ok:AP} {K:Frag} {mg:Str→Option Value} {G:Ctx} {n:Nat} {env:Env} {sc:Sc} {base base' h h':Heap} {ρ:aJ} {own:Str→Addr} {os:List Addr} {P:Addr}
theorem XS.rebase (X:XS wsC ok env base h [] ρ own os) (hk:∀ b o,b≠P→h.get? b=some o→h'.get? b=some o) (hP:base.get? P≠none) (hok:¬ ok P) (hb:∀ b,b≠P→base'.get? b=base.get? b) (hbP:∀ o,base'.get? P=some o→h'.get? P=some o) :
  XS wsC ok env base' h' [] ρ own os:=by
 have ns:∀ b,vO env os b→b≠P:=fun b q e=>hP (e▸X.new b q)
 refine ⟨fun b o e=>?_,fun b q=>(hb b (ns b q)).trans (X.new b q),fun b q=>?_,?_,fun x c e=>?_,X.osep,fun x d e _=>?_,(fun x d _ q=>nomatch q),(fun x y d e _ _ q=>nomatch q)⟩
 ·by_cases q:b=P
  ·subst q; exact hbP o e
  ·exact hk b o q (X.keep b o ((hb b q).symm.trans e))
 ·obtain ⟨o,e⟩:=X.here b q; exact ⟨o,hk b o (ns b q) e⟩
 ·obtain ⟨m,o,a,b,e,r⟩:=X.loc
  exact ⟨m,o,a,b,hk _ o (ns _ (.inl rfl)) e,r⟩
 ·obtain ⟨v,o,q,r⟩:=X.cell x c e
  exact ⟨v,o,hk _ o (ns _ (.inr (.inl ⟨x,e⟩))) q,r⟩
 ·obtain ⟨v,nv,hr⟩:=X.val x d e (nomatch ·)
  refine ⟨v,?_,hr.mono fun b o q e=>⟨q,hk b o (fun t=>hok (t▸q.1)) e⟩⟩
  rcases nv with ⟨a,m,⟨o,p,q,e,r⟩,c⟩ | ⟨a,c,e,o,q,r⟩
  ·exact .inl ⟨a,m,⟨o,p,q,hk _ o (ns _ (.inl rfl)) e,r⟩,c⟩
  ·exact .inr ⟨a,c,e,o,hk _ o (ns _ (.inr (.inl ⟨x,e⟩))) q,r⟩
theorem XS.frame (X:XS wsC ok env base h [] ρ own os) {m:Str→Option Value} (hm:h.Ns env.locals m) (hm':h'.Ns env.locals m) (hk:∀ b o,b≠env.locals→h.get? b=some o→h'.get? b=some o) (hL:∀ n c,env.cells.lookup n=some c→c≠env.locals):XS wsC ok env base h' [] ρ own os:=by
 have nL:∀ b o,base.get? b=some o→b≠env.locals:=fun b o e q=>by rw [q,X.new _ (.inl rfl)] at e; cases e
 refine ⟨fun b o e=>hk b o (nL b o e) (X.keep b o e),X.new,fun b q=>?_,⟨m,hm'⟩,fun x c e=>?_,X.osep,fun x d e _=>?_,(fun x d _ q=>nomatch q),(fun x y d e _ _ q=>nomatch q)⟩
 ·by_cases t:b=env.locals
  ·obtain ⟨o,_,_,e,_⟩:=hm'; exact ⟨o,t▸e⟩
  ·obtain ⟨o,e⟩:=X.here b q; exact ⟨o,hk b o t e⟩
 ·obtain ⟨v,o,q,r⟩:=X.cell x c e
  exact ⟨v,o,hk _ o (hL x c e) q,r⟩
 ·obtain ⟨v,nv,hr⟩:=X.val x d e (nomatch ·)
  refine ⟨v,?_,hr.mono fun b o q e=>⟨q,hk b o (fun t=>q.2 (.inl t)) e⟩⟩
  rcases nv with ⟨a,m2,q,c⟩ | ⟨a,c,e,o,q,r⟩
  ·exact .inl ⟨a,m,hm',(congrFun (hm.eq_nsMap.trans q.eq_nsMap.symm) x).trans c⟩
  ·exact .inr ⟨a,c,e,o,hk _ o (hL x c e) q,r⟩
noncomputable def Bo (b h:Heap) (L:Addr):List (Addr × Obj):=(List.range h.objs.size).filterMap fun a=>if a=L then none else match b.get? a with
 | some _=>none
 | none=>(h.get? a).map fun o=>(a,o)
theorem FP {b:Heap} {L:Addr}:News b L h (Bo b h L):=fun p hp=>by
 obtain ⟨a,_,e⟩:=List.mem_filterMap.mp hp
 by_cases q:a=L
 ·rw [if_pos q] at e; exact aO e
 ·rw [if_neg q] at e
  cases t:b.get? a with
  | some _=>rw [t] at e; exact aO e
  | none =>
   rw [t] at e
   obtain ⟨o,h1,rfl⟩:=Option.map_eq_some_iff.mp e
   exact ⟨h1,q,t⟩
theorem yI {b:Heap} {L a:Addr} {o:Obj} (e:h.get? a=some o) (hL:a≠L) (hn:b.get? a=none):(a,o)∈Bo b h L:=by
 refine List.mem_filterMap.mpr ⟨a,List.mem_range.mpr (Heap.lt_size e),?_⟩
 rw [if_neg hL,hn,e]; rfl
theorem zV {b:Heap} {L:Addr} {m:Str→Option Value} {own:List (Addr × Obj)} (kp:∀ a o,b.get? a=some o→h.get? a=some o) (F:Fr b L h' m) (N:News b L h' (Bo b h L++own)) (a:Addr) (o:Obj) (hL:a≠L) (e:h.get? a=some o):h'.get? a=some o:=by
 cases t:b.get? a with
 | some o'=>rw [kp a o' t] at e; cases e; exact F.keep a _ t
 | none=>exact (N _ (List.mem_append_left _ (yI e hL t))).1
inductive SortRes (wsC:Fix) (ok:AP) (env:Env) (base:Heap) (ρ:aJ) (own:Str→Addr) (os:List Addr) (s:Shared) (n:Nat) (g:Int→Int) (v:Value) (s':Shared):Prop where
 | mk (out:List Int) (p:out.Perm ((List.range n).map fun i=>((i:Nat):Int))) (o:out.Pairwise fun x y=>g x≤g y) (r:Rep wsC (okIn ok env os) s'.heap v (.list (out.map .int))) (x:XS wsC ok env base s'.heap [] ρ own os) (hg:gd s'=gd s) (ho:s'.os=s.os):SortRes wsC ok env base ρ own os s n g v s'
theorem OkA.in2 {n:Nat} (x:OkA A (n+1)):OkA A.in1.in1 n:=⟨x.h,aF (Nat.add_le_add_left (Nat.le_succ n) _) x.d,by have:=x.u; show A.units+1+1+10*n≤9000; omega⟩
theorem K6 {name qual:Str} {ap:Pos} {e:Expr} {q:Pos} {lsc:Scope} {pm ctv:Value} {c' f cl:Addr} {lv:Value} {ds:List D} {ke k:Nat} {g:Int→Int} {r:Addr} (hs:LamSc lsc) (C:CtxOk prog w K mg wsC n G) (hA:OkA A (n+2)) (Se:EnvSt env sc)
  (X:XS wsC ok env base s.heap [] ρ own os) (gl:Gl K mg base) (hf:Fresh ok base) (hL:base.objs.size≤env.locals) (hr:Rep wsC (okIn ok env os) s.heap (.ref r) (.range 0 k)) (h64:k < 64)
  (ho:s.heap.get? f=some (kla_obj name qual (vX ap) (.UnaryOp .USub e q) lsc [("leads",cl)] pm c' ctv)) (hoL:f≠env.locals) (hcd:s.heap.CodeRec (.ref c') qual) (hcL:c'≠env.locals)
  (hcl:env.cells.lookup ("leads" : Str)=some cl) (hc:s.heap.IsCell cl (some lv)) (hlv:Rep wsC (okIn ok env os) s.heap lv (.list ds))
  (he:∀ i:Nat,i < k→∃ j,(cP G ke).E vZ [(("line" : Str),D.int i),(("leads" : Str),D.list ds)] e=some (.int j)∧g i = -j) :
  Wp prog w A (call (.builtin "sorted") [.ref r] [(("key":Str),.ref f)]) s (SortRes wsC ok env base ρ own os s k g):=by
 obtain ⟨m,hm⟩:=X.loc
 have F:Fr base env.locals s.heap m:=⟨hm,X.keep,hL⟩
 obtain ⟨r',t1,t2,t3,e1,or',hr⟩:=hr.range_inv
 cases e1
 have sep:∀ c,vO env os c→∀ b,okIn ok env os b→b≠c:=fun c q b hb t=>hb.2 (t▸q)
 refine Ck g hA.h F FP hr h64 (fun i t h tk own' hi F' N'=>?_) fun D vs' ns' c h' tk F' N' hI hp ho hlt=>?_
 ·have hk:∀ b o,b≠env.locals→s.heap.get? b=some o→h.get? b=some o:=fun b o hb e=>zV X.keep F' N' b o hb e
  obtain ⟨j,hj,hg⟩:=he i hi
  have cd:h.CodeRec (.ref c') qual:=by
   obtain ⟨c2,o2,vs2,t2,e2,hc2,r2⟩:=hcd
   cases e2
   exact ⟨c',o2,vs2,t2,rfl,hk _ _ hcL hc2,r2⟩
  have hcc:h.IsCell cl (some lv):=by
   obtain ⟨o2,hc2,r2⟩:=hc
   exact ⟨o2,hk _ _ (Se.sep "leads" |> fun q t=>q (t▸hcl)) hc2,r2⟩
  refine wpAny_mono (QS (ok:=ok) (i:=i) (t:=t) hs C hA.in2 (s:={ s with heap:=h,toks:=tk }) (gl.keep F'.keep) (hf.keep F'.keep) (hk _ _ hoL ho) cd hcc (hlv.mono fun b o q e=>⟨q.1,hk b o (sep _ (.inl rfl) b q) e⟩) hj) (fun v s' h2=>?_) fun _ _ e=>e
  obtain ⟨h3,tk3,t3,rfl,rfl,kp⟩:=h2
  exact ⟨h3,tk3,t3,rfl,by rw [hg],F'.kept kp,N'.grown kp⟩
 ·have N2:News base env.locals h' (Bo base s.heap env.locals++[]):=by rw [List.append_nil]; exact fun p hp=>N' p (cJ _ hp)
  have hk:∀ b o,b≠env.locals→s.heap.get? b=some o→h'.get? b=some o:=fun b o hb e=>zV X.keep F' N2 b o hb e
  have X':=X.frame hm F'.ns hk fun n c q t=>Se.sep n (t▸q)
  have hD:=N' _ aH
  refine ⟨ns',hp,ho,.list ⟨hf _ hD.2.2,fun q=>?_⟩ hD.1 (RepL.ints hI),X',rfl,rfl⟩
  obtain ⟨o,e⟩:=X.here _ q
  exact Nat.lt_irrefl _ (hlt _ (yI e hD.2.1 hD.2.2))
end
section
variable {prog:Program} {w:World} {A:Around} {s:Shared} {wsC:Fix} {ok:AP} {K:Frag} {mg:Str→Option Value} {G:Ctx} {n:Nat} {env:Env} {sc:Sc} {base base' h h':Heap} {ρ:aJ} {own:Str→Addr} {os:List Addr} {c P:Addr}
structure LamCode (base:Heap) (env:Env) (K:Frag) (mg:Str→Option Value) (ok:AP) (c P:Addr):Prop where
 code:env.code=.ref c
 hd:CodeHd base c P
 tab:base.get? P=some (tabObj #[])
 bi:base.BuiltinsAt mg P
 nok:¬ ok P
 L:base.objs.size≤env.locals
 K:K.lookup P=none
noncomputable def mH (base:Heap) (P:Addr) (p:Pos) (c':Addr):Heap:=base.update P fun _=>tabObj (#[]++#[rawInt p.line,rawInt p.col,.ref c'])
theorem lH {p:Pos} {c' b:Addr} (hb:b≠P):(mH base P p c').get? b=base.get? b:=Heap.get?_update_ne _ _ _ _ hb
theorem uW {p:Pos} {c':Addr} {o:Obj} (e:base.get? P=some o):(mH base P p c').get? P=some (tabObj (#[]++#[rawInt p.line,rawInt p.col,.ref c'])):=Heap.get?_update_self _ e rfl
theorem Fb {a:Addr} {m:Str→Option Value} {ps:Array Value} (x:h.Ns a m) (e:h.get? P=some (tabObj ps)):a≠P:=fun q=>by
 obtain ⟨o,_,_,h1,h2,_⟩:=x
 rw [q,e] at h1; cases h1; cases h2
theorem Nf {a:Addr} {m:Str→Option Value} (x:h.Ns a m) (e:∀ o,h.get? a=some o→h'.get? a=some o):h'.Ns a m:=by
 obtain ⟨o,p,q,h1,r⟩:=x
 exact ⟨o,p,q,e _ h1,r⟩
theorem LamCode.gl (T:LamCode base env K mg ok c P) (gl:Gl K mg base) {p:Pos} {c':Addr}:Gl K mg (mH base P p c'):=by
 have kp:∀ a o,a≠P→base.get? a=some o→(mH base P p c').get? a=some o:=fun a o hn e=>(lH hn).trans e
 refine ⟨fun a o e=>kp a o (fun q=>nomatch (q▸T.K).symm.trans e) (gl.X a o e),Nf gl.g fun o=>kp _ o (Fb gl.g T.tab),?_,?_⟩
 ·obtain ⟨mb,h1,h2⟩:=gl.b
  exact ⟨mb,Nf h1 fun o=>kp _ o (Fb h1 T.tab),h2⟩
 ·obtain ⟨mc,h1,h2⟩:=gl.nl
  exact ⟨mc,Nf h1 fun o=>kp _ o (Fb h1 T.tab),h2⟩
theorem LamCode.fresh (T:LamCode base env K mg ok c P) (hf:Fresh ok base) {p:Pos} {c':Addr}:Fresh ok (mH base P p c'):=fun a ha=>by
 by_cases q:a=P
 ·rw [q,uW T.tab] at ha; cases ha
 ·exact hf a ((lH q).symm.trans ha)
inductive LamRes (wsC:Fix) (ok:AP) (env:Env) (base:Heap) (P:Addr) (ρ:aJ) (own:Str→Addr) (os:List Addr) (s:Shared) (ap lp:Pos) (body:Expr) (lsc:Scope) (cl:Addr) (v:Value) (s':Shared):Prop where
 | mk (f c':Addr) (qual:Str) (pm ctv:Value) (hv:v=.ref f) (ho:s'.heap.get? f=some (kla_obj "<lambda>" qual (vX ap) body lsc [("leads",cl)] pm c' ctv)) (hL:f≠env.locals) (cd:s'.heap.CodeRec (.ref c') qual) (cL:c'≠env.locals)
  (x:XS wsC ok env (mH base P lp c') s'.heap [] ρ own os) (kp:∀ b o,b≠P→s.heap.get? b=some o→s'.heap.get? b=some o) (hg:gd s'=gd s) (hos:s'.os=s.os):LamRes wsC ok env base P ρ own os s ap lp body lsc cl v s'
theorem PK {ap lp:Pos} {body:Expr} {lsc:Scope} {cl:Addr} (hs:LamSc lsc) (T:LamCode base env K mg ok c P) (Se:EnvSt env sc) (X:XS wsC ok env base s.heap [] ρ own os) (gl:Gl K mg base) (hcl:env.cells.lookup ("leads" : Str)=some cl) :
  Wp prog w A (eval (.Lambda (vX ap) body lsc lp) env) s (LamRes wsC ok env base P ρ own os s ap lp body lsc cl):=by
 have hclos:closureFor lsc env=pure [(("leads" : Str),cl)]:=by
  unfold closureFor cellOf
  rw [hs.names]
  simp [hcl]
 have hP:=X.keep _ _ T.tab
 have glh:=gl.keep X.keep
 obtain ⟨bm,ob,b1,b2,b3,b4,b5,b6⟩:=T.bi
 refine kla_eval rfl (kla_makeFunction hclos Se.glob glh.g T.code (T.hd.keeps X.keep) hP trivial rfl (Fb glh.g hP) ⟨bm,ob,b1,b2,b3,b4,X.keep _ _ b5,b6⟩ fun c' ctv h' tk hx hge hlt hrec htb=>?_)
 have hLs:env.locals < s.heap.objs.size:=by obtain ⟨m,hm⟩:=X.loc; exact hm.lt
 have kp:∀ (b:Addr) (o x:Obj),b≠P→s.heap.get? b=some o→(h'.push x).get? b=some o:=fun b o x hb e=>aQ _ (hx b o hb e)
 refine ⟨h'.objs.size,c',env.qual ++ "<lambda>",_,ctv,rfl,bw _ rfl,Nat.ne_of_gt (Nat.lt_trans (Nat.lt_of_lt_of_le hLs hge) hlt),?_,Nat.ne_of_gt (Nat.lt_of_lt_of_le hLs hge),?_,fun b o hb e=>kp b o _ hb e,rfl,rfl⟩
 ·obtain ⟨c2,o2,vs2,t2,e2,hc2,r2⟩:=hrec
  exact ⟨c2,o2,vs2,t2,e2,aQ _ hc2,r2⟩
 ·refine X.rebase (P:=P) (fun b o hb e=>kp b o _ hb e) (by rw [T.tab]; exact nofun) T.nok (fun b hb=>lH hb) fun o e=>?_
  rw [uW T.tab] at e
  cases e
  exact aQ _ htb
inductive SortS (wsC:Fix) (ok:AP) (env:Env) (base:Heap) (P:Addr) (ρ:aJ) (own:Str→Addr) (os:List Addr) (s:Shared) (k:Nat) (g:Int→Int) (lp:Pos) (f:Flow) (s':Shared):Prop where
 | mk (e:f=.next) (c':Addr) (out:List Int) (p:out.Perm ((List.range k).map fun i=>((i:Nat):Int))) (o:out.Pairwise fun x y=>g x≤g y) (x:XS wsC ok env (mH base P lp c') s'.heap [] (dD ρ ("order" : Str) (.list (out.map .int))) own os) (hg:gd s'=gd s) (ho:s'.os=s.os):SortS wsC ok env base P ρ own os s k g lp f s'
structure SortOk (sc:Sc) (ρ:aJ) (k:Nat) (ds:List D):Prop where
 srt:sc.lookup ("sorted" : Str)=some .globalImplicit
 leads:sc.lookup ("leads" : Str)=some .cell
 stor:bD sc [] ("order" : Str)=true
 lines:ρ.lookup ("lines" : Str)=some (.range 0 k)
 lds:ρ.lookup ("leads" : Str)=some (.list ds)
 k64:k < 64
theorem Le {ap lp p1 p2 p3 q kp cp apos:Pos} {e:Expr} {lsc:Scope} {ds:List D} {ke k:Nat} {g:Int→Int} (hs:LamSc lsc) (C:CtxOk prog w K mg wsC n G) (hA:OkA A (n+2)) (T:LamCode base env K mg ok c P) (Se:EnvSt env sc) (X:XS wsC ok env base s.heap [] ρ own os)
  (gl:Gl K mg base) (hf:Fresh ok base) (hm:mg ("sorted" : Str)=none) (Q:SortOk sc ρ k ds) (he:∀ i:Nat,i < k→∃ j,(cP G ke).E vZ [(("line" : Str),D.int i),(("leads" : Str),D.list ds)] e=some (.int j)∧g i = -j) :
  Wp prog w A (exec (.Assign [.Name "order" p1] (.Call (.Name "sorted" p2) [.Name "lines" p3] [⟨some "key",.Lambda (vX ap) (.UnaryOp .USub e q) lsc lp,kp⟩] cp) apos) env) s (SortS wsC ok env base P ρ own os s k g lp):=by
 obtain ⟨mb,hb,hbe⟩:=(gl.keep X.keep).b
 refine wpAny_Assign_Name (wpAny_Call_Name_kw (Name_function_global Se.kind (by unfold Env.kindOf; rw [Se.names]; exact Q.srt) (loadGlobal_builtin (by rw [Se.glob]; exact (gl.keep X.keep).g) hm (by rw [Se.bi]; exact hb) ((hbe _ (by decide)).trans rfl) ?_)))
 obtain ⟨rv,nv,hr⟩:=X.val _ _ Q.lines (nomatch ·)
 obtain ⟨lv,nl,hl⟩:=X.val _ _ Q.lds (nomatch ·)
 obtain ⟨cl,hcl,hlc⟩:∃ cl,env.cells.lookup ("leads" : Str)=some cl∧s.heap.IsCell cl (some lv):=by
  rcases nl with ⟨a,_⟩ | ⟨_,b⟩
  ·unfold Env.kindOf at a; rw [Se.names,Q.leads] at a; exact nomatch a
  ·exact b
 have hPn:∀ b,vO env os b→b≠P:=fun b q t=>by have:=X.new b q; rw [t,T.tab] at this; cases this
 refine callWith_kw (spliced_more (wpAny_Name (jt Se.kind rfl nv (spliced_none (kws_cons (wpAny_mono (PK hs T Se X gl hcl) (fun v s₁ h₁=>kws_nil ?_) fun _ _ e=>e)))) rfl))
 obtain ⟨f,c',qual,pm,ctv,rfl,ho,hoL,cd,cL,X1,kp,hg,hos⟩:=h₁
 obtain ⟨r,_,_,_,rfl,_⟩:=hr.range_inv
 have mv:∀ {v d},Rep wsC (okIn ok env os) s.heap v d→Rep wsC (okIn ok env os) s₁.heap v d:=fun hr=>hr.mono fun b o q e=>⟨q,kp b o (fun t=>T.nok (t▸q.1)) e⟩
 have hlc':s₁.heap.IsCell cl (some lv):=by
  obtain ⟨o,h1,h2⟩:=hlc
  exact ⟨o,kp _ o (hPn _ (.inr (.inl ⟨_,hcl⟩))) h1,h2⟩
 refine wpAny_mono (K6 hs C hA Se X1 (T.gl gl) (T.fresh hf) (by unfold mH; rw [Heap.size_update]; exact T.L) (mv hr) Q.k64 ho hoL cd cL hcl hlc' (mv hl) he) (fun v s₂ h₂=>?_) fun _ _ e=>e
 obtain ⟨out,p,o,r,x,hg2,ho2⟩:=h₂
 refine wpAny_mono (gK x Se Q.stor r) (fun _ s₃ h₃=>⟨rfl,c',out,p,o,h₃.1,h₃.2.gens.trans (hg2.trans hg),h₃.2.os.trans (ho2.trans hos)⟩) fun _ _ e=>e
end
section
variable {prog:Program} {w:World} {A:Around} {s:Shared} {wsC:Fix} {ok:AP} {K:Frag} {mg:Str→Option Value} {G:Ctx} {n:Nat} {env:Env} {sc:Sc} {base base' h h':Heap} {ρ:aJ} {own:Str→Addr} {os:List Addr} {c P:Addr} {W:List Str}
theorem HS {p:Pos} {c':Addr} (T:LamCode base env K mg ok c P) (hP:P≠cStatics):OldK base (mH base P p c'):=by
 obtain ⟨o,vs,_,_,_,_,_,_,_,e1,e2,e3,e4,_,_,_,_,_,hne⟩:=id T.hd
 refine (OldK.refl base).step_table (T.hd.tab T.tab) (T.hd.tab T.tab) ⟨⟨o,vs,?_,e2,e3,e4⟩,uW T.tab⟩ (fun b o hb e=>(lH hb).trans e) hP
 exact (lH hne).trans e1
structure LawRun (G:Ctx) (ke kx:Nat) (sc:Sc) (W:List Str) (b1 b2 b3:List Stmt) (ρ:aJ) (e:Expr) (ρ1 ρ2:aJ) (k:Nat) (ds:List D) (g:Int→Int):Prop where
 one:yQ (wC (cP G ke) sc W kx) b1 ρ=some (.next,ρ1)
 two:yQ (wC (cP G ke) sc [] kx) b2 ρ1=some (.next,ρ2)
 srt:SortOk sc ρ2 k ds
 key:∀ i:Nat,i < k→∃ j,(cP G ke).E vZ [(("line" : Str),D.int i),(("leads" : Str),D.list ds)] e=some (.int j)∧g i = -j
 rest:∀ out:List Int,out.Perm ((List.range k).map fun i=>((i:Nat):Int))→(out.Pairwise fun x y=>g x≤g y)→Ou G ke kx sc [] b3 (dD ρ2 ("order" : Str) (.list (out.map .int)))=some (.bool true)
theorem Uz {ap lp p1 p2 p3 q kp cp apos:Pos} {e:Expr} {lsc:Scope} {ds:List D} {ke kx k:Nat} {g:Int→Int} {b1 b2 b3:List Stmt} {ρ1 ρ2:aJ} (hs:LamSc lsc) (C:CtxOk prog w K mg wsC n G) (hA:OkA A (n+2)) (T:LamCode base env K mg ok c P) (Se:EnvSt env sc)
  (X:XS wsC ok env base s.heap W ρ own os) (gl:Gl K mg base) (hf:Fresh ok base) (hm:mg ("sorted" : Str)=none) (R:LawRun G ke kx sc W b1 b2 b3 ρ e ρ1 ρ2 k ds g) :
  Wp prog w A (execs (b1++(b2 ++ .Assign [.Name "order" p1] (.Call (.Name "sorted" p2) [.Name "lines" p3] [⟨some "key",.Lambda (vX ap) (.UnaryOp .USub e q) lsc lp,kp⟩] cp) apos :: b3)) env) s fun f s'=>∃ v,f=.ret v∧OldK base s'.heap∧gd s'=gd s∧s'.os=s.os∧v=.bool true:=by
 have S:=jD C ke
 have hA':OkA A n:=hA.le (Nat.le_add_right n 2)
 rw [zA]
 refine wpAny_bind (wpAny_mono (vG (o6 S (uD C ke) hA' C.zip Se gl hf kx) X R.one) (fun f s₁ h₁=>?_) fun _ _ e=>e.elim)
 obtain ⟨own1,os1,X1,st1,hfl⟩:=h₁
 have hfl:f=.next:=hfl
 subst hfl
 dsimp only
 rw [zA]
 refine wpAny_bind (wpAny_mono (vG (o6 S (uD C ke) hA' C.zip Se gl hf kx) (X1.freeze hf) R.two) (fun f s₂ h₂=>?_) fun _ _ e=>e.elim)
 obtain ⟨own2,os2,X2,st2,hfl⟩:=h₂
 have hfl:f=.next:=hfl
 subst hfl
 dsimp only
 refine wpAny_execs_cons (wpAny_mono (Le hs C hA T Se X2 gl hf hm R.srt R.key) (fun f s₃ h₃=>?_) fun _ _ e=>e.elim)
 obtain ⟨rfl,c',out,p,o,X3,hg,ho⟩:=h₃
 have hP:P≠cStatics:=by obtain ⟨mc,h1,_⟩:=gl.nl; exact (Fb h1 T.tab).symm
 refine wpAny_mono (JS C hA' Se (T.gl gl) (T.fresh hf) X3 (R.rest out p o)) (fun f s₄ h₄=>?_) fun _ _ e=>e.elim
 obtain ⟨v,rfl,kp,hg4,ho4,hv⟩:=h₄
 exact ⟨v,rfl,(HS T hP).step_keeps kp,hg4.trans (hg.trans (st2.gens.trans st1.gens)),ho4.trans (ho.trans (st2.os.trans st1.os)),hv.bool_inv⟩
end
noncomputable def srtS:Stmt:=(dF 21).getD 13 (.Pass default)
noncomputable def srtC:Expr:=(yL srtS).v
noncomputable def kwE (e:Expr):Keyword:=match e with
 | .Call _ _ ks _=>ks.headD ⟨none,dummy,default⟩
 | _=>⟨none,dummy,default⟩
noncomputable def VP (e:Expr):Pos × Expr × Scope:=match e with
 | .Lambda a b s _=>((match a.args with | []=>default | x :: _=>x.pos),b,s)
 | _=>(default,e,default)
noncomputable def Mm:Expr:=kid (VP (kwE srtC).value).2.1 0
noncomputable def lamS:Scope:=(VP (kwE srtC).value).2.2
theorem Ob:dF 21=lBA++(lBB ++ .Assign [.Name "order" (yL srtS).t.pos] (.Call (.Name "sorted" (kid srtC 0).pos) [.Name "lines" ((kids srtC).headD dummy).pos] [⟨some "key",.Lambda (vX (VP (kwE srtC).value).1) (.UnaryOp .USub Mm (VP (kwE srtC).value).2.1.pos) lamS (kwE srtC).value.pos,(kwE srtC).pos⟩] srtC.pos) srtS.pos :: lBC):=by kernel_rfl!
theorem lam_sc:LamSc lamS:=⟨by kernel_rfl!,by kernel_rfl!,by kernel_rfl!,by kernel_rfl!⟩
noncomputable abbrev R2:SE := .attr (.sub (.var 1) (.var 0)) .n
noncomputable abbrev keyT:TP:=⟨fun _=>true,["line","leads"],vZ⟩
theorem key_e:dE R2 keyT.L Mm=Mm:=by kernel_rfl!
theorem Yt:ok R2 false keyT Mm 30=true:=by kernel_rfl!
theorem key_K {i:Int} {ds:List D}:Kns keyT [(("line" : Str),D.int i),(("leads" : Str),D.list ds)] [some (.int i),some (.list ds)]:=by
 refine ⟨fun x j d _ hj hd=>?_,fun x hx=>?_⟩
 ·have hm:=GJ hj
  match j,hm,hd with
  | 0,hm,hd=>obtain rfl:=aj hm; obtain rfl:=aj hd; rfl
  | 1,hm,hd=>obtain rfl:=aj hm; obtain rfl:=aj hd; rfl
 ·have:=mem_of_lookup (show List.lookup x vZ=some .globalImplicit from hx)
  simp only [List.mem_cons,Prod.mk.injEq,List.not_mem_nil,or_false] at this
  rcases this with ⟨_,h⟩ | ⟨_,h⟩ <;> cases h
theorem Zz {G:Ctx} (hG:gU G) {n:Nat} {f:Nat→Ws} {i:Nat} (hn:n≤6) (hi:i < n):(cP G 30).E vZ [(("line" : Str),D.int i),(("leads" : Str),D.list ((List.range n).map fun i=>D.ws (f i)))] Mm=some (.int (f i).n):=by
 obtain ⟨d,hd,rfl⟩:=(SE.right hG R2).1 (Q:=fun d=>d=.int (f i).n) Yt (key_K (i:=(i:Int)) (ds:=(List.range n).map fun i=>D.ws (f i))) ⟨_,nT (f:=fun i=>D.ws (f i)) hn hi,rfl⟩
 rw [key_e] at hd
 exact hd
theorem Cw:(gB 21).names.lookup ("sorted" : Str)=some .globalImplicit∧(gB 21).names.lookup ("leads" : Str)=some .cell∧bD (gB 21).names [] ("order" : Str)=true:=⟨by kernel_rfl!,by kernel_rfl!,by kernel_rfl!⟩
theorem zF:(lwL.take 1==[("script" : Str)])=true∧([("script" : Str)].all fun x=>!((gB 21).names.lookup x==some .globalImplicit))=true:=⟨by kernel_rfl!,by kernel_rfl!⟩
theorem cels (pg:List Cel):∃ cel:Nat→Cel,pg=(List.range pg.length).map cel:=⟨fun i=>pg.getD i ⟨0,0,0⟩,List.ext_getElem (by simp) fun i h1 h2=>by simp [h1]⟩
theorem Y0 {G:Ctx} (L:LG G) {ns:List Int} (hl:ns.length≤63) {N B:Kn→Prop} {R:D→Prop} (k:∀ u cel,Pg ((cj ns).getD 0 0 % 12).toNat (cQ ((cj ns).getD 0 0 % 12).toNat*aD ((cj ns).getD 0 0 % 12).toNat) cel →
   N (kB (some (.list (ns.map .int))) (cj ns) (gJ ((cj ns).getD 0 0)) (aD ((cj ns).getD 0 0 % 12).toNat) (jP ((cj ns).getD 0 0 / 3 % 4)) (vQ ((cj ns).getD 0 0 % 12).toNat (cQ ((cj ns).getD 0 0 % 12).toNat*aD ((cj ns).getD 0 0 % 12).toNat) cel) u none jB)) :
  wS G Ox (bH 27 [.list (ns.map .int)]) N B R:=by
 refine seg_a hl ?_
 have hd:=uJ ns
 generalize cj ns=dr at *
 generalize dr.getD 0 0=d0 at *
 obtain ⟨e1,e2⟩:=P0 (d:=d0)
 have hq:(d0 % 12).toNat < 12:=by omega
 rw [e2]
 generalize hqq:(d0 % 12).toNat=q at *
 have hc:aD q=2∨aD q=3:=by unfold aD; split <;> simp
 have hr:gJ d0=2∨gJ d0=3:=by rw [e1]; unfold cQ; split <;> simp
 have h6:cQ q*aD q≤6:=by unfold cQ aD; split <;> split <;> omega
 have em:(gJ d0:Int)*(aD q:Int)=((cQ q*aD q:Nat):Int):=by rw [e1]; exact (Int.natCast_mul _ _).symm
 dsimp only [Vi,kA,q7,wS,wX,wL,wA,wO,bH,bF,bC,fP,fX,fC,fQ,fK,b7,cu,cG,bQ,bZ,bR,cD,cF,cg,cz,bY,bT,bU,cA,fJ,f9,gf,fH,fB,fM,fV,fG,gb,fZ,fY,fD,fc,fj,gh,fL,fU,aX,aN,aA,aC,aZ,aB,aY,aP,aV,aU,aR,eN,eQ,eV,d9,aW,aM,bh,bG,bI,cond_true,cond_false]
 rw [em]
 refine ⟨by omega,⟨by decide,by decide,by omega,by omega⟩,?_⟩
 rw [jQ]
 refine oV (fun j kn=>∃ u pg,PgOk (aD q) j pg∧kn=kA (some (.list (ns.map .int))) dr (gJ d0) (aD q) (jP (d0 / 3 % 4)) (.list (pg.map (xU (aD q)))) u) ⟨⟨none,none,none,none,none,none⟩,[],⟨.refl _,fun _ h=>(nomatch h),fun _ h=>(nomatch h),fun _ h=>(nomatch h)⟩,rfl⟩ (fun j x kn hj ⟨u,pg,P,e⟩ M hM=>?_) fun kn ⟨u,pg,P,e⟩=>?_
 ·subst e
  rw [List.getElem?_map] at hj
  obtain ⟨l,hj2,rfl⟩:=Option.map_eq_some_iff.mp hj
  obtain ⟨h1,h2⟩:=List.getElem?_eq_some_iff.mp hj2
  rw [List.getElem_range] at h2
  rw [List.length_range] at h1
  subst h2
  exact YW (u:=u) L hd (by omega) hc P fun u pg' P'=>hM _ ⟨u,pg',P',rfl⟩
 ·subst e
  rw [List.length_map,List.length_range] at P
  obtain ⟨cel,e⟩:=cels pg
  rw [P.len] at e
  subst e
  exact k u cel ⟨hq,rfl,P⟩
theorem part_b {G:Ctx} (L:LG G) {q n:Nat} {cel:Nat→Cel} (P:Pg q n cel) {v:Option D} {dr:List Int} (hd:dr.length=7) (hq:q=(dr.getD 0 0 % 12).toNat) {u:JA} {N B:Kn→Prop} {R:D→Prop}
  (k:N (kB v dr (gJ (dr.getD 0 0)) (aD q) (jP (dr.getD 0 0 / 3 % 4)) (vQ q n cel) u (some (.range 0 n)) ⟨some (lst n fun i => .str (Yl cel i)),some (.str (mz q).1),some (.str (mz q).2),none,some (lst n fun a=>lst n fun b => .bool (bz q cel a b)),some (lst n fun l => .list ((ph n (bz q cel) l).map fun b => .int (b:Nat))),some (lst n fun l => .list ((o8 n (bz q cel) l).map fun b => .int (b:Nat))),none,none,none,none,none,none,some (lst n fun i => .ws (lU q cel i))⟩)) :
  wS G M7 (kB v dr (gJ (dr.getD 0 0)) (aD q) (jP (dr.getD 0 0 / 3 % 4)) (vQ q n cel) u none jB) N B R:=by
 refine seg_b1 L P (YZ (d0:=dr.getD 0 0) (getInt (by rw [hd]; decide)) hq ?_)
 refine Y6 (k:=((q:Nat):Int)) (w:=jB) L P rfl (fun {e} h0 h2=>by rw [hq]; exact Sd h0 h2) ?_
 exact ZF L P rfl (Ys P rfl (YT P rfl (YC P rfl k)))
theorem Mi {G:Ctx} (L:LG G) {ns:List Int} (hl:ns.length≤63):∃ ρ1 ρ2 k ds g,LawRun G 30 30 (gB 21).names [("page" : Str)] lBA lBB lBC ([("script" : Str)].zip [.list (ns.map .int)]) Mm ρ1 ρ2 k ds g:=by
 obtain ⟨ρ1,kn1,e1,X1,u,cel,P,rfl⟩:=Rc (t:=lTA) (N:=fun kn=>∃ u cel,Pg ((cj ns).getD 0 0 % 12).toNat (cQ ((cj ns).getD 0 0 % 12).toNat*aD ((cj ns).getD 0 0 % 12).toNat) cel∧kn=kB (some (.list (ns.map .int))) (cj ns) (gJ ((cj ns).getD 0 0)) (aD ((cj ns).getD 0 0 % 12).toNat) (jP ((cj ns).getD 0 0 / 3 % 4)) (vQ ((cj ns).getD 0 0 % 12).toNat (cQ ((cj ns).getD 0 0 % 12).toNat*aD ((cj ns).getD 0 0 % 12).toNat) cel) u none jB)
  L.bn lEA lOA (HB (t:=lTA) (pn:=[("script" : Str)]) (n:=27) zF.1 zF.2 rfl) (Y0 L hl fun u cel P=>⟨u,cel,P,rfl⟩)
 have hd:=uJ ns
 have eR:=(P0 (d:=(cj ns).getD 0 0)).1
 generalize cj ns=dr at *
 generalize hq:(dr.getD 0 0 % 12).toNat=q at *
 generalize cQ q*aD q=n at *
 obtain ⟨ρ2,kn2,e2,X2,rfl⟩:=Rc (t:=lTB) (N:=fun kn=>kn=_) L.bn lEB lOB X1 (part_b L P hd hq.symm rfl)
 have hz:=P.n6.1
 refine ⟨ρ1,ρ2,n,(List.range n).map fun i => .ws (lU q cel i),fun x => -(lU q cel x.toNat).n,e1,e2,⟨Cw.1,Cw.2.1,Cw.2.2,X2.v _ 12 _ rfl (by kernel_rfl!) rfl,X2.v _ 26 _ rfl (by kernel_rfl!) rfl,by omega⟩,fun i hi=>⟨_,Zz L.bn hz hi,rfl⟩,fun out hp ho=>?_⟩
 obtain ⟨o,rfl,T⟩:=YS P hp ho
 have X3:=X2.set (t:=lTB) (y := "order") (i:=20) (d := .list ((o.map fun i=>((i:Nat):Int)).map .int)) (by kernel_rfl!) (by rw [show lTB.sc.lookup ("order" : Str)=some .local by kernel_rfl!]; exact nofun)
 refine Zu (t:=lTC) L.bn lEC lOC X3 ?_
 have:=Y9 (N:=fun _=>False) (B:=fun _=>False) (c:=⟨some (.list (ns.map .int)),some (jP (dr.getD 0 0 / 3 % 4)),some (.str (mz q).1),some (.str (mz q).2),some (lst n fun a=>lst n fun b => .bool (bz q cel a b)),some (lst n fun i => .ws (lU q cel i)),u⟩) L P hd T
 unfold kW0 at this
 rw [List.map_map]
 rw [← eR] at this
 exact this
theorem GZ {α:Type} {P:List α→Prop} (h:P []):∀ l:List α,l.length=0→P l
 | [],_=>h
theorem s8 {α:Type} {P:List α→Prop} {n:Nat} (h:∀ a:α,∀ r:List α,r.length=n→P (a :: r)):∀ l:List α,l.length=n+1→P l
 | a :: r,e=>h a r (Nat.succ.inj e)
section
variable {prog:Program} {w:World} {K:Frag} {mg:Str→Option Value} {wsC:Fix} {n m:Nat} {v:Value} {F F':Fn} {G:Ctx}
structure FnK (prog:Program) (w:World) (K:Frag) (mg:Str→Option Value) (wsC:Fix) (n:Nat) (v:Value) (F:Fn):Prop where
 ok:Ov prog w K mg wsC n v F
theorem FnK.lift (h:FnK prog w K mg wsC n v F) (hm:n≤m):FnK prog w K mg wsC m v F:=⟨fun hA gl hf hr he=>h.ok (hA.le hm) gl hf hr he⟩
theorem FnK.of (h:FnK prog w K mg wsC n v F) (hF:∀ ds d,F' ds=some d→F ds=some d):FnK prog w K mg wsC n v F':=⟨fun hA gl hf hr he=>h.ok hA gl hf hr (hF _ _ he)⟩
noncomputable def rJ (o:Obj):FuncData:=match o.data with
 | .func f=>f
 | _=>default
noncomputable def du (K:Frag) (fd:FuncData) (pn:List Str):Bool :=
 fd.globals==mainGlobals&&fd.builtins==builtinsNs&&fd.closure.isEmpty&&codeIn K fd.code fd.qualname&&fd.scope.kind == .function&&!fd.scope.isCoroutine&&!fd.scope.isGenerator&&fd.scope.names.all (fun p=>p.2 != .free)&&pn.all (fun x=>fd.scope.names.lookup x==some .local||fd.scope.names.lookup x==some .cell)
theorem cV {a:Addr} {fd:FuncData} {pn:List Str} {body:List Stmt} {o:Obj} (hl:K.lookup a=some o) (ho:o.data=.func fd) (hb:fd.body=.stmts body) (h:du K fd pn=true) (hn:pn.Nodup)
  (hbind:∀ vs:List Value,vs.length=pn.length→bindArgs fd ⟨vs,[]⟩=pure (pn.zip vs)):FnData K a fd pn body:=by
 unfold du at h
 simp only [Bool.and_eq_true] at h
 obtain ⟨⟨⟨⟨⟨⟨⟨⟨h1,h2⟩,h3⟩,h4⟩,h5⟩,h6⟩,h7⟩,h8⟩,h9⟩:=h
 refine ⟨⟨o,hl,ho⟩,hb,by simpa using h1,by simpa using h2,by simpa using h3,h4,by simpa using h5,by simpa using h6,by simpa using h7,fun x hx=>?_,fun x hx=>?_,hn,hbind⟩
 ·have:=List.all_eq_true.mp h8 _ (mem_of_lookup hx)
  simp at this
 ·have:=List.all_eq_true.mp h9 _ hx
  rcases Bool.or_eq_true_iff.mp this with q | q
  ·exact .inl (by simpa using q)
  ·exact .inr (by simpa using q)
structure Base (K:Frag) (mg:Str→Option Value) (wsC:Fix):Prop where
 bn:∀ b:Bn,mg b.name=none
 zip:mg "zip" = none
 fix:FixOk K wsC
 hga:findIn K (.ref wsC.ws) "__getattribute__" = some (some (.builtin "object.__getattribute__"))
 hgk:findIn K (.ref wsC.ws) "__getattr__" = some none
 hhd:hasDictIn K wsC.ws=true
 attrs:∀ a∈attrNames,findIn K (.ref wsC.ws) a=some none
noncomputable def FnIs (prog:Program) (w:World) (K:Frag) (mg:Str→Option Value) (wsC:Fix) (n:Nat) (p:Str × Fn):Prop:=∃ v,mg p.1=some v∧keepIn K v=true∧FnK prog w K mg wsC n v p.2
noncomputable def Xa (mg:Str→Option Value) (wsC:Fix) (p:Str × D):Prop:=∃ v,mg p.1=some v∧∀ ok h,Rep wsC ok h v p.2
noncomputable def Zo (prog:Program) (w:World) (K:Frag) (mg:Str→Option Value) (wsC:Fix) (n:Nat) (p:Str × Fn):Prop :=
 p.1∈meths∧∃ f,findIn K (.ref wsC.ws) p.1=some (some (.ref f))∧typeIn K (.ref f)=some (.type "function")∧keepIn K (.ref f)=true∧FnK prog w K mg wsC n (.ref f) p.2
theorem xY (B:Base K mg wsC) (hf:∀ p∈G.fns,FnIs prog w K mg wsC n p) (hv:∀ p∈G.vals,Xa mg wsC p) (hm:∀ p∈G.meths,Zo prog w K mg wsC n p):CtxOk prog w K mg wsC n G where
 fn:=fun x F e=>by obtain ⟨v,a,b,c⟩:=hf _ (mem_of_lookup e); exact ⟨v,a,b,c.ok⟩
 val:=fun x d e=>hv _ (mem_of_lookup e)
 bn:=B.bn
 zip:=B.zip
 fix:=B.fix
 hga:=B.hga
 hgk:=B.hgk
 hhd:=B.hhd
 attrs:=B.attrs
 meth:=fun x F e=>by obtain ⟨q,f,a,b,c,d⟩:=hm _ (mem_of_lookup e); exact ⟨q,f,a,b,c,d.ok⟩
noncomputable def keyI:Value→Option Int | .int i _=>some i | _=>none
noncomputable def valS:Value→Option Str | .str y _=>some y | _=>none
theorem Qw {v:Value} {i:Int} (h:keyI v=some i):∃ t,v=.int i t:=by cases v with
 | int j t=>exact ⟨t,congrArg (Value.int · t) (aj h)⟩
 | _=>exact nomatch h
theorem QD {v:Value} {i:Str} (h:valS v=some i):∃ t,v=.str i t:=by cases v with
 | str j t=>exact ⟨t,congrArg (Value.str · t) (aj h)⟩
 | _=>exact nomatch h
noncomputable def entO (p:Int × Str) (e:DictEntry):Bool:=keyI e.key==some p.1&&valS e.val==some p.2&&e.hash==hashInt p.1
theorem Eh {p:Int × Str} {e:DictEntry} (h:entO p e=true):(∃ t,e.key=.int p.1 t)∧(∃ t,e.val=.str p.2 t)∧e.hash=hashInt p.1:=by
 obtain ⟨h,h3⟩:=bj h
 obtain ⟨h1,h2⟩:=bj h
 exact ⟨Qw (eq_of_beq h1),QD (eq_of_beq h2),eq_of_beq h3⟩
noncomputable def Dr:List (Int × Str)→List DictEntry→Bool
 | [],es=>es.isEmpty
 | p :: L,es=>(match es with
  | []=>false
  | e :: es=>entO p e&&Dr L es)
theorem z6 {p:Int × Str} {L:List (Int × Str)} {es:List DictEntry} (h:Dr (p :: L) es=true):∃ a r,es=a :: r∧entO p a=true∧Dr L r=true:=by
 cases es with
 | nil=>exact nomatch h
 | cons a r=>obtain ⟨h1,h2⟩:=bj h; exact ⟨a,r,rfl,h1,h2⟩
theorem FJ {es:List DictEntry} (h:Dr [] es=true):es=[]:=by
 cases es with
 | nil=>rfl
 | cons _ _=>exact nomatch h
theorem Lw:∀ {L:List (Int × Str)} {es:List DictEntry},Dr L es=true→∀ e∈es,∃ k,Value.isInt k e.key=true∧e.hash=hashInt k:=by
 intro L
 induction L with
 | nil=>intro es h e he; rw [FJ h] at he; exact nomatch he
 | cons p L ih =>
  intro es h e he
  obtain ⟨a,r,rfl,h1,h2⟩:=z6 h
  rcases cM he with rfl | he
  ·obtain ⟨⟨t,hk⟩,_,h3⟩:=Eh h1
   exact ⟨p.1,by rw [hk]; simp [Value.isInt],h3⟩
  ·exact ih h2 e he
theorem Mf:∀ {L:List (Int × Str)} {es:List DictEntry},Dr L es=true→∀ k,match L.lookup k with
  | some x=>∃ t,(es.find? fun e=>Value.isInt k e.key).map (·.val)=some (.str x t)
  | none=>(es.find? fun e=>Value.isInt k e.key).map (·.val)=none:=by
 intro L
 induction L with
 | nil=>intro es h k; rw [FJ h]; rfl
 | cons p L ih =>
  intro es h k
  obtain ⟨a,r,rfl,h1,h2⟩:=z6 h
  have ih:=ih h2 k
  obtain ⟨⟨t,hk⟩,⟨u,hv⟩,_⟩:=Eh h1
  obtain ⟨i,y⟩:=p
  rw [List.lookup_cons,List.find?_cons,hk]
  by_cases q:k=i
  ·subst q
   simp only [beq_self_eq_true,Value.isInt]
   exact ⟨u,by rw [Option.map_some,hv]⟩
  ·have q1:(k==i)=false:=by simpa using q
   have q2:Value.isInt k (.int i t)=false:=by simp [Value.isInt]; exact fun e=>q e.symm
   rw [q1,q2]
   exact ih
theorem Kd {o:Obj} {es:List DictEntry} {ep:Nat} {L:List (Int × Str)} (hx:o.ExactDict) (hd:o.data=.dict es.toArray ep) (h:Dr L es=true):G7 o fun k=>L.lookup k:=by
 refine ⟨hx,es.toArray,ep,hd,fun prog w e he=>Lw h e (by simpa using he),fun k=>?_⟩
 have:=Mf h k
 unfold findBy
 rw [List.find?_toArray]
 exact this
end
theorem M9 (w:World) (os:OsState):StmtRun pw w bL dX az (Xn w os).abs (st 13) (S16 aG w os).abs:=by
 rw [VG]
 obtain ⟨t1,t2⟩:=Prod.mk.inj (Mj w os)
 obtain ⟨t2,t3⟩:=Prod.mk.inj t2
 have hs:=Hi
 simp only [Bool.and_eq_true,Bool.not_eq_true'] at hs
 obtain ⟨⟨⟨⟨a1,a2⟩,a3⟩,a4⟩,a5⟩:=hs
 have hlen:(dm.1++dm.2.1).length=650:=Nat.eq_of_beq_eq_true a4
 refine StmtRun.of_assign K1 (v := .ref 75) (s₁:=(SM aG w os).abs) (fun pos=>?_) (Qu fun pos=>Hm aG w os pos)
 have h:=Ib (p:=pw) (w:=w) (env:=bL) (q:=dX) (b:=behindTheImports pw) (apos:=dictApos) (dpos:=wM) (s:=(Xn w os).abs) (done:=dm.1) (run:=dm.2.1) (subs:=dm.2.2) (S':=(SM aG w os).abs)
  dict_L (Ab QC) (by rw [N8]; decide) (by rw [t1]; rfl) (fun q=>by rw [q] at a1; cases a1) (fun q=>by rw [q] at a2; cases a2) (dw a3) (by rw [t3]; decide) t2 ?_ pos
 ·rw [t3] at h
  exact h
 ·have hh:=LQ aG w os
  rw [JW] at hh
  have e:(SM aG w os).abs={ (Xn w os).abs with heap:=(SM aG w os).abs.heap,toks:=(SM aG w os).abs.toks }:=rfl
  rw [e,hh,t1,hlen]
  rfl
theorem Ls:behindTheImports pw=[st 0,st 1,st 2,st 3,st 4,st 5,st 6,st 7,st 8,st 9,st 10,st 11,st 12,st 13,st 14,st 15,st 16,st 17,st 18,st 19,st 20,st 21]:=by kernel_rfl!
theorem RC (w:World) (os:OsState):Text pw w bL dX az (S2 w os).abs (behindTheImports pw) (nu aG w os).abs:=by
 rw [Ls]
 refine .cons (StmtRun.of_seg fun pos=>p0 w os pos) ?_
 refine .cons (StmtRun.of_seg fun pos=>p1 w os pos) ?_
 refine .cons (StmtRun.of_seg fun pos=>p2 w os pos) ?_
 refine .cons (StmtRun.of_seg fun pos=>p3 w os pos) ?_
 refine .cons (StmtRun.of_seg fun pos=>p4 w os pos) ?_
 refine .cons (StmtRun.of_seg fun pos=>p5 w os pos) ?_
 refine .cons (StmtRun.of_seg fun pos=>p6 w os pos) ?_
 refine .cons (StmtRun.of_seg fun pos=>p7 w os pos) ?_
 refine .cons (StmtRun.of_seg fun pos=>p8 w os pos) ?_
 refine .cons (StmtRun.of_seg fun pos=>p9 w os pos) ?_
 refine .cons (StmtRun.of_seg fun pos=>p10 w os pos) ?_
 refine .cons (StmtRun.of_seg fun pos=>p11 w os pos) ?_
 refine .cons (StmtRun.of_seg fun pos=>p12 w os pos) ?_
 refine .cons (M9 w os) ?_
 refine .cons (StmtRun.of_seg fun pos=>p14 aG w os pos) ?_
 refine .cons (StmtRun.of_seg fun pos=>p15 aG w os pos) ?_
 refine .cons (StmtRun.of_seg fun pos=>p16 aG w os pos) ?_
 refine .cons (StmtRun.of_seg fun pos=>p17 aG w os pos) ?_
 refine .cons (StmtRun.of_seg fun pos=>p18 aG w os pos) ?_
 refine .cons (StmtRun.of_seg fun pos=>p19 aG w os pos) ?_
 refine .cons (StmtRun.of_seg fun pos=>p20 aG w os pos) ?_
 refine .cons (StmtRun.of_seg fun pos=>p21 aG w os pos) ?_
 exact .nil
theorem Qz (pos:Pos):Thread.calm ⟨doneF .next,az,pos,[topFrame dX]⟩=true:=by rfl
theorem WK (w:World) (os:OsState) (hz:(⟨boot_heap w.params,#[],boot_drawn,boot_toks,os⟩:Shared).asleep):(nu aG w os).abs.asleep∧(nu aG w os).abs.heap.life=(boot_heap w.params).life ∧
  ∃ n t,schedN (denote table) pw w n (.single ⟨boot_heap w.params,#[],boot_drawn,boot_toks,os⟩ (topStub pw))=.running (.single (nu aG w os).abs t)∧through t=true:=by
 have e:=s0_eq w os
 rw [← e] at hz ⊢
 have hl:(S0 w os).abs.heap.life=(boot_heap w.params).life:=by rw [e]
 rw [← hl]
 have h1:=Z1 w os
 have h2:=J7 w os
 rw [← table_eq_tree] at h1 h2
 exact Ho hz h1 (.of_seg h2) (RC w os) Qz
theorem Kc (w:World) (os:OsState):(nu aG w os).abs.gens=#[]∧(nu aG w os).abs.os=os:=⟨rfl,rfl⟩
noncomputable def bB:Program:=view pw [21]
noncomputable def dJ:List Str:=pw.boundNames.filter (· != "law")
theorem Rr (D:Nat→Obj) (w:World) (os:OsState):([0,1,4,5,7,8,9,10].map fun b=>(boot_heap w.params).get? b)=[0,1,4,5,7,8,9,10].map fun b=>(nu D w os).abs.heap.get? b:=by kernel_rfl!
theorem Lf (w:World):(boot_heap w.params).objs.size=11:=by kernel_rfl!
theorem Sq (w:World):globalOf (boot_heap w.params) "__annotations__" = some (.ref 6):=by kernel_rfl!
theorem Fp:chainsOk bB=true:=by kernel_rfl!
theorem Iv (D:Nat→Obj) (w:World) (os:OsState):namesBound pw (nu D w os).abs.heap=true:=by kernel_rfl!
theorem KJ (D:Nat→Obj) (w:World) (os:OsState):laidKept (boot_heap w.params) (nu D w os).abs.heap=true:=by kernel_rfl!
theorem Bt (D:Nat→Obj) (w:World) (os:OsState):staticsOk (importedModules pw.main.body) (boot_heap w.params) (nu D w os).abs.heap=true:=by kernel_rfl!
theorem seen1 (D:Nat→Obj) (w:World) (os:OsState):seen ((recsOf bB).map (·.name)) (ownsOf bB) [] { (nu D w os).abs with gens:=#[] }=expectedOf bB:=by kernel_rfl!
theorem seen2 (D:Nat→Obj) (w:World) (os:OsState):(nu D w os).abs.heap.bltView=bltViewBooted:=by kernel_rfl!
theorem seen3 (D:Nat→Obj) (w:World) (os:OsState):((nu D w os).abs.heap.keysOk (looseW bB dJ) ((recsOf bB).map (·.name)) ((PyProof.Rows.litsOf bB).map (·.1)) ((clssOf bB (looseW bB dJ)).map (·.name))&&(nu D w os).abs.heap.accountedOkI (importedModules pw.main.body)&&(nu D w os).abs.heap.isNs mainGlobals&&(nu D w os).abs.heap.isNs builtinsNs&&tablesOk bB (nu D w os).abs.heap&&true&&(if true then (nu D w os).abs.gens.size==0 else !leftWithCleanup (nu D w os).abs.gens))=true:=by kernel_rfl!
theorem seen4 (D:Nat→Obj) (w:World) (os:OsState):tabsOk bB (nu D w os).abs=true:=by kernel_rfl!
theorem seen5 (D:Nat→Obj) (w:World) (os:OsState):pinSeenD bB (drecsOf bB) (nu D w os).abs=pinGoodD (drecsOf bB):=by kernel_rfl!
theorem seen6 (D:Nat→Obj) (w:World) (os:OsState):plainSeenE bB (looseW bB dJ) (nu D w os).abs=plainGoodE bB (looseW bB dJ):=by kernel_rfl!
theorem seen7 (D:Nat→Obj) (w:World) (os:OsState):plainSeenD bB dJ (nu D w os).abs=plainGoodD bB dJ:=by kernel_rfl!
theorem seen8 (D:Nat→Obj) (w:World) (os:OsState):wideSeen bB (nu D w os).abs=wideGood bB:=by kernel_rfl!
theorem seen9 (D:Nat→Obj) (w:World) (os:OsState):clsSeenW bB dJ (nu D w os).abs=clsGoodW bB dJ:=by kernel_rfl!
theorem Ln (w:World) (os:OsState):openSeen bB dJ (importedModules pw.main.body) (fun _=>true) true (nu aG w os).abs=openGood bB dJ:=by
 unfold openSeen openGood
 rw [seen1,seen2,seen3,seen4,seen5,seen6,seen7,seen8,seen9]
theorem Ut (w:World) (os:OsState) (b:Addr) (o:Obj) (h:(boot_heap w.params).get? b=some o) (hn:¬ theTopsOwn (boot_heap w.params) b):(nu aG w os).abs.heap.get? b=some o:=by
 have hb:b < 11:=by rw [← Lf w]; exact Heap.lt_size h
 have h3:b≠3:=fun q=>hn (.inl q)
 have h2:b≠2:=fun q=>hn (.inr (.inl q))
 have h6:b≠6:=fun q=>hn (.inr (.inr (by rw [q]; exact Sq w)))
 have k:=Rr aG w os
 simp only [List.map_cons,List.map_nil,List.cons.injEq,and_true] at k
 obtain ⟨k0,k1,k4,k5,k7,k8,k9,k10⟩:=k
 match b,hb,h3,h2,h6,h with
 | 0,_,_,_,_,h=>exact k0▸h
 | 1,_,_,_,_,h=>exact k1▸h
 | 2,_,_,h2,_,h=>exact absurd rfl h2
 | 3,_,h3,_,_,h=>exact absurd rfl h3
 | 4,_,_,_,_,h=>exact k4▸h
 | 5,_,_,_,_,h=>exact k5▸h
 | 6,_,_,_,h6,h=>exact absurd rfl h6
 | 7,_,_,_,_,h=>exact k7▸h
 | 8,_,_,_,_,h=>exact k8▸h
 | 9,_,_,_,_,h=>exact k9▸h
 | 10,_,_,_,_,h=>exact k10▸h
theorem QK:∀ w:World,(fencedOpening treeTable pw w 600).map (fun s=>(s.heap,s.gens,s.drawn,s.toks))=some (boot_heap w.params,Array.mk [],boot_drawn,boot_toks) :=
 boot_open (by rfl) (by rfl) fun s=>by rfl
theorem Tp {X:World→(Str→Option Value)→Heap→Prop} (x:∀ w os,X w ((nu aG w os).abs.heap.nsMap mainGlobals) (nu aG w os).abs.heap):Beh pw bB dJ X :=
 Zv (S:=fun w os=>(nu aG w os).abs) QK Fp (fun w os hz=>WK w os hz) (fun w os=>Kc w os) (fun w os b o h hn=>Ut w os b o h hn)
  (fun w os=>by rw [Bt,Iv,KJ]; rfl) (fun w os=>Ln w os) x
noncomputable def KF (P:Params):Frag:=[(1,iI P),(2,lB P),(3,Ye P),(4,jX P),(5,lD P),(6,lF P),(7,lw P),(8,lE P),(9,lR P),(10,gA P),(11,ig P),(12,QL P),(13,gq P),(14,gk P),(15,gZ P),(16,ik P),(17,iM P),(18,iJ P),(19,iV P),(20,gD P),(21,gH P),(22,ie P),(23,gY P),(24,gW P),(25,iT P),(26,iY P),(27,jj P),(28,gm P),(29,iQ P),(30,iG P),(31,ji P),(32,jq P),(33,jK P),(34,jG P),(35,iR P),(36,jn P),(37,jm P),(38,jk P),(39,jo P),(40,jh P),(41,jT P),(42,iZ P),(43,kY P),(44,jR P),(45,jU P),(46,jJ P),(47,lg P),(48,j4 P),(49,jN P),(50,lV P),(51,lX P),(52,j8 P),(53,km P),(54,lr P),(55,lq P),(56,jg P),(57,my P),(58,lZ P),(59,nA P),(60,lK P),(61,lG P),(62,lN P),(63,nD P),(64,lL P),(65,nM P),(66,nj P),(67,nG P),(68,nH P),(69,ni P),(70,m9 P),(71,nQ P),(72,nq P),(73,nF P),(74,j7 P),(114,mU P),(115,m7 P),(116,mF P),(117,mQ P),(118,m8 P),(119,mG P),(120,jO P),(121,sU P),(122,rI P),(123,qQ P),(124,ql P),(125,sO P),(126,qi P),(127,sZ P),(128,qG P),(129,pX P),(130,rD P),(131,sW P),(132,s6 P),(133,qR P),(134,rY P),(135,rW P),(136,su P),(137,mZ P),(138,sY P),(139,qD P),(140,rU P),(141,pR P),(142,pU P),(143,qy P),(144,mL P),(145,qj P),(146,rT P),(147,qd P),(148,q9 P),(149,qH P),(150,qe P),(151,mC P),(152,qP P),(153,sE P),(154,sV P),(155,qx P),(156,qI P),(157,qJ P),(158,qY P),(159,qK P),(160,rQ P),(161,sI P),(162,rA P),(163,qF P),(164,qU P),(165,rR P),(166,rF P),(167,pW P),(168,pM P),(169,qt P),(170,sJ P),(171,qO P),(172,mJ P),(173,rN P),(174,sX P),(175,sS P),(176,qw P),(177,rB P),(178,qC P),(179,pO P),(180,qL P),(181,s7 P),(182,pZ P),(183,qX P),(184,sG P),(185,rE P),(186,qg P),(187,xV P),(188,xW P),(189,yD P),(190,xx P),(191,yO P),(192,yE P),(193,pY P),(194,Cd P),(195,De P),(196,Bx P),(197,Ca P),(198,vI P),(199,HN P),(200,GK P),(201,Hc P),(202,Im P),(203,xR P),(204,PJ P),(206,O5 P),(207,GF P),(208,Ak P),(75,aG 75)]
noncomputable def kfAs:List Addr:=[1,2,3,4,5,6,7,8,9,10,11,12,13,14,15,16,17,18,19,20,21,22,23,24,25,26,27,28,29,30,31,32,33,34,35,36,37,38,39,40,41,42,43,44,45,46,47,48,49,50,51,52,53,54,55,56,57,58,59,60,61,62,63,64,65,66,67,68,69,70,71,72,73,74,114,115,116,117,118,119,120,121,122,123,124,125,126,127,128,129,130,131,132,133,134,135,136,137,138,139,140,141,142,143,144,145,146,147,148,149,150,151,152,153,154,155,156,157,158,159,160,161,162,163,164,165,166,167,168,169,170,171,172,173,174,175,176,177,178,179,180,181,182,183,184,185,186,187,188,189,190,191,192,193,194,195,196,197,198,199,200,201,202,203,204,206,207,208,75]
theorem KF_as (P:Params):kfAs=(KF P).map (·.1):=by rfl
theorem Y5 (w:World) (os:OsState):kfAs.map (nu aG w os).abs.heap.get? = (KF w.params).map (fun p=>some p.2):=by kernel_rfl!
theorem KF_in (w:World) (os:OsState):(KF w.params).In (nu aG w os).abs.heap:=Frag.in_of (KF_as _) (Y5 w os)
noncomputable abbrev a_ws:Addr:=182
noncomputable abbrev CZ:Addr:=75
noncomputable abbrev oSet (P:Params):Obj:=lL P
noncomputable def mgNames:List String:=["ONE_THIRD","ONE_SIXTH","TWO_THIRD","b1_set","b3_exceptions","Whitespace","rgb_to_hls","hls_to_rgb","_v","rgb_to_hsv","hsv_to_rgb","in_table_b1","map_table_b3","law","_law_read","_law_turned","_law_typed","__builtins__"]
noncomputable def mgVals:List Value:=[Value.float 4599676419421066581 198,Value.float 4595172819793696085 202,Value.float 4604180019048437077 206,Value.ref 64,Value.ref 75,Value.ref 182,Value.ref 28,Value.ref 35,Value.ref 42,Value.ref 49,Value.ref 56,Value.ref 74,Value.ref 120,Value.ref 208,Value.ref 198,Value.ref 203,Value.ref 193,Value.ref 4]
noncomputable def mgNone:List String:=["chr","ord","len","max","min","abs","round","int","range","list","sum","tuple","zip","sorted","enumerate"]
theorem Uh (D:Nat→Obj) (w:World) (os:OsState):mgNames.map (fun n=>(nu D w os).abs.heap.nsMap mainGlobals (Str.ofString n))=mgVals.map some:=by kernel_rfl!
theorem Wj (D:Nat→Obj) (w:World) (os:OsState):mgNone.map (fun n=>(nu D w os).abs.heap.nsMap mainGlobals (Str.ofString n))=mgNone.map fun _=>none:=by kernel_rfl!
structure MgOk (mg:Str→Option Value):Prop where
 s:mgNames.map (fun n=>mg (Str.ofString n))=mgVals.map some
 n:mgNone.map (fun n=>mg (Str.ofString n))=mgNone.map fun _=>none
structure XB (w:World) (mg:Str→Option Value) (h:Heap):Prop where
 k:(KF w.params).In h
 m:MgOk mg
 t:h.get? 205=some (tabObj #[])
theorem tab_at (D:Nat→Obj) (w:World) (os:OsState):(nu D w os).abs.heap.get? 205=some (tabObj #[]):=by kernel_rfl!
theorem xb_ok (w:World) (os:OsState):XB w ((nu aG w os).abs.heap.nsMap mainGlobals) (nu aG w os).abs.heap:=⟨KF_in w os,⟨Uh aG w os,Wj aG w os⟩,tab_at aG w os⟩
theorem UV (w:World) (mg:Str→Option Value) (h h':Heap) (x:XB w mg h) (k:∀ b o,h.get? b=some o→h'.get? b=some o):XB w mg h':=⟨x.k.keeps k,x.m,k _ _ x.t⟩
theorem Wl {w:World} {mg:Str→Option Value} {h:Heap} (x:XB w mg h):CodeHd h 207 205:=⟨_,_,_,_,_,_,_,_,_,x.k 207 _ (by kernel_rfl! : (KF w.params).lookup 207=some (GF w.params)),rfl,rfl,rfl,rfl,rfl,rfl,rfl,rfl,by decide⟩
theorem Yn (P:Params):(KF P).lookup 205=none:=by kernel_rfl!
noncomputable def wsC:Fix:=⟨182,fun a S=>a=64∧S=JM,fun a f=>a=75∧f=nP⟩
noncomputable abbrev Bv:Addr:=28
noncomputable def iB (P:Params):FuncData:=rJ (gm P)
theorem um (P:Params):du (KF P) (iB P) ["r","g","b"]=true:=by kernel_rfl!
theorem pN (P:Params) (v0 v1 v2:Value):bindArgs (iB P) ⟨[v0,v1,v2],[]⟩=pure (([("r",v0),("g",v1),("b",v2)]:List (Str × Value))):=by kernel_rfl!
theorem uT (P:Params):FnData (KF P) 28 (iB P) ["r","g","b"] (dF 5) :=
 cV (o:=gm P) (by kernel_rfl!) rfl rfl (um P) (by decide +kernel) <| s8 fun v0=>s8 fun v1=>s8 fun v2=>GZ (pN P v0 v1 v2)
theorem uV (P:Params):(iB P).scope=gB 5:=by kernel_rfl!
theorem rH (P:Params):keepIn (KF P) (.ref 28)=true:=by kernel_rfl!
noncomputable abbrev BK:Addr:=35
noncomputable def iy (P:Params):FuncData:=rJ (iR P)
theorem uc (P:Params):du (KF P) (iy P) ["h","l","s"]=true:=by kernel_rfl!
theorem sr (P:Params) (v0 v1 v2:Value):bindArgs (iy P) ⟨[v0,v1,v2],[]⟩=pure (([("h",v0),("l",v1),("s",v2)]:List (Str × Value))):=by kernel_rfl!
theorem uI (P:Params):FnData (KF P) 35 (iy P) ["h","l","s"] (dF 6) :=
 cV (o:=iR P) (by kernel_rfl!) rfl rfl (uc P) (by decide +kernel) <| s8 fun v0=>s8 fun v1=>s8 fun v2=>GZ (sr P v0 v1 v2)
theorem uO (P:Params):(iy P).scope=gB 6:=by kernel_rfl!
theorem jF (P:Params):keepIn (KF P) (.ref 35)=true:=by kernel_rfl!
noncomputable abbrev a_v:Addr:=42
noncomputable def VH (P:Params):FuncData:=rJ (iZ P)
theorem Oo (P:Params):du (KF P) (VH P) ["m1","m2","hue"]=true:=by kernel_rfl!
theorem La (P:Params) (v0 v1 v2:Value):bindArgs (VH P) ⟨[v0,v1,v2],[]⟩=pure (([("m1",v0),("m2",v1),("hue",v2)]:List (Str × Value))):=by kernel_rfl!
theorem Ug (P:Params):FnData (KF P) 42 (VH P) ["m1","m2","hue"] (dF 7) :=
 cV (o:=iZ P) (by kernel_rfl!) rfl rfl (Oo P) (by decide +kernel) <| s8 fun v0=>s8 fun v1=>s8 fun v2=>GZ (La P v0 v1 v2)
theorem Tv (P:Params):(VH P).scope=gB 7:=by kernel_rfl!
theorem K7 (P:Params):keepIn (KF P) (.ref 42)=true:=by kernel_rfl!
noncomputable abbrev Bp:Addr:=49
noncomputable def iz (P:Params):FuncData:=rJ (jN P)
theorem uE (P:Params):du (KF P) (iz P) ["r","g","b"]=true:=by kernel_rfl!
theorem rG (P:Params) (v0 v1 v2:Value):bindArgs (iz P) ⟨[v0,v1,v2],[]⟩=pure (([("r",v0),("g",v1),("b",v2)]:List (Str × Value))):=by kernel_rfl!
theorem vf (P:Params):FnData (KF P) 49 (iz P) ["r","g","b"] (dF 8) :=
 cV (o:=jN P) (by kernel_rfl!) rfl rfl (uE P) (by decide +kernel) <| s8 fun v0=>s8 fun v1=>s8 fun v2=>GZ (rG P v0 v1 v2)
theorem uZ (P:Params):(iz P).scope=gB 8:=by kernel_rfl!
theorem qz (P:Params):keepIn (KF P) (.ref 49)=true:=by kernel_rfl!
noncomputable abbrev BV:Addr:=56
noncomputable def iw (P:Params):FuncData:=rJ (jg P)
theorem tQ (P:Params):du (KF P) (iw P) ["h","s","v"]=true:=by kernel_rfl!
theorem rP (P:Params) (v0 v1 v2:Value):bindArgs (iw P) ⟨[v0,v1,v2],[]⟩=pure (([("h",v0),("s",v1),("v",v2)]:List (Str × Value))):=by kernel_rfl!
theorem uK (P:Params):FnData (KF P) 56 (iw P) ["h","s","v"] (dF 9) :=
 cV (o:=jg P) (by kernel_rfl!) rfl rfl (tQ P) (by decide +kernel) <| s8 fun v0=>s8 fun v1=>s8 fun v2=>GZ (rP P v0 v1 v2)
theorem vo (P:Params):(iw P).scope=gB 9:=by kernel_rfl!
theorem pP (P:Params):keepIn (KF P) (.ref 56)=true:=by kernel_rfl!
noncomputable abbrev yZ:Addr:=74
noncomputable def gM (P:Params):FuncData:=rJ (j7 P)
theorem rZ (P:Params):du (KF P) (gM P) ["code"]=true:=by kernel_rfl!
theorem pC (P:Params) (v0:Value):bindArgs (gM P) ⟨[v0],[]⟩=pure (([("code",v0)]:List (Str × Value))):=by kernel_rfl!
theorem ul (P:Params):FnData (KF P) 74 (gM P) ["code"] (dF 12) :=
 cV (o:=j7 P) (by kernel_rfl!) rfl rfl (rZ P) (by decide +kernel) <| s8 fun v0=>GZ (pC P v0)
theorem ur (P:Params):(gM P).scope=gB 12:=by kernel_rfl!
theorem pD (P:Params):keepIn (KF P) (.ref 74)=true:=by kernel_rfl!
noncomputable abbrev ym:Addr:=120
noncomputable def eX (P:Params):FuncData:=rJ (jO P)
theorem pA (P:Params):du (KF P) (eX P) ["code"]=true:=by kernel_rfl!
theorem oJ (P:Params) (v0:Value):bindArgs (eX P) ⟨[v0],[]⟩=pure (([("code",v0)]:List (Str × Value))):=by kernel_rfl!
theorem qT (P:Params):FnData (KF P) 120 (eX P) ["code"] (dF 14) :=
 cV (o:=jO P) (by kernel_rfl!) rfl rfl (pA P) (by decide +kernel) <| s8 fun v0=>GZ (oJ P v0)
theorem rK (P:Params):(eX P).scope=gB 14:=by kernel_rfl!
theorem oN (P:Params):keepIn (KF P) (.ref 120)=true:=by kernel_rfl!
noncomputable abbrev DN:Addr:=193
noncomputable def jr (P:Params):FuncData:=rJ (pY P)
theorem uM (P:Params):du (KF P) (jr P) ["level","way"]=true:=by kernel_rfl!
theorem ut (P:Params) (v0 v1:Value):bindArgs (jr P) ⟨[v0,v1],[]⟩=pure (([("level",v0),("way",v1)]:List (Str × Value))):=by kernel_rfl!
theorem wi (P:Params):FnData (KF P) 193 (jr P) ["level","way"] (dF 18) :=
 cV (o:=pY P) (by kernel_rfl!) rfl rfl (uM P) (by decide +kernel) <| s8 fun v0=>s8 fun v1=>GZ (ut P v0 v1)
theorem wu (P:Params):(jr P).scope=gB 18:=by kernel_rfl!
theorem uC (P:Params):keepIn (KF P) (.ref 193)=true:=by kernel_rfl!
noncomputable abbrev Hl:Addr:=198
noncomputable def j6 (P:Params):FuncData:=rJ (vI P)
theorem wk (P:Params):du (KF P) (j6 P) ["text"]=true:=by kernel_rfl!
theorem uG (P:Params) (v0:Value):bindArgs (j6 P) ⟨[v0],[]⟩=pure (([("text",v0)]:List (Str × Value))):=by kernel_rfl!
theorem xu (P:Params):FnData (KF P) 198 (j6 P) ["text"] (dF 19) :=
 cV (o:=vI P) (by kernel_rfl!) rfl rfl (wk P) (by decide +kernel) <| s8 fun v0=>GZ (uG P v0)
theorem yz (P:Params):(j6 P).scope=gB 19:=by kernel_rfl!
theorem uY (P:Params):keepIn (KF P) (.ref 198)=true:=by kernel_rfl!
noncomputable abbrev BJ:Addr:=203
noncomputable def iu (P:Params):FuncData:=rJ (xR P)
theorem ud (P:Params):du (KF P) (iu P) ["three","way"]=true:=by kernel_rfl!
theorem qM (P:Params) (v0 v1:Value):bindArgs (iu P) ⟨[v0,v1],[]⟩=pure (([("three",v0),("way",v1)]:List (Str × Value))):=by kernel_rfl!
theorem uN (P:Params):FnData (KF P) 203 (iu P) ["three","way"] (dF 20) :=
 cV (o:=xR P) (by kernel_rfl!) rfl rfl (ud P) (by decide +kernel) <| s8 fun v0=>s8 fun v1=>GZ (qM P v0 v1)
theorem vH (P:Params):(iu P).scope=gB 20:=by kernel_rfl!
theorem qm (P:Params):keepIn (KF P) (.ref 203)=true:=by kernel_rfl!
noncomputable abbrev a_law:Addr:=208
noncomputable def w7 (P:Params):FuncData:=rJ (Ak P)
theorem Gx (P:Params):du (KF P) (w7 P) ["script"]=true:=by kernel_rfl!
theorem Fv (P:Params) (v0:Value):bindArgs (w7 P) ⟨[v0],[]⟩=pure (([("script",v0)]:List (Str × Value))):=by kernel_rfl!
theorem KH (P:Params):FnData (KF P) 208 (w7 P) ["script"] (dF 21) :=
 cV (o:=Ak P) (by kernel_rfl!) rfl rfl (Gx P) (by decide +kernel) <| s8 fun v0=>GZ (Fv P v0)
theorem Mw (P:Params):(w7 P).scope=gB 21:=by kernel_rfl!
noncomputable abbrev a_init:Addr:=137
noncomputable def o7 (P:Params):FuncData:=rJ (mZ P)
theorem Ek (P:Params):du (KF P) (o7 P) ["self","ws"]=true:=by kernel_rfl!
theorem Bu (P:Params) (v0 v1:Value):bindArgs (o7 P) ⟨[v0,v1],[]⟩=pure (([("self",v0),("ws",v1)]:List (Str × Value))):=by kernel_rfl!
theorem Ip (P:Params):FnData (KF P) 137 (o7 P) ["self","ws"] (dF 101) :=
 cV (o:=mZ P) (by kernel_rfl!) rfl rfl (Ek P) (by decide +kernel) <| s8 fun v0=>s8 fun v1=>GZ (Bu P v0 v1)
theorem w6 (P:Params):(o7 P).scope=gB 101:=by kernel_rfl!
theorem CJ (P:Params):findIn (KF P) (.ref 182) "__init__" = some (some (.ref 137)):=by kernel_rfl!
theorem Fj (P:Params):typeIn (KF P) (.ref 137)=some (.type "function"):=by kernel_rfl!
noncomputable abbrev mj:Addr:=144
noncomputable def cY (P:Params):FuncData:=rJ (mL P)
theorem jd (P:Params):du (KF P) (cY P) ["self"]=true:=by kernel_rfl!
theorem jc (P:Params) (v0:Value):bindArgs (cY P) ⟨[v0],[]⟩=pure (([("self",v0)]:List (Str × Value))):=by kernel_rfl!
theorem jw (P:Params):FnData (KF P) 144 (cY P) ["self"] (dF 102) :=
 cV (o:=mL P) (by kernel_rfl!) rfl rfl (jd P) (by decide +kernel) <| s8 fun v0=>GZ (jc P v0)
theorem jA (P:Params):(cY P).scope=gB 102:=by kernel_rfl!
theorem iK (P:Params):keepIn (KF P) (.ref 144)=true:=by kernel_rfl!
theorem iU (P:Params):findIn (KF P) (.ref 182) "longest_run_of_spaces" = some (some (.ref 144)):=by kernel_rfl!
theorem jf (P:Params):typeIn (KF P) (.ref 144)=some (.type "function"):=by kernel_rfl!
noncomputable abbrev xg:Addr:=151
noncomputable def eY (P:Params):FuncData:=rJ (mC P)
theorem pB (P:Params):du (KF P) (eY P) ["self","tabsize"]=true:=by kernel_rfl!
theorem nY (P:Params) (v0 v1:Value):bindArgs (eY P) ⟨[v0,v1],[]⟩=pure (([("self",v0),("tabsize",v1)]:List (Str × Value))):=by kernel_rfl!
theorem pQ (P:Params):FnData (KF P) 151 (eY P) ["self","tabsize"] (dF 103) :=
 cV (o:=mC P) (by kernel_rfl!) rfl rfl (pB P) (by decide +kernel) <| s8 fun v0=>s8 fun v1=>GZ (nY P v0 v1)
theorem qp (P:Params):(eY P).scope=gB 103:=by kernel_rfl!
theorem oh (P:Params):keepIn (KF P) (.ref 151)=true:=by kernel_rfl!
theorem oM (P:Params):findIn (KF P) (.ref 182) "indent_level" = some (some (.ref 151)):=by kernel_rfl!
theorem o9 (P:Params):typeIn (KF P) (.ref 151)=some (.type "function"):=by kernel_rfl!
noncomputable abbrev a_less:Addr:=172
noncomputable def wF (P:Params):FuncData:=rJ (mJ P)
theorem Fi (P:Params):du (KF P) (wF P) ["self","other"]=true:=by kernel_rfl!
theorem Dc (P:Params) (v0 v1:Value):bindArgs (wF P) ⟨[v0,v1],[]⟩=pure (([("self",v0),("other",v1)]:List (Str × Value))):=by kernel_rfl!
theorem Ir (P:Params):FnData (KF P) 172 (wF P) ["self","other"] (dF 106) :=
 cV (o:=mJ P) (by kernel_rfl!) rfl rfl (Fi P) (by decide +kernel) <| s8 fun v0=>s8 fun v1=>GZ (Dc P v0 v1)
theorem G9 (P:Params):(wF P).scope=gB 106:=by kernel_rfl!
theorem Cr (P:Params):keepIn (KF P) (.ref 172)=true:=by kernel_rfl!
theorem Ay (P:Params):findIn (KF P) (.ref 182) "less" = some (some (.ref 172)):=by kernel_rfl!
theorem FZ (P:Params):typeIn (KF P) (.ref 172)=some (.type "function"):=by kernel_rfl!
theorem kf_ga (P:Params):findIn (KF P) (.ref 182) "__getattribute__" = some (some (.builtin "object.__getattribute__")):=by kernel_rfl!
theorem kf_gk (P:Params):findIn (KF P) (.ref 182) "__getattr__" = some none:=by kernel_rfl!
theorem kf_hd (P:Params):hasDictIn (KF P) 182=true:=by kernel_rfl!
theorem Oz (P:Params):attrNames.map (findIn (KF P) (.ref 182))=attrNames.map fun _=>some none:=by kernel_rfl!
theorem Kw (P:Params):attrNames.map (takerIn (KF P) 182)=attrNames.map fun _=>some none:=by kernel_rfl!
theorem UT (P:Params):keepIn (KF P) (.ref 182)=true:=by kernel_rfl!
theorem Yv (P:Params):makesIn (KF P) 182=true:=by kernel_rfl!
theorem kf_sa (P:Params):findIn (KF P) (.ref 182) "__setattr__" = some (some (.builtin "object.__setattr__")):=by kernel_rfl!
theorem kf_po (P:Params):plainOver (KF P) 182=true:=by kernel_rfl!
theorem kf_rd (P:Params):readsIn (KF P) 182 (.type "type")=true:=by kernel_rfl!
theorem kf_S (P:Params):findCls (KF P) (.ref 182) (.type "type") "S" = some (.val (.str " " 2322)):=by kernel_rfl!
theorem kf_T (P:Params):findCls (KF P) (.ref 182) (.type "type") "T" = some (.val (.str "\t" 2323)):=by kernel_rfl!
noncomputable def b1E (P:Params):List (Int × Value):=match (oSet P).data with
 | .set es _ _=>es.toList
 | _=>[]
noncomputable def Wf:List (Int × Value)→Bool
 | []=>true
 | e :: r=>(match e.2 with | .int i _=>b1List.contains i&&e.1==hashInt i | _=>false)&&e.2.scannable&&Wf r
theorem Ej:∀ {l:List (Int × Value)},Wf l=true→∀ e∈l,∃ i t,e.2=.int i t∧i∈b1List∧e.1=hashInt i∧e.2.scannable=true:=by
 intro l
 induction l with
 | nil =>
   intro _ e he
   cases he
 | cons a r ih =>
   intro h e he
   unfold Wf at h
   simp only [Bool.and_eq_true] at h
   obtain ⟨⟨h1,h2⟩,h3⟩:=h
   rcases cM he with rfl | he
   ·split at h1
    ·rename_i i t hi
     simp only [Bool.and_eq_true] at h1
     exact ⟨i,t,hi,by simpa using h1.1,by simpa using h1.2,h2⟩
    ·exact dM h1
   ·exact ih h3 e he
theorem Q7 (P:Params):Wf (b1E P)=true:=by kernel_rfl!
theorem Vr (P:Params):b1List.all (fun k=>(b1E P).any fun e=>Value.isInt k e.2)=true:=by kernel_rfl!
theorem Ke (P:Params):SetObj (oSet P) JM:=by
 refine ⟨27,by decide,fun prog w=>⟨⟨rfl,rfl,rfl⟩,_,_,_,rfl,fun e he=>?_,fun k=>?_,rfl,by kernel_rfl!⟩⟩
 ·obtain ⟨i,t,h1,h2,h3,h4⟩:=Ej (Q7 P) e he
  exact ⟨⟨i,by rw [h1]; show Value.isInt i (.int i t)=true; simp [Value.isInt],h3⟩,h4⟩
 ·constructor
  ·intro hk
   have hk:k∈b1List:=by unfold JM at hk; simpa using hk
   have:=List.all_eq_true.mp (Vr P) k hk
   obtain ⟨e,he,hi⟩:=List.any_eq_true.mp this
   exact ⟨e,he,hi⟩
  ·rintro ⟨e,he,hi⟩
   obtain ⟨i,t,h1,h2,h3,h4⟩:=Ej (Q7 P) e he
   have hi:Value.isInt k e.2=true:=hi
   rw [h1] at hi
   have:i=k:=by simpa [Value.isInt] using hi
   subst this
   unfold JM
   simpa using h2
noncomputable def dictE:List DictEntry:=match (aG CZ).data with
 | .dict es _=>es.toList
 | _=>[]
noncomputable def dictN:Nat:=match (aG CZ).data with
 | .dict _ n=>n
 | _=>0
theorem KZ:(aG CZ).data=.dict dictE.toArray dictN:=by kernel_rfl!
theorem My:Dr dictL dictE=true:=by kernel_rfl!
theorem ZP:G7 (aG CZ) nP:=Kd ⟨by kernel_rfl!,by kernel_rfl!,by kernel_rfl!⟩ KZ My
theorem all_map {α β:Type} {f g:α→β}:∀ {l:List α},l.map f=l.map g→∀ a∈l,f a=g a:=by
 intro l
 induction l with
 | nil =>
   intro _ a h
   cases h
 | cons b l ih =>
   intro e a h
   simp only [List.map_cons,List.cons.injEq] at e
   rcases cM h with rfl | h
   ·exact e.1
   ·exact ih e.2 a h
theorem uA {P:Params} {mg:Str→Option Value} (M:MgOk mg):Base (KF P) mg wsC:=by
 have hn:=all_map M.n
 refine ⟨fun b=>?_,hn "zip" (by decide),⟨fun a S h=>?_,fun a f h=>?_⟩,kf_ga P,kf_gk P,kf_hd P,fun a ha=>all_map (Oz P) a ha⟩
 ·cases b <;> exact hn _ (by decide)
 ·obtain ⟨rfl,rfl⟩:=h
  exact ⟨_,by kernel_rfl!,Ke P⟩
 ·obtain ⟨rfl,rfl⟩:=h
  exact ⟨by decide,_,by kernel_rfl!,ZP⟩
theorem gw {mg:Str→Option Value} (M:MgOk mg) {k:Nat} {n:String} {v:Value} (h1:mgNames[k]? = some n) (h2:mgVals[k]? = some v):mg (Str.ofString n)=some v:=by
 have:=congrArg (·[k]?) M.s
 simp only [List.getElem?_map,h1,h2,Option.map_some] at this
 simpa using this
noncomputable def yr:List (Str × D):=[(("ONE_THIRD":Str),.float c13),(("ONE_SIXTH":Str),.float c16),(("TWO_THIRD":Str),.float c23),(("b1_set":Str),.iset JM),(("b3_exceptions":Str),.imap nP)]
noncomputable def OJ (G:Mine.Internal.Ctx):Fn:=eE G 30 30 (gB 18).names [] ["level","way"] (dF 18)
noncomputable def X7 (G:Mine.Internal.Ctx):Fn:=eE G 30 30 (gB 19).names [] ["text"] (dF 19)
noncomputable def Jd (G:Mine.Internal.Ctx):Fn:=eE G 30 30 (gB 20).names [] ["three","way"] (dF 20)
noncomputable def G0:Mine.Internal.Ctx:=⟨[],yr,[]⟩
noncomputable def G1:Mine.Internal.Ctx:=⟨[(("_v":Str),rV G0)],yr,[(("longest_run_of_spaces":Str),Jb),(("indent_level":Str),ilF)]⟩
noncomputable def G2:Mine.Internal.Ctx:=⟨[(("hsv_to_rgb":Str),wJ G1),(("rgb_to_hsv":Str),Uq G1),(("hls_to_rgb":Str),o5 G1),(("rgb_to_hls":Str),TF G1)],yr,[]⟩
noncomputable def G3:Mine.Internal.Ctx:=⟨[(("in_table_b1":Str),b1F JM),(("map_table_b3":Str),b3F nP)],yr,[]⟩
noncomputable def G4:Mine.Internal.Ctx:=⟨[(("hls_to_rgb":Str),o5 G1),(("Whitespace":Str),YK Xb),(("_law_typed":Str),OJ G0),(("_law_read":Str),X7 G3),(("_law_turned":Str),Jd G2)],yr,[(("less":Str),Xm)]⟩
theorem Ds:gU G0:=fun _=>rfl
theorem Ur:gU G1:=fun b=>by cases b <;> rfl
theorem bn_2:gU G2:=fun b=>by cases b <;> rfl
theorem bn_3:gU G3:=fun b=>by cases b <;> rfl
theorem bn_4:gU G4:=fun b=>by cases b <;> rfl
theorem kg_1:KGok H1 G1:=k1_ok (W3 Ds rfl rfl rfl) (W3 Ur rfl rfl rfl) rfl
section
variable {prog:Program} {w:World} {P:Params} {mg:Str→Option Value}
theorem ux (M:MgOk mg):∀ p∈yr,Xa mg wsC p:=by
 intro p hp
 simp only [yr,List.mem_cons,List.not_mem_nil,or_false] at hp
 rcases hp with rfl | rfl | rfl | rfl | rfl
 ·exact ⟨_,gw M (k:=0) rfl rfl,fun ok h => .float _ _⟩
 ·exact ⟨_,gw M (k:=1) rfl rfl,fun ok h => .float _ _⟩
 ·exact ⟨_,gw M (k:=2) rfl rfl,fun ok h => .float _ _⟩
 ·exact ⟨_,gw M (k:=3) rfl rfl,fun ok h => .iset ⟨rfl,rfl⟩⟩
 ·exact ⟨_,gw M (k:=4) rfl rfl,fun ok h => .imap ⟨rfl,rfl⟩⟩
theorem xK (M:MgOk mg) {n:Nat}:CtxOk prog w (KF P) mg wsC n G0:=xY (uA M) (fun p hp=>nomatch hp) (ux M) (fun p hp=>nomatch hp)
theorem mq {n:Nat} {a:Addr} {fd:FuncData} {pn W:List Str} {body:List Stmt} {G:Mine.Internal.Ctx} {F:Fn} {sc:Scope} (D:FnData (KF P) a fd pn body) (hsc:fd.scope=sc) (C:CtxOk prog w (KF P) mg wsC n G) (hW:∀ x∈pn,x ∉ W) (hF:∀ ds d,F ds=some d→eE G 30 30 sc.names W pn body ds=some d) :
  FnK prog w (KF P) mg wsC (n+1) (.ref a) F:=by
 have h:FnK prog w (KF P) mg wsC (n+1) (.ref a) (eE G 30 30 fd.scope.names W pn body):=⟨fn_ok (W:=W) D hW (JS C)⟩
 rw [hsc] at h
 exact h.of hF
theorem v_is (M:MgOk mg):FnK prog w (KF P) mg wsC 2 (.ref a_v) (rV G0):=mq (W:=[]) (Ug P) (Tv P) (xK M) (by decide) fun _ _ h=>h
theorem b1_is (M:MgOk mg):FnK prog w (KF P) mg wsC 2 (.ref yZ) (b1F JM):=mq (W:=[]) (ul P) (ur P) (xK M) (by decide) fun ds d h=>by
 obtain ⟨x,rfl,h⟩:=mV CT h
 obtain ⟨h1,rfl⟩:=ak h
 obtain ⟨c,rfl⟩:∃ c,x=⟨#[c]⟩:=by
  have h1:x.cps.size=1:=cI h1
  obtain ⟨⟨l⟩⟩:=x
  match l,h1 with
  | [c],_=>exact ⟨c,rfl⟩
 exact b1_eq G0 Ds rfl c
theorem b3_is (M:MgOk mg):FnK prog w (KF P) mg wsC 2 (.ref ym) (b3F nP):=mq (W:=[]) (qT P) (rK P) (xK M) (by decide) fun ds d h=>by
 obtain ⟨x,rfl,h⟩:=mV CT h
 obtain ⟨h1,rfl⟩:=ak h
 obtain ⟨h1,h2⟩:=bj h1
 obtain ⟨c,rfl⟩:∃ c,x=⟨#[c]⟩:=by
  have h1:x.cps.size=1:=cI h1
  obtain ⟨⟨l⟩⟩:=x
  match l,h1 with
  | [c],_=>exact ⟨c,rfl⟩
 exact b3_eq G0 Ds rfl c (by simpa using h2)
theorem Uv (M:MgOk mg):FnK prog w (KF P) mg wsC 2 (.ref mj) Jb:=mq (W:=[]) (jw P) (jA P) (xK M) (by decide) fun ds d h=>by
 obtain ⟨a0,rfl,h⟩:=mV wG h
 obtain ⟨h1,rfl⟩:=ak h
 exact H3 G0 Ds _ (by have:=(Cg h1).1; exact aF this (by decide))
theorem il_is (M:MgOk mg):FnK prog w (KF P) mg wsC 2 (.ref xg) ilF:=mq (W:=[]) (pQ P) (qp P) (xK M) (by decide) fun ds d h=>by
 obtain ⟨a0,a1,rfl,h⟩:=Be wG ir h
 obtain ⟨h1,rfl⟩:=ak h
 simp only [Bool.and_eq_true,decide_eq_true_eq] at h1
 exact Kv G0 Ds _ (by have:=(Cg h1.1.1).1; exact aF this (by decide)) _ h1.1.2 h1.2
theorem ws_is (M:MgOk mg):FnK prog w (KF P) mg wsC 4 (.ref a_ws) (YK Xb):=by
 have KW:WsOk (KF P) wsC mg a_init (o7 P) (dF 101):=⟨Yv P,CJ P,Fj P,kf_sa P,kf_po P,fun a ha=>all_map (Kw P) a ha,⟨_,kf_rd P,_,_,kf_S P,kf_T P⟩,gw M (k:=5) rfl rfl,Ip P⟩
 have hB:InitBody (o7 P).scope.names (dF 101) kO:=by rw [w6]; exact Kp
 refine ⟨ws_ok (G:=G0) (n:=2) (ke:=30) (kx:=30) (F:=Xb) (xK M) KW hB (fun x hx=>rfl) ?_⟩
 rw [w6]
 exact Vo G0 Ds
theorem Ga (M:MgOk mg):CtxOk prog w (KF P) mg wsC 2 G1:=xY (uA M) (fun p hp=>by
  simp only [G1,List.mem_cons,List.not_mem_nil,or_false] at hp
  subst hp
  exact ⟨_,gw M (k:=8) rfl rfl,K7 P,v_is M⟩) (ux M) fun p hp=>by
  simp only [G1,List.mem_cons,List.not_mem_nil,or_false] at hp
  rcases hp with rfl | rfl
  ·exact ⟨by decide,_,iU P,jf P,iK P,Uv M⟩
  ·exact ⟨by decide,_,oM P,o9 P,oh P,il_is M⟩
theorem zq (M:MgOk mg):FnK prog w (KF P) mg wsC 3 (.ref BK) (o5 G1):=mq (W:=[]) (uI P) (uO P) (Ga M) (by decide) fun _ _ h=>h
theorem Z7 (M:MgOk mg):FnK prog w (KF P) mg wsC 3 (.ref Bv) (TF G1):=mq (W:=[]) (uT P) (uV P) (Ga M) (by decide) fun _ _ h=>h
theorem Kq (M:MgOk mg):FnK prog w (KF P) mg wsC 3 (.ref BV) (wJ G1):=mq (W:=[]) (uK P) (vo P) (Ga M) (by decide) fun _ _ h=>h
theorem hsv_is (M:MgOk mg):FnK prog w (KF P) mg wsC 3 (.ref Bp) (Uq G1):=mq (W:=[]) (vf P) (uZ P) (Ga M) (by decide) fun _ _ h=>h
theorem TG (M:MgOk mg):FnK prog w (KF P) mg wsC 3 (.ref a_less) Xm:=mq (W:=[]) (Ir P) (G9 P) (Ga M) (by decide) fun ds d h=>by
 obtain ⟨a0,a1,rfl,h⟩:=Be wG wG h
 obtain ⟨h1,rfl⟩:=ak h
 obtain ⟨h1,h2⟩:=bj h1
 exact U3 G1 Ur rfl rfl _ _ h1 h2
theorem c2_ok (M:MgOk mg):CtxOk prog w (KF P) mg wsC 3 G2:=xY (uA M) (fun p hp=>by
  simp only [G2,List.mem_cons,List.not_mem_nil,or_false] at hp
  rcases hp with rfl | rfl | rfl | rfl
  ·exact ⟨_,gw M (k:=10) rfl rfl,pP P,Kq M⟩
  ·exact ⟨_,gw M (k:=9) rfl rfl,qz P,hsv_is M⟩
  ·exact ⟨_,gw M (k:=7) rfl rfl,jF P,zq M⟩
  ·exact ⟨_,gw M (k:=6) rfl rfl,rH P,Z7 M⟩) (ux M) fun p hp=>nomatch hp
theorem c3_ok (M:MgOk mg):CtxOk prog w (KF P) mg wsC 2 G3:=xY (uA M) (fun p hp=>by
  simp only [G3,List.mem_cons,List.not_mem_nil,or_false] at hp
  rcases hp with rfl | rfl
  ·exact ⟨_,gw M (k:=11) rfl rfl,pD P,b1_is M⟩
  ·exact ⟨_,gw M (k:=12) rfl rfl,oN P,b3_is M⟩) (ux M) fun p hp=>nomatch hp
theorem Nt (M:MgOk mg):FnK prog w (KF P) mg wsC 2 (.ref DN) (OJ G0):=mq (W:=[]) (wi P) (wu P) (xK M) (by decide) fun _ _ h=>h
theorem Wt (M:MgOk mg):FnK prog w (KF P) mg wsC 3 (.ref Hl) (X7 G3):=mq (W:=[]) (xu P) (yz P) (c3_ok M) (by decide) fun _ _ h=>h
theorem Kg (M:MgOk mg):FnK prog w (KF P) mg wsC 4 (.ref BJ) (Jd G2):=mq (W:=[]) (uN P) (vH P) (c2_ok M) (by decide) fun _ _ h=>h
theorem c4_ok (M:MgOk mg):CtxOk prog w (KF P) mg wsC 5 G4:=xY (uA M) (fun p hp=>by
  simp only [G4,List.mem_cons,List.not_mem_nil,or_false] at hp
  rcases hp with rfl | rfl | rfl | rfl | rfl
  ·exact ⟨_,gw M (k:=7) rfl rfl,jF P,(zq M).lift (by decide)⟩
  ·exact ⟨_,gw M (k:=5) rfl rfl,UT P,(ws_is M).lift (by decide)⟩
  ·exact ⟨_,gw M (k:=16) rfl rfl,uC P,(Nt M).lift (by decide)⟩
  ·exact ⟨_,gw M (k:=14) rfl rfl,uY P,(Wt M).lift (by decide)⟩
  ·exact ⟨_,gw M (k:=15) rfl rfl,qm P,(Kg M).lift (by decide)⟩) (ux M) fun p hp=>by
  simp only [G4,List.mem_cons,List.not_mem_nil,or_false] at hp
  subst hp
  exact ⟨by decide,_,Ay P,FZ P,Cr P,(TG M).lift (by decide)⟩
end
theorem law_g:LG G4 where
 bn:=bn_4
 typed:=fun h0 h8=>kZ rfl (N6 G0 Ds _ _ h0 h8)
 read:=fun h0 h8=>kZ rfl (WT G3 bn_3 rfl rfl h0 h8)
 turned:=fun h0 h1 h2 h3=>kZ rfl (Ka G2 bn_2 kg_1 Ur rfl rfl rfl rfl h0 h1 h2 h3)
 ink:=fun hs hp hL=>by
  have H:=Qg hs hp
  obtain ⟨x,y,z,e,h1,h2,h3⟩:=V0 Ds rfl rfl Ur rfl rfl hL Cj Cj Cj H.a H.b H.c
  exact ⟨x,y,z,kZ rfl e,h1,h2,h3⟩
 ws:=fun {x _} h=>kZ rfl (by show (Xb x).map D.ws=_; rw [h]; rfl)
 less:=fun hx hy=>uz rfl (by show au _ _=_; rw [hx,hy]; rfl)
set_option maxHeartbeats 4000000
noncomputable abbrev theLaw:OpenLaw:=PySem.Challenge.rw_rw0124_01
theorem O2:theLaw.row.wellSaid=true:=by
 unfold OpenRow.wellSaid OpenRow.partSaid
 repeat' (with_reducible refine look_both ?_ ?_)
 all_goals kernel_rfl!
theorem law_said:theLaw.wellSaid=true:=by
 unfold OpenLaw.wellSaid
 repeat' (with_reducible refine look_both ?_ ?_)
 ·exact O2
 all_goals kernel_rfl!
theorem Pj:(defOf bB theLaw.name).isSome=true:=by kernel_rfl!
theorem Qe:(defOf bB theLaw.name).map (fun p=>(p.1.params,p.1.body,p.1.scope))=theLaw.prog.theDef theLaw.name:=by kernel_rfl!
theorem def_kw:(defOf bB theLaw.name).map (fun p=>kwWritten? p.1.params.kwonlyargs p.1.params.kw_defaults)=(defOf bB theLaw.name).map fun p=>some p.2:=by kernel_rfl!
theorem Qs:theLaw.prog.bare:=⟨rfl,rfl,rfl,rfl,rfl,by kernel_rfl!⟩
theorem K5:opensWell theLaw.prog=true:=by kernel_rfl!
theorem K3:theLaw.row.toRowW.found=true:=by kernel_rfl!
theorem RV {w:World} {mg:Str→Option Value} {s:Shared} {env:Env} (X:XB w mg s.heap) (hc:env.code=.ref 207) (hL:env.locals=s.heap.objs.size):LamCode s.heap env (KF w.params) mg (fun b=>b≠205) 207 205 where
 code:=hc
 hd:=Wl X
 tab:=X.t
 bi:=⟨4,_,gw X.m (k:=17) rfl rfl,by decide,by decide,by decide,X.k 4 _ (by kernel_rfl! : (KF w.params).lookup 4=some (jX w.params)),rfl,rfl,rfl⟩
 nok:=fun h=>h rfl
 L:=Nat.le_of_eq hL.symm
 K:=Yn _
theorem law_code (P:Params):(w7 P).code=.ref 207:=by kernel_rfl!
theorem PQ (w:World) (mg:Str→Option Value) (s:Shared) (g:s.heap.Ns mainGlobals mg) (b:∃ mb,s.heap.Ns builtinsNs mb∧∀ x:Str,x ≠ "__name__" → mb x=bootBuiltins x) (nl:s.heap.NoLimit) (X:XB w mg s.heap) (hg:s.gens=#[])
  (a:Addr) (vs:List Value) (n:Nat) (ns:List Int) (hl:s.heap.get? a=some { cls := .type "list",data := .seq (List.toArray vs) n }) (hi:IntsAre vs ns) (hn:ns.length≤63) :
  ∃ f,mg theLaw.name=some f∧Wp theLaw.prog w callerA (PySem.call f [.ref a]) s fun v s'=>OldK s.heap s'.heap∧s'.os=s.os∧s'.gens=#[]∧v=.bool true:=by
 refine ⟨.ref a_law,gw X.m (k:=13) rfl rfl,?_⟩
 obtain ⟨ρ1,ρ2,k,ds,g',R⟩:=Mi law_g hn
 have hf:Fresh (fun b=>b≠205) s.heap:=fun a ha e=>by rw [e,X.t] at ha; cases ha
 have ha:a≠205:=fun e=>by rw [e,X.t] at hl; cases hl
 refine Ra (W:=[("page" : Str)]) (n:=7) (wsC:=wsC) (ok:=fun b=>b≠205) (ds:=[.list (ns.map .int)]) (KH w.params) (by decide) ⟨rfl,by decide,by decide⟩ ⟨X.k,g,b,nl⟩ hf (.cons (.list ha hl (RepL.ints hi)) .nil) rfl fun {env s₁ own} Se hc hL X1 hg1 ho1 hA=>?_
 rw [Mw] at Se
 rw [Ob]
 refine Wp.mono (Uz lam_sc (c4_ok X.m) hA (RV X (hc.trans (law_code _)) hL) Se X1 ⟨X.k,g,b,nl⟩ hf (all_map X.m.n "sorted" (by decide)) R) fun f s' h=>?_
 obtain ⟨v,e1,e2,e3,e4,e5⟩:=h
 exact ⟨v,e1,e2,e4.trans ho1,(congrArg Prod.fst (e3.trans hg1)).trans hg,e5⟩
theorem law_holds (said:theLaw.row.wellSaid=true):theLaw.row.Holds:=by
 obtain ⟨⟨d,kwd⟩,hd⟩:=Option.isSome_iff_exists.mp Pj
 have e1:=Qe
 have e2:=def_kw
 rw [hd] at e1 e2
 simp only [Option.map_some,Option.some.injEq] at e1 e2
 exact Zy (q:=bB) (loose:=dJ) (X:=XB) said (Tp xb_ok) UV hd e1.symm e2 Qs K5 rfl rfl rfl (RowW.promised_of_found K3) PQ
end Mine.Internal
set_option maxRecDepth 100000 in
set_option maxHeartbeats 4000000 in
theorem PySem.Challenge.cw_rw0124_01_holds : PySem.Challenge.rw_rw0124_01.Holds :=
  holds_law Mine.Internal.law_said Mine.Internal.law_holds
