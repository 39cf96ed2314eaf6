import PyProof.Rows.All
import Wide.All
import OpenK.AllK
import Wide.FinOn
import PySem.Challenge.RW_ph0112_01
set_option Elab.async false
set_option maxRecDepth 100000
set_option maxHeartbeats 0
set_option linter.unusedVariables false
set_option genInjectivity false
set_option genSizeOf false
set_option genSizeOfSpec false
set_option compiler.extract_closed false
set_option bootstrap.genMatcherCode false
noncomputable section
set_option hygiene false
local macro_rules | `(tactic| kd_p) => `(tactic| first | kernel_rfl | exact Mine.allB (by kernel_rfl) (by kernel_rfl))
local macro_rules | `(tactic| kd_p1) => `(tactic| first | exact (rfl : _ = []) | exact (rfl : _ = [_]) | exact (rfl : _ = [_, _]) | exact (rfl : _ = [_, _, _]) | exact (rfl : _ = [_, _, _, _]) | exact (rfl : _ = [_, _, _, _, _]) | exact (rfl : _ = [_, _, _, _, _, _]))
local macro_rules | `(tactic| tbr_iter $t) => `(tactic| first | exact Mine.allA $t | exact Mine.nmA $t | exact Mine.disA $t | (simp; exact $t) | (simp [Mine.Dis]; exact $t) | (simpa using $t))
local macro_rules | `(tactic| kd_all) => `(tactic| first | exact List.Mem.head _ | exact List.Mem.tail _ (List.Mem.head _) | exact List.Mem.tail _ (List.Mem.tail _ (List.Mem.head _)) | exact List.Mem.tail _ (List.Mem.tail _ (List.Mem.tail _ (List.Mem.head _))) | exact List.Mem.tail _ (List.Mem.tail _ (List.Mem.tail _ (List.Mem.tail _ (List.Mem.head _)))) | exact List.Mem.tail _ (List.Mem.tail _ (List.Mem.tail _ (List.Mem.tail _ (List.Mem.tail _ (List.Mem.head _))))))
local macro_rules | `(tactic| kd_mem) => `(tactic| first | exact List.not_mem_nil | exact fun _ h => h | exact List.forall_mem_nil _ | kd_all | (refine Mine.allA ?_; (repeat' apply And.intro) <;> kd_all) | simp)
local macro_rules | `(tactic| kd_adr) => `(tactic| (refine Mine.hideG ?_; intro zG))
local macro_rules | `(tactic| kd_facts) => `(tactic| (refine Mine.allA ?_; (repeat' apply And.intro) <;> first | assumption | exact Or.inl (by kd_all) | exact Or.inr (by assumption)))
local macro_rules | `(tactic| kst_all) => `(tactic| first | exact Nat.le_of_ble_eq_true rfl | assumption | exact kl4 rfl | exact kl5 rfl | exact kl6 rfl | exact kl7 rfl | exact kl17 rfl | exact (Nat.succ_add_eq_add_succ _ _).symm | (apply kl8; assumption) | (apply kl9; assumption) | (apply kl12; assumption) | (apply kl13; assumption) | (apply kl14; assumption) | (apply kl1; assumption; exact rfl) | (apply kl2; assumption; exact rfl) | (apply kl3; assumption; exact rfl) | (apply kl15; assumption) | (apply kl10; assumption; assumption; exact rfl) | (apply kl11; assumption) | (apply kl16; assumption; assumption; exact rfl) | (apply kl18; assumption; assumption) | (apply kl19; assumption; assumption) | (apply kl21; assumption; assumption) | (apply Nat.le_of_eq; assumption) | (apply kl20; assumption) | (apply klm; assumption; exact rfl) | exact klm rfl rfl | exact Nat.eq_of_lt_succ_of_not_lt (by assumption) (by assumption) | (apply And.intro <;> kst_all) | omega)
local macro_rules | `(tactic| kd_in) => `(tactic| first | (refine Mine.nmA ?_; (repeat' apply And.intro); all_goals first | assumption | exact Ne.symm (by assumption)) | (refine Mine.allA ?_; (repeat' apply And.intro); all_goals assumption) | simp [*])
local macro_rules | `(tactic| kd_subs) => `(tactic| first | (refine Mine.disA ?_; (repeat' apply And.intro); all_goals first | exact True.intro | assumption | exact Ne.symm (by assumption)) | simp [Mine.Dis, *])
local macro_rules | `(tactic| kst_p) => `(tactic| (intro zM zO; refine Mine.gSx ?_))
section
namespace Mine
open PySem PySem.W PySem.W.X
noncomputable def den:Code→Sem Fin:=PySem.W.ZFast.zw11892475500146522536 PySem.W.ZFast.tableZ
theorem den_eq:denote table=den:=by
 unfold den
 rw[←PySem.W.ZFast.ze11892475500146522536,←PySem.W.ZFast.tableZ_eq]
inductive Ko where
 | base
 | code (c:Code)
 | ret (c:Code) (hd:Option Value) (k:Result→Sem Fin) (κ:Ko)
inductive ST where
 | nil
 | node (a:Addr) (o:Obj) (l r:ST)
noncomputable def br {α:Type} (i:Nat) (A B:Nat→α):α:=match Nat.beq (i % 2) 1 with
 | true=>A (i / 2)
 | false=>B (i / 2 - 1)
theorem br1 {α:Type} (q:Nat) (A B:Nat→α):br (2*q+1) A B=A q:=by
 unfold br
 rw[Nat.mul_add_mod,Nat.mul_add_div Nat.two_pos];rfl
theorem br2 {α:Type} (q:Nat) (A B:Nat→α):br (2*q+2) A B=B q:=by
 unfold br
 rw[Nat.mul_add_mod,Nat.mul_add_div Nat.two_pos];rfl
theorem c3:∀(i:Nat) (P:Nat→Prop),P 0→(∀q,P (2*q+1))→(∀q,P (2*q+2))→P i
 | 0,_,h,_,_=>h
 | 1,_,_,h,_=>h 0
 | i+2,P,_,h1,h2=>c3 i (fun i=>P (i+2)) (h2 0) (fun q=>h1 (q+1)) (fun q=>h2 (q+1))
namespace ST
noncomputable def get:ST→Nat→Option (Addr×Obj)
 | .nil,_=>none
 | .node a o l r,i=>match Nat.beq i 0 with
  | true=>some (a,o)
  | false=>br i l.get r.get
noncomputable def set:ST→Nat→(Obj→Obj)→ST
 | .nil,_,_=> .nil
 | .node a o l r,i,f=>match Nat.beq i 0 with
  | true=> .node a (f o) l r
  | false=>br i (fun q=> .node a o (l.set q f) r) (fun q=> .node a o l (r.set q f))
noncomputable def ins:ST→Nat→Addr→Obj→ST
 | .nil,_,b,p=> .node b p .nil .nil
 | .node a o l r,i,b,p=>match Nat.beq i 0 with
  | true=> .node b p l r
  | false=>br i (fun q=> .node a o (l.ins q b p) r) (fun q=> .node a o l (r.ins q b p))
section
variable {a b:Addr} {v p:Obj} {l r:ST} {q:Nat} {f:Obj→Obj}
theorem get1:(node a v l r).get (2*q+1)=l.get q:=br1 ..
theorem get2:(node a v l r).get (2*q+2)=r.get q:=br2 ..
theorem set1:(node a v l r).set (2*q+1) f=node a v (l.set q f) r:=br1 q (fun q=>ST.node a v (l.set q f) r) (fun q=>ST.node a v l (r.set q f))
theorem set2:(node a v l r).set (2*q+2) f=node a v l (r.set q f):=br2 q (fun q=>ST.node a v (l.set q f) r) (fun q=>ST.node a v l (r.set q f))
theorem ins1:(node a v l r).ins (2*q+1) b p=node a v (l.ins q b p) r:=br1 q (fun q=>ST.node a v (l.ins q b p) r) (fun q=>ST.node a v l (r.ins q b p))
theorem ins2:(node a v l r).ins (2*q+2) b p=node a v l (r.ins q b p):=br2 q (fun q=>ST.node a v (l.ins q b p) r) (fun q=>ST.node a v l (r.ins q b p))
end
noncomputable def Chg (T T':ST) (j:Nat):Prop:=∀i x,T'.get i=some x→i=j∨T.get i=some x
theorem chgL {a:Addr} {v:Obj} {l r l':ST} {j:Nat} (h:Chg l l' j):Chg (node a v l r) (node a v l' r) (2*j+1):=fun i x=>c3 i (fun i=>(node a v l' r).get i=some x→i=2*j+1∨(node a v l r).get i=some x) .inr
 (fun q=>by rw[get1,get1];exact fun e=>(h q x e).imp_left (congrArg fun q=>2*q+1)) (fun q=>by rw[get2,get2];exact .inr)
theorem chgR {a:Addr} {v:Obj} {l r r':ST} {j:Nat} (h:Chg r r' j):Chg (node a v l r) (node a v l r') (2*j+2):=fun i x=>c3 i (fun i=>(node a v l r').get i=some x→i=2*j+2∨(node a v l r).get i=some x) .inr
 (fun q=>by rw[get1,get1];exact .inr) (fun q=>by rw[get2,get2];exact fun e=>(h q x e).imp_left (congrArg fun q=>2*q+2))
theorem chg0 {a b:Addr} {v p:Obj} {l r:ST}:Chg (node a v l r) (node b p l r) 0:=fun i x=>c3 i (fun i=>(node b p l r).get i=some x→i=0∨(node a v l r).get i=some x) (fun _=> .inl rfl)
 (fun q=>by rw[get1,get1];exact .inr) (fun q=>by rw[get2,get2];exact .inr)
theorem gZ (f:Obj→Obj):∀(t:ST) (j:Nat),Chg t (t.set j f) j∧(t.set j f).get j=(t.get j).map fun p=>(p.1,f p.2)
 | .nil,_=>⟨fun _ _ e=> .inr e,rfl⟩
 | .node a v l r,j=>c3 j (fun j=>Chg (node a v l r) ((node a v l r).set j f) j∧((node a v l r).set j f).get j=((node a v l r).get j).map fun p=>(p.1,f p.2)) ⟨chg0,rfl⟩
  (fun q=>by rw[set1,get1,get1];exact (gZ f l q).imp_left chgL) (fun q=>by rw[set2,get2,get2];exact (gZ f r q).imp_left chgR)
theorem io (b:Addr) (o:Obj):∀(t:ST) (j:Nat),((t.ins j b o).get j).isSome=true→Chg t (t.ins j b o) j∧(t.ins j b o).get j=some (b,o)
 | .nil,j=>c3 j (fun j=>((node b o nil nil).get j).isSome=true→Chg nil (node b o nil nil) j∧(node b o nil nil).get j=some (b,o))
  (fun _=>⟨fun i x=>c3 i (fun i=>(node b o nil nil).get i=some x→i=0∨nil.get i=some x) (fun _=> .inl rfl) (fun q=>by rw[get1];exact .inr) (fun q=>by rw[get2];exact .inr),rfl⟩)
  (fun q=>by rw[get1];exact fun e=>nomatch e) (fun q=>by rw[get2];exact fun e=>nomatch e)
 | .node a v l r,j=>c3 j (fun j=>(((node a v l r).ins j b o).get j).isSome=true→Chg (node a v l r) ((node a v l r).ins j b o) j∧((node a v l r).ins j b o).get j=some (b,o)) (fun _=>⟨chg0,rfl⟩)
  (fun q=>by rw[ins1,get1];exact fun e=>(io b o l q e).imp_left chgL) (fun q=>by rw[ins2,get2];exact fun e=>(io b o r q e).imp_left chgR)
theorem setE {T:ST} {j:Nat} {b:Addr} {o:Obj} {f:Obj→Obj} {P:Nat→Addr→Obj→Prop} (e:T.get j=some (b,o)) (h1:P j b (f o)) (h2:∀i c p,i≠j→T.get i=some (c,p)→P i c p) (i:Nat) (c:Addr) (p:Obj) (q:(T.set j f).get i=some (c,p)):P i c p:=by
 have z:=gZ f T j
 by_cases hj:i=j
 ·subst hj;rw[z.2,e] at q;cases q;exact h1
 ·exact h2 i c p hj ((z.1 i _ q).resolve_left hj)
theorem insE {T:ST} {j:Nat} {b:Addr} {o:Obj} {P:Nat→Addr→Obj→Prop} (e:((T.ins j b o).get j).isSome=true) (h1:P j b o) (h2:∀i c p,i≠j→T.get i=some (c,p)→P i c p) (i:Nat) (c:Addr) (p:Obj) (q:(T.ins j b o).get i=some (c,p)):P i c p:=by
 have z:=io b o T j e
 by_cases hj:i=j
 ·subst hj;rw[z.2] at q;cases q;exact h1
 ·exact h2 i c p hj ((z.1 i _ q).resolve_left hj)
theorem set_congr {f g:Obj→Obj}:∀{t:ST} {j:Nat} {b:Addr} {o:Obj},t.get j=some (b,o)→f o=g o→t.set j f=t.set j g
 | .nil,_,_,_,e,_=>nomatch e
 | .node a v l r,j,b,o,e,q=>by
  revert e
  refine c3 j (fun j=>(node a v l r).get j=some (b,o)→(node a v l r).set j f=(node a v l r).set j g) (fun e=>?_) (fun i=>?_) (fun i=>?_)
  ·cases e;exact congrArg (fun v=>node a v l r) q
  ·rw[get1,set1,set1];exact fun e=>congrArg (fun l=>node a v l r) (set_congr e q)
  ·rw[get2,set2,set2];exact fun e=>congrArg (node a v l) (set_congr e q)
end ST
structure Vw where
 prog:Program
 P:Params
 n₁:Nat
 t₀:Nat
 kt:KT
 W:Nat
inductive Out where
 | mk (κ:Ko) (t:Sem Fin) (T:ST) (n m i:Nat) (ob:List (Addr×Addr)) (pr:List Prop)
namespace Out
noncomputable def κ:Out→Ko | .mk κ _ _ _ _ _ _ _=>κ
noncomputable def t:Out→Sem Fin | .mk _ t _ _ _ _ _ _=>t
noncomputable def T:Out→ST | .mk _ _ T _ _ _ _ _=>T
noncomputable def n:Out→Nat | .mk _ _ _ n _ _ _ _=>n
noncomputable def m:Out→Nat | .mk _ _ _ _ m _ _ _=>m
noncomputable def i:Out→Nat | .mk _ _ _ _ _ i _ _=>i
noncomputable def ob:Out→List (Addr×Addr) | .mk _ _ _ _ _ _ ob _=>ob
noncomputable def pr:Out→List Prop | .mk _ _ _ _ _ _ _ pr=>pr
end Out
noncomputable def eqS (s r:String):Bool:= @decide (s=r) (PySem.W.S.strDecS s r)
theorem fE (s r:String):eqS s r=true↔s=r:=by unfold eqS;exact @decide_eq_true_iff _ (PySem.W.S.strDecS s r)
noncomputable def bn:Ko→Option Value
 | .base=>none
 | .code _=>none
 | .ret _ hd _ κ=>hd.or (bn κ)
structure En where
 prog:Program
 w:World
 A:Around
 Q:Fin→Shared→Prop
 E:Value→Shared→Prop
 R:Result→Shared→Prop
 g:Array GenState
 d:Drawn
 os:OsState
 h₀:Heap
 ex:List Addr
structure Rep (V:Vw) (N:En) (h:Heap) (T:ST) (n m:Nat):Prop where
 size:h.objs.size=V.n₁+m
 own:∀j a o,T.get j=some (a,o)→j<n∧h.get? a=some o
 ne:∀j j' a o a' o',V.W≤j→j'≠j→T.get j=some (a,o)→T.get j'=some (a',o')→a'≠a
 kt:∀a o,V.kt.get a=some o→h.get? a=some o
 kn:∀j a o,V.W≤j→T.get j=some (a,o)→V.kt.get a=none
 keep:∀b o,N.h₀.get? b=some o→b∉N.ex→h.get? b=some o
 exok:∀j a o,V.W≤j→T.get j=some (a,o)→a∈N.ex∨N.h₀.get? a=none
 grow:N.h₀.objs.size≤h.objs.size
section
variable {V:Vw} {N:En} {h:Heap} {T:ST} {n m:Nat}
theorem Rep.alloc (D:Rep V N h T n m) {o:Obj} (hf:o.isFreed=false) (hg:((T.ins n (V.n₁+m) o).get n).isSome=true):Rep V N (h.push o) (T.ins n (V.n₁+m) o) (n+1) (m+1):=by
 have fresh:∀{a o'},h.get? a=some o'→a≠V.n₁+m:=fun e q=>Nat.ne_of_lt (Heap.lt_size e) (q.trans D.size.symm)
 have no:∀{x:Option Obj},(∀o',x=some o'→h.get? (V.n₁+m)=some o')→x=none:=fun {x} hx=>by
  cases x with
  | none=>rfl
  | some o'=>exact absurd rfl (fresh (hx o' rfl))
 refine⟨by rw[Heap.size_push,D.size,Nat.add_assoc],ST.insE hg ⟨Nat.lt_succ_self n,by rw[←D.size];exact Heap.get?_push_size _ hf⟩ fun j a o' _ e=>⟨Nat.lt_succ_of_lt (D.own j a o' e).1,Heap.get?_push_of_some _ (D.own j a o' e).2⟩,fun j j' a o1 a' o2 hw hne e1 e2=>?_,fun a o' e=>Heap.get?_push_of_some _ (D.kt a o' e),
  fun j a o' hw e=>?_,fun b o' e hb=>Heap.get?_push_of_some _ (D.keep b o' e hb),fun j a o' hw e=>?_,by rw[Heap.size_push];exact Nat.le_succ_of_le D.grow⟩
 ·revert hw hne
  refine ST.insE hg (P:=fun j a _=>V.W≤j→j'≠j→a'≠a) (fun _ hne=>?_) (fun j a o1 hj e1 hw=>?_) j a o1 e1
  ·exact ST.insE hg (P:=fun j' a' _=>j'≠n→a'≠V.n₁+m) (fun h=>absurd rfl h) (fun _ _ _ _ e _=>fresh (D.own _ _ _ e).2) j' a' o2 e2 hne
  ·exact ST.insE hg (P:=fun j' a' _=>j'≠j→a'≠a) (fun _=>(fresh (D.own _ _ _ e1).2).symm) (fun j' _ _ _ e hne=>D.ne j j' a o1 _ _ hw hne e1 e) j' a' o2 e2
 ·exact ST.insE hg (P:=fun j a _=>V.W≤j→V.kt.get a=none) (fun _=>no fun _ q=>D.kt _ _ q) (fun j a o _ e hw=>D.kn j a o hw e) j a o' e hw
 ·refine ST.insE hg (P:=fun j a _=>V.W≤j→a∈N.ex∨N.h₀.get? a=none) (fun _=>?_) (fun j a o _ e hw=>D.exok j a o hw e) j a o' e hw
  by_cases hx:V.n₁+m∈N.ex
  ·exact .inl hx
  ·exact .inr (no fun _ q=>D.keep _ _ q hx)
theorem Rep.chg (D:Rep V N h T n m) {j:Nat} {b:Addr} {o:Obj} {f:Obj→Obj} {h':Heap} {n' t' m':Nat} (hw:V.W≤j) (e:T.get j=some (b,o)) (sz:h'.objs.size=n'+m') (gr:h.objs.size≤h'.objs.size) (ge:h'.get? b=some (f o))
  (hs:∀a x,a≠b→h.get? a=some x→h'.get? a=some x):Rep { V with n₁:=n',t₀:=t' } N h' (T.set j f) n m':=by
 have ad:∀k c p,(T.set j f).get k=some (c,p)→∃p',T.get k=some (c,p'):=ST.setE e ⟨o,e⟩ fun _ _ p _ q=>⟨p,q⟩
 refine⟨sz,ST.setE e ⟨(D.own j b o e).1,ge⟩ fun i c p hi q=>⟨(D.own i c p q).1,hs c p (D.ne j i b o c p hw hi e q) (D.own i c p q).2⟩,fun j1 j2 a o1 a' o2 hw1 hne e1 e2=>?_,fun a o' ka=>hs a o' ?_ (D.kt a o' ka),
  fun j' a o' hw' e'=>(ad _ _ _ e').elim fun p q=>D.kn j' a p hw' q,fun b' o' e' hb=>hs b' o' ?_ (D.keep b' o' e' hb),fun j' a o' hw' e'=>(ad _ _ _ e').elim fun p q=>D.exok j' a p hw' q,Nat.le_trans D.grow gr⟩
 ·obtain⟨p1,q1⟩:=ad _ _ _ e1
  obtain⟨p2,q2⟩:=ad _ _ _ e2
  exact D.ne j1 j2 a p1 a' p2 hw1 hne q1 q2
 ·rintro rfl;rw[D.kn j _ o hw e] at ka;cases ka
 ·rintro rfl
  rcases D.exok j _ o hw e with x | x
  ·exact hb x
  ·rw[x] at e';cases e'
theorem Rep.update (D:Rep V N h T n m) {j:Nat} {b:Addr} {o:Obj} {f:Obj→Obj} (hw:V.W≤j) (e:T.get j=some (b,o)) (hf:(f o).isFreed=false):Rep V N (h.update b f) (T.set j f) n m:=by
 have hs:Heap.SameBut b h (h.update b f):=Heap.SameBut.update ..
 have ho:=D.own j b o e
 exact D.chg (t':=V.t₀) hw e (hs.1.trans D.size) (Nat.le_of_eq hs.1.symm) (by first | exact Heap.get?_update_self f ho.2 hf | exact Heap.get?_update_self _ ho.2 hf) fun a x ne q=>(hs.2 a ne).trans q
end
noncomputable def ar (A:Around):Ko→Around
 | .base=>A
 | .code c=>A.under c
 | .ret c hd _ κ=>((ar A κ).mark hd).under c
noncomputable def lf (M:Model) (A:Around) (R:Result→Shared→Prop):Fin→Shared→Prop:=fun fin s'=>match fin with
 | .done f=>R (.ok f) s'
 | .again c'=>c'.quiet=true∧codeAny M A c' R s'
noncomputable def QE' (prog:Program) (w:World) (A:Around) (Q:Fin→Shared→Prop) (E:Value→Shared→Prop) (R:Result→Shared→Prop):Ko→(Fin→Shared→Prop)×(Value→Shared→Prop)
 | .base=>(Q,E)
 | .code _=>(lf (model prog w) A R,fun e s'=>R (.error e) s')
 | .ret _ hd k κ=>
  (lf (model prog w) ((ar A κ).mark hd) (fun r s'=>wpAny (model prog w) (ar A κ) (k r) (QE' prog w A Q E R κ).1 (QE' prog w A Q E R κ).2 s'),
   fun e s'=>wpAny (model prog w) (ar A κ) (k (.error e)) (QE' prog w A Q E R κ).1 (QE' prog w A Q E R κ).2 s')
@[reducible] noncomputable def QE (N:En):Ko→(Fin→Shared→Prop)×(Value→Shared→Prop):=QE' N.prog N.w N.A N.Q N.E N.R
noncomputable def At (N:En) (κ:Ko) (t:Sem Fin) (s:Shared):Prop:=wpAny (model N.prog N.w) (ar N.A κ) t (QE N κ).1 (QE N κ).2 s
noncomputable def Goal (N:En) (V:Vw) (κ:Ko) (t:Sem Fin) (T:ST) (n m i:Nat):Prop:=
 ∀h,Rep V N h T n m→At N κ t ⟨h,N.g,N.d,V.t₀+i,N.os⟩
noncomputable def GoalO (N:En) (V:Vw) (o:Out):Prop:=Goal N V o.κ o.t o.T o.n o.m o.i
structure Fit (N:En) (V:Vw):Prop where
 prog:V.prog=N.prog
 P:V.P=N.w.params
 hd:N.A.handled=none
theorem bj {A:Around} (hA:A.handled=none):∀κ,(ar A κ).handled=bn κ
 | .base=>hA
 | .code _=>hA
 | .ret _ hd _ κ=>by
  show hd.or (ar A κ).handled=hd.or (bn κ)
  rw[bj hA κ]
theorem fe {hd:Option Value} (q:okMark hd=true):hd≠some byPass:=by
 intro e
 subst e
 simp[okMark] at q
end Mine
end
section
namespace Mine
open PySem PySem.W PySem.W.X PyProof.Rows
structure PR where
 r:Result
 T:ST
 n:Nat
 m:Nat
 i:Nat
 ob:List (Addr×Addr)
 pr:List Prop
structure PI where
 V:Vw
 vs:List Value
 x:Nat
 y:Nat
 z:Nat
 T:ST
 n:Nat
 m:Nat
 i:Nat
@[reducible] noncomputable def PI.s (I:PI) (N:En) (h:Heap):Shared:=⟨h,N.g,N.d,I.V.t₀+I.i,N.os⟩
noncomputable def PS (I:PI) (c:Code) (o:PR):Prop:=∀N:En,(∀q∈o.ob,q.1=q.2)→(∀q∈o.pr,q)→∀{A:Around} {R:Result→Shared→Prop} {h:Heap},A.handled=none→Rep I.V N h I.T I.n I.m→
  (∀h',Rep I.V N h' o.T o.n o.m→R o.r ⟨h',N.g,N.d,I.V.t₀+o.i,N.os⟩)→codeAny (model N.prog N.w) A c R (I.s N h)
structure PO (I:PI) (c:Code) where
 o:PR
 ok:PS I c o
noncomputable abbrev PT:=List ((I:PI)→(c:Code)→Option (PO I c))
@[reducible] noncomputable def bc (id:String) (pos:List Value):Code:= .call (.builtin id) ⟨pos,[]⟩
noncomputable def onB (id:String) (I:PI) (g:∀pos,Option (PO I (bc id pos))) (c:Code):Option (PO I c):=match c with
 | .call (.builtin id') ⟨pos,[]⟩=>match q:eqS id id' with
  | true=>match g pos with
   | some o=>some ⟨o.o,(fE _ _).mp q▸o.ok⟩
   | none=>none
  | false=>none
 | _=>none
section
variable {α:Type} {c:Value→Type} {d:List Value→Type}
noncomputable def on1 (l:List Value) (k:∀a,Option (d [a])):Option (d l):=match l with
 | [a]=>k a
 | _=>none
noncomputable def on2 (l:List Value) (k:∀a b,Option (d [a,b])):Option (d l):=match l with
 | [a,b]=>k a b
 | _=>none
noncomputable def on3 (l:List Value) (k:∀a b c,Option (d [a,b,c])):Option (d l):=match l with
 | [a,b,c]=>k a b c
 | _=>none
noncomputable def onR (v:Value) (k:∀a,Option (c (.ref a))):Option (c v):=match v with
 | .ref a=>k a
 | _=>none
noncomputable def onI (v:Value) (k:∀a t,Option (c (.int (.ofNat a) t))):Option (c v):=match v with
 | .int (.ofNat a) t=>k a t
 | _=>none
noncomputable def onS (v:Value) (k:∀a t,Option (c (.str ⟨⟨a⟩⟩ t))):Option (c v):=match v with
 | .str ⟨⟨a⟩⟩ t=>k a t
 | _=>none
noncomputable def onW (W x:Nat) (k:W≤x→Option α):Option α:=match q:Nat.ble W x with
 | true=>k (Nat.le_of_ble_eq_true q)
 | false=>none
noncomputable def onV (l:List Value) (z:Nat) (k:Value→Option α):Option α:=match l[z]? with
 | some v=>k v
 | none=>none
noncomputable def onC (T:ST) (x:Nat) (nm:String) (k:∀b d,T.get x=some (b,⟨.type nm,none,d, #[]⟩)→Option α):Option α:=match h:T.get x with
 | some (b,⟨.type nm',none,d,⟨[]⟩⟩)=>match q:eqS nm' nm with
  | true=>k b d ((fE _ _).mp q▸h)
  | false=>none
 | _=>none
@[reducible] noncomputable def lsO (L:List Value) (e:Nat):Obj:=⟨.type "list",none, .seq ⟨L⟩ e, #[]⟩
@[reducible] noncomputable def itO (nm:String) (v:Value) (k:Nat) (t:Tok):Obj:=⟨.type nm,none, .fields ⟨[v, .int (.ofNat k) t]⟩, #[]⟩
noncomputable def onL (T:ST) (x:Nat) (k:∀b L e,T.get x=some (b,lsO L e)→Option α):Option α:=onC T x "list" fun b d=>match d with
 | .seq ⟨L⟩ e=>k b L e
 | _=>fun _=>none
noncomputable def onIt (nm:String) (T:ST) (x:Nat) (k:∀b v n t,T.get x=some (b,itO nm v n t)→Option α):Option α:=onC T x nm fun b d=>match d with
 | .fields ⟨[v, .int (.ofNat n) t]⟩=>k b v n t
 | _=>fun _=>none
noncomputable def onN (T:ST) (n:Nat) (k:(T.get n).isSome=true→Option α):Option α:=match q:T.get n with
 | some _=>k (q▸rfl)
 | none=>none
end
noncomputable def pErr (R:Result→Shared→Prop) (e:Value) (s:Shared):Prop:=R (.error e) s
section
variable {prog:Program} {w:World} {A:Around} {R:Result→Shared→Prop} {s:Shared} {T:String} {name:Str} {id:String} {B:Builtin} {self:Value} {rest:List Value}
theorem bD (slot:Slot T name id) (hT:s.TypeIs self T) (entry:entryFor table id=some B) (args:argsOk id ⟨self :: rest,[]⟩)
  (g:wpAny (model prog w) A.in1 (B ⟨self :: rest,[]⟩) (lf (model prog w) A R) (pErr R) s):codeAny (model prog w) A (bc id (self :: rest)) R s:=
 codeAny_call_builtin slot.plain entry (slot.check _ _ _ _ _ _ _ _ hT args g)
theorem aG {m:Made} (slot:Slot T name id) (hT:s.TypeIs self T) (entry:entryFor table id=some B) (args:argsOk id ⟨self :: rest,[]⟩) (g:Gives (B ⟨self :: rest,[]⟩) m) (h:m.post (fun v s'=>R (.ok (.ret v)) s') s):
  codeAny (model prog w) A (.call (.builtin id) ⟨self :: rest,[]⟩) R s:=bD slot hT entry args (g prog w A R s h)
theorem aI {S:PySem.Spec} (slot:Slot T name id) (hT:s.TypeIs self T) (entry:entryFor table id=some B) (args:argsOk id ⟨self :: rest,[]⟩) (g:MeetsIn prog w (B ⟨self :: rest,[]⟩) S) (h:S A R s):
  codeAny (model prog w) A (.call (.builtin id) ⟨self :: rest,[]⟩) R s:=bD slot hT entry args (g A R s h)
end
noncomputable def pInt (I:PI) (r:Int) (pr:List Prop):PR:=⟨.ok (.ret (.int r (I.V.t₀+I.i))),I.T,I.n,I.m,I.i+1,[],pr⟩
noncomputable def fZ {id:String} {name:Str} {B:Builtin} (slot:Slot "int" name id) (entry:entryFor table id=some B) (args:∀a b,argsOk id ⟨[a,b],[]⟩) (F:Nat→Nat→Int) (P:Nat→Nat→List Prop)
  (hg:∀a b t u,(∀q∈P a b,q)→Gives (B ⟨[.int (.ofNat a) t, .int (.ofNat b) u],[]⟩) (.int (F a b))) (I:PI):(c:Code)→Option (PO I c):=
 onB id I fun pos=>on2 (d:=fun pos=>PO I (bc id pos)) pos fun va vb=>onI (c:=fun va=>PO I (bc id [va,vb])) va fun a t=>onI (c:=fun vb=>PO I (bc id [.int (.ofNat a) t,vb])) vb fun b u=>some ⟨pInt I (F a b) (P a b),fun _ _ hp _ _ h _ D H=>aG slot (typeIs_int _ _ _) entry (args _ _) (hg a b t u hp) (H h D)⟩
theorem xor_lin {a b c d p q s t:Nat} (h:c+2*d=a+b) (k:s+2*t=p+q):(2*c+s)+2*(2*d+t)=(2*a+p)+(2*b+q):=by omega
theorem gQ:∀(n x y:Nat),x≤n→(x^^^y)+2*(x&&&y)=x+y
 | 0,x,y,h=>by
  cases Nat.le_zero.mp h
  rw[Nat.zero_xor,Nat.zero_and,Nat.zero_add];rfl
 | n+1,x,y,h=>by
  cases x with
  | zero=>exact gQ n 0 y (Nat.zero_le n)
  | succ x=>
   have ih:=gQ n ((x+1) / 2) (y / 2) (Nat.le_of_lt_succ (Nat.lt_of_lt_of_le (Nat.div_lt_self (Nat.succ_pos x) (by decide)) h))
   generalize x+1=x at ih ⊢
   rw[←Nat.xor_div_two,←Nat.and_div_two] at ih
   have k:(x^^^y) % 2^1+2*((x&&&y) % 2^1)=x % 2^1+y % 2^1:=by
    rw[Nat.xor_mod_two_pow,Nat.and_mod_two_pow]
    rcases Nat.mod_two_eq_zero_or_one x with p | p<;>rcases Nat.mod_two_eq_zero_or_one y with q | q<;>rw[Nat.pow_one,p,q]<;>rfl
   have z:=xor_lin ih k
   rwa [Nat.pow_one,Nat.div_add_mod,Nat.div_add_mod,Nat.div_add_mod,Nat.div_add_mod] at z
theorem ky (x y:Nat):Builtin.bitXor (Int.ofNat x) (Int.ofNat y)=Int.ofNat (x^^^y):=by
 rw[PyProof.Rows.bitXor_and]
 have e:Builtin.bitAnd (Int.ofNat x) (Int.ofNat y)=Int.ofNat (x&&&y):=rfl
 rw[e]
 have:=gQ x x y (Nat.le_refl _)
 simp only[Int.ofNat_eq_natCast]
 omega
theorem mK (x y:Nat) (t u:Tok):Gives (Builtin.«int.__rshift__» ⟨[.int (.ofNat x) t, .int (.ofNat y) u],[]⟩) (.int (.ofNat (x>>>y))):=by
 simp only[Int.ofNat_eq_natCast]
 have hb:¬(y:Int)<0:=by omega
 by_cases h:(y:Int)≥((Builtin.Int.intBits (x:Int):Nat):Int)
 ·have e:(if (x:Int)<0 then (-1:Int) else 0)=((x>>>y:Nat):Int):=by
   rw[if_neg (by omega)]
   have:x>>>y=0:=by
    rw[Nat.shiftRight_eq_div_pow]
    refine Nat.div_eq_of_lt ?_
    by_cases hx:x=0
    ·subst hx;exact Nat.two_pow_pos y
    ·have hbits:Builtin.Int.intBits (x:Int)=x.log2+1:=by
      unfold Builtin.Int.intBits
      rw[if_neg (by simpa using hx)];rfl
     rw[hbits] at h
     exact (Nat.log2_lt hx).mp (by omega)
   rw[this];rfl
  have g:=AutoIntG9.int___rshift___int_int_1 (x:Int) t (y:Int) u hb h
  rw[e] at g;exact g
 ·have e:(x:Int).fdiv (2^(y:Int).toNat)=((x>>>y:Nat):Int):=by
   rw[Nat.shiftRight_eq_div_pow,Int.toNat_natCast]
   rw[Int.fdiv_eq_ediv_of_nonneg _ (Int.le_of_lt (Int.pow_pos (by decide)))]
   simp
  have g:=AutoIntG0.int___rshift___int_int_2 (x:Int) t (y:Int) u hb h
  rw[e] at g;exact g
theorem mL (x y:Nat) (t u:Tok) (h:x<2^64∧y<2^16):Gives (Builtin.«int.__lshift__» ⟨[.int (.ofNat x) t, .int (.ofNat y) u],[]⟩) (.int (.ofNat (x<<<y))):=by
 have e:Int.ofNat (x<<<y)=(x:Int)*2^(y:Int).toNat:=by
  rw[Nat.shiftLeft_eq,Int.ofNat_eq_natCast,Int.natCast_mul,Int.toNat_natCast];simp
 rw[e]
 simp only[Int.ofNat_eq_natCast]
 have ha:(x:Int).natAbs<2^64:=by simpa using h.1
 have hsz:(Builtin.Int.intBits (x:Int):Int)+(y:Int)≤2^27:=PyProof.Rows.bits_add_le ha (by have:=h.2;omega)
 generalize (x:Int)=a at ha hsz
 have hn:0≤(y:Int):=Int.natCast_nonneg y
 generalize (y:Int)=n at hsz hn
 refine .of_wp fun M A E s Q h=>?_
 have h:Q (.int (a*2^n.toNat) s.toks) { s with toks:=s.toks+1 }:=h
 show wpAny _ _ (if n<0 then _ else _) _ _ s
 rw[if_neg (by omega)]
 show wpAny _ _ (if (a == 0)=true then _ else _) _ _ s
 by_cases h0:a=0
 ·rw[if_pos (by simpa using h0)]
  have e:a*2^n.toNat=0:=by subst h0;exact Int.zero_mul _
  rw[e] at h
  repeat (first | refine wpAny_pure ?_ | refine wpAny_mkInt ?_ | refine wpAny_rule ?_ | refine wpAny_bind ?_)
  exact⟨_,rfl,h⟩
 rw[if_neg (by simpa using h0)]
 have h3:¬(((Builtin.Int.intBits a:Int)+29) / 30+n / 30+(if n % 30 == 0 then 0 else 1)>Builtin.maxDigits):=by
  unfold Builtin.maxDigits
  split<;>omega
 show wpAny _ _ (if ((Builtin.Int.intBits a:Int)+29) / 30+n / 30+(if n % 30 == 0 then 0 else 1)>Builtin.maxDigits then _ else _) _ _ s
 rw[if_neg h3]
 have hbig:Builtin.Int.intTooBig ((Builtin.Int.intBits a:Int)+n)=false:=decide_eq_false (Int.not_lt.mpr hsz)
 show wpAny _ _ (if Builtin.Int.intTooBig ((Builtin.Int.intBits a:Int)+n)=true then _ else _) _ _ s
 rw[if_neg (by rw[hbig];exact Bool.false_ne_true)]
 repeat (first | refine wpAny_pure ?_ | refine wpAny_mkInt ?_ | refine wpAny_rule ?_ | refine wpAny_bind ?_)
 exact⟨_,rfl,h⟩
noncomputable def p_shr:=fZ PySem.slot_int_rshift PySem.entry_int_rshift PySem.args_int_rshift (fun a b=> .ofNat (a>>>b)) (fun _ _=>[]) (fun a b t u _=>mK a b t u)
noncomputable def p_mul:=fZ F.slot_int_mul F.entry_int_mul F.args_int_mul_2 (fun a b=> .ofNat (a*b)) (fun a b=>[a<2^64∧b<2^64]) (fun a b t u h=>by
  have h:=h _ (.head _)
  have e:Int.ofNat (a*b)=(a:Int)*(b:Int):=by simp
  rw[e]
  exact gives_int_mul (a:Int) (b:Int) t u (by
   have h1:=h.1
   have h2:=h.2
   mul_fits))
noncomputable def p_shl:=fZ F.slot_int_lshift F.entry_int_lshift F.args_int_lshift_2 (fun a b=> .ofNat (a<<<b)) (fun a b=>[a<2^64∧b<2^16]) (fun a b t u h=>mL a b t u (h _ (.head _)))
noncomputable def p_fdiv:=fZ F.slot_int_floordiv F.entry_int_floordiv F.args_int_floordiv_2 (fun a b=> .ofNat (a / b)) (fun a b=>[b≠0,Builtin.divisionGoesByPylong (a:Int) (b:Int)=false]) (fun a b t u h=>by
  have h1:=h _ (.head _)
  have h2:=h _ (.tail _ (.head _))
  have e:Int.ofNat (a / b)=(a:Int).fdiv (b:Int):=by rw[Int.fdiv_eq_ediv_of_nonneg _ (Int.natCast_nonneg b)];simp
  rw[e]
  exact AutoIntG4.int___floordiv___int_int_1 (a:Int) t (b:Int) u (by simpa using h1) (by rw[h2];exact Bool.false_ne_true))
noncomputable def p_mod:=fZ F.slot_int_mod F.entry_int_mod F.args_int_mod_2 (fun a b=> .ofNat (a % b)) (fun a b=>[b≠0]) (fun a b t u h=>by
  have h1:=h _ (.head _)
  have e:Int.ofNat (a % b)=(a:Int).fmod (b:Int):=by rw[Int.fmod_eq_emod_of_nonneg _ (Int.natCast_nonneg b)];simp
  rw[e]
  exact AutoIntG6.int___mod___int_int_1 (a:Int) t (b:Int) u (by simpa using h1))
noncomputable def p_xor:=fZ F.slot_int_xor F.entry_int_xor F.args_int_xor_2 (fun a b=> .ofNat (a^^^b)) (fun _ _=>[]) (fun a b t u _=>by
  rw[←ky]
  exact .of_eq rfl)
noncomputable def p_add:=fZ F.slot_int_add F.entry_int_add F.args_int_add_2 (fun a b=> .ofNat (a+b)) (fun _ _=>[]) (fun a b t u _=>gives_int_add (a:Int) (b:Int) t u)
noncomputable def pBit (I:PI) (P:Prop) (ob:List (Addr×Addr)):PR:=match I.y with
 | 0=>⟨.ok (.ret (.bool false)),I.T,I.n,I.m,I.i,ob,[¬P]⟩
 | _+1=>⟨.ok (.ret (.bool true)),I.T,I.n,I.m,I.i,ob,[P]⟩
theorem ps_bit {I:PI} {c:Code} {P:Prop} {b:Bool} {ob:List (Addr×Addr)} (hb:b=true↔P) (H:∀N:En,(∀q∈ob,q.1=q.2)→∀{A:Around} {R:Result→Shared→Prop} {h:Heap},Rep I.V N h I.T I.n I.m→R (.ok (.ret (.bool b))) (I.s N h)→codeAny (model N.prog N.w) A c R (I.s N h)):PS I c (pBit I P ob):=by
 obtain⟨V,vs,x,y,z,T,n,m,i⟩:=I
 intro N hob hp A R h hA D G
 cases y with
 | zero=>exact H N hob D ((Bool.eq_false_iff.mpr fun q=>hp _ (.head _) (hb.mp q))▸G h D)
 | succ y=>exact H N hob D ((hb.mpr (hp _ (.head _)))▸G h D)
noncomputable def mQ {id:String} {name:Str} {B:Builtin} (slot:Slot "int" name id) (entry:entryFor table id=some B) (args:∀a b,argsOk id ⟨[a,b],[]⟩)
  (P:Nat→Nat→Prop) {F:Int→Int→Bool} (hF:∀a b:Nat,F (.ofNat a) (.ofNat b)=true↔P a b)
  (hg:∀a b t u,Gives (B ⟨[.int a t, .int b u],[]⟩) (.val (.bool (F a b)))) (I:PI):(c:Code)→Option (PO I c):=
 onB id I fun pos=>on2 (d:=fun pos=>PO I (bc id pos)) pos fun va vb=>onI (c:=fun va=>PO I (bc id [va,vb])) va fun a t=>onI (c:=fun vb=>PO I (bc id [.int (.ofNat a) t,vb])) vb fun b u=>some ⟨pBit I (P a b) [],ps_bit (hF a b) fun N _ {_ _ _} D G=>aG slot (typeIs_int _ _ _) entry (args _ _) (hg _ _ t u) G⟩
noncomputable def p_lt:=mQ F.slot_int_lt F.entry_int_lt F.args_int_lt_2 (fun a b=>a<b) (fun a b=>decide_eq_true_iff.trans Int.ofNat_lt) gives_int_lt
noncomputable def p_le:=mQ F.slot_int_le F.entry_int_le F.args_int_le_2 (fun a b=>a≤b) (fun a b=>decide_eq_true_iff.trans Int.ofNat_le) gives_int_le
noncomputable def p_gt:=mQ F.slot_int_gt F.entry_int_gt F.args_int_gt_2 (fun a b=>b<a) (fun a b=>decide_eq_true_iff.trans Int.ofNat_lt) gives_int_gt
noncomputable def p_ge:=mQ F.slot_int_ge F.entry_int_ge F.args_int_ge_2 (fun a b=>b≤a) (fun a b=>decide_eq_true_iff.trans Int.ofNat_le) gives_int_ge
theorem lk (a b:Nat):(Int.ofNat a == Int.ofNat b)=true↔a=b:=beq_iff_eq.trans Int.ofNat_inj
noncomputable def p_eq:=mQ F.slot_int_eq F.entry_int_eq F.args_int_eq_2 (fun a b=>a=b) lk gives_int_eq
noncomputable def p_ne:=mQ F.slot_int_ne F.entry_int_ne F.args_int_ne_2 (fun a b=>a≠b) (fun a b=>bne_iff_ne.trans (not_congr Int.ofNat_inj)) gives_int_ne
noncomputable def pB0 (I:PI) (a:Nat):PR:=match I.y with
 | 0=>⟨.ok (.ret (.bool false)),I.T,I.n,I.m,I.i,[],[a=0]⟩
 | _+1=>⟨.ok (.ret (.bool true)),I.T,I.n,I.m,I.i,[],[a≠0]⟩
theorem ok_bool (I:PI) (a:Nat) (t:Tok):PS I (bc "int.__bool__" [.int (.ofNat a) t]) (pB0 I a):=by
 obtain⟨V,vs,x,y,z,T,n,m,i⟩:=I
 intro N hob hp A R h hA D G
 refine aG F.slot_int_bool (typeIs_int _ _ _) F.entry_int_bool (F.args_int_bool_1 _) (gives_int_bool _ t) ?_
 cases y with
 | zero=>cases (hp _ (.head _):a=0);exact G h D
 | succ y=>exact (bne_iff_ne.mpr fun q=>(hp _ (.head _):a≠0) (Int.ofNat_inj.mp q):(Int.ofNat a != 0)=true)▸G h D
noncomputable def p_bool (I:PI):(c:Code)→Option (PO I c):=onB "int.__bool__" I fun pos=>on1 (d:=fun pos=>PO I (bc "int.__bool__" pos)) pos fun va=>onI (c:=fun va=>PO I (bc "int.__bool__" [va])) va fun a t=>some ⟨pB0 I a,ok_bool I a t⟩
section
variable {I:PI} {id:String}
noncomputable def oR (k:∀a,Option (PO I (bc id [.ref a]))):(c:Code)→Option (PO I c):=onB id I fun pos=>on1 (d:=fun pos=>PO I (bc id pos)) pos fun v=>onR (c:=fun v=>PO I (bc id [v])) v k
noncomputable def oRV (k:∀a v,Option (PO I (bc id [.ref a,v]))):(c:Code)→Option (PO I c):=onB id I fun pos=>on2 (d:=fun pos=>PO I (bc id pos)) pos fun a v=>onR (c:=fun a=>PO I (bc id [a,v])) a fun a=>k a v
noncomputable def oRI (k:∀a i t,Option (PO I (bc id [.ref a, .int (.ofNat i) t]))):(c:Code)→Option (PO I c):=oRV fun a v=>onI (c:=fun v=>PO I (bc id [.ref a,v])) v (k a)
noncomputable def oSV (k:∀a t v,Option (PO I (bc id [.str ⟨⟨a⟩⟩ t,v]))):(c:Code)→Option (PO I c):=onB id I fun pos=>on2 (d:=fun pos=>PO I (bc id pos)) pos fun a v=>onS (c:=fun a=>PO I (bc id [a,v])) a fun a t=>k a t v
end
variable {I:PI}
theorem item_wp {M:Model} {A:Around} {l k ep:Nat} {L:List Value} {v:Value} {kk:Int} {t:Tok} {Q:PySem.Fin→Shared→Prop} {E:Value→Shared→Prop} {s:Shared} (hk:kk=Int.ofNat k) (h0:k<2^63) (hl:s.heap.get? l=some (lsO L ep)) (h1:(⟨L⟩:Array Value)[k]? = some v) (H:Q (.done (.ret v)) s):wpAny M A (Builtin.«list.__getitem__» ⟨[.ref l, .int kk t],[]⟩) Q E s:=by
 refine wpAny_bind (m:=Builtin.List.listSubscript? (.int kk t)) (wpAny_listSubscript_int (fitsIndex_of (by rw[hk];exact Int.natCast_nonneg k) (by rw[hk];simp only[Int.ofNat_eq_natCast];omega)) ?_)
 subst hk
 refine wpAny_bind (m:=seqItemAt l k >>= fun r=>pure (r.map (k,·))) (wpAny_bind (wpAny_seqItemAt hl rfl (wpAny_pure ?_)))
 rw[h1]
 exact wpAny_pure H
theorem ok_item {l k t b L ep v} (hl:I.T.get I.x=some (b,lsO L ep)):PS I (bc "list.__getitem__" [.ref l, .int (.ofNat k) t]) ⟨.ok (.ret v),I.T,I.n,I.m,I.i,[(l,b)],[L[k]? = some v,k<2^63]⟩:=by
 intro N hob hp A R h hA D G
 cases hob (l,b) (.head _)
 have hl:=(D.own _ _ _ hl).2
 have h2:k<2^63:=hp _ (.tail _ (.head _))
 refine bD F.slot_list_getitem ⟨_,hl,rfl⟩ F.entry_list_getitem (F.args_list_getitem_2 _ _) ?_
 have h3:(⟨L⟩:Array Value)[k]? = some v:=List.getElem?_toArray.trans (hp _ (.head _))
 have G:=G h D
 have G2:R (.ok (.ret v)) (I.s N h):=G
 have e:∃kk:Int,kk=Int.ofNat k:=⟨_,rfl⟩
 obtain⟨kk,hk⟩:=e
 rw[←hk]
 exact item_wp hk h2 hl h3 G2
noncomputable def p_item (I:PI):(c:Code)→Option (PO I c):=oRI fun l k t=>onL I.T I.x fun b L e hl=>onV I.vs I.z fun v=>some ⟨_,ok_item (v:=v) hl⟩
theorem ok_len {l b L ep k} (hl:I.T.get I.x=some (b,lsO L ep)):PS I (bc "list.__len__" [.ref l]) ⟨.ok (.ret (.int (.ofNat k) (I.V.t₀+I.i))),I.T,I.n,I.m,I.i+1,[(l,b)],[L.length=k]⟩:=by
 intro N hob hp A R h hA D G
 cases hob (l,b) (.head _)
 have hl:=(D.own _ _ _ hl).2
 cases (hp _ (.head _):L.length=k)
 exact aI F.slot_list_len ⟨_,hl,rfl⟩ F.entry_list_len (F.args_list_len_1 _) ((PySem.AutoListH.list___len___list_0 l ⟨L⟩ ep).inModel _ _) ⟨hl,G h D⟩
noncomputable def p_len (I:PI):(c:Code)→Option (PO I c):=oR fun l=>onL I.T I.x fun b L e hl=>onV I.vs I.z fun v=>onI (c:=fun _=>PO I (bc "list.__len__" [.ref l])) v fun k _=>some ⟨_,ok_len (k:=k) hl⟩
@[reducible] noncomputable def mvF (k:Nat):Obj→Obj:=Obj.mapFields (·.setIfInBounds 1 (rawInt ((k:Int)+1)))
@[reducible] noncomputable def fnF:Obj→Obj:=Obj.mapFields (·.setIfInBounds 0 .none)
theorem ok_next {a it l k t b L ep v} (hw:I.V.W≤I.x) (hi:I.T.get I.x=some (it,itO "list_iterator" (.ref l) k t)) (hl:I.T.get I.y=some (b,lsO L ep)):
  PS I (bc "list_iterator.__next__" [.ref a]) ⟨.ok (.ret v),I.T.set I.x (mvF k),I.n,I.m,I.i,[(a,it),(l,b)],[L[k]? = some v]⟩:=by
 intro N hob hp A R h hA D G
 cases hob (a,it) (.head _)
 cases hob (l,b) (.tail _ (.head _))
 have ho:=(D.own _ _ _ hi).2
 have h1:(⟨L⟩:Array Value)[k]? = some v:=List.getElem?_toArray.trans (hp _ (.head _))
 refine bD PySem.slot_listiter_next ⟨_,ho,rfl⟩ PySem.entry_listiter_next (PySem.args_listiter_next _) (wpAny_bind (m:=field (.ref a) 0) (wpAny_field ho rfl (x:= .ref l) rfl ?_))
 refine wpAny_bind (m:=field (.ref a) 1) (wpAny_field ho rfl (x:= .int (.ofNat k) t) rfl ?_)
 refine wpAny_bind (m:=seqItems? (.ref l)) (wpAny_seqItems (D.own _ _ _ hl).2 rfl ?_)
 simp only[Int.ofNat_eq_natCast,Int.toNat_natCast,h1]
 refine (wpAny_bind (m:=setField (.ref a) 1 (rawInt ((k:Int)+1))) (wpAny_setField ho rfl (vs:= #[.ref l, .int (.ofNat k) t]) (Nat.lt_succ_self 1) (wpAny_pure (G _ (D.update hw hi rfl)))))
noncomputable def p_next (I:PI):(c:Code)→Option (PO I c):=oR fun a=>onW I.V.W I.x fun hw=>onIt "list_iterator" I.T I.x fun it v k t hi=>match v,hi with
 | .ref l,hi=>onL I.T I.y fun b L e hl=>onV I.vs I.z fun v=>some ⟨_,ok_next (a:=a) (v:=v) hw hi hl⟩
 | _,_=>none
@[reducible] noncomputable def o6:Obj:=⟨.type "tuple",none, .seq #[] 0, #[]⟩
@[reducible] noncomputable def lw (t:Addr):Obj:=⟨.type "StopIteration",none, .fields (#[.ref t, .none, .none, .none, .bool false, .none]++ownMembersOf (.type "StopIteration") []), #[]⟩
@[reducible] noncomputable def tS1 (I:PI):ST:=(I.T.set I.x fnF).ins I.n (I.V.n₁+I.m) o6
@[reducible] noncomputable def tS2 (I:PI):ST:=(tS1 I).ins (I.n+1) (I.V.n₁+(I.m+1)) (lw (I.V.n₁+I.m))
noncomputable def fP (I:PI) (ob:List (Addr×Addr)) (P:Prop):PR:=⟨.error (.ref (I.V.n₁+(I.m+1))),tS2 I,I.n+1+1,I.m+1+1,I.i,ob,[P]⟩
theorem kO {N:En} {A:Around} {R:Result→Shared→Prop} {Q:PySem.Fin→Shared→Prop} {h:Heap} {a:Addr} {o:Obj} (hA:A.handled=none) (D:Rep I.V N h I.T I.n I.m) (hw:I.V.W≤I.x) (e:I.T.get I.x=some (a,o)) (hf:(fnF o).isFreed=false)
  (q1:((tS1 I).get I.n).isSome=true) (q2:((tS2 I).get (I.n+1)).isSome=true) {ob:List (Addr×Addr)} {P:Prop} (G:∀h',Rep I.V N h' (fP I ob P).T (fP I ob P).n (fP I ob P).m→R (fP I ob P).r ⟨h',N.g,N.d,I.V.t₀+(fP I ob P).i,N.os⟩):
  wpAny (model N.prog N.w) A (newExc (.type "StopIteration") [] >>= raiseNew) Q (pErr R) (I.s N (h.update a fnF)):=by
 have D1:=D.update hw e hf
 have D2:=D1.alloc (o:=o6) rfl q1
 have z:pErr R _ _:=G _ (D2.alloc (o:=lw (I.V.n₁+I.m)) rfl q2)
 rw[←D2.size,←D1.size] at z
 refine wpAny_bind ?_
 simp only[newExc,newTuple]
 refine wpAny_bind (wpAny_newObj_type ?_ (by size_fits))
 refine wpAny_bind (m:=firstArgMember _ _) (wpAny_of_eq (a:=Value.none) (by first | rfl | (simp only[firstArgMember];rfl)) ?_)
 refine wpAny_newObj_type ?_ (by size_fits)
 simp only[raiseNew]
 refine wpAny_bind (wpAny_handled ?_)
 rw[hA]
 exact wpAny_bind (wpAny_pure (wpAny_throw z))
theorem ok_end {a it l k t b L ep} (hw:I.V.W≤I.x) (hi:I.T.get I.x=some (it,itO "list_iterator" (.ref l) k t)) (hl:I.T.get I.y=some (b,lsO L ep)) (q1:((tS1 I).get I.n).isSome=true) (q2:((tS2 I).get (I.n+1)).isSome=true):
  PS I (bc "list_iterator.__next__" [.ref a]) (fP I [(a,it),(l,b)] (L.length≤k)):=by
 intro N hob hp A R h hA D G
 cases hob (a,it) (.head _)
 cases hob (l,b) (.tail _ (.head _))
 have ho:=(D.own _ _ _ hi).2
 have h1:(⟨L⟩:Array Value)[k]? = none:=List.getElem?_toArray.trans (List.getElem?_eq_none (hp _ (.head _):L.length≤k))
 refine bD PySem.slot_listiter_next ⟨_,ho,rfl⟩ PySem.entry_listiter_next (PySem.args_listiter_next _) (wpAny_bind (m:=field (.ref a) 0) (wpAny_field ho rfl (x:= .ref l) rfl ?_))
 refine wpAny_bind (m:=field (.ref a) 1) (wpAny_field ho rfl (x:= .int (.ofNat k) t) rfl ?_)
 refine wpAny_bind (m:=seqItems? (.ref l)) (wpAny_seqItems (D.own _ _ _ hl).2 rfl ?_)
 simp only[Int.ofNat_eq_natCast,Int.toNat_natCast,h1]
 exact wpAny_bind (wpAny_rule (wpAny_bind (wpAny_setField ho rfl (vs:= #[.ref l, .int (.ofNat k) t]) (Nat.succ_pos 1) (kO hA D hw hi rfl q1 q2 G))))
noncomputable def p_end (I:PI):(c:Code)→Option (PO I c):=oR fun a=>onW I.V.W I.x fun hw=>onIt "list_iterator" I.T I.x fun it v k t hi=>match v,hi with
 | .ref l,hi=>onL I.T I.y fun b L e hl=>onN (tS1 I) I.n fun q1=>onN (tS2 I) (I.n+1) fun q2=>some ⟨_,ok_end (a:=a) hw hi hl q1 q2⟩
 | _,_=>none
theorem Rep.updateG {V:Vw} {N:En} {h:Heap} {T:ST} {n m:Nat} (D:Rep V N h T n m) {j:Nat} {b:Addr} {o:Obj} {f:Obj→Obj} (g:Obj→Obj) (hw:V.W≤j) (e:T.get j=some (b,o)) (q:f o=g o) (hf:(g o).isFreed=false):Rep V N (h.update b f) (T.set j g) n m:=by
 rw[←ST.set_congr e q]
 exact D.update hw e (by rw[q];exact hf)
@[reducible] noncomputable def oh (v:Value):Obj→Obj
 | ⟨c,d, .seq ⟨L⟩ e,s⟩=>⟨c,d, .seq ⟨L++[v]⟩ (e+1),s⟩
 | o=>o
theorem mj {l v b L ep} (hw:I.V.W≤I.x) (hl:I.T.get I.x=some (b,lsO L ep)):PS I (bc "list.append" [.ref l,v]) ⟨.ok (.ret .none),I.T.set I.x (oh v),I.n,I.m,I.i,[(l,b)],[L.length≤2^24]⟩:=by
 intro N hob hp A R h hA D G
 cases hob (l,b) (.head _)
 have hol:=(D.own _ _ _ hl).2
 exact aI F.slot_list_append ⟨_,hol,rfl⟩ F.entry_list_append (F.args_list_append_2 _ _) ((PySem.list_append l ⟨L⟩ ep v (hp _ (.head _))).inModel _ _) ⟨hol,G _ (D.updateG (f:=Obj.mapSeq fun x=>x.push v) (oh v) hw hl (by simp[Obj.mapSeq,oh]) rfl)⟩
noncomputable def ol (I:PI):(c:Code)→Option (PO I c):=oRV fun l v=>onW I.V.W I.x fun hw=>onL I.T I.x fun b L e hl=>some ⟨_,mj (v:=v) hw hl⟩
noncomputable def Ascii (cs:List Nat):Prop:=∀c∈cs,c<128
@[reducible] noncomputable def sitC (cs:List Nat) (u:Tok):Obj:=itO "str_ascii_iterator" (.str ⟨⟨cs⟩⟩ u) 0 0
theorem oq {cs u} (q:((I.T.ins I.n (I.V.n₁+I.m) (sitC cs u)).get I.n).isSome=true):PS I (bc "str.__iter__" [.str ⟨⟨cs⟩⟩ u]) ⟨.ok (.ret (.ref (I.V.n₁+I.m))),I.T.ins I.n (I.V.n₁+I.m) (sitC cs u),I.n+1,I.m+1,I.i,[],[Ascii cs]⟩:=by
 intro N hob hp A R h hA D G
 have h1:Ascii cs:=hp _ (.head _)
 have ha:(⟨⟨cs⟩⟩:Str).cps.all (· < 128)=true:=by simpa [Ascii] using h1
 have z:=G _ (D.alloc rfl q)
 rw[←D.size] at z
 refine bD F.slot_str_iter (typeIs_str _ _ _) F.entry_str_iter (F.args_str_iter_1 _) ?_
 show wpAny _ _ (do ret (←newFields (if (true && (⟨⟨cs⟩⟩:Str).cps.all (· < 128))=true then "str_ascii_iterator" else "str_iterator") [.str ⟨⟨cs⟩⟩ u,rawInt 0])) _ _ _
 rw[ha]
 exact wpAny_bind (wpAny_newObj_type (wpAny_pure z))
noncomputable def p_siter (I:PI):(c:Code)→Option (PO I c):=onB _ I fun pos=>on1 (d:=fun pos=>PO I (bc "str.__iter__" pos)) pos fun v=>onS (c:=fun v=>PO I (bc "str.__iter__" [v])) v fun cs u=>onN (I.T.ins I.n (I.V.n₁+I.m) (sitC cs u)) I.n fun q=>some ⟨_,oq q⟩
theorem op {a it cs u k t c} (hw:I.V.W≤I.x) (hi:I.T.get I.x=some (it,itO "str_ascii_iterator" (.str ⟨⟨cs⟩⟩ u) k t)):
  PS I (bc "str_ascii_iterator.__next__" [.ref a]) ⟨.ok (.ret (.str ⟨⟨[c]⟩⟩ (I.V.t₀+I.i))),I.T.set I.x (mvF k),I.n,I.m,I.i+1,[(a,it)],[cs[k]? = some c]⟩:=by
 intro N hob hp A R h hA D G
 cases hob (a,it) (.head _)
 have ho:=(D.own _ _ _ hi).2
 have h1:(⟨⟨cs⟩⟩:Str).cps[k]? = some c:=List.getElem?_toArray.trans (hp _ (.head _))
 refine bD F.slot_str_ascii_iterator_next ⟨_,ho,rfl⟩ F.entry_str_ascii_iterator_next (F.args_str_ascii_iterator_next_1 _) (wpAny_bind (m:=field (.ref a) 0) (wpAny_field ho rfl (x:= .str ⟨⟨cs⟩⟩ u) rfl ?_))
 refine wpAny_bind (m:=field (.ref a) 1) (wpAny_field ho rfl (x:= .int (.ofNat k) t) rfl ?_)
 simp only[Int.ofNat_eq_natCast,Int.toNat_natCast,h1]
 exact wpAny_bind (wpAny_setField ho rfl (vs:= #[.str ⟨⟨cs⟩⟩ u, .int (.ofNat k) t]) (Nat.lt_succ_self 1) (wpAny_bind (wpAny_mkStr (wpAny_pure (G _ (D.update hw hi rfl))) (by show 1≤sizeLine;decide))))
noncomputable def p_snext (I:PI):(c:Code)→Option (PO I c):=oR fun a=>onW I.V.W I.x fun hw=>onIt "str_ascii_iterator" I.T I.x fun it v k t hi=>match v,hi with
 | .str ⟨⟨cs⟩⟩ u,hi=>onV I.vs I.z fun v=>onI (c:=fun _=>PO I (bc "str_ascii_iterator.__next__" [.ref a])) v fun c _=>some ⟨_,op (a:=a) (c:=c) hw hi⟩
 | _,_=>none
theorem ok_send {a it cs u k t} (hw:I.V.W≤I.x) (hi:I.T.get I.x=some (it,itO "str_ascii_iterator" (.str ⟨⟨cs⟩⟩ u) k t)) (q1:((tS1 I).get I.n).isSome=true) (q2:((tS2 I).get (I.n+1)).isSome=true):
  PS I (bc "str_ascii_iterator.__next__" [.ref a]) (fP I [(a,it)] (cs.length≤k)):=by
 intro N hob hp A R h hA D G
 cases hob (a,it) (.head _)
 have ho:=(D.own _ _ _ hi).2
 have h1:(⟨⟨cs⟩⟩:Str).cps[k]? = none:=List.getElem?_toArray.trans (List.getElem?_eq_none (hp _ (.head _):cs.length≤k))
 refine bD F.slot_str_ascii_iterator_next ⟨_,ho,rfl⟩ F.entry_str_ascii_iterator_next (F.args_str_ascii_iterator_next_1 _) (wpAny_bind (m:=field (.ref a) 0) (wpAny_field ho rfl (x:= .str ⟨⟨cs⟩⟩ u) rfl ?_))
 refine wpAny_bind (m:=field (.ref a) 1) (wpAny_field ho rfl (x:= .int (.ofNat k) t) rfl ?_)
 simp only[Int.ofNat_eq_natCast,Int.toNat_natCast,h1]
 exact wpAny_bind (wpAny_rule (wpAny_bind (wpAny_setField ho rfl (vs:= #[.str ⟨⟨cs⟩⟩ u, .int (.ofNat k) t]) (Nat.succ_pos 1) (wpAny_bind (wpAny_letGo (kO hA D hw hi rfl q1 q2 G))))))
noncomputable def p_send (I:PI):(c:Code)→Option (PO I c):=oR fun a=>onW I.V.W I.x fun hw=>onIt "str_ascii_iterator" I.T I.x fun it v k t hi=>match v,hi with
 | .str ⟨⟨cs⟩⟩ u,hi=>onN (tS1 I) I.n fun q1=>onN (tS2 I) (I.n+1) fun q2=>some ⟨_,ok_send (a:=a) hw hi q1 q2⟩
 | _,_=>none
open Builtin.Str in
noncomputable def lc (x y z r:List Nat):Bool:=
 !((occurrences ⟨⟨x⟩⟩ ⟨⟨y⟩⟩ 0 (⟨⟨x⟩⟩:Str).length ((⟨⟨x⟩⟩:Str).length+1)).isEmpty || ((⟨⟨y⟩⟩:Str).length == 0 && (⟨⟨z⟩⟩:Str).length == 0)) &&
 !((⟨⟨y⟩⟩:Str) == ⟨⟨z⟩⟩) && !tooLong ((⟨⟨x⟩⟩:Str).length+(occurrences ⟨⟨x⟩⟩ ⟨⟨y⟩⟩ 0 (⟨⟨x⟩⟩:Str).length ((⟨⟨x⟩⟩:Str).length+1)).length*(⟨⟨z⟩⟩:Str).length) &&
 (glued ⟨⟨z⟩⟩ (partsBetween ⟨⟨x⟩⟩ (occurrences ⟨⟨x⟩⟩ ⟨⟨y⟩⟩ 0 (⟨⟨x⟩⟩:Str).length ((⟨⟨x⟩⟩:Str).length+1)) (⟨⟨y⟩⟩:Str).length) == ⟨⟨r⟩⟩) && Nat.ble r.length 100
@[reducible] noncomputable def pStr (I:PI) (r:List Nat) (pr:List Prop):PR:=⟨.ok (.ret (.str ⟨⟨r⟩⟩ (I.V.t₀+I.i))),I.T,I.n,I.m,I.i+1,[],pr⟩
theorem ok_repl {a t b u c v r}:PS I (bc "str.replace" [.str ⟨⟨a⟩⟩ t, .str ⟨⟨b⟩⟩ u, .str ⟨⟨c⟩⟩ v]) (pStr I r [lc a b c r=true,u≠0∧v≠0∧u≠v]):=by
 intro N hob hp A R h hA D G
 have h2:u≠0∧v≠0∧u≠v:=hp _ (.tail _ (.head _))
 obtain⟨h1,e5⟩:=Bool.and_eq_true_iff.mp (hp _ (.head _):lc a b c r=true)
 obtain⟨h1,e4⟩:=Bool.and_eq_true_iff.mp h1
 obtain⟨h1,e3⟩:=Bool.and_eq_true_iff.mp h1
 obtain⟨e1,e2⟩:=Bool.and_eq_true_iff.mp h1
 rw[Bool.not_eq_true'] at e1 e2 e3
 refine aG F.slot_str_replace (typeIs_str _ _ _) F.entry_str_replace (F.args_str_replace_3 _ _ _) (gives_str_replace ⟨⟨a⟩⟩ ⟨⟨b⟩⟩ ⟨⟨c⟩⟩ t u v (fun _=>⟨by simp[h2.1,h2.2.1],by simp[h2.2.2],e2,e3⟩)) ?_
 rw[if_neg (by rw[e1];exact Bool.false_ne_true),eq_of_beq e4]
 exact⟨Nat.le_trans (Nat.le_of_ble_eq_true e5) (Nat.le_of_ble_eq_true rfl),G h D⟩
noncomputable def p_repl (I:PI):(c:Code)→Option (PO I c):=onB _ I fun pos=>on3 (d:=fun pos=>PO I (bc "str.replace" pos)) pos fun x y z=>onS (c:=fun x=>PO I (bc "str.replace" [x,y,z])) x fun a t=>onS (c:=fun y=>PO I (bc "str.replace" [.str ⟨⟨a⟩⟩ t,y,z])) y fun b u=>onS (c:=fun z=>PO I (bc "str.replace" [.str ⟨⟨a⟩⟩ t, .str ⟨⟨b⟩⟩ u,z])) z fun c v=>
 onV I.vs I.z fun r=>onS (c:=fun _=>PO I (bc "str.replace" [.str ⟨⟨a⟩⟩ t, .str ⟨⟨b⟩⟩ u, .str ⟨⟨c⟩⟩ v])) r fun r _=>some ⟨_,ok_repl (r:=r)⟩
theorem ot {a t k u c}:PS I (bc "str.__getitem__" [.str ⟨⟨a⟩⟩ t, .int (.ofNat k) u]) (pStr I [c] [a[k]? = some c,k<2^63]):=by
 intro N hob hp A R h hA D G
 have h1:a[k]? = some c:=hp _ (.head _)
 have h2:k<2^63:=hp _ (.tail _ (.head _))
 have hr:(decide ((Int.ofNat k) < -(2^63:Int)) || decide ((Int.ofNat k)≥2^63))=false:=by
  rw[Bool.or_eq_false_iff]
  simp only[Int.ofNat_eq_natCast]
  exact⟨decide_eq_false (by omega),decide_eq_false (by omega)⟩
 have hi:(seqIndex? (Int.ofNat k) (⟨⟨a⟩⟩:Str).length).bind ((⟨⟨a⟩⟩:Str).cps[·]?)=some c:=by
  have:seqIndex? (Int.ofNat k) (⟨⟨a⟩⟩:Str).length=some k:=by
   have h0:¬((k:Int)<0):=Int.not_lt.mpr (Int.natCast_nonneg k)
   have h3:(0:Int)≤(k:Int)∧(k:Int)<(((⟨⟨a⟩⟩:Str).length:Nat):Int):=⟨Int.natCast_nonneg k,Int.ofNat_lt.mpr (List.getElem?_eq_some_iff.mp h1).1⟩
   unfold seqIndex?
   simp only[Int.ofNat_eq_natCast,h0,if_false]
   rw[if_pos (by simpa using h3)]
   rfl
  rw[this]
  exact List.getElem?_toArray.trans h1
 exact aG F.slot_str_getitem (typeIs_str _ _ _) F.entry_str_getitem (F.args_str_getitem_2 _ _) (gives_str_getitem ⟨⟨a⟩⟩ (Int.ofNat k) t u c hr hi) ⟨(by show 1≤sizeLine;decide),G h D⟩
noncomputable def p_sitem (I:PI):(c:Code)→Option (PO I c):=oSV fun a t v=>onI (c:=fun v=>PO I (bc "str.__getitem__" [.str ⟨⟨a⟩⟩ t,v])) v fun k u=>onV I.vs I.z fun c=>onI (c:=fun _=>PO I (bc "str.__getitem__" [.str ⟨⟨a⟩⟩ t, .int (.ofNat k) u])) c fun c _=>some ⟨_,ot (c:=c)⟩
noncomputable def db (L:List Value) (a:Nat):Prop:=∃xs:List Nat,L.length=xs.length∧(∀(i x:Nat),xs[i]? = some x→∃t:Tok,L[i]? = some (Value.int (Int.ofNat x) t))∧a∈xs
noncomputable def bx (L:List Value) (a:Nat):Prop:=∃xs:List Nat,L.length=xs.length∧(∀(i x:Nat),xs[i]? = some x→∃t:Tok,L[i]? = some (Value.int (Int.ofNat x) t))∧a∉xs
theorem any_ints {a:Nat}:∀{L:List Value} {xs:List Nat},L.length=xs.length→(∀(i x:Nat),xs[i]? = some x→∃t:Tok,L[i]? = some (Value.int (Int.ofNat x) t))→
  (∀v∈L,∃x t,v = .int (Int.ofNat x) t)∧L.any (fun v=>match v with | .int j _=>j == Int.ofNat a | _=>false)=decide (a∈xs)
 | [],[],_,_=>⟨fun _ h=>(nomatch h),rfl⟩
 | [],_ :: _,h,_=>nomatch h
 | _ :: _,[],h,_=>nomatch h
 | v :: L,x :: xs,h,H=>by
  obtain⟨t,e⟩:=H 0 x rfl
  cases e
  have ih:=any_ints (a:=a) (L:=L) (xs:=xs) (Nat.succ.inj h) fun i y q=>H (i+1) y q
  refine⟨fun v hv=>?_,?_⟩
  ·cases hv with
   | head=>exact⟨x,t,rfl⟩
   | tail _ hv=>exact ih.1 v hv
  ·rw[List.any_cons,ih.2,Bool.eq_iff_iff,Bool.or_eq_true,decide_eq_true_iff,decide_eq_true_iff,List.mem_cons]
   exact or_congr ((lk x a).trans eq_comm) Iff.rfl
theorem lq {prog:Program} {w:World} {A:Around} {R:Result→Shared→Prop} {s:Shared} {l:Addr} {L:List Value} {ep a:Nat} {u:Tok} {xs:List Nat} (hl:s.heap.get? l=some ⟨.type "list",none, .seq ⟨L⟩ ep, #[]⟩)
  (h1:L.length=xs.length) (h2:∀(i x:Nat),xs[i]? = some x→∃t:Tok,L[i]? = some (Value.int (Int.ofNat x) t)) (H:R (.ok (.ret (.bool (decide (a∈xs))))) s):
  codeAny (model prog w) A (.call (.builtin "list.__contains__") ⟨[.ref l, .int (.ofNat a) u],[]⟩) R s:=by
 obtain⟨e1,e2⟩:=any_ints (a:=a) h1 h2
 refine aI F.slot_list_contains ⟨_,hl,rfl⟩ F.entry_list_contains (F.args_list_contains_2 _ _) ((PySem.MeetsSeq.list_contains l ⟨L⟩ ep (.int (.ofNat a) u) (fun v=>match v with | .int j _=>j == Int.ofNat a | _=>false) ?_).inModel _ _) ⟨hl,?_⟩
 ·intro y hy
  obtain⟨x,t,rfl⟩:=e1 y (by simpa using hy)
  exact PySem.MeetsSeq.EqGives.int _ _ _ _
 ·have:(⟨L⟩:Array Value).any (fun v=>match v with | .int j _=>j == Int.ofNat a | _=>false)=decide (a∈xs):=by rw[←e2];simp
  rw[this];exact H
noncomputable def pIn (I:PI) (L:List Value) (a:Nat) (ob:List (Addr×Addr)):PR:=match I.y with
 | 0=>⟨.ok (.ret (.bool false)),I.T,I.n,I.m,I.i,ob,[bx L a]⟩
 | _+1=>⟨.ok (.ret (.bool true)),I.T,I.n,I.m,I.i,ob,[db L a]⟩
theorem ok_in {l a u b L ep} (hl:I.T.get I.x=some (b,lsO L ep)):PS I (bc "list.__contains__" [.ref l, .int (.ofNat a) u]) (pIn I L a [(l,b)]):=by
 obtain⟨V,vs,x,y,z,T,n,m,i⟩:=I
 intro N hob hp A R h hA D G
 cases y with
 | zero=>
  cases hob (l,b) (.head _)
  obtain⟨xs,h1,h2,h3⟩:=(hp _ (.head _):bx L a)
  exact lq (D.own _ _ _ hl).2 h1 h2 (decide_eq_false h3▸G h D)
 | succ y=>
  cases hob (l,b) (.head _)
  obtain⟨xs,h1,h2,h3⟩:=(hp _ (.head _):db L a)
  exact lq (D.own _ _ _ hl).2 h1 h2 (decide_eq_true h3▸G h D)
noncomputable def p_in (I:PI):(c:Code)→Option (PO I c):=oRI fun l a u=>onL I.T I.x fun b L e hl=>some ⟨_,ok_in (a:=a) hl⟩
theorem gp {prog:Program} {w:World} {A:Around} {R:Result→Shared→Prop} {s:Shared} {id:String} {b:Builtin} {args:List Value} (hk:builtinKind id=none) (hp:plainId id=true)
  (hb:entryFor table id=some b) (ha:argsOk id ⟨args,[]⟩)
  (hc:wpAny (model prog w) A.in1 (b ⟨args,[]⟩) (fun fin s'=>∃v,fin = .done (.ret v)∧R (.ok (.ret v)) s') (fun e s'=>R (.error e) s') s):codeAny (model prog w) A (.call (.builtin id) ⟨args,[]⟩) R s:=by
 refine codeAny_call_builtin hp hb ?_
 have hfin:=wpAny_mono hc (Q':=fun fin s'=>match fin with
   | .done f=>R (.ok f) s'
   | .again c'=>c'.quiet=true∧codeAny (model prog w) A c' R s')
  (fun fin s' h'=>by obtain⟨v,rfl,hv⟩:=h';exact hv) fun _ _ h'=>h'
 simp only[checkBuiltinCall,hk]
 cases hsig:Manifest.signature? id with
 | none=>exact wpAny_pure hfin
 | some sig=>
  simp only[argsOk,hsig] at ha
  have h2:Bind.checkArgs id sig ⟨args,[]⟩=pure ():=ha
  show wpAny _ A.in1 (Bind.checkArgs id sig ⟨args,[]⟩) _ _ s
  rw[h2]
  exact wpAny_pure hfin
theorem oA {prog:Program} {w:World} {A:Around} {R:Result→Shared→Prop} {s:Shared} {T id:String} {v:Value} {k:Nat} (hT:s.TypeIs v T) (slot:Slot T "__len__" id)
  (hl:∀(Q:Value→Shared→Prop) (E:Value→Shared→Prop),Q (.int (k:Int) s.toks) { s with toks:=s.toks+1 }→wpAny (model prog w) A.in1 (call (.builtin id) [v]) Q E s) (hk:k<2^63)
  (H:R (.ok (.ret (.int (k:Int) (s.toks+1)))) { s with toks:=s.toks+1+1 }):codeAny (model prog w) A (.call (.builtin "len") ⟨[v],[]⟩) R s:=by
 refine gp kind_len plain_len entry_len (args_len1 _) ?_
 unfold Builtin.«len»
 refine wpAny_bind (m:=oneArg "len" _) (wpAny_pure ?_)
 refine wpAny_bind (m:=callSpecial? v (PySem.Str.ofString "__len__")) (wpAny_callSpecial?_slot (name:=PySem.Str.ofString "__len__") hT slot (hl _ _ ?_))
 show wpAny _ _ _ _ _ { s with toks:=s.toks+1 }
 refine wpAny_bind (wpAny_holding (wpAny_pure ?_))
 refine wpAny_bind (wpAny_letGo ?_)
 show wpAny _ _ (if (k:Int)<0 then _ else _) _ _ _
 rw[if_neg (by omega)]
 show wpAny _ _ (if (k:Int)≥2^63 then _ else _) _ _ _
 rw[if_neg (by omega)]
 exact wpAny_bind (wpAny_mkInt (wpAny_pure ⟨_,rfl,H⟩))
noncomputable def pLen (I:PI) (k:Nat) (ob:List (Addr×Addr)) (P:Prop):PR:=⟨.ok (.ret (.int (.ofNat k) (I.V.t₀+(I.i+1)))),I.T,I.n,I.m,I.i+1+1,ob,[P,k<2^63]⟩
theorem ij {v:Value} {k:Nat} {ob:List (Addr×Addr)} {P:Prop} (T id:String) (slot:Slot T "__len__" id) (H:∀(N:En) (A:Around) (h:Heap) (Q:Value→Shared→Prop) (E:Value→Shared→Prop),(∀q∈ob,q.1=q.2)→P→Rep I.V N h I.T I.n I.m→
  (I.s N h).TypeIs v T∧(Q (.int (k:Int) (I.V.t₀+I.i)) ⟨h,N.g,N.d,I.V.t₀+I.i+1,N.os⟩→wpAny (model N.prog N.w) A (call (.builtin id) [v]) Q E (I.s N h))):PS I (bc "len" [v]) (pLen I k ob P):=by
 intro N hob hp A R h hA D G
 exact oA (H N A h (fun _ _=>True) (fun _ _=>True) hob (hp _ (.head _)) D).1 slot (fun Q E=>(H N A.in1 h Q E hob (hp _ (.head _)) D).2) (hp _ (.tail _ (.head _))) (G h D)
theorem ok_lenL {l b L ep k} (hl:I.T.get I.x=some (b,lsO L ep)):PS I (bc "len" [.ref l]) (pLen I k [(l,b)] (L.length=k)):=ij _ _ PySem.slot_list_len fun N A h Q E hob hp D=>by
 cases hob (l,b) (.head _)
 subst hp
 have hl:=(D.own _ _ _ hl).2
 exact⟨⟨_,hl,rfl⟩,fun hq=>wpAny_call_entry PySem.slot_list_len ⟨_,hl,rfl⟩ PySem.entry_list_len (wpAny_bind (m:=seqSize l) (wpAny_bind (wpAny_load hl (wpAny_pure (wpAny_bind (wpAny_mkInt (wpAny_pure ⟨_,rfl,hq⟩))))))) (PySem.args_list_len _)⟩
theorem ok_lenS {a u k}:PS I (bc "len" [.str ⟨⟨a⟩⟩ u]) (pLen I k [] (a.length=k)):=ij _ _ F.slot_str_len fun N A h Q E hob hp D=>by
 subst hp
 exact⟨typeIs_str _ _ _,fun hq=>call_gives F.slot_str_len (typeIs_str _ _ _) F.entry_str_len (F.args_str_len_1 _) (gives_str_len ⟨⟨a⟩⟩ u) hq⟩
theorem ok_lenY {b u k}:PS I (bc "len" [.bytes b u]) (pLen I k [] (b.toList.length=k)):=ij _ _ PySem.W.FB.slot_bytes_len fun N A h Q E hob hp D=>by
 subst hp
 exact⟨typeIs_bytes _ _ _,fun hq=>call_gives PySem.W.FB.slot_bytes_len (typeIs_bytes _ _ _) PySem.W.FB.entry_bytes_len (PySem.W.FB.args_bytes_len_1 _) (gives_bytes_len b u) hq⟩
noncomputable def p_lenB (I:PI):(c:Code)→Option (PO I c):=onB _ I fun pos=>on1 (d:=fun pos=>PO I (bc "len" pos)) pos fun v=>onV I.vs I.z fun k=>onI (c:=fun _=>PO I (bc "len" [v])) k fun k _=>match v with
 | .ref l=>onL I.T I.x fun b L e hl=>some ⟨_,ok_lenL (k:=k) hl⟩
 | .str ⟨⟨a⟩⟩ u=>some ⟨_,ok_lenS (k:=k)⟩
 | .bytes b u=>some ⟨_,ok_lenY (k:=k)⟩
 | _=>none
end Mine
end
section
namespace Mine
open PySem PySem.W PySem.W.X
noncomputable def prim (tb:PT) (I:PI) (p:Nat) (c:Code):Option (PO I c):=match tb[p]? with
 | some f=>f I c
 | none=>none
noncomputable def fnd (V:Vw) (T:ST) (a h:Nat) (d:Out) (k0:Obj→Out) (k1:Nat→Addr→Obj→Out):Out:=match h with
 | 0=>match V.kt.get a with
  | some o=>k0 o
  | none=>d
 | j+1=>match T.get j with
  | some (b,o)=>k1 j b o
  | none=>d
theorem fX {P:Out→Prop} {V:Vw} {T:ST} {a:Nat} {d:Out} {k0:Obj→Out} {k1:Nat→Addr→Obj→Out} (hd:P d) (h0:∀o,V.kt.get a=some o→P (k0 o)) (h1:∀j b o,T.get j=some (b,o)→P (k1 j b o)):∀h,P (fnd V T a h d k0 k1)
 | 0=>by
  show P (match V.kt.get a with | some o=>k0 o | none=>d)
  cases e:V.kt.get a with
  | none=>exact hd
  | some o=>exact h0 o e
 | j+1=>by
  show P (match T.get j with | some (b,o)=>k1 j b o | none=>d)
  cases e:T.get j with
  | none=>exact hd
  | some p=>exact h1 j p.1 p.2 e
noncomputable def jD (b:Bool) (d e:Out):Out:=match b with
 | true=>e
 | false=>d
theorem b6 {P:Out→Prop} {d e:Out}:∀{b:Bool},P d→(b=true→P e)→P (jD b d e)
 | true,_,h=>h rfl
 | false,h,_=>h
noncomputable def onPO {I:PI} {c:Code} (x:Option (PO I c)) (d:Out) (k:PO I c→Out):Out:=match x with
 | some a=>k a
 | none=>d
theorem mi {P:Out→Prop} {I:PI} {c:Code} {d:Out} {k:PO I c→Out}:∀{x:Option (PO I c)},P d→(∀a,P (k a))→P (onPO x d k)
 | some a,_,h=>h a
 | none,h,_=>h
noncomputable def run (tb:PT) (V:Vw) (vs:List Value):Nat→List Nat→Ko→Sem Fin→ST→Nat→Nat→Nat→List (Addr×Addr)→List Prop→Out
 | 0,_,κ,t,T,n,m,i,ob,pr=> .mk κ t T n m i ob pr
 | f+1,hs,κ,t,T,n,m,i,ob,pr=>match t with
  | .pure fin=>match fin with
   | .done fl=>match κ with
    | .base=> .mk .base (.pure (.done fl)) T n m i ob pr
    | .code c=> .mk (.code c) (.pure (.done fl)) T n m i ob pr
    | .ret _ _ k κ'=>run tb V vs f hs κ' (k (.ok fl)) T n m i ob pr
   | .again c'=>match κ with
    | .base=> .mk .base (.pure (.again c')) T n m i ob pr
    | .code c=>jD c'.quiet (.mk (.code c) (.pure (.again c')) T n m i ob pr) (run tb V vs f hs (.code c') (den c') T n m i ob pr)
    | .ret c hd k κ'=>jD c'.quiet (.mk (.ret c hd k κ') (.pure (.again c')) T n m i ob pr) (run tb V vs f hs (.ret c' hd k κ') (den c') T n m i ob pr)
  | .raise e=>match κ with
   | .base=> .mk .base (.raise e) T n m i ob pr
   | .code c=> .mk (.code c) (.raise e) T n m i ob pr
   | .ret _ _ k κ'=>run tb V vs f hs κ' (k (.error e)) T n m i ob pr
  | .rule _ k=>run tb V vs f hs κ (k ()) T n m i ob pr
  | .at _ k=>run tb V vs f hs κ (k ()) T n m i ob pr
  | .point _ k=>run tb V vs f hs κ (k ()) T n m i ob pr
  | .ask k=>run tb V vs f hs κ (k ⟨V.prog,V.P⟩) T n m i ob pr
  | .fresh k=>run tb V vs f hs κ (k (V.t₀+i)) T n m (i+1) ob pr
  | .handled own k=>match own with
   | true=> .mk κ (.handled true k) T n m i ob pr
   | false=>run tb V vs f hs κ (k (bn κ)) T n m i ob pr
  | .load a p k=>match hs with
   | []=> .mk κ (.load a p k) T n m i ob pr
   | h :: hs'=>fnd V T a h (.mk κ (.load a p k) T n m i ob pr) (fun o=>run tb V vs f hs' κ (k o) T n m i ob pr) fun _ b o=>run tb V vs f hs' κ (k o) T n m i ((a,b) :: ob) pr
  | .loadIfAlive a k=>match hs with
   | []=> .mk κ (.loadIfAlive a k) T n m i ob pr
   | h :: hs'=>fnd V T a h (.mk κ (.loadIfAlive a k) T n m i ob pr) (fun o=>run tb V vs f hs' κ (k (some o)) T n m i ob pr) fun _ b o=>run tb V vs f hs' κ (k (some o)) T n m i ((a,b) :: ob) pr
  | .update a p g k=>match hs with
   | []=> .mk κ (.update a p g k) T n m i ob pr
   | h :: hs'=>fnd V T a h (.mk κ (.update a p g k) T n m i ob pr) (fun _=> .mk κ (.update a p g k) T n m i ob pr) fun j b o=>jD (Nat.ble V.W j && !(g o).isFreed) (.mk κ (.update a p g k) T n m i ob pr) (run tb V vs f hs' κ (k ()) (T.set j g) n m i ((a,b) :: ob) pr)
  | .alloc o k=>jD (!o.isFreed && ((T.ins n (V.n₁+m) o).get n).isSome) (.mk κ (.alloc o k) T n m i ob pr) (run tb V vs f hs κ (k (V.n₁+m)) (T.ins n (V.n₁+m) o) (n+1) (m+1) i ob pr)
  | .call c' hd g l k=>match hs with
   | []=> .mk κ (.call c' hd g l k) T n m i ob pr
   | 0 :: hs'=>jD (okMark hd) (.mk κ (.call c' hd g l k) T n m i ob pr) (run tb V vs f hs' (.ret c' hd k κ) (den c') T n m i ob pr)
   | (p+1) :: hs'=>jD (okMark hd && (hd.or (bn κ)).isNone) (.mk κ (.call c' hd g l k) T n m i ob pr) (match hs' with
    | x :: y :: z :: hs''=>onPO (prim tb ⟨V,vs,x,y,z,T,n,m,i⟩ p c') (.mk κ (.call c' hd g l k) T n m i ob pr) fun a=>run tb V vs f hs'' κ (k a.o.r) a.o.T a.o.n a.o.m a.o.i (a.o.ob++ob) (a.o.pr++pr)
    | _=> .mk κ (.call c' hd g l k) T n m i ob pr)
  | t=> .mk κ t T n m i ob pr
noncomputable def Snd (N:En) (V:Vw) (ob:List (Addr×Addr)) (pr:List Prop) (G:Prop) (o:Out):Prop:=
 ((∀p∈ob,p∈o.ob)∧(∀p∈pr,p∈o.pr))∧(((∀p∈o.ob,p.1=p.2)∧(∀p∈o.pr,p))→GoalO N V o→G)
section
variable {N:En} {V:Vw} {ob ob':List (Addr×Addr)} {pr pr':List Prop} {G G':Prop} {o:Out}
theorem Snd.triv {κ t T n m i}:Snd N V ob pr (Goal N V κ t T n m i) (.mk κ t T n m i ob pr):=⟨⟨fun _ h=>h,fun _ h=>h⟩,fun _ h=>h⟩
theorem Snd.app (S:Snd N V (ob'++ob) (pr'++pr) G o) (h:(∀p∈ob',p.1=p.2)→(∀p∈pr',p)→G→G'):Snd N V ob pr G' o:=
 ⟨⟨fun p q=>S.1.1 p (List.mem_append_right _ q),fun p q=>S.1.2 p (List.mem_append_right _ q)⟩,fun H g=>h (fun p q=>H.1 p (S.1.1 p (List.mem_append_left _ q))) (fun p q=>H.2 p (S.1.2 p (List.mem_append_left _ q))) (S.2 H g)⟩
theorem Snd.map (S:Snd N V ob pr G o) (h:G→G'):Snd N V ob pr G' o:=S.app (ob':=[]) (pr':=[]) fun _ _=>h
theorem Snd.ob1 {a b:Addr} (S:Snd N V ((a,b) :: ob) pr G o) (h:a=b→G→G'):Snd N V ob pr G' o:=S.app (ob':=[(a,b)]) (pr':=[]) fun e _=>h (e _ (.head _))
theorem eL {A:Around} {c:Code} {R:Result→Shared→Prop} {s:Shared} (H:wpAny (model N.prog N.w) (A.under c) (den c) (lf (model N.prog N.w) A R) (fun e s'=>R (.error e) s') s):codeAny (model N.prog N.w) A c R s:=by
 rw[←den_eq] at H
 exact codeAny_of_tree H
variable {tb:PT} {vs:List Value} (O:Fit N V)
include O
theorem gx:∀f hs κ t T n m i ob pr,Snd N V ob pr (Goal N V κ t T n m i) (run tb V vs f hs κ t T n m i ob pr)
 | 0,_,_,_,_,_,_,_,_,_=> .triv
 | f+1,hs,κ,t,T,n,m,i,ob,pr=>by
  have ih:=gx f
  cases t with
  | pure fin=>
   cases fin with
   | done fl=>
    cases κ with
    | base=>exact .triv
    | code c=>exact .triv
    | ret c hd k κ'=>exact (ih ..).map fun H h D=>wpAny_pure (H h D)
   | again c'=>
    cases κ with
    | base=>exact .triv
    | code c=>
     refine b6 (P:=Snd N V ob pr _) .triv fun q=>(ih ..).map fun H h D=>wpAny_pure ⟨q,eL (H h D)⟩
    | ret c hd k κ'=>refine b6 (P:=Snd N V ob pr _) .triv fun q=>(ih ..).map fun H h D=>wpAny_pure ⟨q,eL (H h D)⟩
  | raise e=>
   cases κ with
   | base=>exact .triv
   | code c=>exact .triv
   | ret c hd k κ'=>exact (ih ..).map fun H h D=>wpAny_throw (H h D)
  | rule tag k=>exact (ih ..).map fun H h D=>x_rule (H h D)
  | «at» q k=>exact (ih ..).map fun H h D=>x_at (H h D)
  | point l k=>exact (ih ..).map fun H h D=>x_point (H h D)
  | ask k=>exact (ih ..).map fun H h D=>x_ask (by have z:=H h D;rw[O.prog,O.P] at z;exact z)
  | fresh k=>exact (ih ..).map fun H h D=>x_fresh (H h D)
  | handled own k=>
   cases own with
   | true=>exact .triv
   | false=>exact (ih ..).map fun H h D=>x_handled (by have z:=H h D;rw[←bj O.hd κ] at z;exact z)
  | load a q k=>
   cases hs with
   | nil=>exact .triv
   | cons h0 hs=>exact fX (P:=Snd N V ob pr _) .triv (fun o e=>(ih ..).map fun H h D=>x_load (D.kt a o e) (H h D)) (fun j b o e=>(ih ..).ob1 fun ab H h D=>x_load (ab▸(D.own j b o e).2) (H h D)) h0
  | loadIfAlive a k=>
   cases hs with
   | nil=>exact .triv
   | cons h0 hs=>
    have go:∀{o:Obj} {h:Heap} {tk:Nat},h.get? a=some o→At N κ (k (some o)) ⟨h,N.g,N.d,tk,N.os⟩→At N κ (.loadIfAlive a k) ⟨h,N.g,N.d,tk,N.os⟩:=fun {o h tk} e H Γ p hΓ=>by
     rw[Sem.wp_loadIfAlive]
     show Sem.wp _ _ (k (h.get? a)) _ _ _ _
     rw[e]
     exact H Γ p hΓ
    exact fX (P:=Snd N V ob pr _) .triv (fun o e=>(ih ..).map fun H h D=>go (D.kt a o e) (H h D)) (fun j b o e=>(ih ..).ob1 fun ab H h D=>go (ab▸(D.own j b o e).2) (H h D)) h0
  | update a q g k=>
   cases hs with
   | nil=>exact .triv
   | cons h0 hs=>
    refine fX (P:=Snd N V ob pr _) .triv (fun _ _=> .triv) (fun j b o e=>b6 (P:=Snd N V ob pr _) .triv fun hb=>(ih ..).ob1 fun ab H h D=>?_) h0
    obtain⟨hw,hf⟩:=Bool.and_eq_true_iff.mp hb
    cases ab
    exact wpAny_bind (m:=updatePart a q g) (f:=k) (wpAny_updatePart (D.own j a o e).2 (H _ (D.update (Nat.le_of_ble_eq_true hw) e ((Bool.not_eq_true' _).mp hf))))
  | alloc o k=>
   refine b6 (P:=Snd N V ob pr _) .triv fun hb=>(ih ..).map fun H h D=>?_
   obtain⟨hf,hg⟩:=Bool.and_eq_true_iff.mp hb
   have z:=H _ (D.alloc ((Bool.not_eq_true' _).mp hf) hg)
   rw[←D.size] at z
   exact wpAny_bind (m:=alloc o) (f:=k) (wpAny_alloc z)
  | call c' hd g l k=>
   cases hs with
   | nil=>exact .triv
   | cons h0 hs=>
    cases h0 with
    | zero=>exact b6 (P:=Snd N V ob pr _) .triv fun q=>(ih ..).map fun H h D=>x_call (eL (H h D)) (fe q)
    | succ p=>
     refine b6 (P:=Snd N V ob pr _) .triv fun hb=>?_
     obtain⟨q,hn⟩:=Bool.and_eq_true_iff.mp hb
     match hs with
     | []=>exact .triv
     | [_]=>exact .triv
     | [_,_]=>exact .triv
     | x :: y :: z :: hs=>exact mi (P:=Snd N V ob pr _) .triv fun a=>(ih ..).app fun ho hp H h D=>x_call (a.ok N ho hp (by
       show hd.or (ar N.A κ).handled=none
       rw[bj O.hd κ]
       exact Option.isNone_iff_eq_none.mp hn) D fun h' D'=>H h' D') (fe q)
  | _=>exact .triv
end
noncomputable abbrev pw:=PySem.Challenge.pw_ph0112_01
noncomputable def dAt (i:Nat):Arguments×List Stmt×Scope:=match pw.main.body[i]? with
 | some (.FunctionDef _ args body _ _ _ scope _ _ _)=>(args,body,scope)
 | _=>(default,[],default)
noncomputable def mAt (i j:Nat):Arguments×List Stmt×Scope:=match pw.main.body[i]? with
 | some (.ClassDef _ _ _ b _ _ _ _ _ _ _)=>match b[j]? with
  | some (.FunctionDef _ args body _ _ _ scope _ _ _)=>(args,body,scope)
  | _=>(default,[],default)
 | _=>(default,[],default)
noncomputable def fdOf (x:Arguments×List Stmt×Scope) (name qual:Str) (globals:Addr) (defaults md code:Value):FuncData:=
 { name:=name,qualname:=qual,params:=x.1,body:= .stmts x.2.1,scope:=x.2.2,globals:=globals,closure:=[],defaults:=defaults,kwdefaults:= .none,doc:= .none,pyModule:=md,annotations:=none,code:=code,closureTuple:= .none,builtins:=0 }
noncomputable def kh (P:Params) (s:Str):Int:=if s.cps.isEmpty then 0 else reduceHash (P.strHash s.cps)
noncomputable def ob0 (P:Params):Obj:=⟨.type "dict",none, .dict #[⟨kh P ⟨#[95,95,110,97,109,101,95,95]⟩, .str ⟨#[95,95,110,97,109,101,95,95]⟩ 1, .str ⟨#[98,117,105,108,116,105,110,115]⟩ 160⟩,⟨kh P ⟨#[95,95,100,111,99,95,95]⟩, .str ⟨#[95,95,100,111,99,95,95]⟩ 2, .builtin "builtins.__doc__:str#opaque"⟩,⟨kh P ⟨#[95,95,112,97,99,107,97,103,101,95,95]⟩, .str ⟨#[95,95,112,97,99,107,97,103,101,95,95]⟩ 3, .builtin "builtins.__package__:str#opaque"⟩,⟨kh P ⟨#[95,95,108,111,97,100,101,114,95,95]⟩, .str ⟨#[95,95,108,111,97,100,101,114,95,95]⟩ 4, .builtin "builtins.__loader__:shared#opaque"⟩,⟨kh P ⟨#[95,95,115,112,101,99,95,95]⟩, .str ⟨#[95,95,115,112,101,99,95,95]⟩ 5, .builtin "builtins.__spec__#opaque"⟩,⟨kh P ⟨#[95,95,98,117,105,108,100,95,99,108,97,115,115,95,95]⟩, .str ⟨#[95,95,98,117,105,108,100,95,99,108,97,115,115,95,95]⟩ 6, .builtin "__build_class__"⟩,⟨kh P ⟨#[95,95,105,109,112,111,114,116,95,95]⟩, .str ⟨#[95,95,105,109,112,111,114,116,95,95]⟩ 7, .builtin "__import__"⟩,⟨kh P ⟨#[97,98,115]⟩, .str ⟨#[97,98,115]⟩ 8, .builtin "abs"⟩,⟨kh P ⟨#[97,108,108]⟩, .str ⟨#[97,108,108]⟩ 9, .builtin "all"⟩,⟨kh P ⟨#[97,110,121]⟩, .str ⟨#[97,110,121]⟩ 10, .builtin "any"⟩,⟨kh P ⟨#[97,115,99,105,105]⟩, .str ⟨#[97,115,99,105,105]⟩ 11, .builtin "ascii"⟩,⟨kh P ⟨#[98,105,110]⟩, .str ⟨#[98,105,110]⟩ 12, .builtin "bin"⟩,⟨kh P ⟨#[98,114,101,97,107,112,111,105,110,116]⟩, .str ⟨#[98,114,101,97,107,112,111,105,110,116]⟩ 13, .builtin "breakpoint"⟩,⟨kh P ⟨#[99,97,108,108,97,98,108,101]⟩, .str ⟨#[99,97,108,108,97,98,108,101]⟩ 14, .builtin "callable"⟩,⟨kh P ⟨#[99,104,114]⟩, .str ⟨#[99,104,114]⟩ 15, .builtin "chr"⟩,⟨kh P ⟨#[99,111,109,112,105,108,101]⟩, .str ⟨#[99,111,109,112,105,108,101]⟩ 16, .builtin "compile"⟩,⟨kh P ⟨#[100,101,108,97,116,116,114]⟩, .str ⟨#[100,101,108,97,116,116,114]⟩ 17, .builtin "delattr"⟩,⟨kh P ⟨#[100,105,114]⟩, .str ⟨#[100,105,114]⟩ 18, .builtin "dir"⟩,⟨kh P ⟨#[100,105,118,109,111,100]⟩, .str ⟨#[100,105,118,109,111,100]⟩ 19, .builtin "divmod"⟩,⟨kh P ⟨#[101,118,97,108]⟩, .str ⟨#[101,118,97,108]⟩ 20, .builtin "eval"⟩,⟨kh P ⟨#[101,120,101,99]⟩, .str ⟨#[101,120,101,99]⟩ 21, .builtin "exec"⟩,⟨kh P ⟨#[102,111,114,109,97,116]⟩, .str ⟨#[102,111,114,109,97,116]⟩ 22, .builtin "format"⟩,⟨kh P ⟨#[103,101,116,97,116,116,114]⟩, .str ⟨#[103,101,116,97,116,116,114]⟩ 23, .builtin "getattr"⟩,⟨kh P ⟨#[103,108,111,98,97,108,115]⟩, .str ⟨#[103,108,111,98,97,108,115]⟩ 24, .builtin "globals"⟩,⟨kh P ⟨#[104,97,115,97,116,116,114]⟩, .str ⟨#[104,97,115,97,116,116,114]⟩ 25, .builtin "hasattr"⟩,⟨kh P ⟨#[104,97,115,104]⟩, .str ⟨#[104,97,115,104]⟩ 26, .builtin "hash"⟩,⟨kh P ⟨#[104,101,120]⟩, .str ⟨#[104,101,120]⟩ 27, .builtin "hex"⟩,⟨kh P ⟨#[105,100]⟩, .str ⟨#[105,100]⟩ 28, .builtin "id"⟩,⟨kh P ⟨#[105,110,112,117,116]⟩, .str ⟨#[105,110,112,117,116]⟩ 29, .builtin "input"⟩,⟨kh P ⟨#[105,115,105,110,115,116,97,110,99,101]⟩, .str ⟨#[105,115,105,110,115,116,97,110,99,101]⟩ 30, .builtin "isinstance"⟩,⟨kh P ⟨#[105,115,115,117,98,99,108,97,115,115]⟩, .str ⟨#[105,115,115,117,98,99,108,97,115,115]⟩ 31, .builtin "issubclass"⟩,⟨kh P ⟨#[105,116,101,114]⟩, .str ⟨#[105,116,101,114]⟩ 32, .builtin "iter"⟩,⟨kh P ⟨#[97,105,116,101,114]⟩, .str ⟨#[97,105,116,101,114]⟩ 33, .builtin "aiter"⟩,⟨kh P ⟨#[108,101,110]⟩, .str ⟨#[108,101,110]⟩ 34, .builtin "len"⟩,⟨kh P ⟨#[108,111,99,97,108,115]⟩, .str ⟨#[108,111,99,97,108,115]⟩ 35, .builtin "locals"⟩,⟨kh P ⟨#[109,97,120]⟩, .str ⟨#[109,97,120]⟩ 36, .builtin "max"⟩,⟨kh P ⟨#[109,105,110]⟩, .str ⟨#[109,105,110]⟩ 37, .builtin "min"⟩,⟨kh P ⟨#[110,101,120,116]⟩, .str ⟨#[110,101,120,116]⟩ 38, .builtin "next"⟩,⟨kh P ⟨#[97,110,101,120,116]⟩, .str ⟨#[97,110,101,120,116]⟩ 39, .builtin "anext"⟩,⟨kh P ⟨#[111,99,116]⟩, .str ⟨#[111,99,116]⟩ 40, .builtin "oct"⟩,⟨kh P ⟨#[111,114,100]⟩, .str ⟨#[111,114,100]⟩ 41, .builtin "ord"⟩,⟨kh P ⟨#[112,111,119]⟩, .str ⟨#[112,111,119]⟩ 42, .builtin "pow"⟩,⟨kh P ⟨#[112,114,105,110,116]⟩, .str ⟨#[112,114,105,110,116]⟩ 43, .builtin "print"⟩,⟨kh P ⟨#[114,101,112,114]⟩, .str ⟨#[114,101,112,114]⟩ 44, .builtin "repr"⟩,⟨kh P ⟨#[114,111,117,110,100]⟩, .str ⟨#[114,111,117,110,100]⟩ 45, .builtin "round"⟩,⟨kh P ⟨#[115,101,116,97,116,116,114]⟩, .str ⟨#[115,101,116,97,116,116,114]⟩ 46, .builtin "setattr"⟩,⟨kh P ⟨#[115,111,114,116,101,100]⟩, .str ⟨#[115,111,114,116,101,100]⟩ 47, .builtin "sorted"⟩,⟨kh P ⟨#[115,117,109]⟩, .str ⟨#[115,117,109]⟩ 48, .builtin "sum"⟩,⟨kh P ⟨#[118,97,114,115]⟩, .str ⟨#[118,97,114,115]⟩ 49, .builtin "vars"⟩,⟨kh P ⟨#[78,111,110,101]⟩, .str ⟨#[78,111,110,101]⟩ 50, .none⟩,⟨kh P ⟨#[69,108,108,105,112,115,105,115]⟩, .str ⟨#[69,108,108,105,112,115,105,115]⟩ 51, .ellipsis⟩,⟨kh P ⟨#[78,111,116,73,109,112,108,101,109,101,110,116,101,100]⟩, .str ⟨#[78,111,116,73,109,112,108,101,109,101,110,116,101,100]⟩ 52, .notImplemented⟩,⟨kh P ⟨#[70,97,108,115,101]⟩, .str ⟨#[70,97,108,115,101]⟩ 53, .bool false⟩,⟨kh P ⟨#[84,114,117,101]⟩, .str ⟨#[84,114,117,101]⟩ 54, .bool true⟩,⟨kh P ⟨#[98,111,111,108]⟩, .str ⟨#[98,111,111,108]⟩ 55, .type "bool"⟩,⟨kh P ⟨#[109,101,109,111,114,121,118,105,101,119]⟩, .str ⟨#[109,101,109,111,114,121,118,105,101,119]⟩ 56, .type "memoryview"⟩,⟨kh P ⟨#[98,121,116,101,97,114,114,97,121]⟩, .str ⟨#[98,121,116,101,97,114,114,97,121]⟩ 57, .type "bytearray"⟩,⟨kh P ⟨#[98,121,116,101,115]⟩, .str ⟨#[98,121,116,101,115]⟩ 58, .type "bytes"⟩,⟨kh P ⟨#[99,108,97,115,115,109,101,116,104,111,100]⟩, .str ⟨#[99,108,97,115,115,109,101,116,104,111,100]⟩ 59, .type "classmethod"⟩,⟨kh P ⟨#[99,111,109,112,108,101,120]⟩, .str ⟨#[99,111,109,112,108,101,120]⟩ 60, .type "complex"⟩,⟨kh P ⟨#[100,105,99,116]⟩, .str ⟨#[100,105,99,116]⟩ 61, .type "dict"⟩,⟨kh P ⟨#[101,110,117,109,101,114,97,116,101]⟩, .str ⟨#[101,110,117,109,101,114,97,116,101]⟩ 62, .type "enumerate"⟩,⟨kh P ⟨#[102,105,108,116,101,114]⟩, .str ⟨#[102,105,108,116,101,114]⟩ 63, .type "filter"⟩,⟨kh P ⟨#[102,108,111,97,116]⟩, .str ⟨#[102,108,111,97,116]⟩ 64, .type "float"⟩,⟨kh P ⟨#[102,114,111,122,101,110,115,101,116]⟩, .str ⟨#[102,114,111,122,101,110,115,101,116]⟩ 65, .type "frozenset"⟩,⟨kh P ⟨#[112,114,111,112,101,114,116,121]⟩, .str ⟨#[112,114,111,112,101,114,116,121]⟩ 66, .type "property"⟩,⟨kh P ⟨#[105,110,116]⟩, .str ⟨#[105,110,116]⟩ 67, .type "int"⟩,⟨kh P ⟨#[108,105,115,116]⟩, .str ⟨#[108,105,115,116]⟩ 68, .type "list"⟩,⟨kh P ⟨#[109,97,112]⟩, .str ⟨#[109,97,112]⟩ 69, .type "map"⟩,⟨kh P ⟨#[111,98,106,101,99,116]⟩, .str ⟨#[111,98,106,101,99,116]⟩ 70, .type "object"⟩,⟨kh P ⟨#[114,97,110,103,101]⟩, .str ⟨#[114,97,110,103,101]⟩ 71, .type "range"⟩,⟨kh P ⟨#[114,101,118,101,114,115,101,100]⟩, .str ⟨#[114,101,118,101,114,115,101,100]⟩ 72, .type "reversed"⟩,⟨kh P ⟨#[115,101,116]⟩, .str ⟨#[115,101,116]⟩ 73, .type "set"⟩,⟨kh P ⟨#[115,108,105,99,101]⟩, .str ⟨#[115,108,105,99,101]⟩ 74, .type "slice"⟩,⟨kh P ⟨#[115,116,97,116,105,99,109,101,116,104,111,100]⟩, .str ⟨#[115,116,97,116,105,99,109,101,116,104,111,100]⟩ 75, .type "staticmethod"⟩,⟨kh P ⟨#[115,116,114]⟩, .str ⟨#[115,116,114]⟩ 76, .type "str"⟩,⟨kh P ⟨#[115,117,112,101,114]⟩, .str ⟨#[115,117,112,101,114]⟩ 77, .type "super"⟩,⟨kh P ⟨#[116,117,112,108,101]⟩, .str ⟨#[116,117,112,108,101]⟩ 78, .type "tuple"⟩,⟨kh P ⟨#[116,121,112,101]⟩, .str ⟨#[116,121,112,101]⟩ 79, .type "type"⟩,⟨kh P ⟨#[122,105,112]⟩, .str ⟨#[122,105,112]⟩ 80, .type "zip"⟩,⟨kh P ⟨#[95,95,100,101,98,117,103,95,95]⟩, .str ⟨#[95,95,100,101,98,117,103,95,95]⟩ 81, .bool true⟩,⟨kh P ⟨#[66,97,115,101,69,120,99,101,112,116,105,111,110]⟩, .str ⟨#[66,97,115,101,69,120,99,101,112,116,105,111,110]⟩ 82, .type "BaseException"⟩,⟨kh P ⟨#[66,97,115,101,69,120,99,101,112,116,105,111,110,71,114,111,117,112]⟩, .str ⟨#[66,97,115,101,69,120,99,101,112,116,105,111,110,71,114,111,117,112]⟩ 83, .type "BaseExceptionGroup"⟩,⟨kh P ⟨#[69,120,99,101,112,116,105,111,110]⟩, .str ⟨#[69,120,99,101,112,116,105,111,110]⟩ 84, .type "Exception"⟩,⟨kh P ⟨#[71,101,110,101,114,97,116,111,114,69,120,105,116]⟩, .str ⟨#[71,101,110,101,114,97,116,111,114,69,120,105,116]⟩ 85, .type "GeneratorExit"⟩,⟨kh P ⟨#[75,101,121,98,111,97,114,100,73,110,116,101,114,114,117,112,116]⟩, .str ⟨#[75,101,121,98,111,97,114,100,73,110,116,101,114,114,117,112,116]⟩ 86, .type "KeyboardInterrupt"⟩,⟨kh P ⟨#[83,121,115,116,101,109,69,120,105,116]⟩, .str ⟨#[83,121,115,116,101,109,69,120,105,116]⟩ 87, .type "SystemExit"⟩,⟨kh P ⟨#[65,114,105,116,104,109,101,116,105,99,69,114,114,111,114]⟩, .str ⟨#[65,114,105,116,104,109,101,116,105,99,69,114,114,111,114]⟩ 88, .type "ArithmeticError"⟩,⟨kh P ⟨#[65,115,115,101,114,116,105,111,110,69,114,114,111,114]⟩, .str ⟨#[65,115,115,101,114,116,105,111,110,69,114,114,111,114]⟩ 89, .type "AssertionError"⟩,⟨kh P ⟨#[65,116,116,114,105,98,117,116,101,69,114,114,111,114]⟩, .str ⟨#[65,116,116,114,105,98,117,116,101,69,114,114,111,114]⟩ 90, .type "AttributeError"⟩,⟨kh P ⟨#[66,117,102,102,101,114,69,114,114,111,114]⟩, .str ⟨#[66,117,102,102,101,114,69,114,114,111,114]⟩ 91, .type "BufferError"⟩,⟨kh P ⟨#[69,79,70,69,114,114,111,114]⟩, .str ⟨#[69,79,70,69,114,114,111,114]⟩ 92, .type "EOFError"⟩,⟨kh P ⟨#[73,109,112,111,114,116,69,114,114,111,114]⟩, .str ⟨#[73,109,112,111,114,116,69,114,114,111,114]⟩ 93, .type "ImportError"⟩,⟨kh P ⟨#[76,111,111,107,117,112,69,114,114,111,114]⟩, .str ⟨#[76,111,111,107,117,112,69,114,114,111,114]⟩ 94, .type "LookupError"⟩,⟨kh P ⟨#[77,101,109,111,114,121,69,114,114,111,114]⟩, .str ⟨#[77,101,109,111,114,121,69,114,114,111,114]⟩ 95, .type "MemoryError"⟩,⟨kh P ⟨#[78,97,109,101,69,114,114,111,114]⟩, .str ⟨#[78,97,109,101,69,114,114,111,114]⟩ 96, .type "NameError"⟩,⟨kh P ⟨#[79,83,69,114,114,111,114]⟩, .str ⟨#[79,83,69,114,114,111,114]⟩ 97, .type "OSError"⟩,⟨kh P ⟨#[82,101,102,101,114,101,110,99,101,69,114,114,111,114]⟩, .str ⟨#[82,101,102,101,114,101,110,99,101,69,114,114,111,114]⟩ 98, .type "ReferenceError"⟩,⟨kh P ⟨#[82,117,110,116,105,109,101,69,114,114,111,114]⟩, .str ⟨#[82,117,110,116,105,109,101,69,114,114,111,114]⟩ 99, .type "RuntimeError"⟩,⟨kh P ⟨#[83,116,111,112,65,115,121,110,99,73,116,101,114,97,116,105,111,110]⟩, .str ⟨#[83,116,111,112,65,115,121,110,99,73,116,101,114,97,116,105,111,110]⟩ 100, .type "StopAsyncIteration"⟩,⟨kh P ⟨#[83,116,111,112,73,116,101,114,97,116,105,111,110]⟩, .str ⟨#[83,116,111,112,73,116,101,114,97,116,105,111,110]⟩ 101, .type "StopIteration"⟩,⟨kh P ⟨#[83,121,110,116,97,120,69,114,114,111,114]⟩, .str ⟨#[83,121,110,116,97,120,69,114,114,111,114]⟩ 102, .type "SyntaxError"⟩,⟨kh P ⟨#[83,121,115,116,101,109,69,114,114,111,114]⟩, .str ⟨#[83,121,115,116,101,109,69,114,114,111,114]⟩ 103, .type "SystemError"⟩,⟨kh P ⟨#[84,121,112,101,69,114,114,111,114]⟩, .str ⟨#[84,121,112,101,69,114,114,111,114]⟩ 104, .type "TypeError"⟩,⟨kh P ⟨#[86,97,108,117,101,69,114,114,111,114]⟩, .str ⟨#[86,97,108,117,101,69,114,114,111,114]⟩ 105, .type "ValueError"⟩,⟨kh P ⟨#[87,97,114,110,105,110,103]⟩, .str ⟨#[87,97,114,110,105,110,103]⟩ 106, .type "Warning"⟩,⟨kh P ⟨#[70,108,111,97,116,105,110,103,80,111,105,110,116,69,114,114,111,114]⟩, .str ⟨#[70,108,111,97,116,105,110,103,80,111,105,110,116,69,114,114,111,114]⟩ 107, .type "FloatingPointError"⟩,⟨kh P ⟨#[79,118,101,114,102,108,111,119,69,114,114,111,114]⟩, .str ⟨#[79,118,101,114,102,108,111,119,69,114,114,111,114]⟩ 108, .type "OverflowError"⟩,⟨kh P ⟨#[90,101,114,111,68,105,118,105,115,105,111,110,69,114,114,111,114]⟩, .str ⟨#[90,101,114,111,68,105,118,105,115,105,111,110,69,114,114,111,114]⟩ 109, .type "ZeroDivisionError"⟩,⟨kh P ⟨#[66,121,116,101,115,87,97,114,110,105,110,103]⟩, .str ⟨#[66,121,116,101,115,87,97,114,110,105,110,103]⟩ 110, .type "BytesWarning"⟩,⟨kh P ⟨#[68,101,112,114,101,99,97,116,105,111,110,87,97,114,110,105,110,103]⟩, .str ⟨#[68,101,112,114,101,99,97,116,105,111,110,87,97,114,110,105,110,103]⟩ 111, .type "DeprecationWarning"⟩,⟨kh P ⟨#[69,110,99,111,100,105,110,103,87,97,114,110,105,110,103]⟩, .str ⟨#[69,110,99,111,100,105,110,103,87,97,114,110,105,110,103]⟩ 112, .type "EncodingWarning"⟩,⟨kh P ⟨#[70,117,116,117,114,101,87,97,114,110,105,110,103]⟩, .str ⟨#[70,117,116,117,114,101,87,97,114,110,105,110,103]⟩ 113, .type "FutureWarning"⟩,⟨kh P ⟨#[73,109,112,111,114,116,87,97,114,110,105,110,103]⟩, .str ⟨#[73,109,112,111,114,116,87,97,114,110,105,110,103]⟩ 114, .type "ImportWarning"⟩,⟨kh P ⟨#[80,101,110,100,105,110,103,68,101,112,114,101,99,97,116,105,111,110,87,97,114,110,105,110,103]⟩, .str ⟨#[80,101,110,100,105,110,103,68,101,112,114,101,99,97,116,105,111,110,87,97,114,110,105,110,103]⟩ 115, .type "PendingDeprecationWarning"⟩,⟨kh P ⟨#[82,101,115,111,117,114,99,101,87,97,114,110,105,110,103]⟩, .str ⟨#[82,101,115,111,117,114,99,101,87,97,114,110,105,110,103]⟩ 116, .type "ResourceWarning"⟩,⟨kh P ⟨#[82,117,110,116,105,109,101,87,97,114,110,105,110,103]⟩, .str ⟨#[82,117,110,116,105,109,101,87,97,114,110,105,110,103]⟩ 117, .type "RuntimeWarning"⟩,⟨kh P ⟨#[83,121,110,116,97,120,87,97,114,110,105,110,103]⟩, .str ⟨#[83,121,110,116,97,120,87,97,114,110,105,110,103]⟩ 118, .type "SyntaxWarning"⟩,⟨kh P ⟨#[85,110,105,99,111,100,101,87,97,114,110,105,110,103]⟩, .str ⟨#[85,110,105,99,111,100,101,87,97,114,110,105,110,103]⟩ 119, .type "UnicodeWarning"⟩,⟨kh P ⟨#[85,115,101,114,87,97,114,110,105,110,103]⟩, .str ⟨#[85,115,101,114,87,97,114,110,105,110,103]⟩ 120, .type "UserWarning"⟩,⟨kh P ⟨#[66,108,111,99,107,105,110,103,73,79,69,114,114,111,114]⟩, .str ⟨#[66,108,111,99,107,105,110,103,73,79,69,114,114,111,114]⟩ 121, .type "BlockingIOError"⟩,⟨kh P ⟨#[67,104,105,108,100,80,114,111,99,101,115,115,69,114,114,111,114]⟩, .str ⟨#[67,104,105,108,100,80,114,111,99,101,115,115,69,114,114,111,114]⟩ 122, .type "ChildProcessError"⟩,⟨kh P ⟨#[67,111,110,110,101,99,116,105,111,110,69,114,114,111,114]⟩, .str ⟨#[67,111,110,110,101,99,116,105,111,110,69,114,114,111,114]⟩ 123, .type "ConnectionError"⟩,⟨kh P ⟨#[70,105,108,101,69,120,105,115,116,115,69,114,114,111,114]⟩, .str ⟨#[70,105,108,101,69,120,105,115,116,115,69,114,114,111,114]⟩ 124, .type "FileExistsError"⟩,⟨kh P ⟨#[70,105,108,101,78,111,116,70,111,117,110,100,69,114,114,111,114]⟩, .str ⟨#[70,105,108,101,78,111,116,70,111,117,110,100,69,114,114,111,114]⟩ 125, .type "FileNotFoundError"⟩,⟨kh P ⟨#[73,110,116,101,114,114,117,112,116,101,100,69,114,114,111,114]⟩, .str ⟨#[73,110,116,101,114,114,117,112,116,101,100,69,114,114,111,114]⟩ 126, .type "InterruptedError"⟩,⟨kh P ⟨#[73,115,65,68,105,114,101,99,116,111,114,121,69,114,114,111,114]⟩, .str ⟨#[73,115,65,68,105,114,101,99,116,111,114,121,69,114,114,111,114]⟩ 127, .type "IsADirectoryError"⟩,⟨kh P ⟨#[78,111,116,65,68,105,114,101,99,116,111,114,121,69,114,114,111,114]⟩, .str ⟨#[78,111,116,65,68,105,114,101,99,116,111,114,121,69,114,114,111,114]⟩ 128, .type "NotADirectoryError"⟩,⟨kh P ⟨#[80,101,114,109,105,115,115,105,111,110,69,114,114,111,114]⟩, .str ⟨#[80,101,114,109,105,115,115,105,111,110,69,114,114,111,114]⟩ 129, .type "PermissionError"⟩,⟨kh P ⟨#[80,114,111,99,101,115,115,76,111,111,107,117,112,69,114,114,111,114]⟩, .str ⟨#[80,114,111,99,101,115,115,76,111,111,107,117,112,69,114,114,111,114]⟩ 130, .type "ProcessLookupError"⟩,⟨kh P ⟨#[84,105,109,101,111,117,116,69,114,114,111,114]⟩, .str ⟨#[84,105,109,101,111,117,116,69,114,114,111,114]⟩ 131, .type "TimeoutError"⟩,⟨kh P ⟨#[73,110,100,101,110,116,97,116,105,111,110,69,114,114,111,114]⟩, .str ⟨#[73,110,100,101,110,116,97,116,105,111,110,69,114,114,111,114]⟩ 132, .type "IndentationError"⟩,⟨kh P ⟨#[95,73,110,99,111,109,112,108,101,116,101,73,110,112,117,116,69,114,114,111,114]⟩, .str ⟨#[95,73,110,99,111,109,112,108,101,116,101,73,110,112,117,116,69,114,114,111,114]⟩ 133, .type "_IncompleteInputError"⟩,⟨kh P ⟨#[73,110,100,101,120,69,114,114,111,114]⟩, .str ⟨#[73,110,100,101,120,69,114,114,111,114]⟩ 134, .type "IndexError"⟩,⟨kh P ⟨#[75,101,121,69,114,114,111,114]⟩, .str ⟨#[75,101,121,69,114,114,111,114]⟩ 135, .type "KeyError"⟩,⟨kh P ⟨#[77,111,100,117,108,101,78,111,116,70,111,117,110,100,69,114,114,111,114]⟩, .str ⟨#[77,111,100,117,108,101,78,111,116,70,111,117,110,100,69,114,114,111,114]⟩ 136, .type "ModuleNotFoundError"⟩,⟨kh P ⟨#[78,111,116,73,109,112,108,101,109,101,110,116,101,100,69,114,114,111,114]⟩, .str ⟨#[78,111,116,73,109,112,108,101,109,101,110,116,101,100,69,114,114,111,114]⟩ 137, .type "NotImplementedError"⟩,⟨kh P ⟨#[80,121,116,104,111,110,70,105,110,97,108,105,122,97,116,105,111,110,69,114,114,111,114]⟩, .str ⟨#[80,121,116,104,111,110,70,105,110,97,108,105,122,97,116,105,111,110,69,114,114,111,114]⟩ 138, .type "PythonFinalizationError"⟩,⟨kh P ⟨#[82,101,99,117,114,115,105,111,110,69,114,114,111,114]⟩, .str ⟨#[82,101,99,117,114,115,105,111,110,69,114,114,111,114]⟩ 139, .type "RecursionError"⟩,⟨kh P ⟨#[85,110,98,111,117,110,100,76,111,99,97,108,69,114,114,111,114]⟩, .str ⟨#[85,110,98,111,117,110,100,76,111,99,97,108,69,114,114,111,114]⟩ 140, .type "UnboundLocalError"⟩,⟨kh P ⟨#[85,110,105,99,111,100,101,69,114,114,111,114]⟩, .str ⟨#[85,110,105,99,111,100,101,69,114,114,111,114]⟩ 141, .type "UnicodeError"⟩,⟨kh P ⟨#[66,114,111,107,101,110,80,105,112,101,69,114,114,111,114]⟩, .str ⟨#[66,114,111,107,101,110,80,105,112,101,69,114,114,111,114]⟩ 142, .type "BrokenPipeError"⟩,⟨kh P ⟨#[67,111,110,110,101,99,116,105,111,110,65,98,111,114,116,101,100,69,114,114,111,114]⟩, .str ⟨#[67,111,110,110,101,99,116,105,111,110,65,98,111,114,116,101,100,69,114,114,111,114]⟩ 143, .type "ConnectionAbortedError"⟩,⟨kh P ⟨#[67,111,110,110,101,99,116,105,111,110,82,101,102,117,115,101,100,69,114,114,111,114]⟩, .str ⟨#[67,111,110,110,101,99,116,105,111,110,82,101,102,117,115,101,100,69,114,114,111,114]⟩ 144, .type "ConnectionRefusedError"⟩,⟨kh P ⟨#[67,111,110,110,101,99,116,105,111,110,82,101,115,101,116,69,114,114,111,114]⟩, .str ⟨#[67,111,110,110,101,99,116,105,111,110,82,101,115,101,116,69,114,114,111,114]⟩ 145, .type "ConnectionResetError"⟩,⟨kh P ⟨#[84,97,98,69,114,114,111,114]⟩, .str ⟨#[84,97,98,69,114,114,111,114]⟩ 146, .type "TabError"⟩,⟨kh P ⟨#[85,110,105,99,111,100,101,68,101,99,111,100,101,69,114,114,111,114]⟩, .str ⟨#[85,110,105,99,111,100,101,68,101,99,111,100,101,69,114,114,111,114]⟩ 147, .type "UnicodeDecodeError"⟩,⟨kh P ⟨#[85,110,105,99,111,100,101,69,110,99,111,100,101,69,114,114,111,114]⟩, .str ⟨#[85,110,105,99,111,100,101,69,110,99,111,100,101,69,114,114,111,114]⟩ 148, .type "UnicodeEncodeError"⟩,⟨kh P ⟨#[85,110,105,99,111,100,101,84,114,97,110,115,108,97,116,101,69,114,114,111,114]⟩, .str ⟨#[85,110,105,99,111,100,101,84,114,97,110,115,108,97,116,101,69,114,114,111,114]⟩ 149, .type "UnicodeTranslateError"⟩,⟨kh P ⟨#[69,120,99,101,112,116,105,111,110,71,114,111,117,112]⟩, .str ⟨#[69,120,99,101,112,116,105,111,110,71,114,111,117,112]⟩ 150, .type "ExceptionGroup"⟩,⟨kh P ⟨#[69,110,118,105,114,111,110,109,101,110,116,69,114,114,111,114]⟩, .str ⟨#[69,110,118,105,114,111,110,109,101,110,116,69,114,114,111,114]⟩ 151, .type "OSError"⟩,⟨kh P ⟨#[73,79,69,114,114,111,114]⟩, .str ⟨#[73,79,69,114,114,111,114]⟩ 152, .type "OSError"⟩,⟨kh P ⟨#[111,112,101,110]⟩, .str ⟨#[111,112,101,110]⟩ 153, .builtin "open"⟩,⟨kh P ⟨#[113,117,105,116]⟩, .str ⟨#[113,117,105,116]⟩ 154, .builtin "builtins.quit#opaque"⟩,⟨kh P ⟨#[101,120,105,116]⟩, .str ⟨#[101,120,105,116]⟩ 155, .builtin "builtins.exit#opaque"⟩,⟨kh P ⟨#[99,111,112,121,114,105,103,104,116]⟩, .str ⟨#[99,111,112,121,114,105,103,104,116]⟩ 156, .builtin "builtins.copyright#opaque"⟩,⟨kh P ⟨#[99,114,101,100,105,116,115]⟩, .str ⟨#[99,114,101,100,105,116,115]⟩ 157, .builtin "builtins.credits#opaque"⟩,⟨kh P ⟨#[108,105,99,101,110,115,101]⟩, .str ⟨#[108,105,99,101,110,115,101]⟩ 158, .builtin "builtins.license#opaque"⟩,⟨kh P ⟨#[104,101,108,112]⟩, .str ⟨#[104,101,108,112]⟩ 159, .builtin "builtins.help#opaque"⟩] 159, #[]⟩
noncomputable def ob1 (P:Params):Obj:=⟨.type "dict",none, .dict #[⟨kh P ⟨#[98,117,105,108,116,105,110,115]⟩, .str ⟨#[98,117,105,108,116,105,110,115]⟩ 162, .ref 4⟩,⟨kh P ⟨#[95,95,109,97,105,110,95,95]⟩, .str ⟨#[95,95,109,97,105,110,95,95]⟩ 163, .ref 5⟩] 2, #[]⟩
noncomputable def ob2 (P:Params):Obj:=⟨.none,none, .dict #[] 0, #[]⟩
noncomputable def ob3 (P:Params):Obj:=⟨.type "dict",none, .dict #[⟨kh P ⟨#[95,95,110,97,109,101,95,95]⟩, .str ⟨#[95,95,110,97,109,101,95,95]⟩ 165, .str ⟨#[108,97,119,95,112,104,48,49,49,50,95,48,49]⟩ 328⟩,⟨kh P ⟨#[95,95,100,111,99,95,95]⟩, .str ⟨#[95,95,100,111,99,95,95]⟩ 166, .none⟩,⟨kh P ⟨#[95,95,112,97,99,107,97,103,101,95,95]⟩, .str ⟨#[95,95,112,97,99,107,97,103,101,95,95]⟩ 167, .none⟩,⟨kh P ⟨#[95,95,108,111,97,100,101,114,95,95]⟩, .str ⟨#[95,95,108,111,97,100,101,114,95,95]⟩ 168, .builtin "__main__.__loader__#opaque"⟩,⟨kh P ⟨#[95,95,115,112,101,99,95,95]⟩, .str ⟨#[95,95,115,112,101,99,95,95]⟩ 169, .none⟩,⟨kh P ⟨#[95,95,97,110,110,111,116,97,116,105,111,110,115,95,95]⟩, .str ⟨#[95,95,97,110,110,111,116,97,116,105,111,110,115,95,95]⟩ 170, .ref 6⟩,⟨kh P ⟨#[95,95,98,117,105,108,116,105,110,115,95,95]⟩, .str ⟨#[95,95,98,117,105,108,116,105,110,115,95,95]⟩ 171, .ref 4⟩,⟨kh P ⟨#[95,95,102,105,108,101,95,95]⟩, .str ⟨#[95,95,102,105,108,101,95,95]⟩ 173, .str ⟨#[47,99,108,97,105,109,47,99,117,116,46,112,121]⟩ 172⟩,⟨kh P ⟨#[95,95,99,97,99,104,101,100,95,95]⟩, .str ⟨#[95,95,99,97,99,104,101,100,95,95]⟩ 174, .none⟩,⟨kh P ⟨#[105,115,101,108,101,109,101,110,116]⟩, .str ⟨#[105,115,101,108,101,109,101,110,116]⟩ 195, .ref 21⟩,⟨kh P ⟨#[83,117,98,69,108,101,109,101,110,116]⟩, .str ⟨#[83,117,98,69,108,101,109,101,110,116]⟩ 206, .ref 30⟩,⟨kh P ⟨#[95,115,101,114,105,97,108,105,122,101,95,116,101,120,116]⟩, .str ⟨#[95,115,101,114,105,97,108,105,122,101,95,116,101,120,116]⟩ 215, .ref 37⟩,⟨kh P ⟨#[95,114,97,105,115,101,95,115,101,114,105,97,108,105,122,97,116,105,111,110,95,101,114,114,111,114]⟩, .str ⟨#[95,114,97,105,115,101,95,115,101,114,105,97,108,105,122,97,116,105,111,110,95,101,114,114,111,114]⟩ 222, .ref 44⟩,⟨kh P ⟨#[95,101,115,99,97,112,101,95,99,100,97,116,97]⟩, .str ⟨#[95,101,115,99,97,112,101,95,99,100,97,116,97]⟩ 229, .ref 51⟩,⟨kh P ⟨#[95,101,115,99,97,112,101,95,97,116,116,114,105,98]⟩, .str ⟨#[95,101,115,99,97,112,101,95,97,116,116,114,105,98]⟩ 236, .ref 58⟩,⟨kh P ⟨#[95,101,115,99,97,112,101,95,97,116,116,114,105,98,95,104,116,109,108]⟩, .str ⟨#[95,101,115,99,97,112,101,95,97,116,116,114,105,98,95,104,116,109,108]⟩ 243, .ref 65⟩,⟨kh P ⟨#[95,101,115,99,97,112,101,95,99,100,97,116,97,95,99,49,52,110]⟩, .str ⟨#[95,101,115,99,97,112,101,95,99,100,97,116,97,95,99,49,52,110]⟩ 250, .ref 72⟩,⟨kh P ⟨#[95,101,115,99,97,112,101,95,97,116,116,114,105,98,95,99,49,52,110]⟩, .str ⟨#[95,101,115,99,97,112,101,95,97,116,116,114,105,98,95,99,49,52,110]⟩ 257, .ref 79⟩,⟨kh P ⟨#[95,103,101,110,95,99,114,99]⟩, .str ⟨#[95,103,101,110,95,99,114,99]⟩ 267, .ref 86⟩,⟨kh P ⟨#[95,84,101,108,108,97,98,108,101]⟩, .str ⟨#[95,84,101,108,108,97,98,108,101]⟩ 327, .ref 131⟩,⟨kh P ⟨#[95,108,97,119,95,104,97,110,100,115]⟩, .str ⟨#[95,108,97,119,95,104,97,110,100,115]⟩ 335, .ref 142⟩,⟨kh P ⟨#[95,108,97,119,95,116,114,101,101]⟩, .str ⟨#[95,108,97,119,95,116,114,101,101]⟩ 341, .ref 147⟩,⟨kh P ⟨#[95,108,97,119,95,101,108,101,109,101,110,116]⟩, .str ⟨#[95,108,97,119,95,101,108,101,109,101,110,116]⟩ 351, .ref 154⟩,⟨kh P ⟨#[95,108,97,119,95,104,117,110,103]⟩, .str ⟨#[95,108,97,119,95,104,117,110,103]⟩ 366, .ref 161⟩,⟨kh P ⟨#[95,108,97,119,95,116,97,112,101]⟩, .str ⟨#[95,108,97,119,95,116,97,112,101]⟩ 377, .ref 168⟩,⟨kh P ⟨#[95,108,97,119,95,108,97,105,100]⟩, .str ⟨#[95,108,97,119,95,108,97,105,100]⟩ 383, .ref 173⟩,⟨kh P ⟨#[95,108,97,119,95,115,117,109]⟩, .str ⟨#[95,108,97,119,95,115,117,109]⟩ 394, .ref 180⟩,⟨kh P ⟨#[95,108,97,119,95,97,108,111,110,103]⟩, .str ⟨#[95,108,97,119,95,97,108,111,110,103]⟩ 404, .ref 187⟩,⟨kh P ⟨#[95,108,97,119,95,99,104,97,110,103,101]⟩, .str ⟨#[95,108,97,119,95,99,104,97,110,103,101]⟩ 410, .ref 192⟩,⟨kh P ⟨#[108,97,119]⟩, .str ⟨#[108,97,119]⟩ 416, .ref 197⟩] 30, #[]⟩
noncomputable def ob4 (P:Params):Obj:=⟨.type "module",(some 0), .plain, #[]⟩
noncomputable def ob5 (P:Params):Obj:=⟨.type "module",(some 3), .plain, #[]⟩
noncomputable def ob20 (P:Params):Obj:=⟨.type "code",none, .fields #[.str ⟨#[105,115,101,108,101,109,101,110,116]⟩ 189, .str ⟨#[105,115,101,108,101,109,101,110,116]⟩ 190, .str ⟨#[47,99,108,97,105,109,47,99,117,116,46,112,121]⟩ 191, .int (2) 0, .int (1) 0, .int (0) 0, .int (0) 0, .int (3) 0, .ref 15, .bool true, .int (181) 0, .ref 16, .none, .ref 17, .ref 18, .ref 19, .int (193) 0, .int (2) 0, .str ⟨#[47,99,108,97,105,109,47,99,117,116,46,112,121]⟩ 194], #[]⟩
noncomputable def ob21 (P:Params):Obj:=⟨.type "function",none, .func (fdOf (dAt 1) ⟨#[105,115,101,108,101,109,101,110,116]⟩ ⟨#[105,115,101,108,101,109,101,110,116]⟩ 3 (.none) (.str ⟨#[99,112,121,51,49,51,46,120,109,108,46,101,116,114,101,101,46,69,108,101,109,101,110,116,84,114,101,101]⟩ 187) (.ref 20)), #[]⟩
noncomputable def ob22 (P:Params):Obj:=⟨.type "dict",none, .dict #[] 0, #[]⟩
noncomputable def ob23 (P:Params):Obj:=⟨.type "tuple",none, .seq #[.ref 22] 0, #[]⟩
noncomputable def ob29 (P:Params):Obj:=⟨.type "code",none, .fields #[.str ⟨#[83,117,98,69,108,101,109,101,110,116]⟩ 196, .str ⟨#[83,117,98,69,108,101,109,101,110,116]⟩ 197, .str ⟨#[47,99,108,97,105,109,47,99,117,116,46,112,121]⟩ 198, .int (4) 0, .int (3) 0, .int (0) 0, .int (0) 0, .int (11) 0, .ref 24, .bool true, .int (181) 0, .ref 25, .none, .ref 26, .ref 27, .ref 28, .int (204) 0, .int (4) 0, .str ⟨#[47,99,108,97,105,109,47,99,117,116,46,112,121]⟩ 205], #[]⟩
noncomputable def ob30 (P:Params):Obj:=⟨.type "function",none, .func (fdOf (dAt 2) ⟨#[83,117,98,69,108,101,109,101,110,116]⟩ ⟨#[83,117,98,69,108,101,109,101,110,116]⟩ 3 (.ref 23) (.str ⟨#[99,112,121,51,49,51,46,120,109,108,46,101,116,114,101,101,46,69,108,101,109,101,110,116,84,114,101,101]⟩ 187) (.ref 29)), #[]⟩
noncomputable def ob36 (P:Params):Obj:=⟨.type "code",none, .fields #[.str ⟨#[95,115,101,114,105,97,108,105,122,101,95,116,101,120,116]⟩ 207, .str ⟨#[95,115,101,114,105,97,108,105,122,101,95,116,101,120,116]⟩ 208, .str ⟨#[47,99,108,97,105,109,47,99,117,116,46,112,121]⟩ 209, .int (9) 0, .int (2) 0, .int (0) 0, .int (0) 0, .int (3) 0, .ref 31, .bool true, .int (181) 0, .ref 32, .none, .ref 33, .ref 34, .ref 35, .int (213) 0, .int (9) 0, .str ⟨#[47,99,108,97,105,109,47,99,117,116,46,112,121]⟩ 214], #[]⟩
noncomputable def ob37 (P:Params):Obj:=⟨.type "function",none, .func (fdOf (dAt 3) ⟨#[95,115,101,114,105,97,108,105,122,101,95,116,101,120,116]⟩ ⟨#[95,115,101,114,105,97,108,105,122,101,95,116,101,120,116]⟩ 3 (.none) (.str ⟨#[99,112,121,51,49,51,46,120,109,108,46,101,116,114,101,101,46,69,108,101,109,101,110,116,84,114,101,101]⟩ 187) (.ref 36)), #[]⟩
noncomputable def ob43 (P:Params):Obj:=⟨.type "code",none, .fields #[.str ⟨#[95,114,97,105,115,101,95,115,101,114,105,97,108,105,122,97,116,105,111,110,95,101,114,114,111,114]⟩ 216, .str ⟨#[95,114,97,105,115,101,95,115,101,114,105,97,108,105,122,97,116,105,111,110,95,101,114,114,111,114]⟩ 217, .str ⟨#[47,99,108,97,105,109,47,99,117,116,46,112,121]⟩ 218, .int (14) 0, .int (1) 0, .int (0) 0, .int (0) 0, .int (3) 0, .ref 38, .bool true, .int (181) 0, .ref 39, .none, .ref 40, .ref 41, .ref 42, .int (220) 0, .int (14) 0, .str ⟨#[47,99,108,97,105,109,47,99,117,116,46,112,121]⟩ 221], #[]⟩
noncomputable def ob44 (P:Params):Obj:=⟨.type "function",none, .func (fdOf (dAt 4) ⟨#[95,114,97,105,115,101,95,115,101,114,105,97,108,105,122,97,116,105,111,110,95,101,114,114,111,114]⟩ ⟨#[95,114,97,105,115,101,95,115,101,114,105,97,108,105,122,97,116,105,111,110,95,101,114,114,111,114]⟩ 3 (.none) (.str ⟨#[99,112,121,51,49,51,46,120,109,108,46,101,116,114,101,101,46,69,108,101,109,101,110,116,84,114,101,101]⟩ 187) (.ref 43)), #[]⟩
noncomputable def ob50 (P:Params):Obj:=⟨.type "code",none, .fields #[.str ⟨#[95,101,115,99,97,112,101,95,99,100,97,116,97]⟩ 223, .str ⟨#[95,101,115,99,97,112,101,95,99,100,97,116,97]⟩ 224, .str ⟨#[47,99,108,97,105,109,47,99,117,116,46,112,121]⟩ 225, .int (16) 0, .int (1) 0, .int (0) 0, .int (0) 0, .int (3) 0, .ref 45, .bool true, .int (181) 0, .ref 46, .none, .ref 47, .ref 48, .ref 49, .int (227) 0, .int (16) 0, .str ⟨#[47,99,108,97,105,109,47,99,117,116,46,112,121]⟩ 228], #[]⟩
noncomputable def ob51 (P:Params):Obj:=⟨.type "function",none, .func (fdOf (dAt 5) ⟨#[95,101,115,99,97,112,101,95,99,100,97,116,97]⟩ ⟨#[95,101,115,99,97,112,101,95,99,100,97,116,97]⟩ 3 (.none) (.str ⟨#[99,112,121,51,49,51,46,120,109,108,46,101,116,114,101,101,46,69,108,101,109,101,110,116,84,114,101,101]⟩ 187) (.ref 50)), #[]⟩
noncomputable def ob57 (P:Params):Obj:=⟨.type "code",none, .fields #[.str ⟨#[95,101,115,99,97,112,101,95,97,116,116,114,105,98]⟩ 230, .str ⟨#[95,101,115,99,97,112,101,95,97,116,116,114,105,98]⟩ 231, .str ⟨#[47,99,108,97,105,109,47,99,117,116,46,112,121]⟩ 232, .int (27) 0, .int (1) 0, .int (0) 0, .int (0) 0, .int (3) 0, .ref 52, .bool true, .int (181) 0, .ref 53, .none, .ref 54, .ref 55, .ref 56, .int (234) 0, .int (27) 0, .str ⟨#[47,99,108,97,105,109,47,99,117,116,46,112,121]⟩ 235], #[]⟩
noncomputable def ob58 (P:Params):Obj:=⟨.type "function",none, .func (fdOf (dAt 6) ⟨#[95,101,115,99,97,112,101,95,97,116,116,114,105,98]⟩ ⟨#[95,101,115,99,97,112,101,95,97,116,116,114,105,98]⟩ 3 (.none) (.str ⟨#[99,112,121,51,49,51,46,120,109,108,46,101,116,114,101,101,46,69,108,101,109,101,110,116,84,114,101,101]⟩ 187) (.ref 57)), #[]⟩
noncomputable def ob64 (P:Params):Obj:=⟨.type "code",none, .fields #[.str ⟨#[95,101,115,99,97,112,101,95,97,116,116,114,105,98,95,104,116,109,108]⟩ 237, .str ⟨#[95,101,115,99,97,112,101,95,97,116,116,114,105,98,95,104,116,109,108]⟩ 238, .str ⟨#[47,99,108,97,105,109,47,99,117,116,46,112,121]⟩ 239, .int (46) 0, .int (1) 0, .int (0) 0, .int (0) 0, .int (3) 0, .ref 59, .bool true, .int (181) 0, .ref 60, .none, .ref 61, .ref 62, .ref 63, .int (241) 0, .int (46) 0, .str ⟨#[47,99,108,97,105,109,47,99,117,116,46,112,121]⟩ 242], #[]⟩
noncomputable def ob65 (P:Params):Obj:=⟨.type "function",none, .func (fdOf (dAt 7) ⟨#[95,101,115,99,97,112,101,95,97,116,116,114,105,98,95,104,116,109,108]⟩ ⟨#[95,101,115,99,97,112,101,95,97,116,116,114,105,98,95,104,116,109,108]⟩ 3 (.none) (.str ⟨#[99,112,121,51,49,51,46,120,109,108,46,101,116,114,101,101,46,69,108,101,109,101,110,116,84,114,101,101]⟩ 187) (.ref 64)), #[]⟩
noncomputable def ob71 (P:Params):Obj:=⟨.type "code",none, .fields #[.str ⟨#[95,101,115,99,97,112,101,95,99,100,97,116,97,95,99,49,52,110]⟩ 244, .str ⟨#[95,101,115,99,97,112,101,95,99,100,97,116,97,95,99,49,52,110]⟩ 245, .str ⟨#[47,99,108,97,105,109,47,99,117,116,46,112,121]⟩ 246, .int (57) 0, .int (1) 0, .int (0) 0, .int (0) 0, .int (3) 0, .ref 66, .bool true, .int (181) 0, .ref 67, .none, .ref 68, .ref 69, .ref 70, .int (248) 0, .int (57) 0, .str ⟨#[47,99,108,97,105,109,47,99,117,116,46,112,121]⟩ 249], #[]⟩
noncomputable def ob72 (P:Params):Obj:=⟨.type "function",none, .func (fdOf (dAt 8) ⟨#[95,101,115,99,97,112,101,95,99,100,97,116,97,95,99,49,52,110]⟩ ⟨#[95,101,115,99,97,112,101,95,99,100,97,116,97,95,99,49,52,110]⟩ 3 (.none) (.str ⟨#[99,112,121,51,49,51,46,120,109,108,46,101,116,114,101,101,46,69,108,101,109,101,110,116,84,114,101,101]⟩ 187) (.ref 71)), #[]⟩
noncomputable def ob78 (P:Params):Obj:=⟨.type "code",none, .fields #[.str ⟨#[95,101,115,99,97,112,101,95,97,116,116,114,105,98,95,99,49,52,110]⟩ 251, .str ⟨#[95,101,115,99,97,112,101,95,97,116,116,114,105,98,95,99,49,52,110]⟩ 252, .str ⟨#[47,99,108,97,105,109,47,99,117,116,46,112,121]⟩ 253, .int (70) 0, .int (1) 0, .int (0) 0, .int (0) 0, .int (3) 0, .ref 73, .bool true, .int (181) 0, .ref 74, .none, .ref 75, .ref 76, .ref 77, .int (255) 0, .int (70) 0, .str ⟨#[47,99,108,97,105,109,47,99,117,116,46,112,121]⟩ 256], #[]⟩
noncomputable def ob79 (P:Params):Obj:=⟨.type "function",none, .func (fdOf (dAt 9) ⟨#[95,101,115,99,97,112,101,95,97,116,116,114,105,98,95,99,49,52,110]⟩ ⟨#[95,101,115,99,97,112,101,95,97,116,116,114,105,98,95,99,49,52,110]⟩ 3 (.none) (.str ⟨#[99,112,121,51,49,51,46,120,109,108,46,101,116,114,101,101,46,69,108,101,109,101,110,116,84,114,101,101]⟩ 187) (.ref 78)), #[]⟩
noncomputable def ob85 (P:Params):Obj:=⟨.type "code",none, .fields #[.str ⟨#[95,103,101,110,95,99,114,99]⟩ 260, .str ⟨#[95,103,101,110,95,99,114,99]⟩ 261, .str ⟨#[47,99,108,97,105,109,47,99,117,116,46,112,121]⟩ 262, .int (88) 0, .int (1) 0, .int (0) 0, .int (0) 0, .int (3) 0, .ref 80, .bool true, .int (181) 0, .ref 81, .none, .ref 82, .ref 83, .ref 84, .int (265) 0, .int (88) 0, .str ⟨#[47,99,108,97,105,109,47,99,117,116,46,112,121]⟩ 266], #[]⟩
noncomputable def ob86 (P:Params):Obj:=⟨.type "function",none, .func (fdOf (dAt 11) ⟨#[95,103,101,110,95,99,114,99]⟩ ⟨#[95,103,101,110,95,99,114,99]⟩ 3 (.none) (.str ⟨#[99,112,121,51,49,51,46,122,105,112,102,105,108,101]⟩ 258) (.ref 85)), #[]⟩
noncomputable def ob99 (P:Params):Obj:=⟨.type "code",none, .fields #[.str ⟨#[95,95,105,110,105,116,95,95]⟩ 280, .str ⟨#[95,84,101,108,108,97,98,108,101,46,95,95,105,110,105,116,95,95]⟩ 281, .str ⟨#[47,99,108,97,105,109,47,99,117,116,46,112,121]⟩ 282, .int (97) 0, .int (2) 0, .int (0) 0, .int (0) 0, .int (3) 0, .ref 94, .bool true, .int (181) 0, .ref 95, .none, .ref 96, .ref 97, .ref 98, .int (285) 0, .int (97) 0, .str ⟨#[47,99,108,97,105,109,47,99,117,116,46,112,121]⟩ 286], #[]⟩
noncomputable def ob100 (P:Params):Obj:=⟨.type "function",none, .func (fdOf (mAt 12 0) ⟨#[95,95,105,110,105,116,95,95]⟩ ⟨#[95,84,101,108,108,97,98,108,101,46,95,95,105,110,105,116,95,95]⟩ 3 (.none) (.str ⟨#[99,112,121,51,49,51,46,122,105,112,102,105,108,101]⟩ 258) (.ref 99)), #[]⟩
noncomputable def ob106 (P:Params):Obj:=⟨.type "code",none, .fields #[.str ⟨#[119,114,105,116,101]⟩ 288, .str ⟨#[95,84,101,108,108,97,98,108,101,46,119,114,105,116,101]⟩ 289, .str ⟨#[47,99,108,97,105,109,47,99,117,116,46,112,121]⟩ 290, .int (101) 0, .int (2) 0, .int (0) 0, .int (0) 0, .int (3) 0, .ref 101, .bool true, .int (181) 0, .ref 102, .none, .ref 103, .ref 104, .ref 105, .int (294) 0, .int (101) 0, .str ⟨#[47,99,108,97,105,109,47,99,117,116,46,112,121]⟩ 295], #[]⟩
noncomputable def ob107 (P:Params):Obj:=⟨.type "function",none, .func (fdOf (mAt 12 1) ⟨#[119,114,105,116,101]⟩ ⟨#[95,84,101,108,108,97,98,108,101,46,119,114,105,116,101]⟩ 3 (.none) (.str ⟨#[99,112,121,51,49,51,46,122,105,112,102,105,108,101]⟩ 258) (.ref 106)), #[]⟩
noncomputable def ob113 (P:Params):Obj:=⟨.type "code",none, .fields #[.str ⟨#[116,101,108,108]⟩ 297, .str ⟨#[95,84,101,108,108,97,98,108,101,46,116,101,108,108]⟩ 298, .str ⟨#[47,99,108,97,105,109,47,99,117,116,46,112,121]⟩ 299, .int (106) 0, .int (1) 0, .int (0) 0, .int (0) 0, .int (3) 0, .ref 108, .bool true, .int (181) 0, .ref 109, .none, .ref 110, .ref 111, .ref 112, .int (301) 0, .int (106) 0, .str ⟨#[47,99,108,97,105,109,47,99,117,116,46,112,121]⟩ 302], #[]⟩
noncomputable def ob114 (P:Params):Obj:=⟨.type "function",none, .func (fdOf (mAt 12 2) ⟨#[116,101,108,108]⟩ ⟨#[95,84,101,108,108,97,98,108,101,46,116,101,108,108]⟩ 3 (.none) (.str ⟨#[99,112,121,51,49,51,46,122,105,112,102,105,108,101]⟩ 258) (.ref 113)), #[]⟩
noncomputable def ob130 (P:Params):Obj:=⟨.type "dict",none, .dict #[⟨kh P ⟨#[95,95,109,111,100,117,108,101,95,95]⟩, .str ⟨#[95,95,109,111,100,117,108,101,95,95]⟩ 275, .str ⟨#[99,112,121,51,49,51,46,122,105,112,102,105,108,101]⟩ 258⟩,⟨kh P ⟨#[95,95,102,105,114,115,116,108,105,110,101,110,111,95,95]⟩, .str ⟨#[95,95,102,105,114,115,116,108,105,110,101,110,111,95,95]⟩ 279, .int (95) 278⟩,⟨kh P ⟨#[95,95,105,110,105,116,95,95]⟩, .str ⟨#[95,95,105,110,105,116,95,95]⟩ 287, .ref 100⟩,⟨kh P ⟨#[119,114,105,116,101]⟩, .str ⟨#[119,114,105,116,101]⟩ 296, .ref 107⟩,⟨kh P ⟨#[116,101,108,108]⟩, .str ⟨#[116,101,108,108]⟩ 303, .ref 114⟩,⟨kh P ⟨#[102,108,117,115,104]⟩, .str ⟨#[102,108,117,115,104]⟩ 310, .ref 121⟩,⟨kh P ⟨#[99,108,111,115,101]⟩, .str ⟨#[99,108,111,115,101]⟩ 317, .ref 128⟩,⟨kh P ⟨#[95,95,115,116,97,116,105,99,95,97,116,116,114,105,98,117,116,101,115,95,95]⟩, .str ⟨#[95,95,115,116,97,116,105,99,95,97,116,116,114,105,98,117,116,101,115,95,95]⟩ 320, .ref 129⟩,⟨kh P ⟨#[95,95,100,105,99,116,95,95]⟩, .str ⟨#[95,95,100,105,99,116,95,95]⟩ 322, .ref 132⟩,⟨kh P ⟨#[95,95,119,101,97,107,114,101,102,95,95]⟩, .str ⟨#[95,95,119,101,97,107,114,101,102,95,95]⟩ 324, .ref 133⟩,⟨kh P ⟨#[95,95,100,111,99,95,95]⟩, .str ⟨#[95,95,100,111,99,95,95]⟩ 325, .none⟩] 4, #[]⟩
noncomputable def ob131 (P:Params):Obj:=⟨.type "type",none, .cls ⟨⟨#[95,84,101,108,108,97,98,108,101]⟩,[.type "object"],[.ref 131, .type "object"],130,⟨#[95,84,101,108,108,97,98,108,101]⟩,true,[],[],false,none,false⟩, #[none,none,some (.str ⟨#[95,84,101,108,108,97,98,108,101]⟩ 268),some (.str ⟨#[95,84,101,108,108,97,98,108,101]⟩ 276),some (.builtin "object.__new__"),some (.bool true)]⟩
noncomputable def ob132 (P:Params):Obj:=⟨.type "getset_descriptor",none, .fields #[.str ⟨#[95,95,100,105,99,116,95,95]⟩ 321, .ref 131, .builtin "function.__dict__", .builtin "function.__dict__#set"], #[]⟩
noncomputable def ob133 (P:Params):Obj:=⟨.type "getset_descriptor",none, .fields #[.str ⟨#[95,95,119,101,97,107,114,101,102,95,95]⟩ 323, .ref 131, .builtin "ExceptionGroup.__weakref__", .none], #[]⟩
noncomputable def ob141 (P:Params):Obj:=⟨.type "code",none, .fields #[.str ⟨#[95,108,97,119,95,104,97,110,100,115]⟩ 330, .str ⟨#[95,108,97,119,95,104,97,110,100,115]⟩ 331, .str ⟨#[47,99,108,97,105,109,47,99,117,116,46,112,121]⟩ 332, .int (115) 0, .int (0) 0, .int (0) 0, .int (0) 0, .int (3) 0, .ref 136, .bool true, .int (181) 0, .ref 137, .none, .ref 138, .ref 139, .ref 140, .int (333) 0, .int (115) 0, .str ⟨#[47,99,108,97,105,109,47,99,117,116,46,112,121]⟩ 334], #[]⟩
noncomputable def ob142 (P:Params):Obj:=⟨.type "function",none, .func (fdOf (dAt 14) ⟨#[95,108,97,119,95,104,97,110,100,115]⟩ ⟨#[95,108,97,119,95,104,97,110,100,115]⟩ 3 (.none) (.str ⟨#[108,97,119,95,112,104,48,49,49,50,95,48,49]⟩ 328) (.ref 141)), #[]⟩
noncomputable def ob146 (P:Params):Obj:=⟨.type "code",none, .fields #[.str ⟨#[95,108,97,119,95,116,114,101,101]⟩ 336, .str ⟨#[95,108,97,119,95,116,114,101,101]⟩ 337, .str ⟨#[47,99,108,97,105,109,47,99,117,116,46,112,121]⟩ 338, .int (117) 0, .int (1) 0, .int (0) 0, .int (0) 0, .int (3) 0, .ref 143, .bool true, .int (181) 0, .ref 144, .none, .none, .none, .ref 145, .int (339) 0, .int (117) 0, .str ⟨#[47,99,108,97,105,109,47,99,117,116,46,112,121]⟩ 340], #[]⟩
noncomputable def ob147 (P:Params):Obj:=⟨.type "function",none, .func (fdOf (dAt 15) ⟨#[95,108,97,119,95,116,114,101,101]⟩ ⟨#[95,108,97,119,95,116,114,101,101]⟩ 3 (.none) (.str ⟨#[108,97,119,95,112,104,48,49,49,50,95,48,49]⟩ 328) (.ref 146)), #[]⟩
noncomputable def ob148 (P:Params):Obj:=⟨.type "tuple",none, .seq #[] 0, #[]⟩
noncomputable def ob150 (P:Params):Obj:=⟨.type "tuple",none, .seq #[.str ⟨#[116,97,103]⟩ 345, .str ⟨#[97,116,116,114,105,98]⟩ 346, .str ⟨#[101,108,101,109,101,110,116]⟩ 347] 0, #[]⟩
noncomputable def ob151 (P:Params):Obj:=⟨.type "tuple",none, .seq #[.str ⟨#[114,111,119]⟩ 348] 0, #[]⟩
noncomputable def ob153 (P:Params):Obj:=⟨.type "code",none, .fields #[.str ⟨#[95,108,97,119,95,101,108,101,109,101,110,116]⟩ 342, .str ⟨#[95,108,97,119,95,101,108,101,109,101,110,116]⟩ 343, .str ⟨#[47,99,108,97,105,109,47,99,117,116,46,112,121]⟩ 344, .int (126) 0, .int (2) 0, .int (0) 0, .int (0) 0, .int (3) 0, .ref 148, .bool true, .int (181) 0, .ref 149, .none, .ref 150, .ref 151, .ref 152, .int (349) 0, .int (126) 0, .str ⟨#[47,99,108,97,105,109,47,99,117,116,46,112,121]⟩ 350], #[]⟩
noncomputable def ob154 (P:Params):Obj:=⟨.type "function",none, .func (fdOf (dAt 16) ⟨#[95,108,97,119,95,101,108,101,109,101,110,116]⟩ ⟨#[95,108,97,119,95,101,108,101,109,101,110,116]⟩ 3 (.none) (.str ⟨#[108,97,119,95,112,104,48,49,49,50,95,48,49]⟩ 328) (.ref 153)), #[]⟩
noncomputable def ob160 (P:Params):Obj:=⟨.type "code",none, .fields #[.str ⟨#[95,108,97,119,95,104,117,110,103]⟩ 352, .str ⟨#[95,108,97,119,95,104,117,110,103]⟩ 353, .str ⟨#[47,99,108,97,105,109,47,99,117,116,46,112,121]⟩ 354, .int (135) 0, .int (5) 0, .int (0) 0, .int (0) 0, .int (3) 0, .ref 155, .bool true, .int (181) 0, .ref 156, .none, .ref 157, .ref 158, .ref 159, .int (364) 0, .int (135) 0, .str ⟨#[47,99,108,97,105,109,47,99,117,116,46,112,121]⟩ 365], #[]⟩
noncomputable def ob161 (P:Params):Obj:=⟨.type "function",none, .func (fdOf (dAt 17) ⟨#[95,108,97,119,95,104,117,110,103]⟩ ⟨#[95,108,97,119,95,104,117,110,103]⟩ 3 (.none) (.str ⟨#[108,97,119,95,112,104,48,49,49,50,95,48,49]⟩ 328) (.ref 160)), #[]⟩
noncomputable def ob162 (P:Params):Obj:=⟨.type "tuple",none, .seq #[] 0, #[]⟩
noncomputable def ob164 (P:Params):Obj:=⟨.type "tuple",none, .seq #[.str ⟨#[119,114,105,116,101,114]⟩ 370, .str ⟨#[111,99,116,101,116,115]⟩ 371, .str ⟨#[116,97,112,101]⟩ 372] 0, #[]⟩
noncomputable def ob165 (P:Params):Obj:=⟨.type "tuple",none, .seq #[.str ⟨#[119,114,105,116,101,114]⟩ 373, .str ⟨#[111,99,116,101,116,115]⟩ 374] 0, #[]⟩
noncomputable def ob167 (P:Params):Obj:=⟨.type "code",none, .fields #[.str ⟨#[95,108,97,119,95,116,97,112,101]⟩ 367, .str ⟨#[95,108,97,119,95,116,97,112,101]⟩ 368, .str ⟨#[47,99,108,97,105,109,47,99,117,116,46,112,121]⟩ 369, .int (142) 0, .int (2) 0, .int (0) 0, .int (0) 0, .int (3) 0, .ref 162, .bool true, .int (181) 0, .ref 163, .none, .ref 164, .ref 165, .ref 166, .int (375) 0, .int (142) 0, .str ⟨#[47,99,108,97,105,109,47,99,117,116,46,112,121]⟩ 376], #[]⟩
noncomputable def ob168 (P:Params):Obj:=⟨.type "function",none, .func (fdOf (dAt 18) ⟨#[95,108,97,119,95,116,97,112,101]⟩ ⟨#[95,108,97,119,95,116,97,112,101]⟩ 3 (.none) (.str ⟨#[108,97,119,95,112,104,48,49,49,50,95,48,49]⟩ 328) (.ref 167)), #[]⟩
noncomputable def ob172 (P:Params):Obj:=⟨.type "code",none, .fields #[.str ⟨#[95,108,97,119,95,108,97,105,100]⟩ 378, .str ⟨#[95,108,97,119,95,108,97,105,100]⟩ 379, .str ⟨#[47,99,108,97,105,109,47,99,117,116,46,112,121]⟩ 380, .int (147) 0, .int (3) 0, .int (0) 0, .int (0) 0, .int (3) 0, .ref 169, .bool true, .int (181) 0, .ref 170, .none, .none, .none, .ref 171, .int (381) 0, .int (147) 0, .str ⟨#[47,99,108,97,105,109,47,99,117,116,46,112,121]⟩ 382], #[]⟩
noncomputable def ob173 (P:Params):Obj:=⟨.type "function",none, .func (fdOf (dAt 19) ⟨#[95,108,97,119,95,108,97,105,100]⟩ ⟨#[95,108,97,119,95,108,97,105,100]⟩ 3 (.none) (.str ⟨#[108,97,119,95,112,104,48,49,49,50,95,48,49]⟩ 328) (.ref 172)), #[]⟩
noncomputable def ob179 (P:Params):Obj:=⟨.type "code",none, .fields #[.str ⟨#[95,108,97,119,95,115,117,109]⟩ 384, .str ⟨#[95,108,97,119,95,115,117,109]⟩ 385, .str ⟨#[47,99,108,97,105,109,47,99,117,116,46,112,121]⟩ 386, .int (149) 0, .int (1) 0, .int (0) 0, .int (0) 0, .int (3) 0, .ref 174, .bool true, .int (181) 0, .ref 175, .none, .ref 176, .ref 177, .ref 178, .int (392) 0, .int (149) 0, .str ⟨#[47,99,108,97,105,109,47,99,117,116,46,112,121]⟩ 393], #[]⟩
noncomputable def ob180 (P:Params):Obj:=⟨.type "function",none, .func (fdOf (dAt 20) ⟨#[95,108,97,119,95,115,117,109]⟩ ⟨#[95,108,97,119,95,115,117,109]⟩ 3 (.none) (.str ⟨#[108,97,119,95,112,104,48,49,49,50,95,48,49]⟩ 328) (.ref 179)), #[]⟩
noncomputable def ob186 (P:Params):Obj:=⟨.type "code",none, .fields #[.str ⟨#[95,108,97,119,95,97,108,111,110,103]⟩ 395, .str ⟨#[95,108,97,119,95,97,108,111,110,103]⟩ 396, .str ⟨#[47,99,108,97,105,109,47,99,117,116,46,112,121]⟩ 397, .int (158) 0, .int (2) 0, .int (0) 0, .int (0) 0, .int (3) 0, .ref 181, .bool true, .int (181) 0, .ref 182, .none, .ref 183, .ref 184, .ref 185, .int (402) 0, .int (158) 0, .str ⟨#[47,99,108,97,105,109,47,99,117,116,46,112,121]⟩ 403], #[]⟩
noncomputable def ob187 (P:Params):Obj:=⟨.type "function",none, .func (fdOf (dAt 21) ⟨#[95,108,97,119,95,97,108,111,110,103]⟩ ⟨#[95,108,97,119,95,97,108,111,110,103]⟩ 3 (.none) (.str ⟨#[108,97,119,95,112,104,48,49,49,50,95,48,49]⟩ 328) (.ref 186)), #[]⟩
noncomputable def ob191 (P:Params):Obj:=⟨.type "code",none, .fields #[.str ⟨#[95,108,97,119,95,99,104,97,110,103,101]⟩ 405, .str ⟨#[95,108,97,119,95,99,104,97,110,103,101]⟩ 406, .str ⟨#[47,99,108,97,105,109,47,99,117,116,46,112,121]⟩ 407, .int (165) 0, .int (4) 0, .int (0) 0, .int (0) 0, .int (3) 0, .ref 188, .bool true, .int (181) 0, .ref 189, .none, .none, .none, .ref 190, .int (408) 0, .int (165) 0, .str ⟨#[47,99,108,97,105,109,47,99,117,116,46,112,121]⟩ 409], #[]⟩
noncomputable def ob192 (P:Params):Obj:=⟨.type "function",none, .func (fdOf (dAt 22) ⟨#[95,108,97,119,95,99,104,97,110,103,101]⟩ ⟨#[95,108,97,119,95,99,104,97,110,103,101]⟩ 3 (.none) (.str ⟨#[108,97,119,95,112,104,48,49,49,50,95,48,49]⟩ 328) (.ref 191)), #[]⟩
noncomputable def ob196 (P:Params):Obj:=⟨.type "code",none, .fields #[.str ⟨#[108,97,119]⟩ 411, .str ⟨#[108,97,119]⟩ 412, .str ⟨#[47,99,108,97,105,109,47,99,117,116,46,112,121]⟩ 413, .int (177) 0, .int (1) 0, .int (0) 0, .int (0) 0, .int (3) 0, .ref 193, .bool true, .int (181) 0, .ref 194, .none, .none, .none, .ref 195, .int (414) 0, .int (177) 0, .str ⟨#[47,99,108,97,105,109,47,99,117,116,46,112,121]⟩ 415], #[]⟩
noncomputable def ob197 (P:Params):Obj:=⟨.type "function",none, .func (fdOf (dAt 23) ⟨#[108,97,119]⟩ ⟨#[108,97,119]⟩ 3 (.none) (.str ⟨#[108,97,119,95,112,104,48,49,49,50,95,48,49]⟩ 328) (.ref 196)), #[]⟩
noncomputable def kt (P:Params):KT:= .node (some (ob0 P)) (.node (some (ob1 P)) (.node (some (ob3 P)) (.node none (.node none (.node none (.node none (.nil) (.node (some (ob191 P)) (.nil) (.nil))) (.nil)) (.node none (.node (some (ob79 P)) (.nil) (.nil)) (.nil))) (.node (some (ob23 P)) (.node none (.node (some (ob71 P)) (.nil) (.nil)) (.node none (.node (some (ob167 P)) (.nil) (.nil)) (.nil))) (.node none (.node none (.node (some (ob151 P)) (.nil) (.nil)) (.nil)) (.nil)))) (.node none (.node none (.node none (.node none (.node (some (ob131 P)) (.nil) (.nil)) (.nil)) (.node (some (ob99 P)) (.nil) (.nil))) (.node (some (ob51 P)) (.node none (.node (some (ob147 P)) (.nil) (.nil)) (.nil)) (.node none (.node (some (ob179 P)) (.nil) (.nil)) (.nil)))) (.node none (.node (some (ob43 P)) (.nil) (.node (some (ob107 P)) (.nil) (.nil))) (.node none (.nil) (.node none (.node (some (ob187 P)) (.nil) (.nil)) (.nil)))))) (.node (some (ob5 P)) (.node none (.node none (.node none (.node (some (ob65 P)) (.nil) (.nil)) (.node none (.node (some (ob161 P)) (.nil) (.nil)) (.nil))) (.node none (.nil) (.node (some (ob113 P)) (.nil) (.nil)))) (.node none (.nil) (.node (some (ob57 P)) (.node none (.node (some (ob153 P)) (.nil) (.nil)) (.nil)) (.nil)))) (.node none (.node (some (ob21 P)) (.node (some (ob37 P)) (.node none (.node (some (ob133 P)) (.nil) (.nil)) (.node (some (ob197 P)) (.nil) (.nil))) (.node none (.node (some (ob165 P)) (.nil) (.nil)) (.nil))) (.node none (.node (some (ob85 P)) (.nil) (.nil)) (.nil))) (.node (some (ob29 P)) (.node none (.node none (.node (some (ob141 P)) (.nil) (.nil)) (.nil)) (.node none (.node (some (ob173 P)) (.nil) (.nil)) (.nil))) (.nil))))) (.node (some (ob2 P)) (.node (some (ob4 P)) (.node none (.node none (.node none (.node (some (ob64 P)) (.nil) (.node (some (ob192 P)) (.nil) (.nil))) (.node none (.node (some (ob160 P)) (.nil) (.nil)) (.nil))) (.nil)) (.node none (.node none (.node (some (ob72 P)) (.nil) (.nil)) (.node none (.node (some (ob168 P)) (.nil) (.nil)) (.nil))) (.nil))) (.node none (.node (some (ob20 P)) (.node (some (ob36 P)) (.node none (.node (some (ob132 P)) (.nil) (.nil)) (.node (some (ob196 P)) (.nil) (.nil))) (.node (some (ob100 P)) (.node (some (ob164 P)) (.nil) (.nil)) (.nil))) (.node none (.node none (.node (some (ob148 P)) (.nil) (.nil)) (.nil)) (.node none (.node (some (ob180 P)) (.nil) (.nil)) (.nil)))) (.node none (.node (some (ob44 P)) (.nil) (.node none (.node (some (ob172 P)) (.nil) (.nil)) (.nil))) (.nil)))) (.node none (.node none (.node none (.node none (.node none (.node (some (ob130 P)) (.nil) (.nil)) (.nil)) (.node none (.node (some (ob162 P)) (.nil) (.nil)) (.nil))) (.node (some (ob50 P)) (.node none (.node (some (ob146 P)) (.nil) (.nil)) (.nil)) (.node (some (ob114 P)) (.nil) (.nil)))) (.node none (.node none (.nil) (.node (some (ob106 P)) (.nil) (.nil))) (.node (some (ob58 P)) (.node none (.node (some (ob154 P)) (.nil) (.nil)) (.nil)) (.node none (.node (some (ob186 P)) (.nil) (.nil)) (.nil))))) (.node none (.node (some (ob22 P)) (.nil) (.node none (.node (some (ob86 P)) (.node (some (ob150 P)) (.nil) (.nil)) (.nil)) (.nil))) (.node (some (ob30 P)) (.node none (.node (some (ob78 P)) (.node (some (ob142 P)) (.nil) (.nil)) (.nil)) (.nil)) (.nil)))))
theorem kl1 {a b c:Nat} (h:a≤b) (k:Nat.ble b c=true):a≤c:=Nat.le_trans h (Nat.le_of_ble_eq_true k)
theorem kl2 {a b c d:Nat} (h:a+b≤c) (k:Nat.ble c d=true):a≤d:=kl1 (Nat.le_trans (Nat.le_add_right a b) h) k
theorem kl3 {a b c d:Nat} (h:a+b≤c) (k:Nat.ble c d=true):b≤d:=kl1 (Nat.le_trans (Nat.le_add_left b a) h) k
theorem kl4 {x a b c:Nat} (k:Nat.ble (a+b) c=true):a+(x+b)≤x+c:=by rw[Nat.add_left_comm];exact Nat.add_le_add_left (Nat.le_of_ble_eq_true k) x
theorem kl5 {n a b:Nat} (k:Nat.beq a b=false):n+a≠n+b:=fun e=>Nat.ne_of_beq_eq_false k (Nat.add_left_cancel e)
theorem kl6 {n a:Nat} (k:Nat.beq 0 a=false):n≠n+a:=kl5 (a:=0) k
theorem kl7 {n a:Nat} (k:Nat.beq 0 a=false):n+a≠n:=(kl6 k).symm
theorem kl8 {k r n:Nat} (h:k+(r+1)≤n):k+1+r≤n:=Nat.le_trans (Nat.le_of_eq (Nat.succ_add_eq_add_succ k r)) h
theorem kl9 {k r n:Nat} (h:k+(r+1)≤n):k<n:=Nat.le_trans (Nat.succ_le_succ (Nat.le_add_right k r)) h
theorem kl10 {a b c d:Nat} (e:a=b) (h:b≤c) (k:Nat.ble c d=true):a≤d:=e▸kl1 h k
theorem kl11 {a n c:Nat} (h:a+n<c):a<c:=Nat.lt_of_le_of_lt (Nat.le_add_right a n) h
theorem kl12 {k r n:Nat} (e:n=k+(r+1)):n=k+1+r:=e.trans (Nat.succ_add_eq_add_succ k r).symm
theorem kl13 {k r n:Nat} (e:k+(r+1)=n):k+1+r=n:=(kl12 e.symm).symm
theorem kl14 {k r n:Nat} (e:k+(r+1)=n):k<n:=kl9 (Nat.le_of_eq e)
theorem kl15 {a b k:Nat} (e:a=b):a≤b+k:=e▸Nat.le_add_right a k
theorem kl16 {a b c d:Nat} (h:a<b) (g:b<c) (k:Nat.ble c (d+1)=true):a<d:=Nat.lt_of_lt_of_le h (Nat.le_of_lt_succ (kl1 g k))
theorem kl17 {x a b c d:Nat} (k:Nat.ble (a+b) (10+c)=true):a+(10*x+b)≤10*(x+1)+c:=by
 rw[Nat.mul_succ,Nat.add_assoc];exact kl4 k
theorem kl18 {a b c:Nat} (e:a=b) (h:c<a):c<b:=e▸h
theorem kl19 {a b c:Nat} (e:a=b) (h:c<b):c<a:=e▸h
theorem kl20 {n k r:Nat} (e:n - k=r+1):k<n:=Nat.lt_of_sub_ne_zero (by rw[e];exact Nat.succ_ne_zero r)
theorem kl21 {a b c:Nat} (e:b=c) (h:a≤b):a≤c:=e▸h
theorem kl22 {a b d e:Nat} (h:b≤d) (g:a+d<e):a+b<e:=Nat.lt_of_le_of_lt (Nat.add_le_add_left h a) g
theorem klm {o:Int} {n k:Nat} (e:(o % (n:Int)).toNat=k) (h:Nat.ble 1 n=true):k<n:=by
 have h:=Nat.le_of_ble_eq_true h
 have:=Int.emod_lt_of_pos o (Int.ofNat_lt.mpr h)
 have:=Int.emod_nonneg o (Int.ne_of_gt (Int.ofNat_lt.mpr h))
 omega
theorem lt2:∀k,k<2→k=0∨k=1:=by decide
theorem lt5:∀k,k<5→k=0∨k=1∨k=2∨k=3∨k=4:=by decide
structure AOk (A:Around) (k:Nat):Prop where
 hd:A.handled=none
 dp:A.depth+k<recursionLimit
 un:A.units+20*k<cLine
noncomputable def dep:Ko→Nat
 | .base=>0
 | .code c=>c.weight
 | .ret c _ _ κ=>dep κ+c.weight
noncomputable def uni:Ko→Nat
 | .base=>0
 | .code c=>c.cUnits
 | .ret c _ _ κ=>uni κ+c.cUnits
theorem dC (A:Around):∀κ,(ar A κ).depth=A.depth+dep κ
 | .base=>rfl
 | .code _=>rfl
 | .ret c hd _ κ=>by
  show (ar A κ).depth+c.weight=A.depth+(dep κ+c.weight)
  rw[dC A κ,Nat.add_assoc]
theorem f8 (A:Around):∀κ,(ar A κ).units=A.units+uni κ
 | .base=>rfl
 | .code _=>rfl
 | .ret c hd _ κ=>by
  show (ar A κ).units+c.cUnits=A.units+(uni κ+c.cUnits)
  rw[f8 A κ,Nat.add_assoc]
theorem AOk.sub {A:Around} {k k':Nat} {o:Bool→Out} {b0:Bool} (h:AOk A k) (hh:∀b,bn (o b).κ=none) (e:∀b,(Nat.ble (dep (o b).κ+k') k && Nat.ble (uni (o b).κ+20*k') (20*k))=true):AOk ((ar A (o b0).κ).mark none) k':=by
 have hh:=hh b0
 have e:=e b0
 generalize (o b0).κ=κ at hh e ⊢
 obtain⟨e1,e2⟩:=Bool.and_eq_true_iff.mp e
 have e1:=Nat.le_of_ble_eq_true e1
 have e2:=Nat.le_of_ble_eq_true e2
 refine⟨?_,?_,?_⟩
 ·show Option.or none (ar A κ).handled=none
  rw[bj h.hd,hh];rfl
 ·show (ar A κ).depth+k'<_
  rw[dC,Nat.add_assoc];exact kl22 e1 h.dp
 ·show (ar A κ).units+20*k'<_
  rw[f8,Nat.add_assoc];exact kl22 e2 h.un
theorem AOk.mono {A:Around} {k k':Nat} (h:AOk A k) (e:k'≤k):AOk A k':=⟨h.hd,kl22 e h.dp,kl22 (Nat.mul_le_mul_left 20 e) h.un⟩
noncomputable def kz (P:Params) (s:Str):Int:=PySem.W.ZFast.zw12210062019545310541 (P.strHash s.cps)
noncomputable def TopIn (P:Params) (h:Heap):Prop:=∀a o,(kt P).get a=some o→h.get? a=some o
structure Keeps (h h':Heap) (ex:List Addr):Prop where
 keep:∀b o,h.get? b=some o→b∉ex→h'.get? b=some o
 size:h.objs.size≤h'.objs.size
theorem Keeps.top {P:Params} {h h':Heap} {ex:List Addr} (K:Keeps h h' ex) (T:TopIn P h) (hx:∀a∈ex,(kt P).get a=none):TopIn P h':=fun a o e=>K.keep a o (T a o e) fun m=>by rw[hx a m] at e;cases e
theorem Keeps.kq {h h':Heap} {ex:List Addr} (K:Keeps h h' ex) {b:Addr} {o:Obj} (e:h.get? b=some o) (m:b∉ex):h'.get? b=some o:=K.keep b o e m
theorem Keeps.kp {h h':Heap} {ex:List Addr} (K:Keeps h h' ex) {b:Addr} {o:Obj} (e:h.get? b=some o) (m:b∉ex:=by kd_mem):h'.get? b=some o:=K.keep b o e m
theorem Keeps.top0 {P:Params} {h h':Heap} (K:Keeps h h' []) (T:TopIn P h):TopIn P h':=K.top T fun _ h=>nomatch h
theorem Keeps.trans {h h' h'':Heap} {ex ex':List Addr} (K:Keeps h h' ex) (K':Keeps h' h'' ex'):Keeps h h'' (ex++ex'):=
 ⟨fun b o e hb=>K'.keep b o (K.keep b o e fun m=>hb (List.mem_append_left _ m)) fun m=>hb (List.mem_append_right _ m),Nat.le_trans K.size K'.size⟩
theorem Keeps.refl (h:Heap):Keeps h h []:=⟨fun _ _ e _=>e,Nat.le_refl _⟩
theorem Keeps.mono {h h':Heap} {ex ex':List Addr} (K:Keeps h h' ex) (s:∀a∈ex,a∈ex'):Keeps h h' ex':=⟨fun b o e hb=>K.keep b o e fun m=>hb (s b m),K.size⟩
noncomputable def evs {α:Type}:List α→List α
 | []=>[]
 | [x]=>[x]
 | x :: _ :: r=>x :: evs r
noncomputable def ods {α:Type}:List α→List α
 | []=>[]
 | [_]=>[]
 | _ :: y :: r=>y :: ods r
theorem lx {α:Type}:∀(l:List α) (k:Nat),(evs l)[k]? = l[2*k]?
 | [],_=>rfl
 | [_],0=>rfl
 | [_],_+1=>rfl
 | _ :: _ :: _,0=>rfl
 | _ :: _ :: r,k+1=>lx r k
theorem lg {α:Type}:∀(l:List α) (k:Nat),(ods l)[k]? = l[2*k+1]?
 | [],_=>rfl
 | [_],_=>rfl
 | _ :: _ :: _,0=>rfl
 | _ :: _ :: r,k+1=>lg r k
noncomputable def ofN:Nat→List (Addr×Obj)→ST
 | 0,_=> .nil
 | _+1,[]=> .nil
 | f+1,p :: r=> .node p.1 p.2 (ofN f (evs r)) (ofN f (ods r))
noncomputable def ofL (l:List (Addr×Obj)):ST:=ofN l.length l
theorem ik:∀(f:Nat) (l:List (Addr×Obj)) (j:Nat) {x:Addr×Obj},(ofN f l).get j=some x→l[j]? = some x
 | 0,_,_,_,e=>nomatch e
 | _+1,[],_,_,e=>nomatch e
 | f+1,p :: r,j,x,e=>c3 j (fun j=>(ST.node p.1 p.2 (ofN f (evs r)) (ofN f (ods r))).get j=some x→(p :: r)[j]? = some x) (fun e=>e)
  (fun q=>by rw[ST.get1];exact fun e=>(lx r q).symm.trans (ik f _ q e)) (fun q=>by rw[ST.get2];exact fun e=>(lg r q).symm.trans (ik f _ q e)) e
theorem eq {l:List (Addr×Obj)} {j:Nat} {x:Addr×Obj} (e:(ofL l).get j=some x):l[j]? = some x:=ik _ _ _ e
@[reducible] noncomputable def vw (w:World) (n t W:Nat):Vw:={ prog:=pw,P:=w.params,n₁:=n,t₀:=t,kt:=kt w.params,W:=W }
noncomputable def bit (w:World):Bool:=w.params.followText "special-get-raises"
noncomputable def pB (P:Params) (b:Bool):Params:={ P with followText:=fun s=>cond (eqS s "special-get-raises") b (P.followText s) }
theorem pB_eq (P:Params):pB P (P.followText "special-get-raises")=P:=by
 obtain⟨⟩:=P
 simp only[pB,Params.mk.injEq,true_and,and_true]
 funext s
 cases h1:eqS s "special-get-raises" with
 | true=>rw[(fE _ _).mp h1];rfl
 | false=>rfl
noncomputable def vB (w:World) (n t W:Nat) (b:Bool):Vw:={ prog:=pw,P:=pB w.params b,n₁:=n,t₀:=t,kt:=kt w.params,W:=W }
theorem vB_eq (w:World) (n t W:Nat):vB w n t W (bit w)=vw w n t W:=by
 unfold vB bit
 rw[pB_eq]
theorem allB {p:Bool→Prop} (t:p true) (f:p false):∀b,p b
 | true=>t
 | false=>f
structure Me where
 A:Around
 Q:Fin→Shared→Prop
 E:Value→Shared→Prop
 R:Result→Shared→Prop
 g:Array GenState
 d:Drawn
 os:OsState
@[reducible] noncomputable def Me.en (M:Me) (w:World) (h₀:Heap) (ex:List Addr):En:={ prog:=pw,w:=w,A:=M.A,Q:=M.Q,E:=M.E,R:=M.R,g:=M.g,d:=M.d,os:=M.os,h₀:=h₀,ex:=ex }
noncomputable def AtM (w:World) (M:Me) (κ:Ko) (t:Sem Fin) (s:Shared):Prop:=At (M.en w s.heap []) κ t s
theorem AtM_iff {w:World} {M:Me} {κ:Ko} {t:Sem Fin} {s:Shared} (h₀:Heap) (ex:List Addr):AtM w M κ t s↔At (M.en w h₀ ex) κ t s:=Iff.rfl
structure Pl where
 κ:Ko
 t:Sem Fin
 T:ST
 n:Nat
 m:Nat
 i:Nat
noncomputable def bi:Sem Fin→Result→Sem Fin
 | .call _ _ _ _ k=>k
 | t=>fun _=>t
noncomputable def pS (c:Code) (l:List (Addr×Obj)) (_:Bool):Pl:=⟨.code c,den c,ofL l,l.length,0,0⟩
noncomputable def pR (o:Bool→Out) (r:Result) (l:List (Addr×Obj)) (b:Bool):Pl:=⟨(o b).κ,bi (o b).t r,ofL l,l.length,0,0⟩
noncomputable def pK (o:Bool→Out) (r:Result) (b:Bool):Pl:=⟨(o b).κ,bi (o b).t r,(o b).T,(o b).n,0,0⟩
noncomputable def p1 (o:Bool→Out) (r:Result) (j:Nat) (o':Obj) (b:Bool):Pl:=⟨(o b).κ,bi (o b).t r,(o b).T.set j fun _=>o',(o b).n,0,0⟩
noncomputable def pA (o:Bool→Out) (r:Result) (b:Bool):Pl:=⟨(o b).κ,bi (o b).t r,(o b).T,(o b).n,(o b).m,0⟩
noncomputable def pT (o:Bool→Out) (r:Result) (n m i:Nat) (b:Bool):Pl:=⟨(o b).κ,bi (o b).t r,(o b).T,n,m,i⟩
noncomputable def pE (o:Bool→Out) (c:Code) (b:Bool):Pl:=⟨(o b).κ, .pure (.again c),(o b).T,(o b).n,(o b).m,(o b).i⟩
noncomputable def aT (w:World) (M:Me) (h₀:Heap) (ex:List Addr) (n t W:Nat) (p:Bool→Pl):Prop:=
 Goal (M.en w h₀ ex) (vw w n t W) (p (bit w)).κ (p (bit w)).t (p (bit w)).T (p (bit w)).n (p (bit w)).m (p (bit w)).i
noncomputable def GoalX (w:World) (M:Me) (h₀:Heap) (ex:List Addr) (n t W:Nat) (o:Bool→Out):Prop:=GoalO (M.en w h₀ ex) (vw w n t W) (o (bit w))
noncomputable def AllP:List Prop→Prop
 | []=>True
 | p :: l=>p∧AllP l
theorem AllP.all:∀{l:List Prop},AllP l→∀p∈l,p
 | _ :: _,h,_, .head _=>h.1
 | _ :: _,h,_, .tail _ m=>h.2.all _ m
noncomputable def chk (o:Out):List Addr×List Prop:=(o.ob.map (·.1),o.pr)
noncomputable def j0 (o:Out) (ps:List Prop):List Addr×List Prop:=(o.ob.map (·.2),ps)
noncomputable def gO (w:World) (M:Me) (h₀:Heap) (ex:List Addr) (n t W:Nat) (o:Bool→Out):Prop:=(∃ps,chk (o (bit w))=j0 (o (bit w)) ps∧AllP ps)∧GoalX w M h₀ ex n t W o
noncomputable def jB (tb:PT) (vs:List Value) (f:Nat) (hs:List Nat) (w:World) (n t W:Nat) (p:Bool→Pl) (b:Bool):Out:=Mine.run tb (vB w n t W b) vs f hs (p b).κ (p b).t (p b).T (p b).n (p b).m (p b).i [] []
section
variable {w:World} {M:Me} {h₀:Heap} {ex:List Addr} {n t W:Nat}
theorem lZ (tb:PT) (hA:M.A.handled=none) (vs:List Value) (f:Nat) (hs:List Nat) {p:Bool→Pl}
  (H:let M':=M;let o:=jB tb vs f hs w n t W p;gO w M' h₀ ex n t W o):aT w M h₀ ex n t W p:=by
 obtain⟨⟨ps,hc,hp⟩,H⟩:=H
 unfold GoalX jB at H
 unfold jB at hc
 rw[vB_eq] at hc H
 have ho:=congrArg Prod.fst hc
 have hq:=congrArg Prod.snd hc
 simp only[chk,j0] at ho hq
 have O:Fit (M.en w h₀ ex) (vw w n t W):=⟨rfl,rfl,hA⟩
 refine (gx O f hs _ _ _ _ _ _ [] []).2 ⟨?_,by rw[hq];exact hp.all⟩ H
 generalize (Mine.run tb (vw w n t W) vs f hs (p (bit w)).κ (p (bit w)).t (p (bit w)).T (p (bit w)).n (p (bit w)).m (p (bit w)).i [] []).ob=l at ho
 clear hc hq H O hA
 induction l with
 | nil=>intro p hp;cases hp
 | cons q r ih=>
  intro p hp
  simp only[List.map_cons,List.cons.injEq] at ho
  rcases List.mem_cons.mp hp with rfl | hp
  ·exact ho.1
  ·exact ih ho.2 p hp
theorem runC {o:Bool→Out} (ps:List Prop) (hc:∀b,chk (o b)=j0 (o b) ps) (hp:AllP ps) (H:GoalX w M h₀ ex n t W o):gO w M h₀ ex n t W o:=⟨⟨ps,hc _,hp⟩,H⟩
end
noncomputable def tabA:PT:=[p_shr,p_mul,p_shl,p_fdiv,p_mod,p_xor,p_add,p_lt,p_le,p_gt,p_ge,p_eq,p_ne,p_bool,p_item,p_len,p_next,p_end,ol,p_siter,p_snext,p_send,p_repl,p_sitem,p_in,p_lenB]
theorem gRx {w:World} {M:Me} {h₀:Heap} {ex:List Addr} {n t W:Nat} (hA:M.A.handled=none) (f:Nat) (hs:List Nat) {p:Bool→Pl} (H:let M':=M;let o:=jB [] [] f hs w n t W p;gO w M' h₀ ex n t W o):aT w M h₀ ex n t W p:=lZ [] hA [] f hs H
theorem gPx {w:World} {M:Me} {h₀:Heap} {ex:List Addr} {n t W:Nat} (hA:M.A.handled=none) (vs:List Value) (f:Nat) (hs:List Nat) {p:Bool→Pl} (H:let M':=M;let o:=jB tabA vs f hs w n t W p;gO w M' h₀ ex n t W o):aT w M h₀ ex n t W p:=lZ tabA hA vs f hs H
theorem gSx {w:World} {M:Me} {h₀:Heap} {ex:List Addr} {n t W:Nat} {o:Bool→Out} (H:GoalX w M h₀ ex n t W o) (hc:∀b,chk (o b)=j0 (o b) []:=by kd_p):gO w M h₀ ex n t W o:=runC [] hc trivial H
theorem gQx {w:World} {M:Me} {h₀:Heap} {ex:List Addr} {n t W:Nat} {o:Bool→Out} (ps:List Prop) (hp:AllP ps) (H:GoalX w M h₀ ex n t W o) (hc:∀b,chk (o b)=j0 (o b) ps:=by kd_p):gO w M h₀ ex n t W o:=runC ps hc hp H
noncomputable def Dis:Nat→List (Addr×Obj)→Prop
 | 0,l=>l.Pairwise fun p q=>p.1≠q.1
 | _+1,[]=>True
 | W+1,p :: l=>(∀q∈l.drop W,p.1≠q.1)∧Dis W l
theorem Dis.ne:∀{W:Nat} {l:List (Addr×Obj)},Dis W l→∀j j' a o a' o',W≤j→j'≠j→l[j]? = some (a,o)→l[j']? = some (a',o')→a'≠a
 | 0,l,H,j,j',a,o,a',o',_,hne,e,e'=>by
  obtain⟨hl,el⟩:=List.getElem?_eq_some_iff.mp e
  obtain⟨hl',el'⟩:=List.getElem?_eq_some_iff.mp e'
  have P:=List.pairwise_iff_getElem.mp H
  rcases Nat.lt_or_gt_of_ne hne with q | q
  ·have:=P j' j hl' hl q
   rw[el,el'] at this;exact this
  ·have:=P j j' hl hl' q
   rw[el,el'] at this;exact fun z=>this z.symm
 | W+1,[],_,j,j',a,o,a',o',_,_,e,_=>by simp at e
 | W+1,p :: l,H,j,j',a,o,a',o',hw,hne,e,e'=>by
  obtain⟨j,rfl⟩:∃i,j=i+1:=⟨j - 1,by omega⟩
  rw[List.getElem?_cons_succ] at e
  cases j' with
  | zero=>
   cases e'
   refine H.1 (a,o) (List.mem_of_getElem? (i:=j - W) ?_)
   rw[List.getElem?_drop,show W+(j - W)=j by omega];exact e
  | succ j'=>
   rw[List.getElem?_cons_succ] at e'
   exact H.2.ne j j' a o a' o' (by omega) (by omega) e e'
noncomputable def Kn (w:World) (h₀:Heap) (ex:List Addr) (n t W:Nat) (h:Heap) (T:ST) (nn m:Nat):Prop:=∀M:Me,Rep (vw w n t W) (M.en w h₀ ex) h T nn m
noncomputable def RepX (w:World) (h₀:Heap) (ex:List Addr) (n t W:Nat) (h:Heap) (o:Bool→Out):Prop:=Kn w h₀ ex n t W h (o (bit w)).T (o (bit w)).n (o (bit w)).m
theorem Kn.of {w:World} {M:Me} {h₀:Heap} {ex:List Addr} {n t W:Nat} {h:Heap} {T:ST} {nn m:Nat} (D:Rep (vw w n t W) (M.en w h₀ ex) h T nn m):Kn w h₀ ex n t W h T nn m:=fun _=>⟨D.size,D.own,D.ne,D.kt,D.kn,D.keep,D.exok,D.grow⟩
noncomputable def me1:Me:={ A:={},Q:=fun _ _=>True,E:=fun _ _=>True,R:=fun _ _=>True,g:= #[],d:={},os:={} }
structure Wr (w:World) (h₀:Heap) (ex:List Addr) (a:Addr):Prop where
 ex:a∈ex∨h₀.get? a=none
 kn:(kt w.params).get a=none
section
variable {w:World} {h₀:Heap} {ex:List Addr} {n t W:Nat} {h:Heap} {T:ST} {nn m:Nat}
theorem Kn.r (D:Kn w h₀ ex n t W h T nn m):Rep (vw w n t W) (me1.en w h₀ ex) h T nn m:=D me1
theorem Kn.keeps (D:Kn w h₀ ex n t W h T nn m):Keeps h₀ h ex:=⟨D.r.keep,D.r.grow⟩
theorem Kn.kt (D:Kn w h₀ ex n t W h T nn m):TopIn w.params h:=D.r.kt
theorem Kn.size (D:Kn w h₀ ex n t W h T nn m):h.objs.size=n+m:=D.r.size
theorem Kn.keep (D:Kn w h₀ ex n t W h T nn m):∀b o,h₀.get? b=some o→b∉ex→h.get? b=some o:=D.r.keep
theorem Kn.cell (D:Kn w h₀ ex n t W h T nn m) (j:Nat) {a:Addr} {o:Obj} (e:T.get j=some (a,o)):h.get? a=some o:=(D.r.own j a o e).2
theorem Kn.wr (D:Kn w h₀ ex n t W h T nn m) (j:Nat) {a:Addr} {o:Obj} (hw:Nat.ble W j=true) (e:T.get j=some (a,o)):Wr w h₀ ex a:=
 ⟨D.r.exok j a o (Nat.le_of_ble_eq_true hw) e,D.r.kn j a o (Nat.le_of_ble_eq_true hw) e⟩
theorem Kn.fresh (D:Kn w h₀ ex n t W h T nn m) {a:Nat} (ha:h.objs.size≤a):Wr w h₀ ex a:=by
 refine⟨?_,?_⟩
 ·by_cases hx:a∈ex
  ·exact .inl hx
  ·refine .inr ?_
   cases q:h₀.get? a with
   | none=>rfl
   | some o=>have:=Heap.lt_size (D.keep a o q hx);exact absurd this (Nat.not_lt.mpr ha)
 ·cases q:(Mine.kt w.params).get a with
  | none=>rfl
  | some o=>have:=Heap.lt_size (D.kt a o q);exact absurd this (Nat.not_lt.mpr ha)
theorem Kn.tok {t':Nat} (D:Kn w h₀ ex n t W h T nn m):Kn w h₀ ex n t' W h T nn m:=fun M=>⟨(D M).size,(D M).own,(D M).ne,(D M).kt,(D M).kn,(D M).keep,(D M).exok,(D M).grow⟩
theorem Kn.mk {h':Heap} {t':Nat} (l:List (Addr×Obj)) (W':Nat) (hT:TopIn w.params h') (keep:∀b o,h₀.get? b=some o→b∉ex→h'.get? b=some o) (gr:h₀.objs.size≤h'.objs.size)
  (own:∀p∈l,h'.get? p.1=some p.2) (ne:Dis W' l) (hw:∀p∈l.drop W',Wr w h₀ ex p.1):Kn w h₀ ex h'.objs.size t' W' h' (ofL l) l.length 0:=fun M=>by
 have dr:∀{j a o},W'≤j→(ofL l).get j=some (a,o)→Wr w h₀ ex a:=fun {j a o} hj e=>hw (a,o) (List.mem_of_getElem? (i:=j - W') (by
  rw[List.getElem?_drop,Nat.add_sub_cancel' hj];exact eq e))
 exact⟨rfl,fun j a o e=>⟨(List.getElem?_eq_some_iff.mp (eq e)).1,own _ (List.mem_of_getElem? (eq e))⟩,fun j j' a o a' o' hj hne e e'=>ne.ne j j' a o a' o' hj hne (eq e) (eq e'),hT,fun j a o hj e=>(dr hj e).kn,keep,fun j a o hj e=>(dr hj e).ex,gr⟩
theorem Kn.renew {h':Heap} {exc:List Addr} (D:Kn w h₀ ex n t W h T nn m) (K:Keeps h h' exc) (hexc:∀a∈exc,Wr w h₀ ex a) {t':Nat}
  (l:List (Addr×Obj)) (W':Nat) (own:∀p∈l,h'.get? p.1=some p.2) (ne:Dis W' l) (hw:∀p∈l.drop W',Wr w h₀ ex p.1):Kn w h₀ ex h'.objs.size t' W' h' (ofL l) l.length 0:=
 .mk l W' (K.top D.kt fun a m=>(hexc a m).kn) (fun b o e hb=>K.keep b o (D.keep b o e hb) fun m=>(hexc b m).ex.elim hb fun x=>by rw[e] at x;cases x) (Nat.le_trans D.r.grow K.size) own ne hw
variable {o:Bool→Out}
theorem RepX.keeps (D:RepX w h₀ ex n t W h o):Keeps h₀ h ex:=Kn.keeps D
theorem RepX.kt (D:RepX w h₀ ex n t W h o):TopIn w.params h:=Kn.kt D
theorem RepX.keep (D:RepX w h₀ ex n t W h o):∀b o,h₀.get? b=some o→b∉ex→h.get? b=some o:=Kn.keep D
theorem RepX.size (D:RepX w h₀ ex n t W h o) (k:Nat) (e:∀b,n+(o b).m=k):h.objs.size=k:=(Kn.size D).trans (e _)
theorem RepX.cell (D:RepX w h₀ ex n t W h o) (j:Nat) {a:Addr} {x:Obj} (e:∀b,(o b).T.get j=some (a,x)):h.get? a=some x:=Kn.cell D j (e _)
theorem RepX.wr (D:RepX w h₀ ex n t W h o) (j:Nat) {a:Addr} {x:Obj} (hw:Nat.ble W j=true) (e:∀b,(o b).T.get j=some (a,x)):Wr w h₀ ex a:=Kn.wr D j hw (e _)
theorem RepX.cw (D:RepX w h₀ ex n t W h o) (j:Nat) {a:Addr} {x:Obj} (hw:Nat.ble W j=true) (e:∀b,(o b).T.get j=some (a,x)):h.get? a=some x∧Wr w h₀ ex a:=⟨Kn.cell D j (e _),Kn.wr D j hw (e _)⟩
theorem RepX.cK {w:World} {h₀:Heap} {ex:List Addr} {n t W:Nat} {h:Heap} {o:Bool→Out} (D:RepX w h₀ ex n t W h o) (j:Nat) (a:Addr) (x:Obj) (e:∀b,(o b).T.get j=some (a,x):=by kd_p):h.get? a=some x:=D.cell j e
theorem RepX.wK {w:World} {h₀:Heap} {ex:List Addr} {n t W:Nat} {h:Heap} {o:Bool→Out} (D:RepX w h₀ ex n t W h o) (j:Nat) (a:Addr) (x:Obj) (hw:Nat.ble W j=true:=by rfl) (e:∀b,(o b).T.get j=some (a,x):=by kd_p):h.get? a=some x∧Wr w h₀ ex a:=D.cw j hw e
theorem RepX.xK {w:World} {h₀:Heap} {ex:List Addr} {n t W:Nat} {h:Heap} {o:Bool→Out} (D:RepX w h₀ ex n t W h o) (j:Nat) {a:Addr} {x:Obj} (e:∀b,(o b).T.get j=some (a,x):=by kd_p):h.get? a=some x:=D.cell j e
theorem RepX.fresh (D:RepX w h₀ ex n t W h o) {a:Nat} (ha:h.objs.size≤a):Wr w h₀ ex a:=Kn.fresh D ha
theorem RepX.renew {h':Heap} {exc:List Addr} (D:RepX w h₀ ex n t W h o) (K:Keeps h h' exc) (hexc:∀a∈exc,Wr w h₀ ex a) {t':Nat}
  (l:List (Addr×Obj)) (W':Nat) (own:∀p∈l,h'.get? p.1=some p.2) (ne:Dis W' l) (hw:∀p∈l.drop W',Wr w h₀ ex p.1):Kn w h₀ ex h'.objs.size t' W' h' (ofL l) l.length 0:=Kn.renew D K hexc l W' own ne hw
end
theorem ah {h:Heap}:∀p∈([]:List (Addr×Obj)),h.get? p.1=some p.2:=fun _ hp=>nomatch hp
theorem ag {h:Heap} {a:Addr} {o:Obj} {l:List (Addr×Obj)} (e:h.get? a=some o) (r:∀p∈l,h.get? p.1=some p.2):∀p∈(a,o) :: l,h.get? p.1=some p.2:=fun p hp=>by
 rcases List.mem_cons.mp hp with rfl | hp
 ·exact e
 ·exact r p hp
theorem apart {h:Heap} {a b:Addr} {o o':Obj} (e:h.get? a=some o) (e':h.get? b=some o') (ne:(o.cls != o'.cls)=true:=by kd_p):a≠b:=ne_objs a b o o' e e' ne
theorem ap2 {h:Heap} {a b:Addr} {o o':Obj} (e:h.get? a=some o) (e':h.get? b=some o') (ne:(o.cls != o'.cls)=true:=by kd_p):a≠b∧b≠a:=⟨apart e e' ne,(apart e e' ne).symm⟩
theorem c9:∀(l:List (Addr×Obj)),Dis l.length l
 | []=>List.Pairwise.nil
 | p :: l=>⟨fun q hq=>(by rw[List.drop_length] at hq;exact nomatch hq),c9 l⟩
theorem ax {w:World} {h₀:Heap} {ex:List Addr}:∀a∈([]:List Addr),Wr w h₀ ex a:=fun _ h=>nomatch h
theorem an {w:World} {h₀:Heap} {ex:List Addr} {a:Addr} {l:List Addr} (h:Wr w h₀ ex a) (r:∀a∈l,Wr w h₀ ex a):∀b∈a :: l,Wr w h₀ ex b:=fun b hb=>by
 rcases List.mem_cons.mp hb with rfl | hb
 ·exact h
 ·exact r b hb
noncomputable def cS:Nat→List (Addr×Obj)→List Addr
 | _+1,[]=>[]
 | W+1,_ :: l=>cS W l
 | 0,[]=>[]
 | 0,(a,_) :: l=>a :: cS 0 l
theorem eJ:∀(W:Nat) (l:List (Addr×Obj)),cS W l=(l.drop W).map (·.1)
 | _+1,[]=>rfl
 | W+1,_ :: l=>eJ W l
 | 0,[]=>rfl
 | 0,(a,_) :: l=>congrArg (a :: ·) (eJ 0 l)
theorem gG:∀(l:List (Addr×Obj)),cS l.length l=[]
 | []=>rfl
 | _ :: l=>gG l
theorem bU {α:Type} {M:Model} {A:Around} {t:Sem α} {Q:α→Shared→Prop} {E:Value→Shared→Prop} {s:Shared} (H:let Q':=Q;let E':=E;wpAny M A t Q' E' s):wpAny M A t Q E s:=H
theorem hideG {G:Prop} (H:let G':=G;G'):G:=H
noncomputable def AllL {α:Type} (p:α→Prop):List α→Prop
 | []=>True
 | [a]=>p a
 | a :: b :: l=>p a∧AllL p (b :: l)
theorem allA {α:Type} {p:α→Prop}:∀{l:List α},AllL p l→∀a∈l,p a
 | [],_,_,h=>nomatch h
 | [a],H,b,h=>by
  rcases List.mem_cons.mp h with rfl | h
  ·exact H
  ·cases h
 | a :: c :: l,H,b,h=>by
  rcases List.mem_cons.mp h with rfl | h
  ·exact H.1
  ·exact allA (l:=c :: l) H.2 b h
noncomputable def NeL {α:Type} (a:α):List α→Prop
 | []=>True
 | [b]=>a≠b
 | b :: c :: l=>a≠b∧NeL a (c :: l)
theorem nmA {α:Type} {a:α}:∀{l:List α},NeL a l→a∉l
 | [],_,h=>nomatch h
 | [b],H,h=>by
  rcases List.mem_cons.mp h with h | h
  ·exact H h
  ·cases h
 | b :: c :: l,H,h=>by
  rcases List.mem_cons.mp h with h | h
  ·exact H.1 h
  ·exact nmA (l:=c :: l) H.2 h
theorem ai {p q:Prop} (a:p) (b:q):p∧q:=⟨a,b⟩
noncomputable def cj (p:Prop):Bool→Prop→Prop
 | true,q=>p∧q
 | false,_=>p
theorem cjI {p q:Prop}:∀{b:Bool},cj p b q→(b=false→q)→p∧q
 | true,h,_=>h
 | false,h,z=>⟨h,z rfl⟩
noncomputable def oneL:List (Addr×Obj)→Bool
 | []=>false
 | _ :: _=>true
noncomputable def ny:Nat→List (Addr×Obj)→Bool
 | 0,[]=>false
 | 0,[_]=>false
 | _,_=>true
noncomputable def NeX (a:Addr) (b:Bool) (q:Prop):List Addr→Prop
 | []=>True
 | c :: l=>cj (NeL a (c :: l)) b q
noncomputable def DisZ:List (Addr×Obj)→Prop
 | []=>True
 | [_]=>True
 | p :: q :: r=>cj (NeL p.1 (cS 0 (q :: r))) (oneL r) (DisZ (q :: r))
noncomputable def pF:Nat→List (Addr×Obj)→Prop
 | 0,l=>DisZ l
 | _+1,[]=>True
 | W+1,p :: l=>NeX p.1 (ny W l) (pF W l) (cS W l)
theorem nes {a:Addr} {l:List (Addr×Obj)} {W:Nat} (H:NeL a (cS W l)):∀q∈l.drop W,a≠q.1:=fun q hq e=>by
 rw[eJ] at H
 exact nmA H (by rw[e];exact List.mem_map_of_mem hq)
theorem drop_nil {W:Nat} {l:List (Addr×Obj)} (h:cS W l=[]):l.drop W=[]:=by
 rw[eJ] at h
 exact List.map_eq_nil_iff.mp h
theorem ja:∀(W:Nat) (l:List (Addr×Obj)),cS W l=[]→Dis W l
 | 0,[],_=>List.Pairwise.nil
 | 0,p :: l,h=>by cases h
 | _+1,[],_=>trivial
 | W+1,p :: l,h=>And.intro (fun q hq=>by rw[drop_nil (show cS W l=[] from h)] at hq;cases hq) (ja W l h)
theorem disZ:∀(l:List (Addr×Obj)),DisZ l→Dis 0 l
 | [],_=>List.Pairwise.nil
 | [_],_=>List.pairwise_singleton _ _
 | p :: q :: r,H=>by
  have z:NeL p.1 (cS 0 (q :: r))∧DisZ (q :: r):=cjI (b:=oneL r) H (fun e=>by
   cases r with
   | nil=>trivial
   | cons=>cases e)
  exact List.Pairwise.cons (nes (W:=0) z.1) (disZ (q :: r) z.2)
theorem lL:∀(W:Nat) (l:List (Addr×Obj)),ny W l=false→pF W l
 | 0,[],_=>trivial
 | 0,[_],_=>trivial
 | 0,_ :: _ :: _,c=>by cases c
 | _+1,_,c=>by simp[ny] at c
theorem disA':∀(W:Nat) (l:List (Addr×Obj)),pF W l→Dis W l
 | 0,l,H=>disZ l H
 | _+1,[],_=>trivial
 | W+1,p :: l,H=>by
  have H:NeX p.1 (ny W l) (pF W l) (cS W l):=H
  cases e:cS W l with
  | nil=>exact ja (W+1) (p :: l) e
  | cons a r=>
   rw[e] at H
   have z:=cjI (b:=ny W l) H (lL W l)
   exact And.intro (nes (W:=W) (by rw[e];exact z.1)) (disA' W l z.2)
theorem disA {W:Nat} {l:List (Addr×Obj)} (H:pF W l):Dis W l:=disA' W l H
noncomputable def nM (A:Around) (R:Result→Shared→Prop) (s:Shared):Me:={ A:=A,Q:=fun _ _=>False,E:=fun _ _=>False,R:=R,g:=s.gens,d:=s.drawn,os:=s.os }
theorem rep0 {w:World} {s:Shared} {ex:List Addr} {l:List (Addr×Obj)} {W:Nat} (hT:TopIn w.params s.heap)
  (own:∀p∈l,s.heap.get? p.1=some p.2) (ne:Dis W l) (kn:∀p∈l.drop W,(kt w.params).get p.1=none) (hx:cS W l=ex):
  Kn w s.heap ex s.heap.objs.size s.toks W s.heap (ofL l) l.length 0:=by
 rw[eJ] at hx
 subst hx
 exact .mk l W hT (fun _ _ e _=>e) (Nat.le_refl _) own ne fun p hp=>⟨.inl (List.mem_map_of_mem hp),kn p hp⟩
theorem startK {w:World} {A:Around} {R:Result→Shared→Prop} {s:Shared} {ex:List Addr} {c:Code} {l:List (Addr×Obj)} {W:Nat} (D:Kn w s.heap ex s.heap.objs.size s.toks W s.heap (ofL l) l.length 0)
  (G:aT w (nM A R s) s.heap ex s.heap.objs.size s.toks W (pS c l)):codeAny (model pw w) A c R s:=by
 exact eL (N:=(nM A R s).en w s.heap ex) (G s.heap (D (nM A R s)))
theorem az {w:World} {A:Around} {R:Result→Shared→Prop} {s:Shared} {c:Code} (l:List (Addr×Obj)) (hT:TopIn w.params s.heap)
  (own:∀p∈l,s.heap.get? p.1=some p.2) (G:∀n t,s.heap.objs.size=n→aT w (nM A R s) s.heap [] n t l.length (pS c l)):codeAny (model pw w) A c R s:=
 startK (rep0 hT own (c9 l) (fun p hp=>by rw[List.drop_length] at hp;cases hp) (gG l)) (G _ _ rfl)
theorem aj {w:World} {A:Around} {R:Result→Shared→Prop} {s:Shared} {c:Code} (l:List (Addr×Obj)) (W:Nat) (hT:TopIn w.params s.heap)
  (own:∀p∈l,s.heap.get? p.1=some p.2) (ne:Dis W l)
  (kn:∀p∈l.drop W,(kt w.params).get p.1=none) {ex:List Addr}
  (G:∀n t,s.heap.objs.size=n→aT w (nM A R s) s.heap ex n t W (pS c l)) (hx:cS W l=ex:=by kd_p1):codeAny (model pw w) A c R s:=
 startK (rep0 hT own ne kn hx) (G _ _ rfl)
noncomputable def gOf:Sem Fin→Bool
 | .call _ _ g _ _=>g
 | _=>true
noncomputable def vOf:Sem Fin→List Value
 | .call _ _ _ l _=>l
 | _=>[]
@[reducible] noncomputable def cOf (c:Code) (hd:Option Value) (t:Sem Fin):Sem Fin:= .call c hd (gOf t) (vOf t) (bi t)
noncomputable def oZ:Result→Sem Fin
 | .ok f=> .pure (.done f)
 | .error e=> .raise e
noncomputable def isCode:Ko→Bool
 | .code _=>true
 | _=>false
theorem noLimit {P:Params} {h:Heap} (T:TopIn P h):h.NoLimit:=by
 have e:h.get? 2=some ⟨.none,none, .dict #[] 0, #[]⟩:=T 2 _ rfl
 exact⟨fun _=>none,⟨_, #[],0,e,rfl,by simp[StrKeys],fun name=>by simp[nsFind,findBy]⟩,rfl⟩
section
variable {w:World} {M:Me} {h₀:Heap} {ex:List Addr} {n t W:Nat} {o:Bool→Out}
theorem GoalX.call {c:Code} {hd:Option Value} (e:∀b,(o b).t=cOf c hd (o b).t) (hm:okMark hd=true)
  (H:∀h,RepX w h₀ ex n t W h o→codeAny (model pw w) ((ar M.A (o (bit w)).κ).mark hd) c (fun r s'=>AtM w M (o (bit w)).κ (bi (o (bit w)).t r) s') ⟨h,M.g,M.d,t+(o (bit w)).i,M.os⟩):GoalX w M h₀ ex n t W o:=fun h D=>by
 have z:=H h (Kn.of D)
 unfold At
 rw[e (bit w)]
 exact x_call z (fe hm)
theorem gcK {w:World} {M:Me} {h₀:Heap} {ex:List Addr} {n t W:Nat} {o:Bool→Out} (c:Code) (H:∀h,RepX w h₀ ex n t W h o→codeAny (model pw w) ((ar M.A (o (bit w)).κ).mark none) c (fun r s'=>AtM w M (o (bit w)).κ (bi (o (bit w)).t r) s') ⟨h,M.g,M.d,t+(o (bit w)).i,M.os⟩) (e:∀b,(o b).t=cOf c none (o b).t:=by kd_p):GoalX w M h₀ ex n t W o:=GoalX.call e rfl H
theorem GoalX.done {r:Result} (e:∀b,(o b).t=oZ r) (hk:∀b,isCode (o b).κ=true)
  (H:∀h,RepX w h₀ ex n t W h o→M.R r ⟨h,M.g,M.d,t+(o (bit w)).i,M.os⟩):GoalX w M h₀ ex n t W o:=fun h D=>by
 have z:=H h (Kn.of D)
 have hk:=hk (bit w)
 unfold At
 rw[e (bit w)]
 generalize (o (bit w)).κ=κ at hk ⊢
 cases κ with
 | base=>cases hk
 | ret=>cases hk
 | code c=>
  cases r with
  | ok f=>exact wpAny_pure z
  | error x=>exact wpAny_throw z
theorem gdK {w:World} {M:Me} {h₀:Heap} {ex:List Addr} {n t W:Nat} {o:Bool→Out} (r:Result) (H:∀h,RepX w h₀ ex n t W h o→M.R r ⟨h,M.g,M.d,t+(o (bit w)).i,M.os⟩) (e:∀b,(o b).t=oZ r:=by kd_p) (hk:∀b,isCode (o b).κ=true:=by kd_p):GoalX w M h₀ ex n t W o:=GoalX.done e hk H
theorem GoalX.again {c:Code} (e:∀b,(o b).t = .pure (.again c)) (hk:∀b,isCode (o b).κ=true) (hq:c.quiet=true)
  (H:∀h,RepX w h₀ ex n t W h o→codeAny (model pw w) M.A c M.R ⟨h,M.g,M.d,t+(o (bit w)).i,M.os⟩):GoalX w M h₀ ex n t W o:=fun h D=>by
 have z:=H h (Kn.of D)
 have hk:=hk (bit w)
 unfold At
 rw[e (bit w)]
 generalize (o (bit w)).κ=κ at hk ⊢
 cases κ with
 | base=>cases hk
 | ret=>cases hk
 | code c'=>exact wpAny_pure ⟨hq,z⟩
theorem gaK {w:World} {M:Me} {h₀:Heap} {ex:List Addr} {n t W:Nat} {o:Bool→Out} (c:Code) (H:∀h,RepX w h₀ ex n t W h o→codeAny (model pw w) M.A c M.R ⟨h,M.g,M.d,t+(o (bit w)).i,M.os⟩) (e:∀b,(o b).t = .pure (.again c):=by kd_p) (hk:∀b,isCode (o b).κ=true:=by kd_p) (hq:c.quiet=true:=by kd_p):GoalX w M h₀ ex n t W o:=GoalX.again e hk hq H
theorem GoalX.enter {c:Code} (e:∀b,(o b).t=PySem.W.R.bindR (PySem.W.ZFast.enterX 0) (fun _=>Sem.pure (Fin.again c))) (hl:∀h,RepX w h₀ ex n t W h o→h.NoLimit) (hd:(ar M.A (o (bit w)).κ).depth<recursionLimit)
  (H:aT w M h₀ ex n t W (pE o c)):GoalX w M h₀ ex n t W o:=by
 intro h D
 have z:=H h D
 have e:=e (bit w)
 show wpAny _ _ (o (bit w)).t _ _ _
 rw[e,←PySem.W.R.bindR_eq,←PySem.W.ZFast.enterX_eq]
 exact wpAny_bind (m:=enterFrame 0) (f:=fun _=>Sem.pure (Fin.again c)) (wpAny_enterFrame (hl h (Kn.of D)) hd z)
theorem GoalX.callw {f:Value} {pos:List Value} {kw:List (Str×Value)} (e:∀b,(o b).t=cOf (.call f ⟨pos,kw⟩) none (o b).t)
  (H:∀h,RepX w h₀ ex n t W h o→wpAny (model pw w) (ar M.A (o (bit w)).κ) (PySem.call f pos kw) (fun v s'=>AtM w M (o (bit w)).κ (bi (o (bit w)).t (.ok (.ret v))) s') (fun x s'=>AtM w M (o (bit w)).κ (bi (o (bit w)).t (.error x)) s') ⟨h,M.g,M.d,t+(o (bit w)).i,M.os⟩):GoalX w M h₀ ex n t W o:=fun h D=>by
 have z:=H h (Kn.of D)
 unfold At
 rw[e (bit w)]
 intro Γ p hΓ
 have y:=z Γ p hΓ
 rw[Sem.wp] at ⊢
 unfold PySem.call runValue PySem.run at y
 rw[Sem.wp_bind',Sem.wp] at y
 refine wpCode_mono (fun r s' q=>?_) y
 match r with
 | .ok (.ret v)=>exact q Γ p hΓ
 | .ok .next=>exact q.elim
 | .ok .brk=>exact q.elim
 | .ok .cont=>exact q.elim
 | .error x=>exact q Γ p hΓ
theorem atm {h:Heap} {tk:Nat} {n' t' W':Nat} {h₁:Heap} {ex':List Addr} {p:Bool→Pl} (ht:tk=t'+(p (bit w)).i) (D:Kn w h₁ ex' n' t' W' h (p (bit w)).T (p (bit w)).n (p (bit w)).m) (G:aT w M h₁ ex' n' t' W' p):AtM w M (p (bit w)).κ (p (bit w)).t ⟨h,M.g,M.d,tk,M.os⟩:=by
 subst ht
 exact (AtM_iff h₁ ex').mpr (G h (D M))
variable {h h':Heap} {r:Result} {t':Nat}
theorem resume {exc:List Addr} (D:RepX w h₀ ex n t W h o) (K:Keeps h h' exc) (hexc:∀a∈exc,Wr w h₀ ex a)
  (l:List (Addr×Obj)) (W':Nat) (own:∀p∈l,h'.get? p.1=some p.2) (ne:Dis W' l) (hw:∀p∈l.drop W',Wr w h₀ ex p.1)
  (G:∀n',h'.objs.size=n'→aT w M h₀ ex n' t' W' (pR o r l)):AtM w M (o (bit w)).κ (bi (o (bit w)).t r) ⟨h',M.g,M.d,t',M.os⟩:=
 atm (p:=pR o r l) rfl (D.renew K hexc l W' own ne hw) (G _ rfl)
theorem hU {exc:List Addr} (D:RepX w h₀ ex n t W h o) (K:Keeps h h' exc) (hexc:∀a∈exc,Wr w h₀ ex a)
  (l:List (Addr×Obj)) (own:∀p∈l,h'.get? p.1=some p.2) (G:∀n',h'.objs.size=n'→aT w M h₀ ex n' t' l.length (pR o r l)):AtM w M (o (bit w)).κ (bi (o (bit w)).t r) ⟨h',M.g,M.d,t',M.os⟩:=
 resume D K hexc l l.length own (c9 l) (fun p hp=>by rw[List.drop_length] at hp;cases hp) G
theorem aD (D:RepX w h₀ ex n t W h o) (G:aT w M h₀ ex n t' W (pA o r)):AtM w M (o (bit w)).κ (bi (o (bit w)).t r) ⟨h,M.g,M.d,t',M.os⟩:=
 atm (p:=pA o r) rfl (Kn.tok D) G
theorem ig (n' m' i':Nat) (e:∀b,((o b).n,(o b).m,(o b).i+1)=(n',m',i')) (D:RepX w h₀ ex n t W h o) (G:aT w M h₀ ex n t W (pT o r n' m' i')):AtM w M (o (bit w)).κ (bi (o (bit w)).t r) ⟨h,M.g,M.d,t+(o (bit w)).i+1,M.os⟩:=by
 have e:=e (bit w)
 simp only[Prod.mk.injEq] at e
 obtain⟨e1,e2,e3⟩:=e
 refine atm (p:=pT o r n' m' i') (by rw[Nat.add_assoc,e3];rfl) ?_ G
 show Kn w h₀ ex n t W h (o (bit w)).T n' m'
 rw[←e1,←e2];exact D
theorem rebase (ex':List Addr) (l:List (Addr×Obj)) (W':Nat) (hT:TopIn w.params h) (own:∀p∈l,h.get? p.1=some p.2) (ne:Dis W' l)
  (kn:∀p∈l.drop W',(kt w.params).get p.1=none) (hx:∀p∈l.drop W',p.1∈ex')
  (G:∀n',h.objs.size=n'→aT w M h ex' n' t' W' (pR o r l)):AtM w M (o (bit w)).κ (bi (o (bit w)).t r) ⟨h,M.g,M.d,t',M.os⟩:=
 atm (p:=pR o r l) rfl (Kn.mk l W' hT (fun _ _ e _=>e) (Nat.le_refl _) own ne fun p hp=>⟨.inl (hx p hp),kn p hp⟩) (G _ rfl)
end
end Mine
end
section
namespace Mine
open PySem PySem.SeqAt PySem.W PySem.W.X PyProof.Rows
variable {w:World}
variable {L it ts k1 k2 e tx a ta tk k d b el ad W tt kT q k' l acc u c ea k3 k4 tp k5 p j tj tk0 tc f ab ck ak aw ek ew eb ed tape oc ao dd wf co ct c2 kc eo cn off to mw k6 ap itf er t0 el2 k7 node ad0 j1 j2 j3 j4 a1 a2 u1 u2 x1 x2 lo j7 tn cm ec kk j5 j6 cb bl ac aa pn tpn cy ebl yl t1 t2 ey tb c1 sc bs c4 c5 c6 c7 c8 ow t3 aY aP dG q0 q1 q2 bL td hk q3 q4 q5 q6 p0 p2 u0 ci ae ee iQ bS fU af ef v2 tf at' et am c2x s0 s2 s3 eaa ebx s1 cH dx pv:Nat}
variable {h1 o1 o2 bv o0 o3:Int}
variable {A:Around}
variable {R:Result→Shared→Prop}
variable {x xs rs ex y cs is above way x7 ev tu S:List Nat}
variable {P:Params}
variable {v dv vL v0 v4 vc v1 iB vL0 vT y1 y2 v7 u4 u5 vv aW aO dK bI cP iz bO dn old dY eU:Value}
variable {es es' tl:List DictEntry}
variable {h h' h₀ h'' h0:Heap}
variable {o o' om:Obj}
variable {tag xT w0 x0 x5 x6 w1:Str}
variable {b0 inn:Bool}
variable {M:Model}
variable {env:Env}
variable {E:Value→Shared→Prop}
variable {Q:Flow→Shared→Prop}
variable {Lv Lb Lk Lw La rc L2 Lr Lo Lx Lc Ly Ls Le Lf Lt Lm B Lsc:List Value}
variable {kss ws ks sp:List (List Nat)}
variable {fd:FuncData}
variable {prog:Program}
variable {pos:Pos}
variable {g gf:Nat→Nat}
variable {G:Prop}
variable {ns:List Int}
variable {o8 o7:Option Value}
@[reducible] noncomputable def fenv (x:Arguments×List Stmt×Scope) (q:Str) (f cd L:Addr):Env:={ scope:=x.2.2,locals:=L,globals:=3,cells:=[],qual:=q,func:=some f,code:= .ref cd,frame:=some L,builtins:=0 }
noncomputable def iJ:Str:=⟨#[95,103,101,110,95,99,114,99,46,60,108,111,99,97,108,115,62,46]⟩
noncomputable def cq (x:Arguments×List Stmt×Scope) (k:Nat):Expr×List Stmt×List Stmt:=match x.2.1[k]? with
 | some (.For t _ b o _)=>(t,b,o)
 | _=>default
@[reducible] noncomputable def aU (x:Arguments×List Stmt×Scope) (k:Nat) (it:Value) (env:Env):Code:= .forLoop (cq x k).1 it (cq x k).2.1 (cq x k).2.2 env
@[reducible] noncomputable def frame (es:List DictEntry) (e:Nat):Obj:=⟨.type "frame",none, .dict es.toArray e, #[]⟩
@[reducible] noncomputable def aq (a r:Int) (ta tr ts:Tok):Obj:=⟨.type "range_iterator",none, .fields #[.int a ta, .int r tr, .int 1 ts], #[]⟩
noncomputable def gj:Str:=⟨#[99,114,99]⟩
noncomputable def sJ:Str:=⟨#[106]⟩
noncomputable def crcStep (x:Nat):Nat:=if x&&&1=0 then x>>>1 else (x>>>1)^^^3988292384
noncomputable def cT:Nat→Nat→Nat
 | 0,x=>x
 | k+1,x=>cT k (crcStep x)
theorem ay (k:Nat):Int.ofNat (k+1) - 1=Int.ofNat k:=by simp only[Int.ofNat_eq_natCast];kst_all
theorem gz (x:Nat):(Int.ofNat x != 0) = !decide (x=0):=by cases x<;>rfl
@[reducible] noncomputable def kg (w:World) (a:Addr):Option Obj:=(kt w.params).get a
@[reducible] noncomputable def mm (w:World):Model:=model pw w
theorem jb {h2:Int} (hn:L≠it) (hl:kg w L=none) (hi:kg w it=none):∀(k:Nat) {A:Around} {R:Result→Shared→Prop} {s:Shared} {x tx a ta tr:Nat} {v2:Value} (hA:AOk A 3) (hT:TopIn w.params s.heap)
 (hL:s.heap.get? L=some (frame [⟨h1, .str gj k1, .int (Int.ofNat x) tx⟩,⟨h2, .str sJ k2,v2⟩] e)) (hI:s.heap.get? it=some (aq (Int.ofNat a) (Int.ofNat k) ta tr ts))
 (H:∀(h':Heap) tk' tx' v2',Keeps s.heap h' [L,it]→h'.get? L=some (frame [⟨h1, .str gj k1, .int (Int.ofNat (cT k x)) tx'⟩,⟨h2, .str sJ k2,v2'⟩] e)→R (.ok .next) ⟨h',s.gens,s.drawn,tk',s.os⟩),
  codeAny (mm w) A (aU (dAt 11) 0 (.ref it) (fenv (dAt 11) iJ 86 85 L)) R s:=by
 intro k
 induction k with
 | zero=>
  intro A R s x tx a ta tr v2 hA hT hL hI H
  refine aj _ 0 hT (ag hL (ag hI ah)) ?ne ?kn (fun n t _=>?_)
  case ne=>simp[Dis,hn]
  case kn=>simp[hl,hi]
  refine gRx hA.hd 15 [2,0,2,2,2,2,4] ?_
  kst_p
  refine gdK (.ok .next) (fun h D=>?_)
  exact H h _ tx v2 D.keeps (D.xK 0)
 | succ k ih=>
  intro A R s x tx a ta tr v2 hA hT hL hI H
  refine aj _ 0 hT (ag hL (ag hI ah)) ?ne ?kn (fun n t _=>?_)
  case ne=>simp[Dis,hn]
  case kn=>simp[hl,hi]
  by_cases hb:x&&&1=0
  ·refine gPx hA.hd [] 44 [2,0,2,2,2,2,2,2,2,2,1,1,1,0,14,0,0,0,1,1,0,0,0,1,1] ?_
   intro zM zO
   refine gQx [(Int.ofNat x).toNat&&&Int.toNat 1=0] ⟨by assumption,trivial⟩ ?_
   refine gaK (aU (dAt 11) 0 (.ref it) (fenv (dAt 11) iJ 86 85 L)) (fun h D=>?_)
   have c0:=D.cK 0 L (frame [⟨h1, .str gj k1, .int (Int.ofNat (x>>>1)) (t+5)⟩,⟨h2, .str sJ k2, .int (Int.ofNat a) t⟩] e)
   have c1:=D.cK 1 it (aq (Int.ofNat (a+1)) (Int.ofNat (k+1) - 1) 0 0 ts)
   rw[ay] at c1
   refine ih hA D.kt c0 c1 (fun h' tk' tx' v2' K hh=>H h' tk' tx' v2' ((D.keeps.trans K).mono (by kd_mem)) ?_)
   rw[cT,crcStep,if_pos hb];exact hh
  ·refine gPx hA.hd [] 48 [2,0,2,2,2,2,2,2,2,2,1,1,1,0,14,0,1,0,1,1,0,0,0,6,0,0,0,1,1] ?_
   intro zM zO
   refine gQx [(Int.ofNat x).toNat&&&Int.toNat 1≠0] ⟨by assumption,trivial⟩ ?_
   refine gaK (aU (dAt 11) 0 (.ref it) (fenv (dAt 11) iJ 86 85 L)) (fun h D=>?_)
   have c0:=D.cK 0 L (frame [⟨h1, .str gj k1, .int (Int.ofNat ((x>>>1)^^^3988292384)) (t+7)⟩,⟨h2, .str sJ k2, .int (Int.ofNat a) t⟩] e)
   have c1:=D.cK 1 it (aq (Int.ofNat (a+1)) (Int.ofNat (k+1) - 1) 0 0 ts)
   rw[ay] at c1
   refine ih hA D.kt c0 c1 (fun h' tk' tx' v2' K hh=>H h' tk' tx' v2' ((D.keeps.trans K).mono (by kd_mem)) ?_)
   rw[cT,crcStep,if_neg hb];exact hh
theorem mU (hn:L≠it) (hl:kg w L=none) (hi:kg w it=none) (k:Nat) {s:Shared} {x tr:Nat} (hA:AOk A 3) (hT:TopIn w.params s.heap)
 (hL:s.heap.get? L=some (frame [⟨h1, .str gj k1, .int (Int.ofNat x) tx⟩] e)) (hI:s.heap.get? it=some (aq (Int.ofNat a) (Int.ofNat (k+1)) ta tr ts))
 (H:∀(h':Heap) tk' tx' h2 k2 v2',Keeps s.heap h' [L,it]→h'.get? L=some (frame [⟨h1, .str gj k1, .int (Int.ofNat (cT (k+1) x)) tx'⟩,⟨h2, .str sJ k2,v2'⟩] (e+1))→R (.ok .next) ⟨h',s.gens,s.drawn,tk',s.os⟩):
  codeAny (mm w) A (aU (dAt 11) 0 (.ref it) (fenv (dAt 11) iJ 86 85 L)) R s:=by
 refine aj _ 0 hT (ag hL (ag hI ah)) ?ne ?kn (fun n t _=>?_)
 case ne=>simp[Dis,hn]
 case kn=>simp[hl,hi]
 by_cases hb:x&&&1=0
 ·refine gPx hA.hd [] 44 [2,0,2,2,2,2,2,2,2,2,1,1,1,0,14,0,0,0,1,1,0,0,0,1,1] ?_
  intro zM zO
  refine gQx [(Int.ofNat x).toNat&&&Int.toNat 1=0] ⟨by assumption,trivial⟩ ?_
  refine gaK (aU (dAt 11) 0 (.ref it) (fenv (dAt 11) iJ 86 85 L)) (fun h D=>?_)
  have c0:=D.cK 0 L (frame [⟨h1, .str gj k1, .int (Int.ofNat (x>>>1)) (t+5)⟩,⟨kz w.params sJ, .str sJ (t+1), .int (Int.ofNat a) t⟩] (e+1))
  have c1:=D.cK 1 it (aq (Int.ofNat (a+1)) (Int.ofNat (k+1) - 1) 0 0 ts)
  rw[ay] at c1
  refine jb hn hl hi k hA D.kt c0 c1 (fun h' tk' tx' v2' K hh=>H h' tk' tx' (kz w.params sJ) (t+1) v2' ((D.keeps.trans K).mono (by kd_mem)) ?_)
  rw[cT,crcStep,if_pos hb];exact hh
 ·refine gPx hA.hd [] 48 [2,0,2,2,2,2,2,2,2,2,1,1,1,0,14,0,1,0,1,1,0,0,0,6,0,0,0,1,1] ?_
  intro zM zO
  refine gQx [(Int.ofNat x).toNat&&&Int.toNat 1≠0] ⟨by assumption,trivial⟩ ?_
  refine gaK (aU (dAt 11) 0 (.ref it) (fenv (dAt 11) iJ 86 85 L)) (fun h D=>?_)
  have c0:=D.cK 0 L (frame [⟨h1, .str gj k1, .int (Int.ofNat ((x>>>1)^^^3988292384)) (t+7)⟩,⟨kz w.params sJ, .str sJ (t+1), .int (Int.ofNat a) t⟩] (e+1))
  have c1:=D.cK 1 it (aq (Int.ofNat (a+1)) (Int.ofNat (k+1) - 1) 0 0 ts)
  rw[ay] at c1
  refine jb hn hl hi k hA D.kt c0 c1 (fun h' tk' tx' v2' K hh=>H h' tk' tx' (kz w.params sJ) (t+1) v2' ((D.keeps.trans K).mono (by kd_mem)) ?_)
  rw[cT,crcStep,if_neg hb];exact hh
theorem lu {s:Shared} {x:Nat} (hA:AOk A 5) (hT:TopIn w.params s.heap)
  (H:∀(h':Heap) tk' tok,Keeps s.heap h' []→R (.ok (.ret (.int (Int.ofNat (cT 8 x)) tok))) ⟨h',s.gens,s.drawn,tk',s.os⟩):
  codeAny (mm w) A (.call (.ref 86) ⟨[.int (Int.ofNat x) tk],[]⟩) R s:=by
 refine az [] hT ah (fun n t _=>?_)
 refine gRx hA.hd 7 [0,0,1,1] ?_
 kst_p
 refine GoalX.enter (c:= .func (dAt 11).2.1 (fenv (dAt 11) iJ 86 85 n)) (by kd_p) (fun h D=>noLimit D.kt) (by have:=hA.dp;show A.depth+0<_;kst_all) ?_
 refine gRx hA.hd 39 [0,0,0,0,2,2,0,2,2,2,2,0,2,2,2,2,3] ?_
 kst_p
 refine gcK (aU (dAt 11) 0 (.ref (n+2)) (fenv (dAt 11) iJ 86 85 n)) (fun h D=>?_)
 kd_adr
 have⟨c0,w0⟩:=D.wK 0 n (frame [⟨kz w.params gj, .str gj t, .int (Int.ofNat x) tk⟩] 1)
 have⟨c2,w2⟩:=D.wK 2 (n+2) (aq (Int.ofNat 0) (Int.ofNat 8) 0 0 0)
 refine mU (apart c0 c2) w0.kn w2.kn 7 (hA.sub (by kd_p) (by kd_p)) D.kt c0 c2 (fun h' tk' tx' h2 k2 v2' K cL=>?_)
 refine hU D K (an w0 (an w2 ax)) _ (ag cL ah) (fun n' _=>?_)
 refine gRx hA.hd 3 [1] ?_
 kst_p
 refine gdK (.ok (.ret (.int (Int.ofNat (cT 8 x)) tx'))) (fun h D=>?_)
 exact H h _ _ D.keeps
@[reducible] noncomputable def dictO (es:List DictEntry) (e:Nat):Obj:=⟨.type "dict",none, .dict es.toArray e, #[]⟩
@[reducible] noncomputable def listO (vs:List Value) (e:Nat):Obj:=⟨.type "list",none, .seq vs.toArray e, #[]⟩
@[reducible] noncomputable def dc (vs:List Value) (e:Nat):Obj:=⟨.type "tuple",none, .seq vs.toArray e, #[]⟩
@[reducible] noncomputable def bT (vs:List Value):Obj:=⟨.none,none, .fields vs.toArray, #[]⟩
@[reducible] noncomputable def ent (P:Params) (x:Str) (k:Tok) (v:Value):DictEntry:=⟨kz P x, .str x k,v⟩
noncomputable def SD (P:Params) (es:List DictEntry):Prop:=∀e∈es,∃x k v,x.cps.isEmpty=false∧e=ent P x k v
theorem SD.nil:SD P []:=fun _ h=>nomatch h
theorem SD.cons {P:Params} {x:Str} (hx:x.cps.isEmpty=false) (h:SD P es):SD P (ent P x k v :: es):=fun e he=>by
 rcases List.mem_cons.mp he with rfl | he
 ·exact⟨x,k,v,hx,rfl⟩
 ·exact h e he
theorem gB (w:World) (x:Str) (hx:x.cps.isEmpty=false):kz w.params x=hashStr w x:=by
 unfold kz hashStr
 rw[hx,←PySem.W.ZFast.ze12210062019545310541];rfl
noncomputable def lookE (es:List DictEntry) (x:Str):Option Value:=(es.find? fun e=>Value.isStrOf x e.key).map (·.val)
theorem iM (hd:h.get? d=some (dictO es e)) (hk:SD w.params es):h.MapOf (strKind pw w) d (lookE es):=by
 refine⟨_,es.toArray,e,hd,⟨rfl,rfl,rfl⟩,rfl,fun x hx=>?_,fun k=>?_⟩
 ·obtain⟨y,k,v,hy,rfl⟩:=hk x (by tbr_iter hx)
  exact⟨y,strKind_is pw w y k,gB w y hy⟩
 ·simp[findBy,lookE,PySem.strKind]
theorem da {s:Shared} {x:Str} (hd:s.heap.get? d=some (dictO es e)) (hk:SD w.params es) (hs:kg w d=none)
  (H:R (.ok (.ret ((lookE es x).getD dv))) { s with toks:=s.toks+1 }):codeAny (mm w) A (.call (.builtin "dict.get") ⟨[.ref d, .str x k,dv],[]⟩) R s:=by
 have hm:=iM hd hk
 have h1:(d == sysModules)=false:=by
  cases q:d == sysModules with
  | false=>rfl
  | true=>rw[eq_of_beq q] at hs;cases hs
 exact aI F.slot_dict_get hm.typeIs F.entry_dict_get (F.args_dict_get_3 _ _ _) (meets_dict_get_default (strKind pw w) d (strKind_is pw w x k) h1 dv) ⟨_,hm,H⟩
theorem gH {s:Shared} {x:Str} (hd:s.heap.get? d=some (dictO es e)) (hk:SD w.params es) (hs:kg w d=none)
  (H:R (.ok (.ret ((lookE es x).getD .none))) { s with toks:=s.toks+1 }):codeAny (mm w) A (.call (.builtin "dict.get") ⟨[.ref d, .str x k],[]⟩) R s:=by
 have hm:=iM hd hk
 have h1:(d == sysModules)=false:=by
  cases q:d == sysModules with
  | false=>rfl
  | true=>rw[eq_of_beq q] at hs;cases hs
 exact aI F.slot_dict_get hm.typeIs F.entry_dict_get (F.args_dict_get_2 _ _) (meets_dict_get (strKind pw w) d (strKind_is pw w x k) h1) ⟨_,hm,H⟩
noncomputable def sText:Str:=⟨#[116,101,120,116]⟩
noncomputable def iI:Str:=⟨#[109,111,114,101]⟩
noncomputable def di:Str:=⟨#[112,108,97,99,101]⟩
noncomputable def sTail:Str:=⟨#[116,97,105,108]⟩
noncomputable def qElem:Str:=⟨#[95,108,97,119,95,101,108,101,109,101,110,116,46,60,108,111,99,97,108,115,62,46]⟩
noncomputable def sRow:Str:=⟨#[114,111,119]⟩
noncomputable def sReg:Str:=⟨#[114,101,103,105,115,116,101,114]⟩
noncomputable def aV:Str:=⟨#[112,111,108,121]⟩
noncomputable def sOctets:Str:=⟨#[111,99,116,101,116,115]⟩
noncomputable def nV:Str:=⟨#[111,99,116,101,116]⟩
noncomputable def dt:Str:=⟨#[110,111,100,101]⟩
noncomputable def cC:Str:=⟨#[107,105,100,115]⟩
noncomputable def eY:Str:=⟨#[107,105,100]⟩
noncomputable def cg:Str:=⟨#[119,111,114,100,115]⟩
noncomputable def sSign:Str:=⟨#[115,105,103,110]⟩
noncomputable def IntVs (L:List Value) (xs:List Nat):Prop:=L.length=xs.length∧∀(i x:Nat),xs[i]? = some x→∃t:Tok,L[i]? = some (Value.int (Int.ofNat x) t)
theorem IntVs.at {L:List Value} (h:IntVs L xs) {o:Nat} (e:xs.drop k=o :: rs):(∃t:Tok,L[k]? = some (Value.int (Int.ofNat o) t))∧xs.drop (k+1)=rs:=by
 have hk:xs[k]? = some o:=by rw[←List.head?_drop,e];rfl
 exact⟨h.2 k o hk,by rw[←List.tail_drop,e];rfl⟩
theorem IntVs.fin {L:List Value} (h:IntVs L xs) (e:xs.drop k=[]):L.length≤k:=by
 rw[h.1];exact List.drop_eq_nil_iff.mp e
@[reducible] noncomputable def av (a k t:Nat):Obj:=⟨.type "list_iterator",none, .fields #[.ref a, .int (.ofNat k) t], #[]⟩
noncomputable def sTag:Str:=⟨#[116,97,103]⟩
noncomputable def sAttrib:Str:=⟨#[97,116,116,114,105,98]⟩
noncomputable def sAppend:Str:=⟨#[97,112,112,101,110,100]⟩
noncomputable def sMake:Str:=⟨#[109,97,107,101,101,108,101,109,101,110,116]⟩
noncomputable def sIter:Str:=⟨#[105,116,101,114,116,101,120,116]⟩
noncomputable def sLam:Str:=⟨#[60,108,97,109,98,100,97,62]⟩
noncomputable def qLamE:Str:=⟨#[95,108,97,119,95,101,108,101,109,101,110,116,46,60,108,111,99,97,108,115,62,46,60,108,97,109,98,100,97,62]⟩
noncomputable def sLaw:Str:=⟨#[108,97,119,95,112,104,48,49,49,50,95,48,49]⟩
noncomputable def lamAt (x:Arguments×List Stmt×Scope) (k:Nat):Arguments×Expr×Scope:=match x.2.1[k]? with
 | some (.Assign _ (.Lambda a b sc _) _)=>(a,b,sc)
 | _=>default
noncomputable def jL (x:Arguments×List Stmt×Scope) (k j:Nat):Arguments×Expr×Scope:=match x.2.1[k]? with
 | some (.Assign _ (.Tuple es _ _) _)=>match es[j]? with
  | some (.Lambda a b sc _)=>(a,b,sc)
  | _=>default
 | _=>default
@[reducible] noncomputable def lamFd (l:Arguments×Expr×Scope) (q:Str) (clo:List (Str×Addr)) (c:Addr) (ct:Value):FuncData:=
 { name:=sLam,qualname:=q,params:=l.1,body:= .expr l.2.1,scope:=l.2.2,globals:=3,closure:=clo,defaults:= .none,kwdefaults:= .none,doc:= .none,pyModule:= .str sLaw 328,annotations:=none,code:= .ref c,closureTuple:=ct,builtins:=0 }
@[reducible] noncomputable def funO (fd:FuncData) (d:Option Addr):Obj:=⟨.type "function",d, .func fd, #[]⟩
@[reducible] noncomputable def codeO (q:Str) (v0:Value) (k:Tok) (rest:List Value):Obj:=⟨.type "code",none, .fields (v0 :: .str q k :: rest).toArray, #[]⟩
@[reducible] noncomputable def methO (id:String) (a:Addr):Obj:=⟨.type "builtin_function_or_method",none, .fields #[.builtin id, .ref a], #[]⟩
@[reducible] noncomputable def cellO (v:Value):Obj:=⟨.type "cell",none, .cell (some v), #[]⟩
@[reducible] noncomputable def tabE (c1 c2:Addr):Obj:=bT [.int 127 0, .int 46 0, .ref c1, .int 133 0, .int 23 0, .ref c2]
structure ElemX (P:Params) (h:Heap) (el:Addr) (tag:Value) (ad:Addr) (vL:Value) (row dd ap itf cl ct c2 k1 k2 k3 k4 k5 k6 kc:Nat) (fd:FuncData) (vc:Value) (rc:List Value):Prop where
 el:h.get? el=some (funO fd (some dd))
 dd:h.get? dd=some (dictO [ent P sTag k1 tag,ent P sAttrib k2 (.ref ad),ent P sTail k3 vL,ent P sAppend k4 (.ref ap),ent P sMake k5 (.ref 154),ent P sIter k6 (.ref itf)] 6)
 ap:h.get? ap=some (methO "list.append" row)
 itf:h.get? itf=some (funO (lamFd (lamAt (dAt 16) 6) qLamE [(sRow,cl)] c2 (.ref ct)) none)
 cl:h.get? cl=some (cellO (.ref row))
 c2:h.get? c2=some (codeO qLamE vc kc rc)
noncomputable def Elem (P:Params) (h:Heap) (el:Addr) (tag:Value) (ad:Addr) (vL:Value) (row:Addr):Prop:=∃dd ap itf cl ct c2 k1 k2 k3 k4 k5 k6 kc fd vc rc,ElemX P h el tag ad vL row dd ap itf cl ct c2 k1 k2 k3 k4 k5 k6 kc fd vc rc
noncomputable def LN (h:Heap) (a:Addr):Prop:=∃o,h.get? a=some o∧(o.cls = .type "list" ∨o.cls = .none)
theorem LN.ne (l:LN h a) (e:h.get? b=some o) (h1:o.cls ≠ .type "list") (h2:o.cls ≠ .none):b≠a:=by
 rintro rfl
 obtain⟨o',e',q⟩:=l
 rw[e] at e';cases e'
 exact q.elim h1 h2
theorem bW (K:Keeps h h' ex) (hx:∀a∈ex,LN h a) (e:h.get? b=some o) (h1:o.cls ≠ .type "list") (h2:o.cls ≠ .none):h'.get? b=some o:=
 K.keep b o e fun m=>(hx b m).ne e h1 h2 rfl
theorem Elem.keep {row:Addr} {tag:Value} (E:Elem P h el tag ad vL row) (K:Keeps h h' ex) (hx:∀a∈ex,LN h a):Elem P h' el tag ad vL row:=by
 kd_adr
 obtain⟨dd,ap,itf,cl,ct,c2,k1,k2,k3,k4,k5,k6,kc,fd,vc,rc,E⟩:=E
 refine⟨dd,ap,itf,cl,ct,c2,k1,k2,k3,k4,k5,k6,kc,fd,vc,rc,?_,?_,?_,?_,?_,?_⟩
 ·exact bW K hx E.el (by kd_mem) (by kd_mem)
 ·exact bW K hx E.dd (by kd_mem) (by kd_mem)
 ·exact bW K hx E.ap (by kd_mem) (by kd_mem)
 ·exact bW K hx E.itf (by kd_mem) (by kd_mem)
 ·exact bW K hx E.cl (by kd_mem) (by kd_mem)
 ·exact bW K hx E.c2 (by kd_mem) (by kd_mem)
noncomputable def TabE (h:Heap):Prop:=∃c1 c2 k2 v2 r2,h.get? 149=some (tabE c1 c2)∧h.get? c2=some (codeO qLamE v2 k2 r2)
theorem dep0 {o:Bool→Out} (hA:AOk A k) (e:∀b,Nat.ble (dep (o b).κ) k=true):(ar A (o b0).κ).depth<recursionLimit:=by
 have e:=e b0
 generalize (o b0).κ=κ at e ⊢
 rw[dC];exact kl22 (Nat.le_of_ble_eq_true e) hA.dp
theorem geK {M:Me} {n t:Nat} {o:Bool→Out} (hA:AOk M.A k) (c:Code) (H:aT w M h₀ ex n t W (pE o c)) (e:∀b,(o b).t=PySem.W.R.bindR (PySem.W.ZFast.enterX 0) (fun _=>Sem.pure (Fin.again c)):=by kd_p) (hd:∀b,Nat.ble (dep (o b).κ) k=true:=by kd_p):GoalX w M h₀ ex n t W o:=GoalX.enter e (fun h D=>noLimit D.kt) (dep0 hA hd) H
theorem elemF {s:Shared} (hA:AOk A 5) (hT:TopIn w.params s.heap)
  (hd:s.heap.get? ad=some (dictO es e)) (hk:SD w.params es) (ha:kg w ad=none) (ht:TabE s.heap)
  (hx:lookE es sText=some (.str xT kT)) (hl:(lookE es sTail).getD .none=vL) (hv:vL = .none∨∃x k,vL = .str x k)
  (H:∀(h':Heap) tk' el row,Keeps s.heap h' []→TabE h'→s.heap.objs.size≤el→s.heap.objs.size≤row→Elem w.params h' el (.str tag tt) ad vL row→h'.get? row=some (listO [.str xT kT] 0)→R (.ok (.ret (.ref el))) ⟨h',s.gens,s.drawn,tk',s.os⟩):
  codeAny (mm w) A (.call (.ref 154) ⟨[.str tag tt, .ref ad],[]⟩) R s:=by
 kd_adr
 obtain⟨c1,c2,k2,v2,r2,ht,hc2⟩:=ht
 refine az _ hT (ag hd (ag ht (ag hc2 ah))) (fun n t hn=>?_)
 refine gRx hA.hd 12 [0,0,4,4,4,4] ?_
 kst_p
 refine geK hA (.func (dAt 16).2.1 { fenv (dAt 16) qElem 154 153 n with cells:=[(sRow,n+1)] }) ?_
 refine gRx hA.hd 16 [4,1,1,1,1] ?_
 kst_p
 refine gcK (.call (.builtin "dict.get") ⟨[.ref ad, .str sText (t+2), .str ⟨#[]⟩ (t+3)],[]⟩) (fun h D=>?_)
 refine da (D.cell 0 (x:=dictO es e) (by kd_p)) hk ha ?_
 rw[hx]
 refine ig 5 2 5 (by kd_p) D ?_
 refine gRx hA.hd 121 [0,2,0,0,0,8,8,8,0,8,9,9,0,9,9,9,8,9,9,9,0,9,9,9,8,9,9,9,0,9,9,9,8,9,9,11,5,5,4,4,4,4,7,0,7,7,7,7,7,12,12,12,4,4,7,0,7,7,7,7,12,12,12,4,1,1,1,1] ?_
 kst_p
 refine gcK (.call (.builtin "dict.get") ⟨[.ref ad, .str sTail (t+10)],[]⟩) (fun h D=>?_)
 refine gH (D.cell 0 (x:=dictO es e) (by kd_p)) hk ha ?_
 rw[hl]
 refine ig 12 9 12 (by kd_p) D ?_
 rcases hv with rfl | ⟨xL,kL,rfl⟩
 ·refine gRx hA.hd 105 [4,7,0,7,7,7,7,12,12,12,5,6,0,6,6,6,6,0,6,4,7,0,7,7,7,7,12,12,12,0,4,7,0,7,7,7,7,12,12,12,0,2,0,0,0,4,7,0,7,7,7,7,12,12,12,4] ?_
  kst_p
  refine gdK (.ok (.ret (.ref (n+3)))) (fun h D=>?_)
  refine H h _ (n+3) (n+2) D.keeps ⟨c1,c2,k2,v2,r2,D.xK 1,D.xK 2⟩ (by kst_all) (by kst_all)
   ⟨n+8,n+9,n+11,n+1,n+10,c2,t+7,t+9,t+13,t+16,t+18,t+20,k2,lamFd (jL (dAt 16) 0 1) qLamE [] c1 .none,v2,r2,
    D.xK 6,D.xK 11,D.xK 12,D.xK 14,D.xK 4,D.xK 2⟩
   (D.xK 5)
 ·refine gRx hA.hd 105 [4,7,0,7,7,7,7,12,12,12,5,6,0,6,6,6,6,0,6,4,7,0,7,7,7,7,12,12,12,0,4,7,0,7,7,7,7,12,12,12,0,2,0,0,0,4,7,0,7,7,7,7,12,12,12,4] ?_
  kst_p
  refine gdK (.ok (.ret (.ref (n+3)))) (fun h D=>?_)
  refine H h _ (n+3) (n+2) D.keeps ⟨c1,c2,k2,v2,r2,D.xK 1,D.xK 2⟩ (by kst_all) (by kst_all)
   ⟨n+8,n+9,n+11,n+1,n+10,c2,t+7,t+9,t+13,t+16,t+18,t+20,k2,lamFd (jL (dAt 16) 0 1) qLamE [] c1 .none,v2,r2,
    D.xK 6,D.xK 11,D.xK 12,D.xK 14,D.xK 4,D.xK 2⟩
   (D.xK 5)
noncomputable def restOf:Option (Addr×Obj)→List Value
 | some (_,⟨_,_, .fields vs,_⟩)=>vs.toList.drop 2
 | _=>[]
theorem RepX.codeCell {n t:Nat} {o:Bool→Out} (D:RepX w h₀ ex n t W h o) (j:Nat) {q:Str} (e:∀b,(o b).T.get j=some (a,codeO q v0 k (restOf ((o b).T.get j)))):∃rest,h.get? a=some (codeO q v0 k rest):=⟨_,Kn.cell D j (e _)⟩
theorem elem0 {s:Shared} (hA:AOk A 5) (hT:TopIn w.params s.heap)
  (hd:s.heap.get? ad=some (dictO es e)) (hk:SD w.params es) (ha:kg w ad=none) (ht:s.heap.get? 149=some (bT []))
  (hx:lookE es sText=some (.str xT kT)) (hl:lookE es sTail=none)
  (H:∀(h':Heap) tk' el row,Keeps s.heap h' [149]→TabE h'→s.heap.objs.size≤el→s.heap.objs.size≤row→Elem w.params h' el (.str tag tt) ad .none row→h'.get? row=some (listO [.str xT kT] 0)→R (.ok (.ret (.ref el))) ⟨h',s.gens,s.drawn,tk',s.os⟩):
  codeAny (mm w) A (.call (.ref 154) ⟨[.str tag tt, .ref ad],[]⟩) R s:=by
 refine aj _ 1 hT (ag hd (ag ht ah)) (by tbr_iter (apart hd ht)) (by simp;kd_p) (fun n t hn=>?_)
 refine gRx hA.hd 12 [0,0,3,3,3,3] ?_
 kst_p
 refine geK hA (.func (dAt 16).2.1 { fenv (dAt 16) qElem 154 153 n with cells:=[(sRow,n+1)] }) ?_
 refine gRx hA.hd 16 [3,1,1,1,1] ?_
 kst_p
 refine gcK (.call (.builtin "dict.get") ⟨[.ref ad, .str sText (t+2), .str ⟨#[]⟩ (t+3)],[]⟩) (fun h D=>?_)
 refine da (D.cell 0 (x:=dictO es e) (by kd_p)) hk ha ?_
 rw[hx]
 refine ig 4 2 5 (by kd_p) D ?_
 refine gRx hA.hd 135 [0,2,2,2,2,0,0,0,13,13,13,0,13,14,14,0,14,14,14,13,14,14,14,0,14,14,14,13,14,14,14,0,14,14,14,13,14,14,16,4,4,3,3,3,3,12,0,12,12,12,12,12,17,17,17,3,3,12,0,12,12,12,12,17,17,17,3,1,1,1,1] ?_
 kst_p
 refine gcK (.call (.builtin "dict.get") ⟨[.ref ad, .str sTail (t+15)],[]⟩) (fun h D=>?_)
 refine gH (D.cell 0 (x:=dictO es e) (by kd_p)) hk ha ?_
 rw[hl]
 refine ig 17 15 17 (by kd_p) D ?_
 refine gRx hA.hd 118 [3,12,0,12,12,12,12,17,17,17,4,5,0,5,5,5,5,0,5,3,12,0,12,12,12,12,17,17,17,0,3,12,0,12,12,12,12,17,17,17,0,2,2,2,2,0,0,0,3,12,0,12,12,12,12,17,17,17,3] ?_
 kst_p
 refine gdK (.ok (.ret (.ref (n+9)))) (fun h D=>?_)
 kd_adr
 have⟨rc,c22⟩:∃rest,h.get? (n+20)=some (codeO qLamE (.str sLam (t+24)) (t+25) rest):=D.codeCell 22 (by kd_p)
 refine H h _ (n+9) (n+2) D.keeps ⟨n+8,n+20,_,_,_,D.xK 1,c22⟩ (by kst_all) (by kst_all)
   ⟨n+14,n+15,n+21,n+1,n+16,n+20,t+12,t+14,t+18,t+21,t+23,t+31,_,lamFd (jL (dAt 16) 0 1) qLamE [] (n+8) .none,_,_,
    D.xK 11,D.xK 16,D.xK 17,D.xK 23,D.xK 3,c22⟩
   (D.xK 4)
noncomputable def StrVs (L:List Value) (xs:List (List Nat)):Prop:=L.length=xs.length∧∀(i:Nat) (x:List Nat),xs[i]? = some x→∃t:Tok,L[i]? = some (Value.str ⟨⟨x⟩⟩ t)
noncomputable def KidsAt (h:Heap) (L:List Value) (xs:List (List Nat)):Prop:=L.length=xs.length∧∀(i:Nat) (x:List Nat),xs[i]? = some x→∃b Lb eb,L[i]? = some (Value.ref b)∧h.get? b=some (listO Lb eb)∧IntVs Lb x
theorem KidsAt.keep {L:List Value} {xs:List (List Nat)} (K:Keeps h h' []) (H:KidsAt h L xs):KidsAt h' L xs:=
 ⟨H.1,fun i x e=>let ⟨b,Lb,eb,e1,e2,e3⟩:=H.2 i x e;⟨b,Lb,eb,e1,K.kp e2,e3⟩⟩
theorem Keeps.fresh (K:Keeps h h' []) (K':Keeps h' h'' ex) (hf:∀a∈ex,h.get? a=none):Keeps h h'' []:=
 ⟨fun b o e _=>K'.keep b o (K.keep b o e (by kd_mem)) (fun m=>by rw[hf b m] at e;cases e),Nat.le_trans K.size K'.size⟩
theorem neF (e:h.get? a=some o) (f:h.get? b=none):a≠b:=fun q=>by rw[q,f] at e;cases e
theorem StrVs.push {L:List Value} {xs:List (List Nat)} (H:StrVs L xs) (x:List Nat) (t:Tok):StrVs (L++[.str ⟨⟨x⟩⟩ t]) (xs++[x]):=by
 refine⟨by simp[H.1],fun i y e=>?_⟩
 rw[List.getElem?_append] at e ⊢
 rw[←H.1] at e
 split at e
 ·rename_i hi;rw[if_pos hi];exact H.2 i y e
 ·rename_i hi
  rw[if_neg hi]
  have:i - L.length=0:=by
   cases q:i - L.length with
   | zero=>rfl
   | succ j=>rw[q] at e;simp at e
  rw[this] at e ⊢
  simp at e;subst e
  exact⟨t,rfl⟩
noncomputable def retOf (x:Arguments×List Stmt×Scope) (k:Nat):Expr:=match x.2.1[k]? with
 | some (.Return (some e) _)=>e
 | _=>default
noncomputable def arg0:Expr→Expr
 | .Call _ (e :: _) _ _=>e
 | _=>default
noncomputable def binR:Expr→Expr
 | .BinOp _ _ e _=>e
 | _=>default
noncomputable def bF:Expr→Scope
 | .ListComp _ _ sc _=>sc
 | _=>default
noncomputable def cG (sc f:Scope):Scope:={ sc with names:=sc.names.map fun (n,k)=>if k == .free && f.kind == .function && (f.names.lookup n) == some .cell then (n, .cell) else (n,k) }
theorem AOk.subN {o:Bool→Out} {b0:Bool} (h:AOk A k) (hh:∀b,bn (o b).κ=none) (c:Nat) (e:∀b,(Nat.ble (dep (o b).κ) c && Nat.ble (uni (o b).κ) (20*c))=true) (hc:c+k'≤k):AOk ((ar A (o b0).κ).mark none) k':=by
 have hh:=hh b0
 have e:=e b0
 generalize (o b0).κ=κ at hh e ⊢
 kd_adr
 obtain⟨e1,e2⟩:=Bool.and_eq_true_iff.mp e
 have e1:=Nat.le_of_ble_eq_true e1
 have e2:=Nat.le_of_ble_eq_true e2
 refine⟨?_,?_,?_⟩
 ·show Option.or none (ar A κ).handled=none
  rw[bj h.hd,hh];rfl
 ·show (ar A κ).depth+k'<_
  rw[dC,Nat.add_assoc];exact kl22 (Nat.le_trans (Nat.add_le_add_right e1 _) hc) h.dp
 ·show (ar A κ).units+20*k'<_
  rw[f8,Nat.add_assoc];exact kl22 (Nat.le_trans (Nat.add_le_add_right e2 _) (by rw[←Nat.mul_add];exact Nat.mul_le_mul_left 20 hc)) h.un
theorem AOk.subB {o:Bool→Out} (h:AOk A k) (c:Nat) (hh:∀b,bn (o b).κ=none:=by kd_p) (e:∀b,(Nat.ble (dep (o b).κ) c && Nat.ble (uni (o b).κ) (20*c))=true:=by kd_p) (hc:c+k'≤k:=by first | exact Nat.le_of_ble_eq_true rfl | omega):AOk ((ar A (o b0).κ).mark none) k':=h.subN hh c e hc
theorem ir {o:Bool→Out} (hA:AOk A k) (c:Nat) (e:∀b,Nat.ble (dep (o b).κ) c=true) (hc:c≤k):(ar A (o b0).κ).depth<recursionLimit:=by
 have e:=e b0
 rw[dC];exact kl22 (Nat.le_trans (Nat.le_of_ble_eq_true e) hc) hA.dp
theorem StrVs.nil:StrVs [] []:=⟨rfl,fun i x e=>by simp at e⟩
noncomputable def iR:Expr→Bool
 | .ListComp _ (⟨_,_,_,a⟩ :: _) _ _=>a == 0
 | _=>false
theorem aM {s:Shared} {e:Expr} {acc:Value} (he:iR e=true) (hI:s.heap.get? it=some (av l k 0))
  (h:codeAny (mm w) A (.compLoop e 0 (.ref it) acc env) R s):codeAny (mm w) A (.compStart e 0 (.ref it) acc env) R s:=by
 unfold iR at he
 split at he
 ·have he:=eq_of_beq he
  subst he
  exact codeAny_compStart_list h (wpAny_pyIter_listiter ⟨_,hI,rfl,rfl⟩ h)
 ·cases he
theorem StrVs.values {L:List Value}:∀{xs:List (List Nat)},StrVs L xs→∃l:List (Str×Tok),L=strValues l∧l.map (·.1)=xs.map fun x=>(⟨⟨x⟩⟩:Str):=by
 induction L with
 | nil=>
  intro xs H
  have:xs=[]:=List.length_eq_zero_iff.mp H.1.symm
  subst this
  exact⟨[],rfl,rfl⟩
 | cons v L ih=>
  intro xs H
  cases xs with
  | nil=>have:=H.1;simp at this
  | cons x xs=>
   obtain⟨t,e⟩:=H.2 0 x rfl
   simp at e
   kd_adr
   obtain⟨l,e1,e2⟩:=ih (xs:=xs) ⟨by have:=H.1;simpa using this,fun i y h=>by have:=H.2 (i+1) y (by tbr_iter h);simpa using this⟩
   exact⟨(⟨⟨x⟩⟩,t) :: l,by rw[e,e1];rfl,by simp[e2]⟩
theorem jS (xs:List (List Nat)):Builtin.Str.glued ⟨⟨[]⟩⟩ (xs.map fun x=>(⟨⟨x⟩⟩:Str))=⟨⟨xs.flatten⟩⟩:=by
 have F:∀(xs:List (List Nat)) (a:List Nat),((xs.map fun x=>(⟨⟨x⟩⟩:Str)).foldl (fun acc p=>acc++(⟨⟨[]⟩⟩:Str).cps++p.cps) (⟨a⟩:Array Nat))=⟨a++xs.flatten⟩:=by
  intro xs
  induction xs with
  | nil=>intro a;simp
  | cons x xs ih=>
   intro a
   have e:(⟨a⟩:Array Nat)++(⟨⟨[]⟩⟩:Str).cps++(⟨⟨x⟩⟩:Str).cps=⟨a++x⟩:=by simp
   simp only[List.map_cons,List.foldl_cons]
   rw[e,ih]
   simp
 unfold Builtin.Str.glued
 cases xs with
 | nil=>rfl
 | cons x xs=>
  simp only[List.map_cons,List.drop_succ_cons,List.drop_zero,List.headD_cons]
  rw[F xs x]
  simp
theorem mF (l:List (Str×Tok)):∀(n:Nat),(l.map (·.1)).foldl (fun (n:Nat) (s:Str)=>n+s.length+(⟨⟨[]⟩⟩:Str).length) n=n+((l.map (·.1)).map fun s=>s.cps.toList.length).sum:=by
 induction l with
 | nil=>intro n;simp
 | cons p l ih=>
  intro n
  simp only[List.map_cons,List.foldl_cons,ih,List.sum_cons]
  have:p.1.length=p.1.cps.toList.length:=by show p.1.cps.size=_;simp
  rw[this]
  show n+p.1.cps.toList.length+0+_=_
  omega
theorem iD {s:Shared} {t e:Nat} {L:List Value} {xs:List (List Nat)} (hl:s.heap.get? a=some (listO L e)) (hS:StrVs L xs) (hlen:xs.flatten.length≤1000)
  (H:∀tok tk',R (.ok (.ret (.str ⟨⟨xs.flatten⟩⟩ tok))) { s with toks:=tk' }):codeAny (mm w) A (.call (.builtin "str.join") ⟨[.str ⟨⟨[]⟩⟩ t, .ref a],[]⟩) R s:=by
 kd_adr
 obtain⟨l,rfl,e2⟩:=hS.values
 have hg:Builtin.Str.glued ⟨⟨[]⟩⟩ (l.map (·.1))=⟨⟨xs.flatten⟩⟩:=by rw[e2];exact jS xs
 have hsz:((l.map (·.1)).map fun s=>s.cps.toList.length).sum=xs.flatten.length:=by
  rw[e2];simp[List.length_flatten,Function.comp_def]
 have htl:Builtin.Str.tooLong ((l.map (·.1)).toArray.foldl (· + ·.length+(⟨⟨[]⟩⟩:Str).length) 0)=false:=by
  rw[List.foldl_toArray,mF,hsz]
  unfold Builtin.Str.tooLong
  exact decide_eq_false (by rw[show sizeLine=2^24 from rfl];kst_all)
 refine aI F.slot_str_join (typeIs_str _ _ _) F.entry_str_join (F.args_str_join_2 _ _) ((meets_str_join_list ⟨⟨[]⟩⟩ t a l htl).inModel _ _) ⟨⟨_,hl,rfl,_,rfl⟩,?_⟩
 unfold joinMade
 split
 ·rename_i p
  have:p.1=⟨⟨xs.flatten⟩⟩:=by
   rw[←hg];rfl
  show R (.ok (.ret (.str p.1 p.2))) s
  rw[this]
  exact H p.2 s.toks
 ·refine⟨?_,?_⟩
  ·rw[hg];show (xs.flatten.toArray).size≤_;simp only[List.size_toArray];rw[show sizeLine=2^24 from rfl];kst_all
  ·rw[hg];exact H _ _
theorem dD {s:Shared} {t:Nat} (hlen:(x++y).length≤1000)
  (H:∀tok tk',R (.ok (.ret (.str ⟨⟨x++y⟩⟩ tok))) { s with toks:=tk' }):codeAny (mm w) A (.call (.builtin "str.__add__") ⟨[.str ⟨⟨x⟩⟩ t, .str ⟨⟨y⟩⟩ u],[]⟩) R s:=by
 refine aG F.slot_str_add (typeIs_str _ _ _) F.entry_str_add (F.args_str_add_2 _ _) (gives_str_add ⟨⟨x⟩⟩ ⟨⟨y⟩⟩ t u) ?_
 split
 ·rename_i h
  have:x=[]:=List.length_eq_zero_iff.mp (by simpa [Str.length] using h)
  subst this
  exact H u s.toks
 ·split
  ·rename_i h
   have:y=[]:=List.length_eq_zero_iff.mp (by simpa [Str.length] using h)
   subst this
   have:=H t s.toks
   rw[List.append_nil] at this
   exact this
  ·refine⟨?_,?_⟩
   ·show ((⟨x⟩:Array Nat)++(⟨y⟩:Array Nat)).size≤_
    simp only[Array.size_append,List.size_toArray]
    rw[show sizeLine=2^24 from rfl]
    simp at hlen;kst_all
   ·have e:(⟨⟨x⟩⟩:Str)++(⟨⟨y⟩⟩:Str)=⟨⟨x++y⟩⟩:=by
     show (⟨(⟨x⟩:Array Nat)++(⟨y⟩:Array Nat)⟩:Str)=_
     simp
    rw[e];exact H _ _
open PySem.Builtin._codecs
theorem mO {β:Type} (f:Nat→β→Sem (ForInStep β)) (k:Nat) (b b':β) (h1:f 0 b=pure (.yield b')) (h2:∀j,f j b'=pure (.done b')):forIn (List.range' 0 (k+1) 1) b f=pure b':=by
 rw[List.range'_succ,List.forIn_cons,h1]
 show (forIn (List.range' (0+1) k 1) b' f:Sem β)=_
 cases k with
 | zero=>rfl
 | succ k=>rw[List.range'_succ,List.forIn_cons,h2];rfl
theorem mP {β:Type} {n:Nat} (hn:n=k+1) (f:Nat→β→Sem (ForInStep β)) (b b':β) (h1:f 0 b=pure (.yield b')) (h2:∀j,f j b'=pure (.done b')):forIn [:n] b f=pure b':=by
 rw[Std.Legacy.Range.forIn_eq_forIn_range']
 rw[show ([:n]:Std.Legacy.Range).size=k+1 by simp[Std.Legacy.Range.size,hn]]
 exact mO f k b b' h1 h2
noncomputable def encA (x:List Nat):Array UInt8:=(x.map fun c=>c.toUInt8).toArray
theorem iZ:∀(x:List Nat),(∀c∈x,c<128)→∀(a:Array UInt8),x.foldl (fun acc y=>acc++(utf8Codec.bytesOf y).toArray) a=a++encA x
 | [],_,a=>by simp[encA]
 | c :: x,h,a=>by
  have hc:=h c (by kd_mem)
  rw[List.foldl_cons,iZ x (fun d hd=>h d (by first | kd_facts | simp[hd]))]
  have:utf8Codec.bytesOf c=[c.toUInt8]:=by
   show Str.utf8Of c=_
   unfold Str.utf8Of
   rw[if_pos (by kst_all)]
  rw[this]
  simp[encA]
theorem jV (x:List Nat) (id:String) (self:Value) (ha:Ascii x) (hl:x.length≤1000):encodeNarrow id utf8Codec none self ⟨⟨x⟩⟩=pure (encA x):=by
 unfold encodeNarrow
 cases x with
 | nil=>
  refine (congrArg (· >>= _) (Std.Legacy.Range.forIn_eq_forIn_range' _ _ _)).trans ?_
  rfl
 | cons c cs=>
 have hn:(⟨⟨c :: cs⟩⟩:Str).length=cs.length+1:=by show (⟨c :: cs⟩:Array Nat).size=_;simp
 have hbad:∀d∈c :: cs,utf8Codec.bad d=false:=by
  intro d hd
  have:=ha d hd
  show Str.isSurrogate d=false
  unfold Str.isSurrogate
  rw[Bool.and_eq_false_iff]
  exact .inl (decide_eq_false (by kst_all))
 have hfind:Array.findIdx? utf8Codec.bad (⟨c :: cs⟩:Array Nat)=none:=by
  rw[Array.findIdx?_eq_none_iff]
  intro d hd
  simpa using hbad d (by tbr_iter hd)
 refine (congrArg (· >>= _) (mP hn _ _ (cs.length+1,encA (c :: cs),{}) ?h1 ?h2)).trans ?_
 case h1=>
  have e0:¬((#[]:Array UInt8).size>sizeLine):=by decide
  have e1:(⟨c :: cs⟩:Array Nat)[0]? = some c:=by simp
  have e2:utf8Codec.bad c=false:=hbad c (by kd_mem)
  have e3:(⟨c :: cs⟩:Array Nat).extract 0=⟨c :: cs⟩:=by simp
  refine (if_neg e0).trans ?_
  dsimp only
  rw[e1]
  refine (if_pos (by rw[e2];rfl)).trans ?_
  have e4:(⟨c :: cs⟩:Array Nat).extract 0 (⟨c :: cs⟩:Array Nat).size=⟨c :: cs⟩:=by simp
  simp only[e4,hfind,Option.getD_none]
  have e5:Array.foldl (fun acc y=>acc++(utf8Codec.bytesOf y).toArray) #[] (⟨c :: cs⟩:Array Nat)=encA (c :: cs):=by
   have:=iZ (c :: cs) ha #[]
   simpa using this
  rw[e5]
  simp
 case h2=>
  intro j
  have e0:¬((encA (c :: cs)).size>sizeLine):=by
   rw[show sizeLine=2^24 from rfl];simp[encA] at hl ⊢;kst_all
  have e1:(⟨c :: cs⟩:Array Nat)[cs.length+1]? = none:=by simp
  refine (if_neg e0).trans ?_
  dsimp only
  rw[e1]
 rfl
theorem dO {s:Shared} {t:Nat} (ha:Ascii x) (hl:x.length≤1000)
  (H:R (.ok (.ret (.bytes (encA x) s.toks))) { s with toks:=s.toks+1 }):codeAny (mm w) A (.call (.builtin "str.encode") ⟨[.str ⟨⟨x⟩⟩ t],[]⟩) R s:=by
 have g:Gives (Builtin.«str.encode» ⟨[.str ⟨⟨x⟩⟩ t],[]⟩) (.bytes (encA x)):=by
  refine .of_eq ?_
  rw[encode_tree,encodeRoad_utf8,jV x _ _ ha hl]
  rfl
 refine aG F.slot_str_encode (typeIs_str _ _ _) F.entry_str_encode (F.args_str_encode_1 _) g ⟨?_,H⟩
 rw[show sizeLine=2^24 from rfl];simp[encA];kst_all
@[reducible] noncomputable def lE (b:Array UInt8) (u k t:Nat):Obj:=⟨.type "bytes_iterator",none, .fields #[.bytes b u, .int (.ofNat k) t], #[]⟩
theorem ku {s:Shared} {b:Array UInt8} {c:UInt8} {Q:Option Value→Shared→Prop} (hit:s.heap.get? it=some (lE b u k 0)) (hx:b[k]? = some c)
  (hQ:Q (some (.int (c.toNat:Int) s.toks)) { s with heap:=s.heap.update it (Obj.mapFields (·.setIfInBounds 1 (rawInt ((k:Int)+1)))),toks:=s.toks+1 }):wpAny (mm w) A (pyNext (.ref it)) Q E s:=by
 have hT:s.TypeIs (.ref it) "bytes_iterator" :=⟨_,hit,rfl⟩
 unfold pyNext
 refine wpAny_bind (wpAny_attempt (wpAny_callSpecial?_slot (name:=PySem.Str.ofString "__next__") hT PySem.W.KBw.slot_next
  (wpAny_call_entry PySem.W.KBw.slot_next hT PySem.W.KBw.entry_next ?_ (PySem.W.KBw.args_next _))))
 show wpAny _ _ (field (.ref it) 0 >>= _) _ _ s
 refine wpAny_bind (wpAny_field hit rfl (x:= .bytes b u) rfl ?_)
 show wpAny _ _ (if (Value.bytes b u == Value.none)=true then _ else _) _ _ s
 rw[if_neg (show ¬((Value.bytes b u == Value.none)=true) from Bool.false_ne_true)]
 show wpAny _ _ (field (.ref it) 1 >>= _) _ _ s
 refine wpAny_bind (wpAny_field hit rfl (x:= .int (.ofNat k) 0) rfl ?_)
 refine wpAny_bind (wpAny_of_eq (a:=b) rfl ?_)
 simp only[Int.ofNat_eq_natCast,Int.toNat_natCast,hx]
 exact wpAny_bind (wpAny_setField hit rfl (by kd_mem) (wpAny_bind (wpAny_mkInt (wpAny_pure ⟨_,rfl,wpAny_pure hQ⟩))))
theorem nk {s:Shared} {b:Array UInt8} {Q:Option Value→Shared→Prop} (hh:A.handled=none) (hit:s.heap.get? it=some (lE b u k 0)) (hx:b[k]? = none)
  (hQ:∀o1 o2,Q none { s with heap:=((s.heap.update it (Obj.mapFields (·.setIfInBounds 0 .none))).push o1).push o2 }):wpAny (mm w) A (pyNext (.ref it)) Q E s:=by
 have hT:s.TypeIs (.ref it) "bytes_iterator" :=⟨_,hit,rfl⟩
 unfold pyNext
 refine wpAny_bind (wpAny_attempt (wpAny_callSpecial?_slot (name:=PySem.Str.ofString "__next__") hT PySem.W.KBw.slot_next
  (wpAny_call_entry PySem.W.KBw.slot_next hT PySem.W.KBw.entry_next ?_ (PySem.W.KBw.args_next _))))
 show wpAny _ _ (field (.ref it) 0 >>= _) _ _ s
 refine wpAny_bind (wpAny_field hit rfl (x:= .bytes b u) rfl ?_)
 show wpAny _ _ (if (Value.bytes b u == Value.none)=true then _ else _) _ _ s
 rw[if_neg (show ¬((Value.bytes b u == Value.none)=true) from Bool.false_ne_true)]
 show wpAny _ _ (field (.ref it) 1 >>= _) _ _ s
 refine wpAny_bind (wpAny_field hit rfl (x:= .int (.ofNat k) 0) rfl ?_)
 refine wpAny_bind (wpAny_of_eq (a:=b) rfl ?_)
 simp only[Int.ofNat_eq_natCast,Int.toNat_natCast,hx]
 refine wpAny_bind (wpAny_rule (wpAny_bind (wpAny_setField hit rfl (by kd_mem) ?_)))
 show wpAny _ _ (newExc (.type "StopIteration") [] >>= _) _ _ _
 refine wpAny_bind ?_
 simp only[newExc,newTuple]
 refine wpAny_bind (wpAny_newObj_type ?_ (by size_fits))
 refine wpAny_bind (m:=firstArgMember _ _) (wpAny_of_eq (a:=Value.none) (by first | rfl | (simp only[firstArgMember];rfl)) ?_)
 refine wpAny_newObj_type ?_ (by size_fits)
 simp only[raiseNew]
 refine wpAny_bind (wpAny_handled ?_)
 rw[show A.in1.handled=none from hh]
 refine wpAny_bind (wpAny_pure (wpAny_throw ?_))
 refine wpAny_bind (wpAny_isInstance (T:= "StopIteration") (b:=true) ⟨_,Heap.get?_push_size _ rfl,rfl⟩ isSubtype_stop ?_)
 exact wpAny_pure (hQ _ _)
section
variable {w:World} {M:Me} {h₀:Heap} {ex:List Addr} {n t t' W:Nat} {h h':Heap} {T:ST} {nn m:Nat} {o:Bool→Out} {r:Result}
theorem Kn.after (D:Kn w h₀ ex n t W h T nn m) (K:Keeps h h' []):Kn w h₀ ex h'.objs.size t' W h' T nn 0:=fun M=>have D:=D M
 ⟨rfl,fun j a o e=>⟨(D.own j a o e).1,K.kp (D.own j a o e).2⟩,D.ne,fun a o e=>K.kp (D.kt a o e),D.kn,fun b o e hb=>K.kp (D.keep b o e hb),D.exok,Nat.le_trans D.grow K.size⟩
theorem dR (D:RepX w h₀ ex n t W h o) (K:Keeps h h' []) (G:∀n',h'.objs.size=n'→aT w M h₀ ex n' t' W (pK o r)):AtM w M (o (bit w)).κ (bi (o (bit w)).t r) ⟨h',M.g,M.d,t',M.os⟩:=
 atm (p:=pK o r) rfl (Kn.after D K) (G _ rfl)
theorem Kn.after1 (D:Kn w h₀ ex n t W h T nn m) (j:Nat) {o:Obj} (hw:W≤j) (e:T.get j=some (a,o)) (K:Keeps h h' [a]) (e':h'.get? a=some o'):
  Kn w h₀ ex h'.objs.size t' W h' (T.set j fun _=>o') nn 0:=by
 exact fun M=>(D M).chg hw e rfl K.size e' fun c p ne q=>K.kq q (by tbr_iter ne)
theorem ii (j:Nat) {x x':Obj} (D:RepX w h₀ ex n t W h o) (hw:Nat.ble W j=true) (e:∀b,(o b).T.get j=some (a,x)) (K:Keeps h h' [a]) (e':h'.get? a=some x')
  (G:∀n',h'.objs.size=n'→aT w M h₀ ex n' t' W (p1 o r j x')):AtM w M (o (bit w)).κ (bi (o (bit w)).t r) ⟨h',M.g,M.d,t',M.os⟩:=
 atm (p:=p1 o r j x') rfl (Kn.after1 D j (Nat.le_of_ble_eq_true hw) (e _) K e') (G _ rfl)
end
theorem Keeps.push {h:Heap} (o:Obj):Keeps h (h.push o) []:=⟨fun b p e _=>Heap.get?_push_of_some _ e,by rw[Heap.size_push];kst_all⟩
theorem Keeps.update {h:Heap} {a:Addr} (f:Obj→Obj):Keeps h (h.update a f) [a]:=
 ⟨fun b p e hb=>(Heap.get?_update_other h f (fun q=>hb (by first | kd_facts | simp[q]))).trans e,by rw[(Heap.SameBut.update (f:=f) ..).1];kst_all⟩
theorem o4 {u:Nat} {b:Array UInt8} (hli:l≠it):∀(bs:List UInt8) {A:Around} {R:Result→Shared→Prop} {s:Shared} {k e:Nat} {L:List Value} (hh:A.handled=none)
  (hit:s.heap.get? it=some (lE b u k 0)) (hl:s.heap.get? l=some (listO L e)) (hk:b.toList.drop k=bs) (hn:L.length+bs.length≤100000)
  (H:∀(h':Heap) tk' L' e',Keeps s.heap h' [l,it]→h'.get? l=some (listO (L++L') e')→IntVs L' (bs.map UInt8.toNat)→R (.ok (.ret .none)) ⟨h',s.gens,s.drawn,tk',s.os⟩),
  codeAny (mm w) A (.builtin "list.extend.loop" ⟨[.ref l, .ref it, .none],[]⟩) R s:=by
 intro bs
 induction bs with
 | nil=>
  intro A R s k e L hh hit hl hk hn H
  refine codeAny_builtin F.entry_extend_loop ?_
  rw[Around.under_plainId F.plain_extend_loop _]
  show wpAny _ A.in1 (pyNext (.ref it) >>= _) _ _ s
  have hx:b[k]? = none:=by
   rw[←Array.getElem?_toList]
   rw[←List.head?_drop,hk];rfl
  refine wpAny_bind (nk hh hit hx fun o1 o2=>wpAny_pure ?_)
  have K:Keeps s.heap (((s.heap.update it (Obj.mapFields (·.setIfInBounds 0 .none))).push o1).push o2) [it]:=
   ((Keeps.update _).trans ((Keeps.push o1).trans (Keeps.push o2))).mono (by kd_mem)
  exact H _ _ [] e (K.mono (by kd_mem)) (by rw[List.append_nil];exact K.kq hl (by tbr_iter hli)) ⟨rfl,fun i x q=>by simp at q⟩
 | cons c bs ih=>
  intro A R s k e L hh hit hl hk hn H
  refine codeAny_builtin F.entry_extend_loop ?_
  rw[Around.under_plainId F.plain_extend_loop _]
  show wpAny _ A.in1 (pyNext (.ref it) >>= _) _ _ s
  have hx:b[k]? = some c:=by
   rw[←Array.getElem?_toList]
   rw[←List.head?_drop,hk];rfl
  have hk':b.toList.drop (k+1)=bs:=by rw[←List.tail_drop,hk];rfl
  refine wpAny_bind (ku hit hx ?_)
  have K1:Keeps s.heap (s.heap.update it (Obj.mapFields (·.setIfInBounds 1 (rawInt ((k:Int)+1))))) [it]:=Keeps.update _
  have hl1:=K1.kq hl (by tbr_iter hli)
  have hit1:(s.heap.update it (Obj.mapFields (·.setIfInBounds 1 (rawInt ((k:Int)+1))))).get? it=some (lE b u (k+1) 0):=Heap.get?_update_self _ hit rfl
  show wpAny _ A.in1 (updateSeq l (·.push _) >>= _) _ _ _
  refine wpAny_bind ?_
  have hz:(L.toArray).size≤sizeLine:=by rw[show sizeLine=2^24 from rfl];simp at hn ⊢;kst_all
  have hz':(L.toArray.push (Value.int (c.toNat:Int) s.toks)).size≤sizeLine+1:=by rw[show sizeLine=2^24 from rfl];simp at hn ⊢;kst_all
  refine wpAny_updateSeq hl1 rfl (wpAny_pure ⟨plainId_quiet F.plain_extend_loop _,?_⟩) hz hz'
  have K2:=Keeps.update (h:=s.heap.update it (Obj.mapFields (·.setIfInBounds 1 (rawInt ((k:Int)+1))))) (a:=l) (Obj.mapSeq (·.push (Value.int (c.toNat:Int) s.toks)))
  have hl2:((s.heap.update it (Obj.mapFields (·.setIfInBounds 1 (rawInt ((k:Int)+1))))).update l (Obj.mapSeq (·.push (Value.int (c.toNat:Int) s.toks)))).get? l=some (listO (L++[Value.int (c.toNat:Int) s.toks]) (e+1)):=by
   rw[Heap.get?_update_self _ hl1 rfl]
   simp[Obj.mapSeq]
  refine ih hh (K2.kq hit1 (by tbr_iter hli.symm)) hl2 hk' (by simp at hn ⊢;kst_all) (fun h' tk' L' e' K hL hI=>?_)
  refine H h' tk' (Value.int (c.toNat:Int) s.toks :: L') e' (((K1.trans K2).trans K).mono (by kd_mem)) (by tbr_iter hL) ⟨by simp[hI.1],fun i x q=>?_⟩
  cases i with
  | zero=>simp at q;subst q;exact⟨_,rfl⟩
  | succ i=>simp at q ⊢;exact hI.2 i x (by tbr_iter q)
theorem ifN {α:Type} {Q:α→Shared→Prop} {s:Shared} {c:Prop} [Decidable c] {a b:Sem α} (h:¬c) (H:wpAny M A b Q E s):wpAny M A (ite c a b) Q E s:=by rw[if_neg h];exact H
theorem mR {s:Shared} {b:Array UInt8} {L:List Value} (hh:A.handled=none) (hl:s.heap.get? l=some (listO L e)) (hn:L.length+b.toList.length≤100000)
  (H:∀(h':Heap) tk' L' e',Keeps s.heap h' [l]→h'.get? l=some (listO (L++L') e')→IntVs L' (b.toList.map UInt8.toNat)→R (.ok (.ret .none)) ⟨h',s.gens,s.drawn,tk',s.os⟩):
  codeAny (mm w) A (.call (.builtin "list.extend") ⟨[.ref l, .bytes b u],[]⟩) R s:=by
 have hT:s.TypeIs (.ref l) "list" :=⟨_,hl,rfl⟩
 refine codeAny_call_builtin F.slot_list_extend.plain F.entry_list_extend (F.slot_list_extend.check _ _ _ _ _ _ _ _ hT (F.args_list_extend_2 _ _) ?_)
 show wpAny _ A.in1 (Builtin.List.listExtendWith (.ref l) (.bytes b u) .none) _ _ _
 unfold Builtin.List.listExtendWith
 refine wpAny_bind (wpAny_typeOf (typeIs_bytes s b u) ?_)
 refine ifN (c:=(Builtin.List.listSameRef (.ref l) (.bytes b u) || Value.type "bytes" == Value.type "list" || Value.type "bytes" == Value.type "tuple")=true) (fun z=>Bool.false_ne_true (Eq.trans (by kd_p) z)) ?_
 refine wpAny_bind (PySem.W.KBw.pyIter_bytes ?_)
 refine wpAny_bind (wpAny_holding ?_)
 unfold Builtin.List.listLengthHint
 refine wpAny_bind (wpAny_specialOf (typeIs_bytes _ b u) PySem.W.FB.slot_bytes_len.lookup ?_)
 have hsp:splitId "bytes.__len__" = some ("bytes", "__len__"):=by decide +kernel
 have hsub:isSubtype (.type "bytes") (.type "bytes")=pure true:=by rw[isSubtype_type];kd_p
 dsimp only
 rw[hsp]
 dsimp only
 refine wpAny_bind (wpAny_isInstance (T:= "bytes") (b:=true) (typeIs_bytes _ b u) hsub ?_)
 refine wpAny_ite ?_
 rw[if_neg (by decide)]
 refine wpAny_ite ?_
 refine Eq.mpr (if_pos (by decide +kernel)) ?_
 refine wpAny_bind (wpAny_typeOf (typeIs_bytes _ b u) ?_)
 refine wpAny_pure ?_
 refine wpAny_ite ?_
 refine Eq.mpr (if_neg (by decide +kernel)) ?_
 refine wpAny_pure ⟨plainId_quiet F.plain_extend_loop _,?_⟩
 have hli:l≠s.heap.objs.size:=fun q=>by
  have:=Heap.lt_size hl
  rw[q] at this
  exact absurd this (Nat.lt_irrefl _)
 have K:=Keeps.push (h:=s.heap) ⟨.type "bytes_iterator",none, .fields #[.bytes b u, .int 0 0], #[]⟩
 refine o4 (b:=b) (u:=u) (k:=0) hli b.toList hh (Heap.get?_push_size _ rfl) (K.kp hl) rfl hn (fun h' tk' L' e' K' e1 e2=>?_)
 refine H h' tk' L' e' ⟨fun c o e hc=>?_,Nat.le_trans K.size K'.size⟩ e1 e2
 refine K'.keep c o (K.keep c o e (by kd_mem)) ?_
 have hc1:c≠l:=fun q=>hc (by rw[q];exact List.mem_cons_self)
 intro m
 rcases List.mem_cons.mp m with q | m
 ·exact hc1 q
 ·rcases List.mem_cons.mp m with q | m
  ·have:=Heap.lt_size e
   rw[q] at this
   exact absurd this (Nat.lt_irrefl _)
  ·cases m
noncomputable def fN:Str:=⟨#[95,108,97,119,95,115,117,109,46,60,108,111,99,97,108,115,62,46]⟩
noncomputable def b9:Nat→List Nat→Nat
 | r,[]=>r
 | r,o :: os=>b9 (cT 8 (r^^^o)) os
theorem f6 {x:Nat} (h:x<2^32):crcStep x<2^32:=by
 unfold crcStep
 have:x>>>1<2^32:=by rw[Nat.shiftRight_eq_div_pow];kst_all
 split
 ·exact this
 ·exact Nat.xor_lt_two_pow this (by decide)
theorem iu:∀(k:Nat) {x:Nat},x<2^32→cT k x<2^32
 | 0,_,h=>h
 | k+1,_,h=>iu k (f6 h)
theorem oe {r o:Nat} (h:r<2^32) (ho:o<2^32):cT 8 (r^^^o)<2^32:=iu 8 (Nat.xor_lt_two_pow h ho)
theorem shr32 {r:Nat} (h:r<2^32):r>>>32=0:=by rw[Nat.shiftRight_eq_div_pow];kst_all
noncomputable def bA (r:Nat):Nat→Nat→Nat→Nat
 | 0,_,p=>p
 | k+1,place,p=>bA r k (place+1) (2*p+((r>>>place&&&1)^^^1))
theorem pt (x:Nat):(x&&&1)^^^1≤1:=by
 have h:x&&&1<2^1:=Nat.and_lt_two_pow x (by decide)
 have:(x&&&1)^^^1<2^1:=Nat.xor_lt_two_pow h (by decide)
 omega
@[reducible] noncomputable def e11 (w:World) (k1 k2 k3 k4:Nat) (v1 v2 v3 v4:Value):List DictEntry:=[ent w.params sOctets k1 v1,ent w.params sReg k2 v2,ent w.params aV k3 v3,ent w.params nV k4 v4]
theorem nH
 (hn:L≠it) (hl:kg w L=none) (hi:kg w it=none) (hV:IntVs Lv xs) (hb:∀x∈xs,x<2^32):
 ∀(rs:List Nat) {A:Around} {R:Result→Shared→Prop} {s:Shared} {k tk r tr:Nat} {v4:Value} (hA:AOk A 8) (hT:TopIn w.params s.heap)
 (hL:s.heap.get? L=some (frame (e11 w k1 k2 k3 k4 (.ref a) (.int (.ofNat r) tr) (.int (.ofNat 0) tp) v4) e))
 (hI:s.heap.get? it=some (av a k tk)) (ha:s.heap.get? a=some (listO Lv ea)) (hr:r<2^32) (hk:xs.drop k=rs)
 (H:∀(h':Heap) tk' tr' v4',Keeps s.heap h' [L,it]→h'.get? L=some (frame (e11 w k1 k2 k3 k4 (.ref a) (.int (.ofNat (b9 r rs)) tr') (.int (.ofNat 0) tp) v4') e)→R (.ok .next) ⟨h',s.gens,s.drawn,tk',s.os⟩),
  codeAny (mm w) A (aU (dAt 20) 1 (.ref it) (fenv (dAt 20) fN 180 179 L)) R s:=by
 intro rs
 induction rs with
 | nil=>
  intro A R s k tk r tr v4 hA hT hL hI ha hr hk H
  have hlen:=hV.fin hk
  refine aj _ 1 hT (ag ha (ag hL (ag hI ah))) ?ne ?kn (fun n t _=>?_)
  case ne=>simp[Dis,hn];exact⟨apart ha hL,apart ha hI⟩
  case kn=>simp[hl,hi]
  refine gPx hA.hd [] 5 [3,18,2,0,0,5] ?_
  intro zM zO
  refine gQx [Lv.length≤k] ⟨by assumption,trivial⟩ ?_
  refine gdK (.ok .next) (fun h D=>?_)
  exact H h _ tr v4 D.keeps (D.xK 1)
 | cons o rs ih=>
  intro A R s k tk r tr v4 hA hT hL hI ha hr hk H
  kd_adr
  obtain⟨⟨to,hitem⟩,hk'⟩:=hV.at hk
  refine aj _ 1 hT (ag ha (ag hL (ag hI ah))) ?ne ?kn (fun n t _=>?_)
  case ne=>simp[Dis,hn];exact⟨apart ha hL,apart ha hI⟩
  case kn=>simp[hl,hi]
  refine gPx hA.hd [Value.int (Int.ofNat o) to] 21 [3,17,2,0,0,2,2,0,2,2,6,0,0,0,0] ?_
  intro zM zO
  refine gQx [Lv[k]? = some (Value.int (Int.ofNat o) to)] ⟨by assumption,trivial⟩ ?_
  refine gcK (.call (.ref 86) ⟨[.int (Int.ofNat (r^^^o)) (t+1)],[]⟩) (fun h D=>?_)
  have c0:=D.cK 0 a (listO Lv ea)
  kd_adr
  have⟨c1,w1⟩:=D.wK 1 L (frame (e11 w k1 k2 k3 k4 (.ref a) (.int (.ofNat r) tr) (.int (.ofNat 0) tp) (.int (.ofNat o) to)) e)
  have⟨c2,w2⟩:=D.wK 2 it (av a (k+1) 0)
  refine lu (hA.sub (by kd_p) (by kd_p)) D.kt (fun h' tk' tok K=>?_)
  refine resume D K ax _ 1 (ag (K.kp c0) (ag (K.kp c1) (ag (K.kp c2) ah))) (by simp[Dis,hn];exact⟨apart ha hL,apart ha hI⟩) (by tbr_iter (ai w1 w2)) (fun n' _=>?_)
  have hr':cT 8 (r^^^o)<2^32:=oe hr (hb o (List.mem_of_mem_drop (i:=k) (by rw[hk];exact List.mem_cons_self)))
  have hs:=shr32 hr'
  refine gPx hA.hd [] 16 [2,2,2,1,0,0,0,14,0,0,0] ?_
  intro zM zO
  refine gQx [cT 8 (r^^^o)>>>32=0] ⟨by assumption,trivial⟩ ?_
  refine gaK (aU (dAt 20) 1 (.ref it) (fenv (dAt 20) fN 180 179 L)) (fun h D=>?_)
  have c0:=D.cK 0 a (listO Lv ea)
  have c1:=D.cK 1 L (frame (e11 w k1 k2 k3 k4 (.ref a) (.int (.ofNat (cT 8 (r^^^o))) tok) (.int (.ofNat 0) tp) (.int (.ofNat o) to)) e)
  have c2:=D.cK 2 it (av a (k+1) 0)
  exact ih hA D.kt c1 c2 c0 hr' hk' (fun h' tk' tr' v4' K hh=>H h' tk' tr' v4' ((D.keeps.trans K).mono (by kd_mem)) hh)
@[reducible] noncomputable def e21 (w:World) (k1 k2 k3:Nat) (v1 v2 v3:Value):List DictEntry:=[ent w.params sOctets k1 v1,ent w.params sReg k2 v2,ent w.params aV k3 v3]
theorem lS
 (hn:L≠it) (hl:kg w L=none) (hi:kg w it=none) (hV:IntVs Lv xs) (hb:∀x∈xs,x<2^32)
 (o:Nat) (rs:List Nat) {s:Shared} {r tr:Nat} (hA:AOk A 8) (hT:TopIn w.params s.heap)
 (hL:s.heap.get? L=some (frame (e21 w k1 k2 k3 (.ref a) (.int (.ofNat r) tr) (.int (.ofNat 0) tp)) e))
 (hI:s.heap.get? it=some (av a k tk)) (ha:s.heap.get? a=some (listO Lv ea)) (hr:r<2^32) (hk:xs.drop k=o :: rs)
 (H:∀(h':Heap) tk' tr' k4 v4' e',Keeps s.heap h' [L,it]→h'.get? L=some (frame (e11 w k1 k2 k3 k4 (.ref a) (.int (.ofNat (b9 r (o :: rs))) tr') (.int (.ofNat 0) tp) v4') e')→R (.ok .next) ⟨h',s.gens,s.drawn,tk',s.os⟩):
  codeAny (mm w) A (aU (dAt 20) 1 (.ref it) (fenv (dAt 20) fN 180 179 L)) R s:=by
  kd_adr
  obtain⟨⟨to,hitem⟩,hk'⟩:=hV.at hk
  refine aj _ 1 hT (ag ha (ag hL (ag hI ah))) ?ne ?kn (fun n t _=>?_)
  case ne=>simp[Dis,hn];exact⟨apart ha hL,apart ha hI⟩
  case kn=>simp[hl,hi]
  refine gPx hA.hd [Value.int (Int.ofNat o) to] 21 [3,17,2,0,0,2,2,0,2,2,6,0,0,0,0] ?_
  intro zM zO
  refine gQx [Lv[k]? = some (Value.int (Int.ofNat o) to)] ⟨by assumption,trivial⟩ ?_
  refine gcK (.call (.ref 86) ⟨[.int (Int.ofNat (r^^^o)) (t+1)],[]⟩) (fun h D=>?_)
  have c0:=D.cK 0 a (listO Lv ea)
  kd_adr
  have⟨c1,w1⟩:=D.wK 1 L (frame (e11 w k1 k2 k3 (t+0) (.ref a) (.int (.ofNat r) tr) (.int (.ofNat 0) tp) (.int (.ofNat o) to)) (e+1))
  have⟨c2,w2⟩:=D.wK 2 it (av a (k+1) 0)
  refine lu (hA.sub (by kd_p) (by kd_p)) D.kt (fun h' tk' tok K=>?_)
  refine resume D K ax _ 1 (ag (K.kp c0) (ag (K.kp c1) (ag (K.kp c2) ah))) (by simp[Dis,hn];exact⟨apart ha hL,apart ha hI⟩) (by tbr_iter (ai w1 w2)) (fun n' _=>?_)
  have hr':cT 8 (r^^^o)<2^32:=oe hr (hb o (List.mem_of_mem_drop (i:=k) (by rw[hk];exact List.mem_cons_self)))
  have hs:=shr32 hr'
  refine gPx hA.hd [] 16 [2,2,2,1,0,0,0,14,0,0,0] ?_
  intro zM zO
  refine gQx [cT 8 (r^^^o)>>>32=0] ⟨by assumption,trivial⟩ ?_
  refine gaK (aU (dAt 20) 1 (.ref it) (fenv (dAt 20) fN 180 179 L)) (fun h D=>?_)
  have c0:=D.cK 0 a (listO Lv ea)
  have c1:=D.cK 1 L (frame (e11 w k1 k2 k3 (t+0) (.ref a) (.int (.ofNat (cT 8 (r^^^o))) tok) (.int (.ofNat 0) tp) (.int (.ofNat o) to)) (e+1))
  have c2:=D.cK 2 it (av a (k+1) 0)
  exact nH hn hl hi hV hb rs hA D.kt c1 c2 c0 hr' hk' (fun h' tk' tr' v4' K hh=>H h' tk' tr' _ _ _ ((D.keeps.trans K).mono (by kd_mem)) hh)
@[reducible] noncomputable def e31 (w:World) (k1 k2 k3 k4 k5:Nat) (v1 v2 v3 v4 v5:Value):List DictEntry:=[ent w.params sOctets k1 v1,ent w.params sReg k2 v2,ent w.params aV k3 v3,ent w.params nV k4 v4,ent w.params di k5 v5]
theorem l8 {r tr:Nat}
 (hn:L≠it) (hl:kg w L=none) (hi:kg w it=none):
 ∀(k:Nat) {A:Around} {R:Result→Shared→Prop} {s:Shared} {p tp j tj tk0:Nat} {v5:Value} (hA:AOk A 8) (hT:TopIn w.params s.heap)
 (hL:s.heap.get? L=some (frame (e31 w k1 k2 k3 k4 k5 (.ref a) (.int (.ofNat r) tr) (.int (.ofNat p) tp) v4 v5) e))
 (hI:s.heap.get? it=some (aq (Int.ofNat j) (Int.ofNat k) tj tk0 ts)) (hj:j+k≤32) (hp:p<2^j)
 (H:∀(h':Heap) tk' tp' v5',Keeps s.heap h' [L,it]→h'.get? L=some (frame (e31 w k1 k2 k3 k4 k5 (.ref a) (.int (.ofNat r) tr) (.int (.ofNat (bA r k j p)) tp') v4 v5') e)→R (.ok .next) ⟨h',s.gens,s.drawn,tk',s.os⟩),
  codeAny (mm w) A (aU (dAt 20) 2 (.ref it) (fenv (dAt 20) fN 180 179 L)) R s:=by
 intro k
 induction k with
 | zero=>
  intro A R s p tp j tj tk0 v5 hA hT hL hI hj hp H
  refine aj _ 0 hT (ag hL (ag hI ah)) ?ne ?kn (fun n t _=>?_)
  case ne=>simp[Dis,hn]
  case kn=>simp[hl,hi]
  refine gRx hA.hd 15 [2,0,2,2,2,2,4] ?_
  kst_p
  refine gdK (.ok .next) (fun h D=>?_)
  exact H h _ tp v5 D.keeps (D.xK 0)
 | succ k ih=>
  intro A R s p tp j tj tk0 v5 hA hT hL hI hj hp H
  refine aj _ 0 hT (ag hL (ag hI ah)) ?ne ?kn (fun n t _=>?_)
  case ne=>simp[Dis,hn]
  case kn=>simp[hl,hi]
  have hq:(r>>>j&&&1)^^^1≤1:=pt _
  have hp64:p<2^64:=by
   have:2^j≤2^32:=Nat.pow_le_pow_right (by decide) (by kst_all)
   omega
  refine gPx hA.hd [] 51 [2,0,2,2,2,2,2,2,2,2,1,1,1,2,0,0,0,1,1,1,0,0,0,0,6,0,0,0,7,0,0,0,1,1] ?_
  intro zM zO
  refine gQx [2<2^64∧p<2^64] ⟨by (simp at *;kst_all),trivial⟩ ?_
  refine gaK (aU (dAt 20) 2 (.ref it) (fenv (dAt 20) fN 180 179 L)) (fun h D=>?_)
  have c0:=D.cK 0 L (frame (e31 w k1 k2 k3 k4 k5 (.ref a) (.int (.ofNat r) tr) (.int (.ofNat (2*p+((r>>>j&&&1)^^^1))) (t+9)) v4 (.int (.ofNat j) t)) e)
  have c1:=D.cK 1 it (aq (Int.ofNat (j+1)) (Int.ofNat (k+1) - 1) 0 0 ts)
  rw[ay] at c1
  exact ih hA D.kt c0 c1 (by kst_all) (by rw[Nat.pow_succ];kst_all) (fun h' tk' tp' v5' K hh=>H h' tk' tp' v5' ((D.keeps.trans K).mono (by kd_mem)) hh)
theorem jC {r tr:Nat}
 (hn:L≠it) (hl:kg w L=none) (hi:kg w it=none)
 (k:Nat) {s:Shared} (hA:AOk A 8) (hT:TopIn w.params s.heap)
 (hL:s.heap.get? L=some (frame (e11 w k1 k2 k3 k4 (.ref a) (.int (.ofNat r) tr) (.int (.ofNat p) tp) v4) e))
 (hI:s.heap.get? it=some (aq (Int.ofNat j) (Int.ofNat (k+1)) tj tk0 ts)) (hj:j+(k+1)≤32) (hp:p<2^j)
 (H:∀(h':Heap) tk' tp' k5 v5' e',Keeps s.heap h' [L,it]→h'.get? L=some (frame (e31 w k1 k2 k3 k4 k5 (.ref a) (.int (.ofNat r) tr) (.int (.ofNat (bA r (k+1) j p)) tp') v4 v5') e')→R (.ok .next) ⟨h',s.gens,s.drawn,tk',s.os⟩):
  codeAny (mm w) A (aU (dAt 20) 2 (.ref it) (fenv (dAt 20) fN 180 179 L)) R s:=by
  refine aj _ 0 hT (ag hL (ag hI ah)) ?ne ?kn (fun n t _=>?_)
  case ne=>simp[Dis,hn]
  case kn=>simp[hl,hi]
  have hq:(r>>>j&&&1)^^^1≤1:=pt _
  have hp64:p<2^64:=by
   have:2^j≤2^32:=Nat.pow_le_pow_right (by decide) (by kst_all)
   omega
  refine gPx hA.hd [] 51 [2,0,2,2,2,2,2,2,2,2,1,1,1,2,0,0,0,1,1,1,0,0,0,0,6,0,0,0,7,0,0,0,1,1] ?_
  intro zM zO
  refine gQx [2<2^64∧p<2^64] ⟨by (simp at *;kst_all),trivial⟩ ?_
  refine gaK (aU (dAt 20) 2 (.ref it) (fenv (dAt 20) fN 180 179 L)) (fun h D=>?_)
  have c0:=D.cK 0 L (frame (e31 w k1 k2 k3 k4 (t+1) (.ref a) (.int (.ofNat r) tr) (.int (.ofNat (2*p+((r>>>j&&&1)^^^1))) (t+9)) v4 (.int (.ofNat j) t)) (e+1))
  have c1:=D.cK 1 it (aq (Int.ofNat (j+1)) (Int.ofNat (k+1) - 1) 0 0 ts)
  rw[ay] at c1
  exact l8 hn hl hi k hA D.kt c0 c1 (by kst_all) (by rw[Nat.pow_succ];kst_all) (fun h' tk' tp' v5' K hh=>H h' tk' tp' _ _ _ ((D.keeps.trans K).mono (by kd_mem)) hh)
theorem law_sum {s:Shared} {o:Nat} (hA:AOk A 12) (hT:TopIn w.params s.heap)
 (ha:s.heap.get? a=some (listO Lv ea)) (hV:IntVs Lv (o :: rs)) (hb:∀x∈o :: rs,x<2^32)
 (H:∀(h':Heap) tk' tok,Keeps s.heap h' []→R (.ok (.ret (.int (.ofNat (bA (b9 4294967295 (o :: rs)) 32 0 0)) tok))) ⟨h',s.gens,s.drawn,tk',s.os⟩):
  codeAny (mm w) A (.call (.ref 180) ⟨[.ref a],[]⟩) R s:=by
 refine az _ hT (ag ha ah) (fun n t hn=>?_)
 refine gRx hA.hd 7 [0,0,2,2] ?_
 kst_p
 refine geK hA (.func (dAt 20).2.1 (fenv (dAt 20) fN 180 179 n)) ?_
 refine gRx hA.hd 80 [3,3,3,0,3,4,4,0,4,4,4,3,4,4,4,0,4,4,4,3,4,4,4,0,4,4,4,3,4,4,6,2,2,2,2,2,1,1,0,1,7] ?_
 kst_p
 refine gcK (aU (dAt 20) 1 (.ref (n+5)) (fenv (dAt 20) fN 180 179 n)) (fun h D=>?_)
 have c0:=D.cK 0 a (listO Lv ea)
 kd_adr
 have⟨c1,w1⟩:=D.wK 1 n (frame (e21 w t (t+3) (t+4) (.ref a) (.int (.ofNat 4294967295) (t+1)) (.int (.ofNat 0) (t+2))) 3)
 have⟨c2,w2⟩:=D.wK 6 (n+5) (av a 0 0)
 refine lS (apart c1 c2) w1.kn w2.kn hV hb o rs (hA.sub (by kd_p) (by kd_p)) D.kt c1 c2 c0 (by decide) rfl (fun h' tk' tr' k4 v4' e' K cL=>?_)
 refine resume D K (an w1 (an w2 ax)) _ 0 (ag cL ah) (by kd_subs) (by tbr_iter w1) (fun n' _=>?_)
 refine gRx hA.hd 37 [0,0,0,0,2,2,0,2,2,2,2,0,2,2,2,2,3] ?_
 kst_p
 refine gcK (aU (dAt 20) 2 (.ref (n'+1)) (fenv (dAt 20) fN 180 179 n)) (fun h D=>?_)
 kd_adr
 have⟨c0,w0⟩:=D.wK 0 n (frame (e11 w t (t+3) (t+4) k4 (.ref a) (.int (.ofNat (b9 4294967295 (o :: rs))) tr') (.int (.ofNat 0) (t+2)) v4') e')
 have⟨c2,w2⟩:=D.wK 2 (n'+1) (aq (Int.ofNat 0) (Int.ofNat 32) 0 0 0)
 refine jC (apart c0 c2) w0.kn w2.kn 31 (hA.sub (by kd_p) (by kd_p)) D.kt c0 c2 (by decide) (by decide) (fun h' tk' tp' k5 v5' e' K cL=>?_)
 refine hU D K (an w0 (an w2 ax)) _ (ag cL ah) (fun n' _=>?_)
 refine gRx hA.hd 3 [1] ?_
 kst_p
 refine gdK (.ok (.ret (.int (.ofNat (bA (b9 4294967295 (o :: rs)) 32 0 0)) tp'))) (fun h D=>?_)
 exact H h _ _ D.keeps
noncomputable def bz:Str:=⟨#[95,108,97,119,95,97,108,111,110,103,46,60,108,111,99,97,108,115,62,46]⟩
noncomputable def forOf (l:List Stmt) (k:Nat):Expr×List Stmt×List Stmt:=match l[k]? with
 | some (.For t _ b o _)=>(t,b,o)
 | _=>default
@[reducible] noncomputable def gl (f:Expr×List Stmt×List Stmt) (it:Value) (env:Env):Code:= .forLoop f.1 it f.2.1 f.2.2 env
noncomputable def fw:Expr×List Stmt×List Stmt:=forOf (cq (dAt 21) 0).2.1 0
noncomputable def bH (p b:Nat):Nat:=if (2*(p^^^(b<<<31)))>>>32=0 then 2*(p^^^(b<<<31)) else (2*(p^^^(b<<<31)))^^^4374732215
noncomputable def alB (c:Nat):Nat→Nat→Nat→Nat
 | 0,_,p=>p
 | k+1,j,p=>alB c k (j+1) (bH p (c>>>j&&&1))
noncomputable def al:Nat→List Nat→Nat
 | p,[]=>p
 | p,c :: cs=>al (alB c 8 0 p) cs
theorem nO (h:b<2):b<<<31<2^32:=by rw[Nat.shiftLeft_eq];kst_all
theorem ix {b c:Nat} (h:p<2^32):(p^^^((b>>>c&&&1)<<<31))<2^32:=by
 have hb:(b>>>c&&&1)<2^1:=Nat.and_lt_two_pow _ (by decide)
 exact Nat.xor_lt_two_pow h (nO (by kst_all))
theorem xor_top (h:q<2^33) (hq:¬q>>>32=0):q^^^4374732215<2^32:=by
 have h0:q^^^4374732215<2^33:=Nat.xor_lt_two_pow h (by decide)
 have ht:(q^^^4374732215).testBit 32=false:=by
  rw[Nat.testBit_xor]
  have:q.testBit 32=true:=by
   rw[Nat.shiftRight_eq_div_pow] at hq
   rw[Nat.testBit_eq_decide_div_mod_eq]
   have:q / 2^32=1:=by kst_all
   rw[this];rfl
  rw[this];rfl
 generalize q^^^4374732215=z at h0 ht
 rw[Nat.testBit_eq_decide_div_mod_eq] at ht
 have:=of_decide_eq_false ht
 omega
theorem cx {b c:Nat} (h:p<2^32):bH p (b>>>c&&&1)<2^32:=by
 have hx:=ix (b:=b) (c:=c) h
 unfold bH
 split
 ·rename_i hq;rw[Nat.shiftRight_eq_div_pow] at hq;kst_all
 ·rename_i hq;exact xor_top (by kst_all) hq
theorem fh (c:Nat):∀(k j:Nat) {p:Nat},p<2^32→alB c k j p<2^32
 | 0,_,_,h=>h
 | k+1,j,_,h=>fh c k (j+1) (cx h)
theorem bw:∀(cs:List Nat) {p:Nat},p<2^32→al p cs<2^32
 | [],_,h=>h
 | c :: cs,_,h=>bw cs (fh c 8 0 h)
@[reducible] noncomputable def e41 (w:World) (k1 k2 k3 k4:Nat) (v1 v2 v3 v4:Value):List DictEntry:=[ent w.params aV k1 v1,ent w.params sText k2 v2,ent w.params sSign k3 v3,ent w.params di k4 v4]
theorem ga
 (hn:L≠it) (hl:kg w L=none) (hi:kg w it=none):
 ∀(k:Nat) {A:Around} {R:Result→Shared→Prop} {s:Shared} {p tp j tj tk0:Nat} {v4:Value} (hA:AOk A 8) (hT:TopIn w.params s.heap)
 (hL:s.heap.get? L=some (frame (e41 w k1 k2 k3 k4 (.int (.ofNat p) tp) (.str ⟨⟨cs⟩⟩ tt) (.str ⟨⟨[c]⟩⟩ tc) v4) e))
 (hI:s.heap.get? it=some (aq (Int.ofNat j) (Int.ofNat k) tj tk0 ts)) (hj:j+k≤8) (hp:p<2^32)
 (H:∀(h':Heap) tk' tp' v4',Keeps s.heap h' [L,it]→h'.get? L=some (frame (e41 w k1 k2 k3 k4 (.int (.ofNat (alB c k j p)) tp') (.str ⟨⟨cs⟩⟩ tt) (.str ⟨⟨[c]⟩⟩ tc) v4') e)→R (.ok .next) ⟨h',s.gens,s.drawn,tk',s.os⟩),
  codeAny (mm w) A (gl fw (.ref it) (fenv (dAt 21) bz 187 186 L)) R s:=by
 intro k
 induction k with
 | zero=>
  intro A R s p tp j tj tk0 v4 hA hT hL hI hj hp H
  refine aj _ 0 hT (ag hL (ag hI ah)) ?ne ?kn (fun n t _=>?_)
  case ne=>simp[Dis,hn]
  case kn=>simp[hl,hi]
  refine gRx hA.hd 15 [2,0,2,2,2,2,4] ?_
  kst_p
  refine gdK (.ok .next) (fun h D=>?_)
  exact H h _ tp v4 D.keeps (D.xK 0)
 | succ k ih=>
  intro A R s p tp j tj tk0 v4 hA hT hL hI hj hp H
  refine aj _ 0 hT (ag hL (ag hI ah)) ?ne ?kn (fun n t _=>?_)
  case ne=>simp[Dis,hn]
  case kn=>simp[hl,hi]
  have hb:(c>>>j&&&1)<2^1:=Nat.and_lt_two_pow _ (by decide)
  have hb64:(c>>>j&&&1)<2^64∧31<2^16:=by kst_all
  have hx:(p^^^((c>>>j&&&1)<<<31))<2^32:=ix hp
  have oL:2<2^64∧(p^^^((c>>>j&&&1)<<<31))<2^64:=by kst_all
  by_cases hq:(2*(p^^^((c>>>j&&&1)<<<31)))>>>32=0
  ·refine gPx hA.hd [] 68 [2,0,2,2,2,2,2,2,2,2,1,1,1,0,0,1,0,1,1,0,0,0,0,3,0,0,0,6,0,0,0,2,0,0,0,1,1,1,1,0,0,0,14,0,0,0] ?_
   intro zM zO
   refine gQx [(2*(p^^^((Int.ofNat (c>>>j)).toNat&&&Int.toNat 1)<<<31))>>>32=0,2<2^64∧p^^^((Int.ofNat (c>>>j)).toNat&&&Int.toNat 1)<<<31<2^64,(Int.ofNat (c>>>j)).toNat&&&Int.toNat 1<2^64∧31<2^16] ⟨by assumption,by assumption,by assumption,trivial⟩ ?_
   refine gaK (gl fw (.ref it) (fenv (dAt 21) bz 187 186 L)) (fun h D=>?_)
   have c0:=D.cK 0 L (frame (e41 w k1 k2 k3 k4 (.int (.ofNat (2*(p^^^((c>>>j&&&1)<<<31)))) (t+10)) (.str ⟨⟨cs⟩⟩ tt) (.str ⟨⟨[c]⟩⟩ tc) (.int (.ofNat j) t)) e)
   have c1:=D.cK 1 it (aq (Int.ofNat (j+1)) (Int.ofNat (k+1) - 1) 0 0 ts)
   rw[ay] at c1
   have e1:bH p (c>>>j&&&1)=(2*(p^^^((c>>>j&&&1)<<<31))):=by unfold bH;rw[if_pos hq]
   rw[←e1] at c0
   exact ih hA D.kt c0 c1 (by kst_all) (cx hp) (fun h' tk' tp' v4' K hh=>H h' tk' tp' v4' ((D.keeps.trans K).mono (by kd_mem)) hh)
  ·refine gPx hA.hd [] 80 [2,0,2,2,2,2,2,2,2,2,1,1,1,0,0,1,0,1,1,0,0,0,0,3,0,0,0,6,0,0,0,2,0,0,0,1,1,1,1,0,0,0,14,0,1,0,1,6,0,0,0,1,1] ?_
   intro zM zO
   refine gQx [(2*(p^^^((Int.ofNat (c>>>j)).toNat&&&Int.toNat 1)<<<31))>>>32≠0,2<2^64∧p^^^((Int.ofNat (c>>>j)).toNat&&&Int.toNat 1)<<<31<2^64,(Int.ofNat (c>>>j)).toNat&&&Int.toNat 1<2^64∧31<2^16] ⟨by assumption,by assumption,by assumption,trivial⟩ ?_
   refine gaK (gl fw (.ref it) (fenv (dAt 21) bz 187 186 L)) (fun h D=>?_)
   have c0:=D.cK 0 L (frame (e41 w k1 k2 k3 k4 (.int (.ofNat ((2*(p^^^((c>>>j&&&1)<<<31)))^^^4374732215)) (t+15)) (.str ⟨⟨cs⟩⟩ tt) (.str ⟨⟨[c]⟩⟩ tc) (.int (.ofNat j) t)) e)
   have c1:=D.cK 1 it (aq (Int.ofNat (j+1)) (Int.ofNat (k+1) - 1) 0 0 ts)
   rw[ay] at c1
   have e1:bH p (c>>>j&&&1)=((2*(p^^^((c>>>j&&&1)<<<31)))^^^4374732215):=by unfold bH;rw[if_neg hq]
   rw[←e1] at c0
   exact ih hA D.kt c0 c1 (by kst_all) (cx hp) (fun h' tk' tp' v4' K hh=>H h' tk' tp' v4' ((D.keeps.trans K).mono (by kd_mem)) hh)
@[reducible] noncomputable def e51 (w:World) (k1 k2 k3:Nat) (v1 v2 v3:Value):List DictEntry:=[ent w.params aV k1 v1,ent w.params sText k2 v2,ent w.params sSign k3 v3]
theorem nr
 (hn:L≠it) (hl:kg w L=none) (hi:kg w it=none)
 (k:Nat) {s:Shared} (hA:AOk A 8) (hT:TopIn w.params s.heap)
 (hL:s.heap.get? L=some (frame (e51 w k1 k2 k3 (.int (.ofNat p) tp) (.str ⟨⟨cs⟩⟩ tt) (.str ⟨⟨[c]⟩⟩ tc)) e))
 (hI:s.heap.get? it=some (aq (Int.ofNat j) (Int.ofNat (k+1)) tj tk0 ts)) (hj:j+(k+1)≤8) (hp:p<2^32)
 (H:∀(h':Heap) tk' tp' k4 v4' e',Keeps s.heap h' [L,it]→h'.get? L=some (frame (e41 w k1 k2 k3 k4 (.int (.ofNat (alB c (k+1) j p)) tp') (.str ⟨⟨cs⟩⟩ tt) (.str ⟨⟨[c]⟩⟩ tc) v4') e')→R (.ok .next) ⟨h',s.gens,s.drawn,tk',s.os⟩):
  codeAny (mm w) A (gl fw (.ref it) (fenv (dAt 21) bz 187 186 L)) R s:=by
  refine aj _ 0 hT (ag hL (ag hI ah)) ?ne ?kn (fun n t _=>?_)
  case ne=>simp[Dis,hn]
  case kn=>simp[hl,hi]
  have hb:(c>>>j&&&1)<2^1:=Nat.and_lt_two_pow _ (by decide)
  have hb64:(c>>>j&&&1)<2^64∧31<2^16:=by kst_all
  have hx:(p^^^((c>>>j&&&1)<<<31))<2^32:=ix hp
  have oL:2<2^64∧(p^^^((c>>>j&&&1)<<<31))<2^64:=by kst_all
  by_cases hq:(2*(p^^^((c>>>j&&&1)<<<31)))>>>32=0
  ·refine gPx hA.hd [] 68 [2,0,2,2,2,2,2,2,2,2,1,1,1,0,0,1,0,1,1,0,0,0,0,3,0,0,0,6,0,0,0,2,0,0,0,1,1,1,1,0,0,0,14,0,0,0] ?_
   intro zM zO
   refine gQx [(2*(p^^^((Int.ofNat (c>>>j)).toNat&&&Int.toNat 1)<<<31))>>>32=0,2<2^64∧p^^^((Int.ofNat (c>>>j)).toNat&&&Int.toNat 1)<<<31<2^64,(Int.ofNat (c>>>j)).toNat&&&Int.toNat 1<2^64∧31<2^16] ⟨by assumption,by assumption,by assumption,trivial⟩ ?_
   refine gaK (gl fw (.ref it) (fenv (dAt 21) bz 187 186 L)) (fun h D=>?_)
   have c0:=D.cK 0 L (frame (e41 w k1 k2 k3 (t+1) (.int (.ofNat (2*(p^^^((c>>>j&&&1)<<<31)))) (t+10)) (.str ⟨⟨cs⟩⟩ tt) (.str ⟨⟨[c]⟩⟩ tc) (.int (.ofNat j) t)) (e+1))
   have c1:=D.cK 1 it (aq (Int.ofNat (j+1)) (Int.ofNat (k+1) - 1) 0 0 ts)
   rw[ay] at c1
   have e1:bH p (c>>>j&&&1)=(2*(p^^^((c>>>j&&&1)<<<31))):=by unfold bH;rw[if_pos hq]
   rw[←e1] at c0
   exact ga hn hl hi k hA D.kt c0 c1 (by kst_all) (cx hp) (fun h' tk' tp' v4' K hh=>H h' tk' tp' _ _ _ ((D.keeps.trans K).mono (by kd_mem)) hh)
  ·refine gPx hA.hd [] 80 [2,0,2,2,2,2,2,2,2,2,1,1,1,0,0,1,0,1,1,0,0,0,0,3,0,0,0,6,0,0,0,2,0,0,0,1,1,1,1,0,0,0,14,0,1,0,1,6,0,0,0,1,1] ?_
   intro zM zO
   refine gQx [(2*(p^^^((Int.ofNat (c>>>j)).toNat&&&Int.toNat 1)<<<31))>>>32≠0,2<2^64∧p^^^((Int.ofNat (c>>>j)).toNat&&&Int.toNat 1)<<<31<2^64,(Int.ofNat (c>>>j)).toNat&&&Int.toNat 1<2^64∧31<2^16] ⟨by assumption,by assumption,by assumption,trivial⟩ ?_
   refine gaK (gl fw (.ref it) (fenv (dAt 21) bz 187 186 L)) (fun h D=>?_)
   have c0:=D.cK 0 L (frame (e41 w k1 k2 k3 (t+1) (.int (.ofNat ((2*(p^^^((c>>>j&&&1)<<<31)))^^^4374732215)) (t+15)) (.str ⟨⟨cs⟩⟩ tt) (.str ⟨⟨[c]⟩⟩ tc) (.int (.ofNat j) t)) (e+1))
   have c1:=D.cK 1 it (aq (Int.ofNat (j+1)) (Int.ofNat (k+1) - 1) 0 0 ts)
   rw[ay] at c1
   have e1:bH p (c>>>j&&&1)=((2*(p^^^((c>>>j&&&1)<<<31)))^^^4374732215):=by unfold bH;rw[if_neg hq]
   rw[←e1] at c0
   exact ga hn hl hi k hA D.kt c0 c1 (by kst_all) (cx hp) (fun h' tk' tp' v4' K hh=>H h' tk' tp' _ _ _ ((D.keeps.trans K).mono (by kd_mem)) hh)
@[reducible] noncomputable def dP (cs:List Nat) (u k t:Nat):Obj:=⟨.type "str_ascii_iterator",none, .fields #[.str ⟨⟨cs⟩⟩ u, .int (.ofNat k) t], #[]⟩
theorem kB
 (hn:L≠it) (hl:kg w L=none) (hi:kg w it=none):
 ∀(rs:List Nat) {A:Around} {R:Result→Shared→Prop} {s:Shared} {k tk p tp:Nat} {v3 v4:Value} (hA:AOk A 10) (hT:TopIn w.params s.heap)
 (hL:s.heap.get? L=some (frame (e41 w k1 k2 k3 k4 (.int (.ofNat p) tp) (.str ⟨⟨cs⟩⟩ tt) v3 v4) e))
 (hI:s.heap.get? it=some (dP cs tt k tk)) (hp:p<2^32) (hk:cs.drop k=rs)
 (H:∀(h':Heap) tk' tp' v3' v4',Keeps s.heap h' [L,it]→h'.get? L=some (frame (e41 w k1 k2 k3 k4 (.int (.ofNat (al p rs)) tp') (.str ⟨⟨cs⟩⟩ tt) v3' v4') e)→R (.ok .next) ⟨h',s.gens,s.drawn,tk',s.os⟩),
  codeAny (mm w) A (aU (dAt 21) 0 (.ref it) (fenv (dAt 21) bz 187 186 L)) R s:=by
 intro rs
 induction rs with
 | nil=>
  intro A R s k tk p tp v3 v4 hA hT hL hI hp hk H
  have hlen:cs.length≤k:=List.drop_eq_nil_iff.mp hk
  refine aj _ 0 hT (ag hL (ag hI ah)) ?ne ?kn (fun n t _=>?_)
  case ne=>simp[Dis,hn]
  case kn=>simp[hl,hi]
  refine gPx hA.hd [] 5 [2,22,1,0,0,4] ?_
  intro zM zO
  refine gQx [cs.length≤k] ⟨by assumption,trivial⟩ ?_
  refine gdK (.ok .next) (fun h D=>?_)
  exact H h _ tp v3 v4 D.keeps (D.xK 0)
 | cons c rs ih=>
  intro A R s k tk p tp v3 v4 hA hT hL hI hp hk H
  have hitem:cs[k]? = some c:=by rw[←List.head?_drop,hk];rfl
  have hk':cs.drop (k+1)=rs:=by rw[←List.tail_drop,hk];rfl
  refine aj _ 0 hT (ag hL (ag hI ah)) ?ne ?kn (fun n t _=>?_)
  case ne=>simp[Dis,hn]
  case kn=>simp[hl,hi]
  refine gPx hA.hd [Value.int (Int.ofNat c) 0] 47 [2,21,1,0,0,1,1,0,0,0,0,3,3,0,3,3,3,3,0,3,3,3,3,4] ?_
  intro zM zO
  refine gQx [cs[k]? = some c] ⟨by assumption,trivial⟩ ?_
  refine gcK (gl fw (.ref (n+1)) (fenv (dAt 21) bz 187 186 L)) (fun h D=>?_)
  kd_adr
  have⟨c1,w1⟩:=D.wK 0 L (frame (e41 w k1 k2 k3 k4 (.int (.ofNat p) tp) (.str ⟨⟨cs⟩⟩ tt) (.str ⟨⟨[c]⟩⟩ t) v4) e)
  have⟨c2,w2⟩:=D.wK 1 it (dP cs tt (k+1) 0)
  have⟨c3,w3⟩:=D.wK 3 (n+1) (aq (Int.ofNat 0) (Int.ofNat 8) 0 0 0)
  refine ga (apart c1 c3) w1.kn w3.kn 8 (hA.sub (by kd_p) (by kd_p)) D.kt c1 c3 (by decide) hp (fun h' tk' tp' v4' K cL=>?_)
  have cI:=K.kq c2 (by tbr_iter (ai hn.symm (apart c2 c3)))
  refine resume D K (an w1 (an w3 ax)) _ 0 (ag cL (ag cI ah)) (by simp[Dis,hn]) (by tbr_iter (ai w1 w2)) (fun n' _=>?_)
  refine gRx hA.hd 0 [] ?_
  kst_p
  refine gaK (aU (dAt 21) 0 (.ref it) (fenv (dAt 21) bz 187 186 L)) (fun h D=>?_)
  have c1:=D.cK 0 L (frame (e41 w k1 k2 k3 k4 (.int (.ofNat (alB c 8 0 p)) tp') (.str ⟨⟨cs⟩⟩ tt) (.str ⟨⟨[c]⟩⟩ t) v4') e)
  have c2:=D.cK 1 it (dP cs tt (k+1) 0)
  exact ih hA D.kt c1 c2 (fh c 8 0 hp) hk' (fun h' tk' tp' v3' v4' K hh=>H h' tk' tp' v3' v4' ((D.keeps.trans K).mono (by kd_mem)) hh)
@[reducible] noncomputable def e61 (w:World) (k1 k2:Nat) (v1 v2:Value):List DictEntry:=[ent w.params aV k1 v1,ent w.params sText k2 v2]
theorem jh
 (hn:L≠it) (hl:kg w L=none) (hi:kg w it=none)
 (c:Nat) (rs:List Nat) {s:Shared} (hA:AOk A 10) (hT:TopIn w.params s.heap)
 (hL:s.heap.get? L=some (frame (e61 w k1 k2 (.int (.ofNat p) tp) (.str ⟨⟨cs⟩⟩ tt)) e))
 (hI:s.heap.get? it=some (dP cs tt k tk)) (hp:p<2^32) (hk:cs.drop k=c :: rs)
 (H:∀(h':Heap) tk' tp' k3 k4 v3' v4' e',Keeps s.heap h' [L,it]→h'.get? L=some (frame (e41 w k1 k2 k3 k4 (.int (.ofNat (al p (c :: rs))) tp') (.str ⟨⟨cs⟩⟩ tt) v3' v4') e')→R (.ok .next) ⟨h',s.gens,s.drawn,tk',s.os⟩):
  codeAny (mm w) A (aU (dAt 21) 0 (.ref it) (fenv (dAt 21) bz 187 186 L)) R s:=by
  have hitem:cs[k]? = some c:=by rw[←List.head?_drop,hk];rfl
  have hk':cs.drop (k+1)=rs:=by rw[←List.tail_drop,hk];rfl
  refine aj _ 0 hT (ag hL (ag hI ah)) ?ne ?kn (fun n t _=>?_)
  case ne=>simp[Dis,hn]
  case kn=>simp[hl,hi]
  refine gPx hA.hd [Value.int (Int.ofNat c) 0] 47 [2,21,1,0,0,1,1,0,0,0,0,3,3,0,3,3,3,3,0,3,3,3,3,4] ?_
  intro zM zO
  refine gQx [cs[k]? = some c] ⟨by assumption,trivial⟩ ?_
  refine gcK (gl fw (.ref (n+1)) (fenv (dAt 21) bz 187 186 L)) (fun h D=>?_)
  kd_adr
  have⟨c1,w1⟩:=D.wK 0 L (frame (e51 w k1 k2 (t+1) (.int (.ofNat p) tp) (.str ⟨⟨cs⟩⟩ tt) (.str ⟨⟨[c]⟩⟩ t)) (e+1))
  have⟨c2,w2⟩:=D.wK 1 it (dP cs tt (k+1) 0)
  have⟨c3,w3⟩:=D.wK 3 (n+1) (aq (Int.ofNat 0) (Int.ofNat 8) 0 0 0)
  refine nr (apart c1 c3) w1.kn w3.kn 7 (hA.sub (by kd_p) (by kd_p)) D.kt c1 c3 (by decide) hp (fun h' tk' tp' k4 v4' e' K cL=>?_)
  have cI:=K.kq c2 (by tbr_iter (ai hn.symm (apart c2 c3)))
  refine resume D K (an w1 (an w3 ax)) _ 0 (ag cL (ag cI ah)) (by simp[Dis,hn]) (by tbr_iter (ai w1 w2)) (fun n' _=>?_)
  refine gRx hA.hd 0 [] ?_
  kst_p
  refine gaK (aU (dAt 21) 0 (.ref it) (fenv (dAt 21) bz 187 186 L)) (fun h D=>?_)
  have c1:=D.cK 0 L (frame (e41 w k1 k2 (t+1) k4 (.int (.ofNat (alB c 8 0 p)) tp') (.str ⟨⟨cs⟩⟩ tt) (.str ⟨⟨[c]⟩⟩ t) v4') e')
  have c2:=D.cK 1 it (dP cs tt (k+1) 0)
  exact kB hn hl hi rs hA D.kt c1 c2 (fh c 8 0 hp) hk' (fun h' tk' tp' v3' v4' K hh=>H h' tk' tp' _ _ _ _ _ ((D.keeps.trans K).mono (by kd_mem)) hh)
theorem jK {s:Shared} (hA:AOk A 14) (hT:TopIn w.params s.heap) (hp:p<2^32) (hc:Ascii ([]))
 (H:∀(h':Heap) tk' tok,Keeps s.heap h' []→R (.ok (.ret (.int (.ofNat (al p ([]))) tok))) ⟨h',s.gens,s.drawn,tk',s.os⟩):
  codeAny (mm w) A (.call (.ref 187) ⟨[.int (.ofNat p) tp, .str ⟨⟨[]⟩⟩ tt],[]⟩) R s:=by
 refine az [] hT ah (fun n t hn=>?_)
 refine gRx hA.hd 11 [0,0,1,1,1,1] ?_
 kst_p
 refine geK hA (.func (dAt 21).2.1 (fenv (dAt 21) bz 187 186 n)) ?_
 refine gRx hA.hd 34 [1,0,2,0,2,0,2,2,2,2,2,4,1] ?_
 kst_p
 refine gdK (.ok (.ret (.int (.ofNat p) tp))) (fun h D=>?_)
 exact H h _ _ D.keeps
theorem jJ {s:Shared} (hA:AOk A 14) (hT:TopIn w.params s.heap) (hp:p<2^32) (hc:Ascii (c :: rs))
 (H:∀(h':Heap) tk' tok,Keeps s.heap h' []→R (.ok (.ret (.int (.ofNat (al p (c :: rs))) tok))) ⟨h',s.gens,s.drawn,tk',s.os⟩):
  codeAny (mm w) A (.call (.ref 187) ⟨[.int (.ofNat p) tp, .str ⟨⟨c :: rs⟩⟩ tt],[]⟩) R s:=by
 refine az [] hT ah (fun n t hn=>?_)
 refine gRx hA.hd 11 [0,0,1,1,1,1] ?_
 kst_p
 refine geK hA (.func (dAt 21).2.1 (fenv (dAt 21) bz 187 186 n)) ?_
 refine gPx hA.hd [] 9 [1,20,0,0,0,2] ?_
 intro zM zO
 refine gQx [Ascii (c :: rs)] ⟨by assumption,trivial⟩ ?_
 refine gcK (aU (dAt 21) 0 (.ref (n+1)) (fenv (dAt 21) bz 187 186 n)) (fun h D=>?_)
 kd_adr
 have⟨c0,w0⟩:=D.wK 0 n (frame (e61 w t (t+1) (.int (.ofNat p) tp) (.str ⟨⟨c :: rs⟩⟩ tt)) 2)
 have⟨c1,w1⟩:=D.wK 1 (n+1) (dP (c :: rs) tt 0 0)
 refine jh (apart c0 c1) w0.kn w1.kn c rs (hA.sub (by kd_p) (by kd_p)) D.kt c0 c1 hp rfl (fun h' tk' tp' k3 k4 v3' v4' e' K cL=>?_)
 refine hU D K (an w0 (an w1 ax)) _ (ag cL ah) (fun n' _=>?_)
 refine gRx hA.hd 3 [1] ?_
 kst_p
 refine gdK (.ok (.ret (.int (.ofNat (al p (c :: rs))) tp'))) (fun h D=>?_)
 exact H h _ _ D.keeps
theorem bK {s:Shared} (hA:AOk A 14) (hT:TopIn w.params s.heap) (hp:p<2^32) (hc:Ascii cs)
 (H:∀(h':Heap) tk' tok,Keeps s.heap h' []→R (.ok (.ret (.int (.ofNat (al p cs)) tok))) ⟨h',s.gens,s.drawn,tk',s.os⟩):
  codeAny (mm w) A (.call (.ref 187) ⟨[.int (.ofNat p) tp, .str ⟨⟨cs⟩⟩ tt],[]⟩) R s:=by
 cases cs with
 | nil=>exact jK hA hT hp hc H
 | cons c rs=>exact jJ hA hT hp hc H
noncomputable def qLaid:Str:=⟨#[95,108,97,119,95,108,97,105,100,46,60,108,111,99,97,108,115,62,46]⟩
noncomputable def laidF (kss ws:List (List Nat)):Nat→Nat→List Nat
 | 0,_=>[]
 | f+1,node=>ws.getD node []++((kss.getD node []).map (laidF kss ws f)).flatten
noncomputable def Dp (kss:List (List Nat)):Nat→Nat→Bool
 | 0,_=>false
 | f+1,node=>decide (node<kss.length) && (kss.getD node []).all (Dp kss f)
noncomputable def fT:Expr:=arg0 (binR (retOf (dAt 19) 0))
@[reducible] noncomputable def fg (L d ck cw:Addr):Env:={ scope:=cG (bF fT) (dAt 19).2.2,locals:=d,globals:=3,cells:=[(cg,cw),(cC,ck)],qual:=qLaid,func:=none,code:= .ref 172,frame:=some L,builtins:=0 }
noncomputable def bo (w:World) (kss ws:List (List Nat)) (f:Nat):Prop:=∀{A:Around} {R:Result→Shared→Prop} {s:Shared} {node tn ak aw ek ew:Nat} {Lk Lw:List Value} (hA:AOk A (10*f+10)) (hT:TopIn w.params s.heap)
 (hk:s.heap.get? ak=some (listO Lk ek)) (hK:KidsAt s.heap Lk kss) (hw:s.heap.get? aw=some (listO Lw ew)) (hW:StrVs Lw ws) (hD:Dp kss f node=true) (hlen:(laidF kss ws f node).length≤1000)
 (H:∀(h':Heap) tk' tok,Keeps s.heap h' []→R (.ok (.ret (.str ⟨⟨laidF kss ws f node⟩⟩ tok))) ⟨h',s.gens,s.drawn,tk',s.os⟩),
  codeAny (mm w) A (.call (.ref 173) ⟨[.int (.ofNat node) tn, .ref ak, .ref aw],[]⟩) R s
@[reducible] noncomputable def e71 (w:World) (k1:Nat) (v1:Value):List DictEntry:=[ent w.params eY k1 v1]
theorem mD (REC:bo w kss ws f) {cw:Nat}
 (n1:it≠acc) (n2:it≠d) (n3:acc≠d) (ki:kg w it=none) (ka:kg w acc=none) (kd:kg w d=none) (fi:h₀.get? it=none) (fa:h₀.get? acc=none) (fd:h₀.get? d=none):
 ∀(rs:List Nat) {A:Around} {R:Result→Shared→Prop} {s:Shared} {k tk ea:Nat} {La:List Value} {ts:List (List Nat)} {v1:Value} (hA:AOk A (10*f+14)) (hT:TopIn w.params s.heap)
 (hK0:Keeps h₀ s.heap []) (hk:h₀.get? ak=some (listO Lk ek)) (hK:KidsAt h₀ Lk kss) (hw:h₀.get? aw=some (listO Lw ew)) (hW:StrVs Lw ws)
 (hab:h₀.get? ab=some (listO Lb eb)) (hV:IntVs Lb xs) (hck:s.heap.get? ck=some (cellO (.ref ak))) (hcw:s.heap.get? cw=some (cellO (.ref aw)))
 (hI:s.heap.get? it=some (av ab k tk)) (hacc:s.heap.get? acc=some (listO La ea)) (hd:s.heap.get? d=some (dictO (e71 w k1 v1) ed))
 (hrs:xs.drop k=rs) (hS:StrVs La ts) (hDp:rs.all (Dp kss f)=true) (hlen:(rs.map fun x=>(laidF kss ws f x).length).sum≤1000) (hla:La.length+rs.length≤1000)
 (H:∀(h':Heap) tk' La' ea' v1',Keeps s.heap h' [it,acc,d]→h'.get? acc=some (listO La' ea')→StrVs La' (ts++rs.map (laidF kss ws f))→h'.get? d=some (dictO (e71 w k1 v1') ed)→R (.ok .next) ⟨h',s.gens,s.drawn,tk',s.os⟩),
  codeAny (mm w) A (.compLoop fT 0 (.ref it) (.ref acc) (fg L d ck cw)) R s:=by
 intro rs
 induction rs with
 | nil=>
  intro A R s k tk ea La ts v1 hA hT hK0 hk hK hw hW hab hV hck hcw hI hacc hd hrs hS hDp hlen hla H
  have hlen:=hV.fin hrs
  have hab':=hK0.kp hab
  refine aj _ 1 hT (ag hab' (ag hI (ag hd ah))) ?ne ?kn (fun n t _=>?_)
  case ne=>simp[Dis,n2];exact⟨apart hab' hI,apart hab' hd⟩
  case kn=>kd_in
  refine gPx hA.hd [] 4 [2,18,1,0,0,5] ?_
  intro zM zO
  refine gQx [Lb.length≤k] ⟨by assumption,trivial⟩ ?_
  refine gdK (.ok .next) (fun h D=>?_)
  exact H h _ La ea v1 (D.keeps.mono (by kd_mem)) (D.keeps.kq hacc (by tbr_iter (ai n1.symm n3))) (by tbr_iter hS) (D.xK 2)
 | cons x rs ih=>
  intro A R s k tk ea La ts v1 hA hT hK0 hk hK hw hW hab hV hck hcw hI hacc hd hrs hS hDp hlen hla H
  have hab':=hK0.kp hab
  kd_adr
  obtain⟨⟨tx,hitem⟩,hk'⟩:=hV.at hrs
  have hall:Dp kss f x=true∧rs.all (Dp kss f)=true:=by simpa using hDp
  have hlx:(laidF kss ws f x).length≤1000:=by simp at hlen;kst_all
  have hlr:(rs.map fun x=>(laidF kss ws f x).length).sum≤1000:=by simp at hlen;kst_all
  have hla1:La.length≤2^24:=by simp at hla;kst_all
  have jQ:La.length+1+rs.length≤1000:=by simp at hla;kst_all
  have i1:=neF hab fi
  have i2:=neF hab fa
  have i3:=neF hab fd
  have j1:=apart hck hI
  have j2:=apart hck hacc
  have j3:=apart hck hd
  have l1:=apart hcw hI
  have l2:=apart hcw hacc
  have l3:=apart hcw hd
  refine aj _ 3 hT (ag hab' (ag hck (ag hcw (ag hI (ag hacc (ag hd ah)))))) ?ne ?kn (fun n t _=>?_)
  case ne=>kd_subs
  case kn=>kd_in
  refine gPx hA.hd [Value.int (Int.ofNat x) tx] 20 [4,17,3,0,0,6,6,0,6,2,3,0] ?_
  intro zM zO
  refine gQx [Lb[k]? = some (Value.int (Int.ofNat x) tx)] ⟨by assumption,trivial⟩ ?_
  refine gcK (.call (.ref 173) ⟨[.int (.ofNat x) tx, .ref ak, .ref aw],[]⟩) (fun h D=>?_)
  have hK1:Keeps h₀ h []:=hK0.fresh D.keeps (by kd_in)
  kd_adr
  have⟨c3,w3⟩:=D.wK 3 it (av ab (k+1) 0)
  have⟨c4,w4⟩:=D.wK 4 acc (listO La ea)
  have⟨c5,w5⟩:=D.wK 5 d (dictO (e71 w k1 (.int (.ofNat x) tx)) ed)
  have c1:=D.cK 1 ck (cellO (.ref ak))
  have c2:=D.cK 2 cw (cellO (.ref aw))
  refine REC (hA.subN (by kd_p) 4 (by kd_p) (by kst_all)) D.kt (hK1.kp hk) (hK.keep hK1) (hK1.kp hw) hW hall.1 hlx (fun h' tk' tok K=>?_)
  refine resume D K ax _ 3 (ag (K.kp (hK1.keep _ _ hab (by kd_mem))) (ag (K.kp c1) (ag (K.kp c2) (ag (K.kp c3) (ag (K.kp c4) (ag (K.kp c5) ah)))))) (by kd_subs) (by tbr_iter (ai w3 (ai w4 w5))) (fun n' _=>?_)
  refine gPx hA.hd [] 2 [19,4,0,0] ?_
  intro zM zO
  refine gQx [La.length≤2^24] ⟨by assumption,trivial⟩ ?_
  refine gaK (.compLoop fT 0 (.ref it) (.ref acc) (fg L d ck cw)) (fun h D=>?_)
  have c1:=D.cK 1 ck (cellO (.ref ak))
  have c2:=D.cK 2 cw (cellO (.ref aw))
  have c3:=D.cK 3 it (av ab (k+1) 0)
  have c4:=D.cK 4 acc (listO (La++[.str ⟨⟨laidF kss ws f x⟩⟩ tok]) (ea+1))
  have c5:=D.cK 5 d (dictO (e71 w k1 (.int (.ofNat x) tx)) ed)
  have hK2:Keeps h₀ h []:=hK0.fresh D.keeps (by kd_in)
  refine ih (ts:=ts++[laidF kss ws f x]) hA D.kt hK2 hk hK hw hW hab hV c1 c2 c3 c4 c5 hk' (hS.push _ _) hall.2 hlr (by tbr_iter jQ) (fun h' tk' La' ea' v1' K e1 e2 e3=>H h' tk' La' ea' v1' ((D.keeps.trans K).mono (by kd_mem)) e1 (by tbr_iter e2) e3)
theorem oF {h₀:Heap} {cw:Nat} (hk:0≤k) (ki:kg w it=none) (fi:h₀.get? it=none) {s:Shared} {m:Nat} (hA:AOk A m) (hT:TopIn w.params s.heap) (hK0:Keeps h₀ s.heap []) (hab:h₀.get? ab=some (listO [] eb)) (hI:s.heap.get? it=some (av ab k 0))
 (H:∀(h':Heap) tk',Keeps s.heap h' [it]→R (.ok .next) ⟨h',s.gens,s.drawn,tk',s.os⟩):
  codeAny (mm w) A (.compLoop fT 0 (.ref it) (.ref acc) (fg L d ck cw)) R s:=by
 have hab':=hK0.kp hab
 have hlen:([]:List Value).length≤k:=by simp
 refine aj _ 1 hT (ag hab' (ag hI ah)) ?ne ?kn (fun n t _=>?_)
 case ne=>tbr_iter (apart hab' hI)
 case kn=>kd_in
 refine gPx hA.hd [] 4 [2,18,1,0,0,4] ?_
 intro zM zO
 refine gQx [[].length≤k] ⟨by assumption,trivial⟩ ?_
 refine gdK (.ok .next) (fun h D=>?_)
 exact H h _ D.keeps
theorem jM {f:Nat} (REC:bo w kss ws f) {h₀:Heap} {cw:Nat}
 (n1:it≠acc) (n2:it≠d) (n3:acc≠d) (ki:kg w it=none) (ka:kg w acc=none) (kd:kg w d=none) (fi:h₀.get? it=none) (fa:h₀.get? acc=none) (fd:h₀.get? d=none)
 (x:Nat) (rs:List Nat) {s:Shared} {ts:List (List Nat)} (hA:AOk A (10*f+14)) (hT:TopIn w.params s.heap)
 (hK0:Keeps h₀ s.heap []) (hk:h₀.get? ak=some (listO Lk ek)) (hK:KidsAt h₀ Lk kss) (hw:h₀.get? aw=some (listO Lw ew)) (hW:StrVs Lw ws)
 (hab:h₀.get? ab=some (listO Lb eb)) (hV:IntVs Lb xs) (hck:s.heap.get? ck=some (cellO (.ref ak))) (hcw:s.heap.get? cw=some (cellO (.ref aw)))
 (hI:s.heap.get? it=some (av ab k tk)) (hacc:s.heap.get? acc=some (listO La ea)) (hd:s.heap.get? d=some (dictO [] ed))
 (hrs:xs.drop k=x :: rs) (hS:StrVs La ts) (hDp:(x :: rs).all (Dp kss f)=true) (hlen:((x :: rs).map fun x=>(laidF kss ws f x).length).sum≤1000) (hla:La.length+(x :: rs).length≤1000)
 (H:∀(h':Heap) tk' La' ea' k1 v1' ed',Keeps s.heap h' [it,acc,d]→h'.get? acc=some (listO La' ea')→StrVs La' (ts++(x :: rs).map (laidF kss ws f))→h'.get? d=some (dictO (e71 w k1 v1') ed')→R (.ok .next) ⟨h',s.gens,s.drawn,tk',s.os⟩):
  codeAny (mm w) A (.compLoop fT 0 (.ref it) (.ref acc) (fg L d ck cw)) R s:=by
 have hab':=hK0.kp hab
 kd_adr
 obtain⟨⟨tx,hitem⟩,hk'⟩:=hV.at hrs
 have hall:Dp kss f x=true∧rs.all (Dp kss f)=true:=by simpa using hDp
 have hlx:(laidF kss ws f x).length≤1000:=by simp at hlen;kst_all
 have hlr:(rs.map fun x=>(laidF kss ws f x).length).sum≤1000:=by simp at hlen;kst_all
 have hla1:La.length≤2^24:=by simp at hla;kst_all
 have jQ:La.length+1+rs.length≤1000:=by simp at hla;kst_all
 have i1:=neF hab fi
 have i2:=neF hab fa
 have i3:=neF hab fd
 have j1:=apart hck hI
 have j2:=apart hck hacc
 have j3:=apart hck hd
 have l1:=apart hcw hI
 have l2:=apart hcw hacc
 have l3:=apart hcw hd
 refine aj _ 3 hT (ag hab' (ag hck (ag hcw (ag hI (ag hacc (ag hd ah)))))) ?ne ?kn (fun n t _=>?_)
 case ne=>kd_subs
 case kn=>kd_in
 refine gPx hA.hd [Value.int (Int.ofNat x) tx] 20 [4,17,3,0,0,6,6,0,6,2,3,0] ?_
 intro zM zO
 refine gQx [Lb[k]? = some (Value.int (Int.ofNat x) tx)] ⟨by assumption,trivial⟩ ?_
 refine gcK (.call (.ref 173) ⟨[.int (.ofNat x) tx, .ref ak, .ref aw],[]⟩) (fun h D=>?_)
 have hK1:Keeps h₀ h []:=hK0.fresh D.keeps (by kd_in)
 kd_adr
 have⟨c3,w3⟩:=D.wK 3 it (av ab (k+1) 0)
 have⟨c4,w4⟩:=D.wK 4 acc (listO La ea)
 have⟨c5,w5⟩:=D.wK 5 d (dictO (e71 w t (.int (.ofNat x) tx)) (ed+1))
 have c1:=D.cK 1 ck (cellO (.ref ak))
 have c2:=D.cK 2 cw (cellO (.ref aw))
 refine REC (hA.subN (by kd_p) 4 (by kd_p) (by kst_all)) D.kt (hK1.kp hk) (hK.keep hK1) (hK1.kp hw) hW hall.1 hlx (fun h' tk' tok K=>?_)
 refine resume D K ax _ 3 (ag (K.kp (hK1.keep _ _ hab (by kd_mem))) (ag (K.kp c1) (ag (K.kp c2) (ag (K.kp c3) (ag (K.kp c4) (ag (K.kp c5) ah)))))) (by kd_subs) (by tbr_iter (ai w3 (ai w4 w5))) (fun n' _=>?_)
 refine gPx hA.hd [] 2 [19,4,0,0] ?_
 intro zM zO
 refine gQx [La.length≤2^24] ⟨by assumption,trivial⟩ ?_
 refine gaK (.compLoop fT 0 (.ref it) (.ref acc) (fg L d ck cw)) (fun h D=>?_)
 have c1:=D.cK 1 ck (cellO (.ref ak))
 have c2:=D.cK 2 cw (cellO (.ref aw))
 have c3:=D.cK 3 it (av ab (k+1) 0)
 have c4:=D.cK 4 acc (listO (La++[.str ⟨⟨laidF kss ws f x⟩⟩ tok]) (ea+1))
 have c5:=D.cK 5 d (dictO (e71 w t (.int (.ofNat x) tx)) (ed+1))
 have hK2:Keeps h₀ h []:=hK0.fresh D.keeps (by kd_in)
 refine mD REC n1 n2 n3 ki ka kd fi fa fd rs (ts:=ts++[laidF kss ws f x]) hA D.kt hK2 hk hK hw hW hab hV c1 c2 c3 c4 c5 hk' (hS.push _ _) hall.2 hlr (by tbr_iter jQ) (fun h' tk' La' ea' v1' K e1 e2 e3=>H h' tk' La' ea' _ _ _ ((D.keeps.trans K).mono (by kd_mem)) e1 (by tbr_iter e2) e3)
@[reducible] noncomputable def e81 (w:World) (k1:Nat) (v1:Value):List DictEntry:=[ent w.params dt k1 v1]
theorem oG (hkw:kss.length=ws.length) (hsm:kss.length≤100∧∀i,(kss.getD i []).length≤100) (REC:bo w kss ws f):bo w kss ws (f+1):=by
 intro A R s node tn ak aw ek ew Lk Lw hA hT hk hK hw hW hD hlen H
 have hD:node<kss.length∧(kss.getD node []).all (Dp kss f)=true:=by simpa [Dp] using hD
 obtain⟨hn,hDk⟩:=hD
 have hks:kss[node]? = some (kss.getD node []):=by simp[hn]
 have hws:ws[node]? = some (ws.getD node []):=by rw[hkw] at hn;simp[hn]
 obtain⟨b,Lb,eb,h1,hb,hV⟩:=hK.2 _ _ hks
 obtain⟨tw,h2⟩:=hW.2 _ _ hws
 have iV:(laidF kss ws (f+1) node)=ws.getD node []++((kss.getD node []).map (laidF kss ws f)).flatten:=rfl
 rw[iV] at hlen H
 have hn':node<2^63:=by kst_all
 have hxl:=hsm.2 node
 generalize kss.getD node []=xs at *
 generalize ws.getD node []=xw at *
 have hsum:(xs.map fun x=>(laidF kss ws f x).length).sum≤1000:=by
  simp[List.length_flatten,Function.comp_def] at hlen
  omega
 refine az _ hT (ag hk (ag hw (ag hb ah))) (fun n t hn=>?_)
 refine gRx hA.hd 13 [0,0,4,4,5,5,6,6] ?_
 kst_p
 refine GoalX.enter (c:= .func (dAt 19).2.1 { fenv (dAt 19) qLaid 173 172 n with cells:=[(cg,n+2),(cC,n+1)] }) (by kd_p) (fun h D=>noLimit D.kt) (ir hA 2 (by kd_p) (by kst_all)) ?_
 refine gPx hA.hd [Value.str { cps:={ toList:=xw } } tw,Value.ref b] 36 [6,4,2,2,2,15,1,0,0,5,4,1,1,1,15,0,0,1,3,3,0,3,7] ?_
 intro zM zO
 refine gQx [Lk[node]? = some (Value.ref b),node<2^63,Lw[node]? = some (Value.str { cps:={ toList:=xw } } tw),node<2^63] ⟨by assumption,by assumption,by assumption,by assumption,trivial⟩ ?_
 refine gcK (.compStart fT 0 (.ref (n+3)) (.ref (n+4)) (fg n (n+5) (n+1) (n+2))) (fun h D=>?_)
 kd_adr
 have⟨c3,w3⟩:=D.wK 3 n (frame (e81 w t (.int (.ofNat node) tn)) 1)
 have⟨c4,w4⟩:=D.wK 4 (n+1) (cellO (.ref ak))
 have⟨c5,w5⟩:=D.wK 5 (n+2) (cellO (.ref aw))
 have⟨c6,w6⟩:=D.wK 6 (n+3) (av b 0 0)
 have⟨c7,w7⟩:=D.wK 7 (n+4) (listO [] 0)
 have⟨c8,w8⟩:=D.wK 8 (n+5) (dictO [] 0)
 refine aM (by kd_p) c6 ?_
 have fr3:s.heap.get? (n+3)=none:=w6.ex.resolve_left (by kd_mem)
 have fr4:s.heap.get? (n+4)=none:=w7.ex.resolve_left (by kd_mem)
 have fr5:s.heap.get? (n+5)=none:=w8.ex.resolve_left (by kd_mem)
 cases xs with
 | nil=>
  have hlb:Lb.length≤0:=hV.fin rfl
  have hL0:Lb=[]:=List.length_eq_zero_iff.mp (by kst_all)
  refine oF (m:=0) (h₀:=s.heap) (by kst_all) w6.kn fr3 (hA.subN (by kd_p) 5 (by kd_p) (by kst_all)) D.kt D.keeps (hL0▸hb) c6 (fun h' tk' K=>?_)
  have ea:=K.kp c7
  have edd:=K.kp c8
  refine resume D K (an w6 ax) _ 0 (ag (K.kp c3) (ag ea (ag edd ah))) (by kd_subs) (by tbr_iter (ai w3 (ai w7 w8))) (fun n' _=>?_)
  refine gRx hA.hd 2 [3] ?_
  kst_p
  refine gcK (.call (.builtin "str.join") ⟨[.str ⟨⟨[]⟩⟩ (t+1), .ref (n+4)],[]⟩) (fun h D=>?_)
  refine iD (e:=0) (D.cell 1 (x:=listO [] 0) (by kd_p)) StrVs.nil (by kd_mem) (fun tok tk'=>?_)
  refine aD D ?_
  refine gRx hA.hd 3 [] ?_
  kst_p
  refine gcK (.call (.builtin "str.__add__") ⟨[.str ⟨⟨xw⟩⟩ tw, .str ⟨⟨[]⟩⟩ tok],[]⟩) (fun h D=>?_)
  refine dD (by tbr_iter hlen) (fun tok tk'=>?_)
  refine aD D ?_
  refine gRx hA.hd 0 [] ?_
  kst_p
  refine gdK (.ok (.ret (.str ⟨⟨xw++[]⟩⟩ tok))) (fun h D=>?_)
  exact H h _ _ D.keeps
 | cons x rs=>
  refine jM (f:=f) REC (h₀:=s.heap) (by kst_all) (by kst_all) (by kst_all) w6.kn w7.kn w8.kn fr3 fr4 fr5 x rs (hA.subN (by kd_p) 5 (by kd_p) (by kst_all)) D.kt D.keeps hk hK hw hW hb hV c4 c5 c6 c7 c8 rfl StrVs.nil hDk hsum (by simp at hxl ⊢;kst_all) (fun h' tk' La' ea' k1 v1' ed' K ea hS edd=>?_)
  refine resume D K (an w6 (an w7 (an w8 ax))) _ 0 (ag (K.kp c3) (ag ea (ag edd ah))) (by kd_subs) (by tbr_iter (ai w3 (ai w7 w8))) (fun n' _=>?_)
  refine gRx hA.hd 6 [3,3,3] ?_
  kst_p
  have hfl:((x :: rs).map (laidF kss ws f)).flatten.length≤1000:=by rw[List.length_append] at hlen;kst_all
  refine gcK (.call (.builtin "str.join") ⟨[.str ⟨⟨[]⟩⟩ (t+1), .ref (n+4)],[]⟩) (fun h D=>?_)
  refine iD (e:=ea') (D.cell 1 (x:=listO La' ea') (by kd_p)) hS (by tbr_iter hfl) (fun tok tk'=>?_)
  refine aD D ?_
  refine gRx hA.hd 3 [] ?_
  kst_p
  refine gcK (.call (.builtin "str.__add__") ⟨[.str ⟨⟨xw⟩⟩ tw, .str ⟨⟨([]++(x :: rs).map (laidF kss ws f)).flatten⟩⟩ tok],[]⟩) (fun h D=>?_)
  refine dD (by tbr_iter hlen) (fun tok tk'=>?_)
  refine aD D ?_
  refine gRx hA.hd 0 [] ?_
  kst_p
  refine gdK (.ok (.ret (.str ⟨⟨xw++([]++(x :: rs).map (laidF kss ws f)).flatten⟩⟩ tok))) (fun h D=>?_)
  exact H h _ _ D.keeps
theorem iN (hkw:kss.length=ws.length) (hsm:kss.length≤100∧∀i,(kss.getD i []).length≤100):∀f,bo w kss ws f:=by
 intro f
 induction f with
 | zero=>
  intro A R s node tn ak aw ek ew Lk Lw hA hT hk hK hw hW hD hlen H
  simp[Dp] at hD
 | succ f ih=>exact oG hkw hsm ih
noncomputable def mS:Nat→List (Nat×List Nat)
 | 0=>[(38,[38,97,109,112,59]),(60,[38,108,116,59]),(62,[38,103,116,59])]
 | 1=>[(38,[38,97,109,112,59]),(60,[38,108,116,59]),(62,[38,103,116,59]),(34,[38,113,117,111,116,59]),(13,[38,35,49,51,59]),(10,[38,35,49,48,59]),(9,[38,35,48,57,59])]
 | 2=>[(38,[38,97,109,112,59]),(62,[38,103,116,59]),(34,[38,113,117,111,116,59])]
 | 3=>[(38,[38,97,109,112,59]),(60,[38,108,116,59]),(62,[38,103,116,59]),(13,[38,35,120,68,59])]
 | _=>[(38,[38,97,109,112,59]),(60,[38,108,116,59]),(34,[38,113,117,111,116,59]),(9,[38,35,120,57,59]),(10,[38,35,120,65,59]),(13,[38,35,120,68,59])]
noncomputable def esc (k:Nat):List Nat→List Nat
 | [c]=>((mS k).lookup c).getD [c]
 | x=>x
noncomputable def wordsL:List (List Nat):=[[],[97],[98],[38],[60],[62],[34],[13],[10],[9]]
noncomputable def escRef:Nat→Nat
 | 0=>51
 | 1=>58
 | 2=>65
 | 3=>72
 | _=>79
noncomputable def qE:Nat→Str
 | 0=>⟨#[95,101,115,99,97,112,101,95,99,100,97,116,97,46,60,108,111,99,97,108,115,62,46]⟩
 | 1=>⟨#[95,101,115,99,97,112,101,95,97,116,116,114,105,98,46,60,108,111,99,97,108,115,62,46]⟩
 | 2=>⟨#[95,101,115,99,97,112,101,95,97,116,116,114,105,98,95,104,116,109,108,46,60,108,111,99,97,108,115,62,46]⟩
 | 3=>⟨#[95,101,115,99,97,112,101,95,99,100,97,116,97,95,99,49,52,110,46,60,108,111,99,97,108,115,62,46]⟩
 | _=>⟨#[95,101,115,99,97,112,101,95,97,116,116,114,105,98,95,99,49,52,110,46,60,108,111,99,97,108,115,62,46]⟩
noncomputable def tabAt (c:Nat):List (Nat×List Nat)→Option Nat
 | []=>none
 | p :: l=>match Nat.beq p.1 c with
  | true=>some 0
  | false=>(tabAt c l).map (· + 1)
noncomputable def eP (k:Nat):List Nat→Option Nat
 | [c]=>tabAt c (mS k)
 | _=>none
noncomputable def r10:Nat→List Nat→List Nat
 | 0,l=>l
 | n+1,l=>1 :: 0 :: r10 n l
noncomputable def eC (k n:Nat):Code:= .func (dAt (5+k)).2.1 (fenv (dAt (5+k)) (qE k) (escRef k) (escRef k - 1) n)
noncomputable def eF (k:Nat):Option Nat→Nat
 | none=>8*(mS k).length+6
 | some _=>8*(mS k).length+23
noncomputable def eH (k:Nat):Option Nat→List Nat
 | none=>r10 (mS k).length [1]
 | some p=>r10 (p+1) (1 :: 23 :: 0 :: 0 :: 0 :: 1 :: 1 :: r10 ((mS k).length - 1 - p) [1])
noncomputable def ePs (x y:List Nat) (t:Nat):Option Nat→List Prop
 | none=>[]
 | some p=>[lc x x y y=true,t+(p+2)≠0∧t+(p+3)≠0∧t+(p+2)≠t+(p+3)]
noncomputable def eT (tk t:Nat):Option Nat→Nat
 | none=>tk
 | some p=>t+(p+4)
noncomputable def eOk (x y:List Nat):Option Nat→Bool
 | none=>true
 | some _=>lc x x y y
theorem eAll {t:Nat}:∀{o:Option Nat},eOk x y o=true→AllP (ePs x y t o)
 | none,_=>trivial
 | some _,h=>⟨h,⟨Nat.succ_ne_zero _,Nat.succ_ne_zero _,fun e=>Nat.succ_ne_self _ (Nat.add_left_cancel e).symm⟩,trivial⟩
noncomputable def e1 (k:Nat) (x:List Nat) (tk:Nat) (w:World) (n t:Nat):Bool→Out:=jB [] [] 7 [0,0,1,1] w n t 0 (pS (.call (.ref (escRef k)) ⟨[.str ⟨⟨x⟩⟩ tk],[]⟩) [])
noncomputable def e2 (k:Nat) (x:List Nat) (tk:Nat) (w:World) (n t:Nat):Bool→Out:=jB tabA [.str ⟨⟨esc k x⟩⟩ 0] (eF k (eP k x)) (eH k (eP k x)) w n t 0 (pE (e1 k x tk w n t) (eC k n))
noncomputable def eQ (k:Nat) (x:List Nat) (tk:Nat) (w:World) (n t:Nat) (b:Bool):=(chk (e1 k x tk w n t b),(e1 k x tk w n t b).t,Nat.ble (dep (e1 k x tk w n t b).κ) 5,chk (e2 k x tk w n t b),(e2 k x tk w n t b).t,isCode (e2 k x tk w n t b).κ,eOk x (esc k x) (eP k x))
noncomputable def eR (k:Nat) (x:List Nat) (tk:Nat) (w:World) (n t:Nat) (b:Bool):=(j0 (e1 k x tk w n t b) [],PySem.W.R.bindR (PySem.W.ZFast.enterX 0) (fun _=>Sem.pure (Fin.again (eC k n))),true,j0 (e2 k x tk w n t b) (ePs x (esc k x) t (eP k x)),oZ (.ok (.ret (.str ⟨⟨esc k x⟩⟩ (eT tk t (eP k x))))),true,true)
theorem eE {tk:Nat} {w:World} {n t:Nat} (hk:k<5) (hx:x∈wordsL):∀b,eQ k x tk w n t b=eR k x tk w n t b:=by
 simp only[wordsL,List.mem_cons,List.not_mem_nil,or_false] at hx
 rcases lt5 k hk with rfl | rfl | rfl | rfl | rfl<;>rcases hx with rfl | rfl | rfl | rfl | rfl | rfl | rfl | rfl | rfl | rfl
 all_goals kd_p
theorem law_esc {s:Shared} (hk:k<5) (hx:x∈wordsL) (hA:AOk A 5) (hT:TopIn w.params s.heap) (H:∀(h':Heap) tk' tok,Keeps s.heap h' []→R (.ok (.ret (.str ⟨⟨esc k x⟩⟩ tok))) ⟨h',s.gens,s.drawn,tk',s.os⟩):
  codeAny (mm w) A (.call (.ref (escRef k)) ⟨[.str ⟨⟨x⟩⟩ tk],[]⟩) R s:=by
 refine az [] hT ah (fun n t hn=>?_)
 have E:∀b,_:=eE (tk:=tk) (w:=w) (n:=n) (t:=t) hk hx
 simp only[eQ,eR,Prod.mk.injEq] at E
 refine lZ [] (hA.hd) [] 7 [0,0,1,1] ?_
 intro zM zO
 refine runC [] (fun b=>(E b).1) trivial ?_
 refine GoalX.enter (c:=eC k n) (fun b=>(E b).2.1) (fun h D=>noLimit D.kt) (dep0 hA fun b=>(E b).2.2.1) ?_
 refine lZ tabA (hA.hd) [.str ⟨⟨esc k x⟩⟩ 0] (eF k (eP k x)) (eH k (eP k x)) ?_
 intro zM zO
 refine runC (ePs x (esc k x) t (eP k x)) (fun b=>(E b).2.2.2.1) (eAll (E true).2.2.2.2.2.2) ?_
 exact GoalX.done (fun b=>(E b).2.2.2.2.1) (fun b=>(E b).2.2.2.2.2.1) (fun h D=>H h _ _ D.keeps)
noncomputable def qTape:Str:=⟨#[95,108,97,119,95,116,97,112,101,46,60,108,111,99,97,108,115,62,46]⟩
noncomputable def qLamT:Str:=⟨#[95,108,97,119,95,116,97,112,101,46,60,108,111,99,97,108,115,62,46,60,108,97,109,98,100,97,62]⟩
noncomputable def sWriter:Str:=⟨#[119,114,105,116,101,114]⟩
noncomputable def sWrite:Str:=⟨#[119,114,105,116,101]⟩
@[reducible] noncomputable def tabT (c1 c2:Addr):Obj:=bT [.int 143 0, .int 11 0, .ref c1, .int 145 0, .int 17 0, .ref c2]
structure TapeX (P:Params) (h:Heap) (tape wr oc dd wf cw co ct c2 k1 k2 k3 kc:Nat) (fd:FuncData) (vc:Value) (rc:List Value):Prop where
 tape:h.get? tape=some (funO fd (some dd))
 dd:h.get? dd=some (dictO [ent P sTail k1 (.str ⟨⟨[]⟩⟩ k2),ent P sWrite k3 (.ref wf)] 2)
 wf:h.get? wf=some (funO (lamFd (lamAt (dAt 18) 2) qLamT [(sWriter,cw),(sOctets,co)] c2 (.ref ct)) none)
 cw:h.get? cw=some (cellO (.ref wr))
 co:h.get? co=some (cellO (.ref oc))
 c2:h.get? c2=some (codeO qLamT vc kc rc)
noncomputable def Tape (P:Params) (h:Heap) (tape wr oc:Addr):Prop:=∃dd wf cw co ct c2 k1 k2 k3 kc fd vc rc,TapeX P h tape wr oc dd wf cw co ct c2 k1 k2 k3 kc fd vc rc
theorem Tape.keep {wr:Addr} (E:Tape P h tape wr oc) (K:Keeps h h' ex) (hx:∀a∈ex,LN h a):Tape P h' tape wr oc:=by
 kd_adr
 obtain⟨dd,wf,cw,co,ct,c2,k1,k2,k3,kc,fd,vc,rc,E⟩:=E
 exact⟨dd,wf,cw,co,ct,c2,k1,k2,k3,kc,fd,vc,rc,bW K hx E.tape (by kd_mem) (by kd_mem),bW K hx E.dd (by kd_mem) (by kd_mem),bW K hx E.wf (by kd_mem) (by kd_mem),bW K hx E.cw (by kd_mem) (by kd_mem),bW K hx E.co (by kd_mem) (by kd_mem),bW K hx E.c2 (by kd_mem) (by kd_mem)⟩
noncomputable def TabT (h:Heap):Prop:=∃c1 c2 k2 v2 r2,h.get? 163=some (tabT c1 c2)∧h.get? c2=some (codeO qLamT v2 k2 r2)
theorem tape0 {s:Shared} {ar:Nat} (hA:AOk A 5) (hT:TopIn w.params s.heap) (ht:s.heap.get? 163=some (bT []))
 (H:∀(h':Heap) tk' tape,Keeps s.heap h' [163]→TabT h'→s.heap.objs.size≤tape→Tape w.params h' tape ar ao→R (.ok (.ret (.ref tape))) ⟨h',s.gens,s.drawn,tk',s.os⟩):
  codeAny (mm w) A (.call (.ref 168) ⟨[.ref ar, .ref ao],[]⟩) R s:=by
 refine aj _ 0 hT (ag ht ah) (by kd_subs) (by simp;kd_p) (fun n t hn=>?_)
 refine gRx hA.hd 9 [0,0,3,3,4,4] ?_
 kst_p
 refine geK hA (.func (dAt 18).2.1 { fenv (dAt 18) qTape 168 167 n with cells:=[(sOctets,n+2),(sWriter,n+1)] }) ?_
 refine gRx hA.hd 97 [0,1,1,1,1,0,0,0,2,2,2,11,0,11,11,11,11,11,12,12,12,0,1,1,1,1,0,0,0,2,11,0,11,11,11,11,12,12,12,2] ?_
 kst_p
 refine gdK (.ok (.ret (.ref (n+9)))) (fun h D=>?_)
 kd_adr
 have⟨rc,c2⟩:∃rest,h.get? (n+17)=some (codeO qLamT (.str sLam (t+9)) (t+10) rest):=D.codeCell 18 (by kd_p)
 exact H h _ (n+9) D.keeps ⟨n+8,n+17,_,_,_,D.xK 0,c2⟩ (by kst_all)
  ⟨n+10,n+18,n+1,n+2,n+11,n+17,t+8,t+6,t+18,t+10,lamFd (lamAt (dAt 18) 0) qLamT [] (n+8) .none, .str sLam (t+9),rc,
   D.xK 10,D.xK 11,D.xK 19,D.xK 2,D.xK 3,c2⟩
theorem tapeF {s:Shared} {ar:Nat} (hA:AOk A 5) (hT:TopIn w.params s.heap) (ht:TabT s.heap)
 (H:∀(h':Heap) tk' tape,Keeps s.heap h' []→TabT h'→s.heap.objs.size≤tape→Tape w.params h' tape ar ao→R (.ok (.ret (.ref tape))) ⟨h',s.gens,s.drawn,tk',s.os⟩):
  codeAny (mm w) A (.call (.ref 168) ⟨[.ref ar, .ref ao],[]⟩) R s:=by
 kd_adr
 obtain⟨c1,c2,k2,v2,r2,ht,hc2⟩:=ht
 refine az _ hT (ag ht (ag hc2 ah)) (fun n t hn=>?_)
 refine gRx hA.hd 9 [0,0,4,4,5,5] ?_
 kst_p
 refine geK hA (.func (dAt 18).2.1 { fenv (dAt 18) qTape 168 167 n with cells:=[(sOctets,n+2),(sWriter,n+1)] }) ?_
 refine gRx hA.hd 66 [0,1,0,0,0,3,3,3,6,0,6,6,6,6,6,7,7,7,0,1,0,0,0,3,6,0,6,6,6,6,7,7,7,3] ?_
 kst_p
 refine gdK (.ok (.ret (.ref (n+3)))) (fun h D=>?_)
 exact H h _ (n+3) D.keeps ⟨c1,c2,k2,v2,r2,D.xK 0,D.xK 1⟩ (by kst_all)
  ⟨n+4,n+6,n+1,n+2,n+5,c2,t+3,t+1,t+5,k2,lamFd (lamAt (dAt 18) 0) qLamT [] c1 .none,v2,r2,
   D.xK 5,D.xK 6,D.xK 8,D.xK 3,D.xK 4,D.xK 1⟩
noncomputable def qLamTl:Str:=⟨#[95,108,97,119,95,116,97,112,101,46,60,108,111,99,97,108,115,62,46,60,108,97,109,98,100,97,62,46,60,108,111,99,97,108,115,62,46]⟩
noncomputable def sPart:Str:=⟨#[112,97,114,116]⟩
theorem esc_top {w:World} (hk:k<5) (hT:TopIn w.params h):∃fd,h.get? (escRef k)=some (funO fd none):=by
 rcases lt5 k hk with rfl | rfl | rfl | rfl | rfl
 ·exact⟨_,hT 51 _ rfl⟩
 ·exact⟨_,hT 58 _ rfl⟩
 ·exact⟨_,hT 65 _ rfl⟩
 ·exact⟨_,hT 72 _ rfl⟩
 ·exact⟨_,hT 79 _ rfl⟩
theorem a0 (hk:k<5) (hx:x∈wordsL):Ascii (esc k x)∧(esc k x).length≤6:=by
 have:∀k<5,∀x∈wordsL,(∀c∈esc k x,c<128)∧(esc k x).length≤6:=by decide +kernel
 exact this k hk x hx
theorem i9 (x:List Nat):(encA x).toList.length=x.length:=by simp[encA]
theorem pc (h:Ascii x):(encA x).toList.map UInt8.toNat=x:=by
 simp only[encA,List.map_map]
 have:∀c∈x,(UInt8.toNat ∘ fun c=>c.toUInt8) c=c:=fun c hc=>by
  have:=h c hc
  simp
  omega
 exact (List.map_congr_left this).trans (List.map_id _)
theorem jt {s:Shared} {cw:Nat} {L:List Value} (hk:k<5) (hx:x∈wordsL) (hA:AOk A 9) (hT:TopIn w.params s.heap)
 (hX:TapeX w.params s.heap tape (escRef k) oc dd wf cw co ct c2 k1 k2 k3 kc fd vc rc) (hoc:s.heap.get? oc=some (listO L eo)) (hoN:kg w oc=none) (hL:L.length≤50000)
 (H:∀(h':Heap) tk' tok L' e',Keeps s.heap h' [oc]→h'.get? oc=some (listO (L++L') e')→IntVs L' (esc k x)→R (.ok (.ret (.int (.ofNat (esc k x).length) tok))) ⟨h',s.gens,s.drawn,tk',s.os⟩):
  codeAny (mm w) A (.call (.ref wf) ⟨[.str ⟨⟨x⟩⟩ tk],[]⟩) R s:=by
 obtain⟨fd,hfd⟩:=esc_top (w:=w) hk hT
 have hesc:∀{A:Around} {R:Result→Shared→Prop} {s:Shared} {tk:Nat},AOk A 5→TopIn w.params s.heap→(∀h' tk' tok,Keeps s.heap h' []→R (.ok (.ret (.str ⟨⟨esc k x⟩⟩ tok))) ⟨h',s.gens,s.drawn,tk',s.os⟩)→codeAny (mm w) A (.call (.ref (escRef k)) ⟨[.str ⟨⟨x⟩⟩ tk],[]⟩) R s:=fun hA hT H=>law_esc hk hx hA hT H
 generalize escRef k=wr at *
 have hwf:=hX.wf
 have hcw:=hX.cw
 have hco:=hX.co
 have hc2:=hX.c2
 have n1:=apart hfd hoc
 have n2:=apart hwf hoc
 have n3:=apart hcw hoc
 have n4:=apart hco hoc
 have n5:=apart hc2 hoc
 refine aj _ 5 hT (ag hfd (ag hwf (ag hcw (ag hco (ag hc2 (ag hoc ah)))))) ?ne ?kn (fun n t hn=>?_)
 case ne=>kd_subs
 case kn=>kd_in
 refine gRx hA.hd 7 [2,5,7,7] ?_
 kst_p
 refine geK hA (.expr (lamAt (dAt 18) 2).2.1 { scope:=(lamAt (dAt 18) 2).2.2,locals:=n,globals:=3,cells:=[(sWriter,cw),(sOctets,co)],qual:=qLamTl,func:=some wf,code:= .ref c2,frame:=some n,builtins:=0 }) ?_
 refine gRx hA.hd 16 [4,6,6,6,6,3,7,1] ?_
 kst_p
 refine gcK (.call (.ref wr) ⟨[.str ⟨⟨x⟩⟩ tk],[]⟩) (fun h D=>?_)
 refine hesc (hA.sub (by kd_p) (by kd_p)) D.kt (fun h' tk' tok K=>?_)
 refine dR D K (fun n' hn'=>?_)
 refine gRx hA.hd 4 [] ?_
 kst_p
 refine gcK (.call (.builtin "str.encode") ⟨[.str ⟨⟨esc k x⟩⟩ tok],[]⟩) (fun h D=>?_)
 refine dO (a0 hk hx).1 (by have:=(a0 hk hx).2;kst_all) ?_
 refine aD D ?_
 refine gRx hA.hd 2 [] ?_
 kst_p
 refine gcK (.call (.builtin "list.extend") ⟨[.ref oc, .bytes (encA (esc k x)) tk'],[]⟩) (fun h D=>?_)
 kd_adr
 have⟨coc,woc⟩:h.get? oc=some (listO L eo)∧Wr w _ _ oc:=D.cw 5 (by kd_p) (by kd_p)
 refine mR (AOk.sub (k':=0) hA (by kd_p) (by kd_p)).hd coc (by rw[i9];have:=(a0 hk hx).2;kst_all) (fun h' tk'' L' e' K hL' hI'=>?_)
 rw[pc (a0 hk hx).1] at hI'
 refine ii 5 D rfl (x:=listO L eo) (by kd_p) K hL' (fun n'' hn''=>?_)
 refine gRx hA.hd 11 [0,0,3,7,1] ?_
 kst_p
 refine gcK (.call (.ref wr) ⟨[.str ⟨⟨x⟩⟩ tk],[]⟩) (fun h D=>?_)
 refine hesc (hA.sub (by kd_p) (by kd_p)) D.kt (fun h' tk' tok K=>?_)
 refine dR D K (fun n' hn'=>?_)
 refine gRx hA.hd 4 [] ?_
 kst_p
 refine gcK (.call (.builtin "str.encode") ⟨[.str ⟨⟨esc k x⟩⟩ tok],[]⟩) (fun h D=>?_)
 refine dO (a0 hk hx).1 (by have:=(a0 hk hx).2;kst_all) ?_
 refine aD D ?_
 have hbl:=i9 (esc k x)
 have hbl2:=(a0 hk hx).2
 refine gPx hA.hd [Value.int (Int.ofNat (esc k x).length) 0] 4 [26,0,0,0] ?_
 intro zM zO
 refine gQx [(encA (esc k x)).toList.length=(esc k x).length,(esc k x).length<2^63] ⟨by assumption,by kst_all,trivial⟩ ?_
 refine gdK (.ok (.ret (.int (.ofNat (esc k x).length) (tk'+2)))) (fun h D=>?_)
 have cl:=D.cK 5 oc (listO (L++L') e')
 exact H h _ _ L' e' D.keeps cl hI'
noncomputable def sFp:Str:=⟨#[102,112]⟩
noncomputable def sOffset:Str:=⟨#[111,102,102,115,101,116]⟩
noncomputable def qInit:Str:=⟨#[95,84,101,108,108,97,98,108,101,46,95,95,105,110,105,116,95,95,46,60,108,111,99,97,108,115,62,46]⟩
noncomputable def qWr:Str:=⟨#[95,84,101,108,108,97,98,108,101,46,119,114,105,116,101,46,60,108,111,99,97,108,115,62,46]⟩
@[reducible] noncomputable def instO (c:Addr) (d:Addr):Obj:=⟨.ref c,some d, .plain, #[]⟩
@[reducible] noncomputable def tellD (P:Params) (k1 k2:Nat) (tape:Addr) (off to:Nat):Obj:=dictO [ent P sFp k1 (.ref tape),ent P sOffset k2 (.int (.ofNat off) to)] 2
theorem nE {s:Shared} (hA:AOk A 9) (hT:TopIn w.params s.heap)
 (H:∀(h':Heap) tk' cn d k1 k2 to,Keeps s.heap h' []→s.heap.objs.size≤cn→s.heap.objs.size≤d→h'.get? cn=some (instO 131 d)→h'.get? d=some (tellD w.params k1 k2 tape 0 to)→R (.ok (.ret (.ref cn))) ⟨h',s.gens,s.drawn,tk',s.os⟩):
  codeAny (mm w) A (.call (.ref 131) ⟨[.ref tape],[]⟩) R s:=by
 refine az [] hT ah (fun n t hn=>?_)
 refine gRx hA.hd 52 [0,0,0,0,0,0,0,0,0,0,0,0,0,0,0,0,0,0,0,0,0,0,0,0,0,0,0,2,0,2,0,0,0,0,0,0,0,3,3,3,3] ?_
 kst_p
 refine geK hA (.func (mAt 12 0).2.1 (fenv (mAt 12 0) qInit 100 99 (n+2))) ?_
 refine gRx hA.hd 61 [3,3,2,0,0,0,0,2,0,2,0,2,0,0,0,2,0,1,1,1,3,2,0,0,0,0,2,0,2,0,2,0,0,0,2,0,1,1,1] ?_
 kst_p
 refine gdK (.ok (.ret (.ref (n+1)))) (fun h D=>?_)
 exact H h _ (n+1) n _ _ _ D.keeps (by kst_all) (by kst_all) (D.xK 1) (D.cell 0 (x:=tellD w.params (t+3) (t+6) tape 0 (t+4)) (by kd_p))
theorem fj {s:Shared} {cw:Nat} {L:List Value} (hk:k<5) (hx:x∈wordsL) (hA:AOk A 14) (hT:TopIn w.params s.heap)
 (hc:s.heap.get? cn=some (instO 131 d)) (hd:s.heap.get? d=some (tellD w.params k1 k2 tape off to)) (hdN:kg w d=none) (hnd:dd≠d)
 (hX:TapeX w.params s.heap tape (escRef k) oc dd wf cw co ct c2 k3 k4 k5 kc fd vc rc) (hoc:s.heap.get? oc=some (listO L eo)) (hoN:kg w oc=none) (hL:L.length≤50000) (hoff:off≤50000)
 (H:∀(h':Heap) tk' tok to' L' e',Keeps s.heap h' [d,oc]→h'.get? d=some (tellD w.params k1 k2 tape (off+(esc k x).length) to')→h'.get? oc=some (listO (L++L') e')→IntVs L' (esc k x)→R (.ok (.ret (.int (.ofNat (esc k x).length) tok))) ⟨h',s.gens,s.drawn,tk',s.os⟩):
  codeAny (mm w) A (.call (.ref 107) ⟨[.ref cn, .str ⟨⟨x⟩⟩ tk],[]⟩) R s:=by
 have ht:=hX.tape
 have hdd:=hX.dd
 have hwf:=hX.wf
 have hcw:=hX.cw
 have hco:=hX.co
 have hc2:=hX.c2
 have n2:=apart hc hd
 have n3:=apart ht hd
 have n4:=apart hwf hd
 have n5:=apart hcw hd
 have n6:=apart hco hd
 have n7:=apart hc2 hd
 have m2:=apart hc hoc
 have m3:=apart ht hoc
 have m4:=apart hwf hoc
 have m5:=apart hcw hoc
 have m6:=apart hco hoc
 have m7:=apart hc2 hoc
 have m8:=apart hdd hoc
 have m9:=apart hd hoc
 refine aj _ 7 hT ((ag hc (ag ht (ag hdd (ag hwf (ag hcw (ag hco (ag hc2 (ag hd (ag hoc ah)))))))))) ?ne ?kn (fun n t hn=>?_)
 case ne=>kd_subs
 case kn=>kd_in
 refine gRx hA.hd 11 [0,0,10,10,10,10] ?_
 kst_p
 refine geK hA (.func (mAt 12 1).2.1 (fenv (mAt 12 1) qWr 107 106 n)) ?_
 refine gRx hA.hd 41 [10,1,0,0,0,0,1,0,0,0,1,1,0,8,2,2,2,2,0,2,2,2,2,3,10,4] ?_
 kst_p
 refine gcK (.call (.ref wf) ⟨[.str ⟨⟨x⟩⟩ tk],[]⟩) (fun h D=>?_)
 have hX':TapeX w.params h tape (escRef k) oc dd wf cw co ct c2 k3 k4 k5 kc fd vc rc:=⟨D.xK 1,D.xK 2,D.xK 3,D.xK 4,D.xK 5,D.xK 6⟩
 refine jt hk hx (hA.sub (by kd_p) (by kd_p)) D.kt hX' (D.cell 8 (x:=listO L eo) (by kd_p)) hoN hL (fun h' tk' tok L' e' K hL' hI'=>?_)
 refine ii 8 D rfl (x:=listO L eo) (by kd_p) K hL' (fun n'' hn''=>?_)
 refine gPx hA.hd [] 59 [10,10,10,1,0,0,0,0,1,0,0,0,1,1,0,8,10,7,0,0,0,1,0,0,0,0,1,0,1,0,1,0,0,0,1,0,8,8,8,10] ?_
 intro zM zO
 refine gQx [] trivial ?_
 refine gdK (.ok (.ret (.int (.ofNat (esc k x).length) tok))) (fun h D=>?_)
 have cl:=D.cK 8 oc (listO (L++L') e')
 have cd:=D.cK 7 d (tellD w.params k1 k2 tape (off+(esc k x).length) (tk'+2))
 exact H h _ _ _ L' e' D.keeps cd cl hI'
theorem dN {s:Shared} {cw:Nat} {L:List Value} (hk:k<5) (hx:x∈wordsL) (hA:AOk A 14) (hT:TopIn w.params s.heap)
 (h1:s.heap.get? mw=some ⟨.type "method",none, .fields #[.ref 107, .ref cn], #[]⟩) (hc:s.heap.get? cn=some (instO 131 d)) (hd:s.heap.get? d=some (tellD w.params k1 k2 tape off to)) (hdN:kg w d=none) (hnd:dd≠d)
 (hX:TapeX w.params s.heap tape (escRef k) oc dd wf cw co ct c2 k3 k4 k5 kc fd vc rc) (hoc:s.heap.get? oc=some (listO L eo)) (hoN:kg w oc=none) (hL:L.length≤50000) (hoff:off≤50000)
 (H:∀(h':Heap) tk' tok to' L' e',Keeps s.heap h' [d,oc]→h'.get? d=some (tellD w.params k1 k2 tape (off+(esc k x).length) to')→h'.get? oc=some (listO (L++L') e')→IntVs L' (esc k x)→R (.ok (.ret (.int (.ofNat (esc k x).length) tok))) ⟨h',s.gens,s.drawn,tk',s.os⟩):
  codeAny (mm w) A (.call (.ref mw) ⟨[.str ⟨⟨x⟩⟩ tk],[]⟩) R s:=by
 refine az _ hT (ag h1 ah) (fun n t hn=>?_)
 refine gRx hA.hd 1 [1] ?_
 kst_p
 refine gaK (.call (.ref 107) ⟨[.ref cn, .str ⟨⟨x⟩⟩ tk],[]⟩) (fun h D=>?_)
 have K0:=D.keeps
 refine fj hk hx hA D.kt (K0.kp hc) (K0.kp hd) hdN hnd ⟨K0.kp hX.tape,K0.kp hX.dd,K0.kp hX.wf,K0.kp hX.cw,K0.kp hX.co,K0.kp hX.c2⟩ (K0.kp hoc) hoN hL hoff (fun h' tk' tok to' L' e' K e1 e2 e3=>H h' tk' tok to' L' e' ((K0.trans K).mono (by kd_mem)) e1 e2 e3)
noncomputable def qIs:Str:=⟨#[105,115,101,108,101,109,101,110,116,46,60,108,111,99,97,108,115,62,46]⟩
theorem is_str {s:Shared} (hA:AOk A 6) (hT:TopIn w.params s.heap)
 (H:∀(h':Heap) tk',Keeps s.heap h' []→R (.ok (.ret (.bool false))) ⟨h',s.gens,s.drawn,tk',s.os⟩):
  codeAny (mm w) A (.call (.ref 21) ⟨[.str ⟨⟨x⟩⟩ tk],[]⟩) R s:=by
 refine az [] hT ah (fun n t hn=>?_)
 refine gRx hA.hd 7 [0,0,1,1] ?_
 kst_p
 refine geK hA (.func (dAt 1).2.1 (fenv (dAt 1) qIs 21 20 n)) ?_
 refine gRx hA.hd 31 [0,0,1,0,0,3,3,3,3,3,3,3] ?_
 kst_p
 refine gdK (.ok (.ret (.bool false))) (fun h D=>?_)
 exact H h _ D.keeps
@[reducible] noncomputable def e9 (w:World) (k1 k2 k3 k4 k5 k6:Nat) (v1 v2 v3 v4 v5 v6:Value):List DictEntry:=[ent w.params sTag k1 v1,ent w.params sAttrib k2 v2,ent w.params sTail k3 v3,ent w.params sAppend k4 v4,ent w.params sMake k5 v5,ent w.params sIter k6 v6]
theorem is_el {s:Shared} (hA:AOk A 6) (hT:TopIn w.params s.heap) (h1:s.heap.get? el=some (funO fd (some dd))) (h2:s.heap.get? dd=some (dictO (e9 w k1 k2 k3 k4 k5 k6 (.str tag tt) (.ref ad) vL (.ref ap) (.ref 154) (.ref itf)) 6))
 (H:∀(h':Heap) tk',Keeps s.heap h' []→R (.ok (.ret (.bool true))) ⟨h',s.gens,s.drawn,tk',s.os⟩):
  codeAny (mm w) A (.call (.ref 21) ⟨[.ref el],[]⟩) R s:=by
 refine az _ hT (ag h1 (ag h2 ah)) (fun n t hn=>?_)
 refine gRx hA.hd 7 [0,0,3,3] ?_
 kst_p
 refine geK hA (.func (dAt 1).2.1 (fenv (dAt 1) qIs 21 20 n)) ?_
 refine gRx hA.hd 26 [0,0,3,0,1,1,1,0,1,1,1,1,2] ?_
 kst_p
 refine gdK (.ok (.ret (.bool true))) (fun h D=>?_)
 exact H h _ D.keeps
theorem is_tape {s:Shared} (hA:AOk A 6) (hT:TopIn w.params s.heap) (h1:s.heap.get? el=some (funO fd (some dd))) (h2:s.heap.get? dd=some (dictO [ent w.params sTail k1 (.str ⟨⟨[]⟩⟩ k2),ent w.params sWrite k3 (.ref wf)] 2))
 (H:∀(h':Heap) tk',Keeps s.heap h' []→R (.ok (.ret (.bool false))) ⟨h',s.gens,s.drawn,tk',s.os⟩):
  codeAny (mm w) A (.call (.ref 21) ⟨[.ref el],[]⟩) R s:=by
 refine az _ hT (ag h1 (ag h2 ah)) (fun n t hn=>?_)
 refine gRx hA.hd 7 [0,0,3,3] ?_
 kst_p
 refine geK hA (.func (dAt 1).2.1 (fenv (dAt 1) qIs 21 20 n)) ?_
 refine gRx hA.hd 40 [0,0,3,0,1,1,1,0,1,1,1,1,2,1,5,5,5,5,5,5,5] ?_
 kst_p
 refine gdK (.ok (.ret (.bool false))) (fun h D=>?_)
 exact H h _ D.keeps
theorem is_dict {s:Shared} (hA:AOk A 6) (hT:TopIn w.params s.heap) (h1:s.heap.get? d=some (dictO es e))
 (H:∀(h':Heap) tk',Keeps s.heap h' []→R (.ok (.ret (.bool false))) ⟨h',s.gens,s.drawn,tk',s.os⟩):
  codeAny (mm w) A (.call (.ref 21) ⟨[.ref d],[]⟩) R s:=by
 refine az _ hT (ag h1 ah) (fun n t hn=>?_)
 refine gRx hA.hd 7 [0,0,2,2] ?_
 kst_p
 refine geK hA (.func (dAt 1).2.1 (fenv (dAt 1) qIs 21 20 n)) ?_
 refine gRx hA.hd 39 [0,0,2,0,1,1,1,0,1,1,1,1,1,4,4,4,4,4,4,4] ?_
 kst_p
 refine gdK (.ok (.ret (.bool false))) (fun h D=>?_)
 exact H h _ D.keeps
noncomputable def qItl:Str:=⟨#[95,108,97,119,95,101,108,101,109,101,110,116,46,60,108,111,99,97,108,115,62,46,60,108,97,109,98,100,97,62,46,60,108,111,99,97,108,115,62,46]⟩
noncomputable def nQ:Str:=⟨#[116,104,105,110,103]⟩
noncomputable def itE:Expr:=(lamAt (dAt 16) 6).2.1
@[reducible] noncomputable def dy (L d c2:Addr):Env:={ scope:=cG (bF itE) (lamAt (dAt 16) 6).2.2,locals:=d,globals:=3,cells:=[],qual:=qItl,func:=none,code:= .ref c2,frame:=some L,builtins:=0 }
@[reducible] noncomputable def e10 (w:World) (k1 k2:Nat) (v1 v2:Value):List DictEntry:=[ent w.params nQ k1 v1,ent w.params sPart k2 v2]
theorem lp {xs:List (List Nat)}
 (n1:it≠acc) (n2:it≠d) (n3:acc≠d) (ki:kg w it=none) (ka:kg w acc=none) (kd:kg w d=none) (nl:l≠it) (na:l≠acc) (nd:l≠d):
 ∀(rs:List (List Nat)) {A:Around} {R:Result→Shared→Prop} {s:Shared} {k tk ea:Nat} {La:List Value} {ts:List (List Nat)} {v2:Value} (hA:AOk A 4) (hT:TopIn w.params s.heap)
 (hl:s.heap.get? l=some (listO L2 el)) (hV:StrVs L2 xs) (hI:s.heap.get? it=some (av l k tk)) (hacc:s.heap.get? acc=some (listO La ea)) (hd:s.heap.get? d=some (dictO (e10 w k1 k2 v1 v2) ed))
 (hrs:xs.drop k=rs) (hS:StrVs La ts) (hla:La.length+rs.length≤1000)
 (H:∀(h':Heap) tk' La' ea' v2',Keeps s.heap h' [it,acc,d]→h'.get? acc=some (listO La' ea')→StrVs La' (ts++rs)→h'.get? d=some (dictO (e10 w k1 k2 v1 v2') ed)→R (.ok .next) ⟨h',s.gens,s.drawn,tk',s.os⟩),
  codeAny (mm w) A (.compLoop itE 1 (.ref it) (.ref acc) (dy L d c2)) R s:=by
 intro rs
 induction rs with
 | nil=>
  intro A R s k tk ea La ts v2 hA hT hl hV hI hacc hd hrs hS hla H
  have hlen:L2.length≤k:=by rw[hV.1];exact List.drop_eq_nil_iff.mp hrs
  refine aj _ 1 hT (ag hl (ag hI (ag hd ah))) ?ne ?kn (fun n t _=>?_)
  case ne=>kd_subs
  case kn=>kd_in
  refine gPx hA.hd [] 4 [2,18,1,0,0,5] ?_
  intro zM zO
  refine gQx [L2.length≤k] ⟨by assumption,trivial⟩ ?_
  refine gdK (.ok .next) (fun h D=>?_)
  exact H h _ La ea v2 (D.keeps.mono (by kd_mem)) (D.keeps.kq hacc (by tbr_iter (ai n1.symm n3))) (by tbr_iter hS) (D.xK 2)
 | cons x rs ih=>
  intro A R s k tk ea La ts v2 hA hT hl hV hI hacc hd hrs hS hla H
  have dS:xs[k]? = some x:=by rw[←List.head?_drop,hrs];rfl
  have hk':xs.drop (k+1)=rs:=by rw[←List.tail_drop,hrs];rfl
  kd_adr
  obtain⟨tx,hitem⟩:=hV.2 k x dS
  have hla1:La.length≤2^24:=by simp at hla;kst_all
  have jQ:La.length+1+rs.length≤1000:=by simp at hla;kst_all
  refine aj _ 1 hT (ag hl (ag hI (ag hacc (ag hd ah)))) ?ne ?kn (fun n t _=>?_)
  case ne=>kd_subs
  case kn=>kd_in
  refine gPx hA.hd [Value.str { cps:={ toList:=x } } tx] 13 [2,17,1,0,0,4,4,4,19,2,0,0] ?_
  intro zM zO
  refine gQx [La.length≤2^24,L2[k]? = some (Value.str { cps:={ toList:=x } } tx)] ⟨by assumption,by assumption,trivial⟩ ?_
  refine gaK (.compLoop itE 1 (.ref it) (.ref acc) (dy L d c2)) (fun h D=>?_)
  have f1:=D.cK 0 l (listO L2 el)
  have f2:=D.cK 1 it (av l (k+1) 0)
  have f3:=D.cK 2 acc (listO (La++[.str ⟨⟨x⟩⟩ tx]) (ea+1))
  have f4:=D.cK 3 d (dictO (e10 w k1 k2 v1 (.str ⟨⟨x⟩⟩ tx)) ed)
  exact ih hA D.kt f1 hV f2 f3 f4 hk' (hS.push _ _) (by tbr_iter jQ) (fun h' tk' La' ea' v2' K e1 e2 e3=>H h' tk' La' ea' v2' ((D.keeps.trans K).mono (by kd_mem)) e1 (by tbr_iter e2) e3)
@[reducible] noncomputable def mT (w:World) (k1:Nat) (v1:Value):List DictEntry:=[ent w.params nQ k1 v1]
theorem oK {xs:List (List Nat)}
 (n1:it≠acc) (n2:it≠d) (n3:acc≠d) (ki:kg w it=none) (ka:kg w acc=none) (kd:kg w d=none) (nl:l≠it) (na:l≠acc) (nd:l≠d)
 (x:List Nat) (rs:List (List Nat)) {s:Shared} {ts:List (List Nat)} (hA:AOk A 4) (hT:TopIn w.params s.heap)
 (hl:s.heap.get? l=some (listO L2 el)) (hV:StrVs L2 xs) (hI:s.heap.get? it=some (av l k tk)) (hacc:s.heap.get? acc=some (listO La ea)) (hd:s.heap.get? d=some (dictO (mT w k1 v1) ed))
 (hrs:xs.drop k=x :: rs) (hS:StrVs La ts) (hla:La.length+(x :: rs).length≤1000)
 (H:∀(h':Heap) tk' La' ea' k2 v2' ed',Keeps s.heap h' [it,acc,d]→h'.get? acc=some (listO La' ea')→StrVs La' (ts++(x :: rs))→h'.get? d=some (dictO (e10 w k1 k2 v1 v2') ed')→R (.ok .next) ⟨h',s.gens,s.drawn,tk',s.os⟩):
  codeAny (mm w) A (.compLoop itE 1 (.ref it) (.ref acc) (dy L d c2)) R s:=by
  have dS:xs[k]? = some x:=by rw[←List.head?_drop,hrs];rfl
  have hk':xs.drop (k+1)=rs:=by rw[←List.tail_drop,hrs];rfl
  kd_adr
  obtain⟨tx,hitem⟩:=hV.2 k x dS
  have hla1:La.length≤2^24:=by simp at hla;kst_all
  have jQ:La.length+1+rs.length≤1000:=by simp at hla;kst_all
  refine aj _ 1 hT (ag hl (ag hI (ag hacc (ag hd ah)))) ?ne ?kn (fun n t _=>?_)
  case ne=>kd_subs
  case kn=>kd_in
  refine gPx hA.hd [Value.str { cps:={ toList:=x } } tx] 13 [2,17,1,0,0,4,4,4,19,2,0,0] ?_
  intro zM zO
  refine gQx [La.length≤2^24,L2[k]? = some (Value.str { cps:={ toList:=x } } tx)] ⟨by assumption,by assumption,trivial⟩ ?_
  refine gaK (.compLoop itE 1 (.ref it) (.ref acc) (dy L d c2)) (fun h D=>?_)
  have f1:=D.cK 0 l (listO L2 el)
  have f2:=D.cK 1 it (av l (k+1) 0)
  have f3:=D.cK 2 acc (listO (La++[.str ⟨⟨x⟩⟩ tx]) (ea+1))
  have f4:=D.cK 3 d (dictO (e10 w k1 t v1 (.str ⟨⟨x⟩⟩ tx)) (ed+1))
  exact lp n1 n2 n3 ki ka kd nl na nd rs hA D.kt f1 hV f2 f3 f4 hk' (hS.push _ _) (by tbr_iter jQ) (fun h' tk' La' ea' v2' K e1 e2 e3=>H h' tk' La' ea' _ _ _ ((D.keeps.trans K).mono (by kd_mem)) e1 (by tbr_iter e2) e3)
noncomputable def w2 (w:World) (b2:Bool):World:={ draws:=w.draws,params:={ w.params with followText:=fun s=>cond (eqS s "comprehension-iter-twice") b2 (w.params.followText s) } }
theorem w2_all (w:World):w2 w (w.params.followText "comprehension-iter-twice")=w:=by
 obtain⟨dr,p⟩:=w
 obtain⟨⟩:=p
 simp only[w2,World.mk.injEq,Params.mk.injEq,true_and,and_true]
 funext s
 cases h1:eqS s "comprehension-iter-twice" with
 | true=>rw[(fE _ _).mp h1];rfl
 | false=>rfl
theorem mG {w0:World} {b2:Bool} {L c2 d it l k:Nat} {acc:Value} {A:Around} {R:Result→Shared→Prop} {s:Shared} (hA:AOk A 2) (hT:TopIn (w2 w0 b2).params s.heap) (hI:s.heap.get? it=some (av l k 0))
 (H:∀(h':Heap) tk',Keeps s.heap h' []→codeAny (model pw (w2 w0 b2)) A (.compLoop itE 1 (.ref it) acc (dy L d c2)) R ⟨h',s.gens,s.drawn,tk',s.os⟩):codeAny (model pw (w2 w0 b2)) A (.compStart itE 1 (.ref it) acc (dy L d c2)) R s:=by
 refine az _ hT (ag hI ah) (fun n t hn=>?_)
 cases b2
 ·refine gRx hA.hd 11 [1,1,0,1,1] ?_
  kst_p
  refine gaK (.compLoop itE 1 (.ref it) acc (dy L d c2)) (fun h D=>?_)
  exact H h _ D.keeps
 ·refine gRx hA.hd 1 [] ?_
  kst_p
  refine gaK (.compLoop itE 1 (.ref it) acc (dy L d c2)) (fun h D=>?_)
  exact H h _ D.keeps
theorem iS {acc:Value} {s:Shared} (hA:AOk A 2) (hT:TopIn w.params s.heap) (hI:s.heap.get? it=some (av l k 0))
 (H:∀(h':Heap) tk',Keeps s.heap h' []→codeAny (mm w) A (.compLoop itE 1 (.ref it) acc (dy L d c2)) R ⟨h',s.gens,s.drawn,tk',s.os⟩):codeAny (mm w) A (.compStart itE 1 (.ref it) acc (dy L d c2)) R s:=by
 have z:=mG (w0:=w) (b2:=w.params.followText "comprehension-iter-twice") (L:=L) (c2:=c2) (d:=d) (it:=it) (l:=l) (k:=k) (acc:=acc) (A:=A) (R:=R) (s:=s)
 rw[w2_all] at z
 exact z hA hT hI H
theorem aJ (e:h.get? a=some o) (f:h.objs.size≤b):b≠a:=fun q=>by subst q;exact absurd (Heap.lt_size e) (Nat.not_lt.mpr f)
noncomputable def partsF (kss ws:List (List Nat)):Nat→Nat→List (List Nat)
 | 0,node=>[ws.getD node []]
 | f+1,node=>ws.getD node [] :: ((kss.getD node []).map (partsF kss ws f)).flatten
noncomputable def ElT (P:Params) (h:Heap) (kss ws:List (List Nat)):Nat→Addr→Nat→Prop
 | 0,_,_=>False
 | f+1,el,node=>∃tag tt ad vL row t L e,Elem P h el (.str tag tt) ad vL row∧h.get? row=some (listO (.str ⟨⟨ws.getD node []⟩⟩ t :: L) e)∧L.length=(kss.getD node []).length∧
  ∀(i x:Nat),(kss.getD node [])[i]? = some x→∃c,L[i]? = some (Value.ref c)∧ElT P h kss ws f c x
theorem ElT.keep {P:Params} {h h':Heap} {kss ws:List (List Nat)} (K:Keeps h h' []):∀(f el node:Nat),ElT P h kss ws f el node→ElT P h' kss ws f el node
 | 0,_,_,H=>H
 | f+1,el,node,H=>by
  kd_adr
  obtain⟨tag,tt,ad,vL,row,t,L,e,h1,h2,h3,h4⟩:=H
  exact⟨tag,tt,ad,vL,row,t,L,e,h1.keep K (by kd_mem),K.kp h2,h3,fun i x q=>let ⟨c,a1,a2⟩:=h4 i x q;⟨c,a1,ElT.keep K f c x a2⟩⟩
noncomputable def ItC (w:World) (kss ws:List (List Nat)) (f:Nat):Prop:=∀{A:Around} {R:Result→Shared→Prop} {s:Shared} {node itf cl ct c2 kc row t e:Nat} {vc:Value} {rc L:List Value} (hA:AOk A (10*f+14)) (hT:TopIn w.params s.heap)
 (h1:s.heap.get? itf=some (funO (lamFd (lamAt (dAt 16) 6) qLamE [(sRow,cl)] c2 (.ref ct)) none)) (h2:s.heap.get? cl=some (cellO (.ref row))) (h3:s.heap.get? c2=some (codeO qLamE vc kc rc))
 (h4:s.heap.get? row=some (listO (.str ⟨⟨ws.getD node []⟩⟩ t :: L) e)) (hl:L.length=(kss.getD node []).length)
 (hk:∀(i x:Nat),(kss.getD node [])[i]? = some x→∃c,L[i]? = some (Value.ref c)∧ElT w.params s.heap kss ws f c x) (hlen:(partsF kss ws f node).length≤1000)
 (H:∀(h':Heap) tk' l L' e',Keeps s.heap h' []→h'.get? l=some (listO L' e')→StrVs L' (partsF kss ws f node)→s.heap.objs.size≤l→R (.ok (.ret (.ref l))) ⟨h',s.gens,s.drawn,tk',s.os⟩),
  codeAny (mm w) A (.call (.ref itf) ⟨[],[]⟩) R s
theorem me {kss ws:List (List Nat)}:∀(f node:Nat),∃x rs,partsF kss ws f node=x :: rs
 | 0,_=>⟨_,_,rfl⟩
 | _+1,_=>⟨_,_,rfl⟩
theorem on (REC:∀g,f=g+1→ItC w kss ws g) {row:Nat}
 (n1:it≠acc) (n2:it≠d) (n3:acc≠d) (ki:kg w it=none) (ka:kg w acc=none) (kd:kg w d=none) (fi:h₀.get? it=none) (fa:h₀.get? acc=none) (fd:h₀.get? d=none) (h4:h₀.get? row=some (listO Lr er)):
 ∀(rs:List Nat) {A:Around} {R:Result→Shared→Prop} {s:Shared} {k tk ea:Nat} {La:List Value} {ts:List (List Nat)} {v1 v2:Value} (hA:AOk A (10*f+8)) (hT:TopIn w.params s.heap)
 (hK0:Keeps h₀ s.heap []) (hI:s.heap.get? it=some (av row k tk)) (hacc:s.heap.get? acc=some (listO La ea)) (hd:s.heap.get? d=some (dictO (e10 w k1 k2 v1 v2) ed))
 (hrl:Lr.length=k+rs.length) (hrs:∀(i x:Nat),rs[i]? = some x→∃c,Lr[k+i]? = some (Value.ref c)∧ElT w.params h₀ kss ws f c x) (hS:StrVs La ts) (hla:La.length+((rs.map fun x=>(partsF kss ws (f - 1) x).length)).sum≤1000)
 (H:∀(h':Heap) tk' La' ea' v1' v2',Keeps s.heap h' [it,acc,d]→h'.get? acc=some (listO La' ea')→StrVs La' (ts++(rs.map (partsF kss ws (f - 1))).flatten)→h'.get? d=some (dictO (e10 w k1 k2 v1' v2') ed)→R (.ok .next) ⟨h',s.gens,s.drawn,tk',s.os⟩),
  codeAny (mm w) A (.compLoop itE 0 (.ref it) (.ref acc) (dy L d c2)) R s:=by
 intro rs
 induction rs with
 | nil=>
  intro A R s k tk ea La ts v1 v2 hA hT hK0 hI hacc hd hrl hrs hS hla H
  have hlen:Lr.length≤k:=by simp at hrl;kst_all
  have h4':=hK0.kp h4
  have i1:=neF h4 fi
  have i2:=neF h4 fa
  have i3:=neF h4 fd
  refine aj _ 1 hT (ag h4' (ag hI (ag hd ah))) ?ne ?kn (fun n t _=>?_)
  case ne=>kd_subs
  case kn=>kd_in
  refine gPx hA.hd [] 4 [2,18,1,0,0,5] ?_
  intro zM zO
  refine gQx [Lr.length≤k] ⟨by assumption,trivial⟩ ?_
  refine gdK (.ok .next) (fun h D=>?_)
  exact H h _ La ea v1 v2 (D.keeps.mono (by kd_mem)) (D.keeps.kq hacc (by tbr_iter (ai n1.symm n3))) (by tbr_iter hS) (D.xK 2)
 | cons x rs ih=>
  intro A R s k tk ea La ts v1 v2 hA hT hK0 hI hacc hd hrl hrs hS hla H
  obtain⟨c,hitem,hel⟩:=hrs 0 x rfl
  rw[Nat.add_zero] at hitem
  cases f with
  | zero=>exact hel.elim
  | succ g=>
  have h4':=hK0.kp h4
  have i1:=neF h4 fi
  have i2:=neF h4 fa
  have i3:=neF h4 fd
  kd_adr
  obtain⟨tag,tt,ad,vL,rowc,tc,Lc,ec,⟨dd,ap,itf,cl,ct,cc,q1,q2,q3,q4,q5,q6,kc,fdc,vc,rc,hX⟩,hrc,hlc,hkc⟩:=hel
  have he:=hK0.kp hX.el
  have hdd:=hK0.kp hX.dd
  have hitf:=hK0.kp hX.itf
  have j1:=neF hX.el fi
  have j2:=neF hX.el fa
  have j3:=neF hX.el fd
  have l1:=neF hX.dd fi
  have l2:=neF hX.dd fa
  have l3:=neF hX.dd fd
  have m1:=neF hX.itf fi
  have m2:=neF hX.itf fa
  have m3:=neF hX.itf fd
  refine aj _ 4 hT (ag h4' (ag he (ag hdd (ag hitf (ag hI (ag hacc (ag hd ah))))))) ?ne ?kn (fun n t hn=>?_)
  case ne=>kd_subs
  case kn=>kd_in
  refine gPx hA.hd [Value.ref c] 16 [5,17,4,0,0,7,7,0,7,0] ?_
  intro zM zO
  refine gQx [Lr[k]? = some (Value.ref c)] ⟨by assumption,trivial⟩ ?_
  refine gcK (.call (.ref 21) ⟨[.ref c],[]⟩) (fun h D=>?_)
  refine is_el (hA.subN (by kd_p) 2 (by kd_p) (by kst_all)) D.kt (D.cell 1 (x:=funO fdc (some dd)) (by kd_p)) (D.cell 2 (x:=dictO (e9 w q1 q2 q3 q4 q5 q6 (.str tag tt) (.ref ad) vL (.ref ap) (.ref 154) (.ref itf)) 6) (by kd_p)) (fun h' tk' K=>?_)
  refine dR D K (fun n' hn'=>?_)
  refine gRx hA.hd 21 [7,2,2,2,2,0,2,2,2,2,3,4] ?_
  kst_p
  refine gcK (.call (.ref itf) ⟨[],[]⟩) (fun h D=>?_)
  have hK1:Keeps h₀ h []:=hK0.fresh D.keeps (by kd_in)
  kd_adr
  have⟨g4,w4⟩:=D.wK 4 it (av row (k+1) 0)
  have⟨g5,w5⟩:=D.wK 5 acc (listO La ea)
  have⟨g6,w6⟩:=D.wK 6 d (dictO (e10 w k1 k2 (.ref c) v2) ed)
  have hsum:(partsF kss ws g x).length+(rs.map fun x=>(partsF kss ws g x).length).sum+La.length≤1000:=by simp at hla;kst_all
  refine REC g rfl (hA.subN (by kd_p) 4 (by kd_p) (by kst_all)) D.kt (hK1.kp hX.itf) (hK1.kp hX.cl) (hK1.kp hX.c2) (hK1.kp hrc) hlc (fun i x q=>let ⟨c,a1,a2⟩:=hkc i x q;⟨c,a1,ElT.keep hK1 _ _ _ a2⟩) (by kst_all) (fun h' tk' l2 L2 e2 K hl2 hS2 hfr=>?_)
  have o1:l2≠it:=aJ g4 hfr
  have o2:l2≠acc:=aJ g5 hfr
  have o3:l2≠d:=aJ g6 hfr
  have fr0:h₀.get? l2=none:=by
   cases q:h₀.get? l2 with
   | none=>rfl
   | some o=>exact absurd rfl (aJ (hK1.kp q) hfr)
  refine resume D K ax _ 1 (ag hl2 (ag (K.kp g4) (ag (K.kp g5) (ag (K.kp g6) ah)))) (by kd_subs) (by tbr_iter (ai w4 (ai w5 w6))) (fun n' hn'=>?_)
  have p4:n'≠it:=aJ (K.kp g4) (Nat.le_of_eq hn')
  have fr1:h₀.get? n'=none:=by
   cases q:h₀.get? n' with
   | none=>rfl
   | some o=>exact absurd rfl (aJ (K.kp (hK1.keep _ _ q (by kd_mem))) (Nat.le_of_eq hn'))
  refine gRx hA.hd 11 [1,1,0,1,5] ?_
  kst_p
  refine gcK (.compStart itE 1 (.ref n') (.ref acc) (dy L d c2)) (fun h D=>?_)
  have g0:=D.cK 0 l2 (listO L2 e2)
  kd_adr
  have⟨g4,w4⟩:=D.wK 1 it (av row (k+1) 0)
  have⟨g5,w5⟩:=D.wK 2 acc (listO La ea)
  have⟨g6,w6⟩:=D.wK 3 d (dictO (e10 w k1 k2 (.ref c) v2) ed)
  have⟨g7,w7⟩:=D.wK 4 n' (av l2 0 0)
  have p1:n'≠acc:=apart g7 g5
  have p2:n'≠d:=apart g7 g6
  have p3:l2≠n':=apart g0 g7
  refine iS (hA.subN (by kd_p) 2 (by kd_p) (by kst_all)) D.kt g7 (fun h'' tk'' K2=>?_)
  refine lp p1 p2 n3 w7.kn ka kd p3 o2 o3 (partsF kss ws g x) (hA.subN (by kd_p) 4 (by kd_p) (by kst_all)) (K2.top0 D.kt) (K2.kp g0) hS2 (K2.kp g7) (K2.kp g5) (K2.kp g6) rfl hS (by kst_all) (fun h3 tk3 La' ea' v2' K3 e1 e2 e3=>?_)
  have g4':=K3.kq (K2.keep _ _ g4 (by kd_mem)) (by tbr_iter (ai p4.symm (ai n1 n2)))
  refine resume D (K2.trans K3) (by tbr_iter (an w7 (an w5 (an w6 ax)))) _ 0 (ag g4' (ag e1 (ag e3 ah))) (by kd_subs) (by tbr_iter (ai w4 (ai w5 w6))) (fun n'' hn''=>?_)
  refine gRx hA.hd 0 [] ?_
  kst_p
  refine gaK (.compLoop itE 0 (.ref it) (.ref acc) (dy L d c2)) (fun h D=>?_)
  have c1:=D.cK 0 it (av row (k+1) 0)
  have c2':=D.cK 1 acc (listO La' ea')
  have c3:=D.cK 2 d (dictO (e10 w k1 k2 (.ref c) v2') ed)
  have hK2:Keeps h₀ h []:=hK0.fresh D.keeps (by kd_in)
  refine ih hA D.kt hK2 c1 c2' c3 (by simp at hrl;kst_all) (fun i y q=>by have:=hrs (i+1) y (by tbr_iter q);rwa [show k+(i+1)=k+1+i by kst_all] at this) e2 (by rw[e2.1,List.length_append,←hS.1];simp;kst_all) (fun h' tk' La' ea' v1' v2' K e1 e2 e3=>H h' tk' La' ea' v1' v2' ((D.keeps.trans K).mono (by kd_mem)) e1 (by tbr_iter e2) e3)
theorem mh (REC:∀g,f=g+1→ItC w kss ws g) {h₀:Heap} {row ed:Nat} {L0:List Value}
 (n1:it≠acc) (n2:it≠d) (n3:acc≠d) (ki:kg w it=none) (ka:kg w acc=none) (kd:kg w d=none) (fi:h₀.get? it=none) (fa:h₀.get? acc=none) (fd:h₀.get? d=none) (h4:h₀.get? row=some (listO (.str ⟨⟨x⟩⟩ t0 :: L0) er))
 (rs:List Nat) {s:Shared} (hA:AOk A (10*f+8)) (hT:TopIn w.params s.heap)
 (hK0:Keeps h₀ s.heap []) (hI:s.heap.get? it=some (av row 0 0)) (hacc:s.heap.get? acc=some (listO [] 0)) (hd:s.heap.get? d=some (dictO [] 0))
 (hrl:L0.length=rs.length) (hrs:∀(i x:Nat),rs[i]? = some x→∃c,L0[i]? = some (Value.ref c)∧ElT w.params h₀ kss ws f c x) (hla:1+((rs.map fun x=>(partsF kss ws (f - 1) x).length)).sum≤1000)
 (H:∀(h':Heap) tk' La' ea' dd',Keeps s.heap h' [it,acc,d]→h'.get? acc=some (listO La' ea')→StrVs La' (x :: (rs.map (partsF kss ws (f - 1))).flatten)→h'.get? d=some dd'→(∃k1 k2 v1 v2 e,dd'=dictO (e10 w k1 k2 v1 v2) e)→R (.ok .next) ⟨h',s.gens,s.drawn,tk',s.os⟩):
  codeAny (mm w) A (.compLoop itE 0 (.ref it) (.ref acc) (dy L d c2)) R s:=by
 have h4':=hK0.kp h4
 have hitem:((Value.str ⟨⟨x⟩⟩ t0 :: L0):List Value)[0]? = some (Value.str ⟨⟨x⟩⟩ t0):=rfl
 have i1:=neF h4 fi
 have i2:=neF h4 fa
 have i3:=neF h4 fd
 refine aj _ 1 hT (ag h4' (ag hI (ag hacc (ag hd ah)))) ?ne ?kn (fun n t hn=>?_)
 case ne=>kd_subs
 case kn=>kd_in
 refine gPx hA.hd [Value.str { cps:={ toList:=x } } t0] 16 [2,17,1,0,0,4,4,0,4,0] ?_
 intro zM zO
 refine gQx [(Value.str { cps:={ toList:=x } } t0 :: L0)[0]? = some (Value.str { cps:={ toList:=x } } t0)] ⟨by assumption,trivial⟩ ?_
 refine gcK (.call (.ref 21) ⟨[.str ⟨⟨x⟩⟩ t0],[]⟩) (fun h D=>?_)
 have cI:=D.cK 1 it (av row 1 0)
 have cA:=D.cK 2 acc (listO [] 0)
 refine is_str (hA.subN (by kd_p) 2 (by kd_p) (by kst_all)) D.kt (fun h' tk' K=>?_)
 refine dR D K (fun n' hn'=>?_)
 refine gRx hA.hd 16 [4,5,5,0,5,6] ?_
 kst_p
 refine gcK (.compStart itE 1 (.ref (n'+1)) (.ref acc) (dy L d c2)) (fun h D=>?_)
 kd_adr
 have⟨g1,w1⟩:=D.wK 1 it (av row 1 0)
 have⟨g2,w2⟩:=D.wK 2 acc (listO [] 0)
 have⟨g3,w3⟩:=D.wK 3 d (dictO (mT w t (.str ⟨⟨x⟩⟩ t0)) 1)
 have⟨g4,w4⟩:=D.wK 4 n' (listO [.str ⟨⟨x⟩⟩ t0] 0)
 have⟨g5,w5⟩:=D.wK 5 (n'+1) (av n' 0 0)
 have p1:n'+1≠acc:=apart g5 g2
 have p2:n'+1≠d:=apart g5 g3
 have p3:n'≠n'+1:=by kst_all
 have p4:n'+1≠it:=aJ (K.kp cI) (by kst_all)
 have p5:n'≠acc:=aJ (K.kp cA) (by kst_all)
 have p6:n'≠d:=apart g4 g3
 refine iS (hA.subN (by kd_p) 2 (by kd_p) (by kst_all)) D.kt g5 (fun h'' tk'' K2=>?_)
 refine oK p1 p2 n3 w5.kn ka kd p3 p5 p6 x [] (hA.subN (by kd_p) 4 (by kd_p) (by kst_all)) (K2.top0 D.kt) (K2.kp g4) (StrVs.nil.push x t0) (K2.kp g5) (K2.kp g2) (K2.kp g3) rfl StrVs.nil (by kd_mem) (fun h3 tk3 La' ea' k2 v2' ed' K3 e1 e2 e3=>?_)
 have g1':=K3.kq (K2.keep _ _ g1 (by kd_mem)) (by tbr_iter (ai p4.symm (ai n1 n2)))
 refine resume D (K2.trans K3) (by tbr_iter (an w5 (an w2 (an w3 ax)))) _ 0 (ag g1' (ag e1 (ag e3 ah))) (by kd_subs) (by tbr_iter (ai w1 (ai w2 w3))) (fun n'' hn''=>?_)
 refine gRx hA.hd 0 [] ?_
 kst_p
 refine gaK (.compLoop itE 0 (.ref it) (.ref acc) (dy L d c2)) (fun h D=>?_)
 have c1:=D.cK 0 it (av row (0+1) 0)
 have c2':=D.cK 1 acc (listO La' ea')
 have c3:=D.cK 2 d (dictO (e10 w t k2 (.str ⟨⟨x⟩⟩ t0) v2') ed')
 have hK2:Keeps h₀ h []:=hK0.fresh D.keeps (by kd_in)
 refine on REC n1 n2 n3 ki ka kd fi fa fd h4 rs hA D.kt hK2 c1 c2' c3 (by simp;kst_all) (fun i y q=>by have:=hrs i y q;rwa [Nat.add_comm,List.getElem?_cons_succ]) e2 (by rw[e2.1];simp;kst_all) (fun h' tk' La' ea' v1' v2' K e1 e2 e3=>H h' tk' La' ea' _ ((D.keeps.trans K).mono (by kd_mem)) e1 (by tbr_iter e2) e3 ⟨_,_,_,_,_,rfl⟩)
theorem oI (REC:∀g,f=g+1→ItC w kss ws g):ItC w kss ws f:=by
 intro A R s node itf cl ct c2 kc row t0 e vc rc L0 hA hT h1 h2 h3 h4 hl hk hlen H
 have hp:partsF kss ws f node=ws.getD node [] :: ((kss.getD node []).map (partsF kss ws (f - 1))).flatten:=by
  cases f with
  | zero=>
   have:kss.getD node []=[]:=by
    cases q:kss.getD node [] with
    | nil=>rfl
    | cons x xs=>obtain⟨c,_,hc⟩:=hk 0 x (by rw[q];rfl);exact hc.elim
   rw[this];rfl
  | succ g=>rfl
 rw[hp] at hlen H
 generalize kss.getD node []=rs at *
 generalize ws.getD node []=x at *
 refine az _ hT (ag h1 (ag h2 (ag h3 (ag h4 ah)))) (fun n t hn=>?_)
 refine gRx hA.hd 3 [1,3] ?_
 kst_p
 refine GoalX.enter (c:= .expr (lamAt (dAt 16) 6).2.1 { scope:=(lamAt (dAt 16) 6).2.2,locals:=n,globals:=3,cells:=[(sRow,cl)],qual:=qItl,func:=some itf,code:= .ref c2,frame:=some n,builtins:=0 }) (by kd_p) (fun h D=>noLimit D.kt) (ir hA 2 (by kd_p) (by kst_all)) ?_
 refine gRx hA.hd 16 [2,4,4,0,4,6] ?_
 kst_p
 refine gcK (.compStart itE 0 (.ref (n+1)) (.ref (n+2)) (dy n (n+3) c2)) (fun h D=>?_)
 kd_adr
 have⟨g4,w4⟩:=D.wK 4 n (frame [] 0)
 have⟨g5,w5⟩:=D.wK 5 (n+1) (av row 0 0)
 have⟨g6,w6⟩:=D.wK 6 (n+2) (listO [] 0)
 have⟨g7,w7⟩:=D.wK 7 (n+3) (dictO [] 0)
 refine aM (by kd_p) g5 ?_
 have hsum:1+((rs.map fun x=>(partsF kss ws (f - 1) x).length)).sum≤1000:=by
  simp[List.length_flatten,Function.comp_def] at hlen
  omega
 refine mh (ed:=0) REC (h₀:=s.heap) (by kst_all) (by kst_all) (by kst_all) w5.kn w6.kn w7.kn (w5.ex.resolve_left (by kd_mem)) (w6.ex.resolve_left (by kd_mem)) (w7.ex.resolve_left (by kd_mem)) h4 rs (hA.subN (by kd_p) 5 (by kd_p) (by kst_all)) D.kt D.keeps g5 g6 g7 hl hk hsum (fun h' tk' La' ea' dd' K e1 e2 e3 e4=>?_)
 kd_adr
 obtain⟨k1,k2,v1,v2,ed,rfl⟩:=e4
 refine resume D K (an w5 (an w6 (an w7 ax))) _ 0 (ag (K.kp g4) (ag e1 (ag e3 ah))) (by kd_subs) (by tbr_iter (ai w4 (ai w6 w7))) (fun n' hn'=>?_)
 refine gRx hA.hd 10 [3,3,3,3,3,3] ?_
 kst_p
 refine gdK (.ok (.ret (.ref (n+2)))) (fun h D=>?_)
 exact H h _ (n+2) La' ea' D.keeps (D.xK 1) e2 (by kst_all)
theorem oC:∀f,ItC w kss ws f:=by
 intro f
 induction f with
 | zero=>
  refine oI ?_
  intro g h
  omega
 | succ f ih=>
  refine oI ?_
  intro g h
  have:g=f:=by kst_all
  rw[this]
  exact @ih
noncomputable def l6:Str:=⟨#[95,115,101,114,105,97,108,105,122,101,95,116,101,120,116,46,60,108,111,99,97,108,115,62,46]⟩
noncomputable def sElem:Str:=⟨#[101,108,101,109]⟩
theorem Keeps.fresh2 {ex0 ex1:List Addr} (K:Keeps h h' ex0) (K':Keeps h' h'' ex1) (hf:∀a∈ex1,a∈ex0∨h.get? a=none):Keeps h h'' ex0:=
 ⟨fun b o e hb=>K'.keep b o (K.keep b o e hb) (fun m=>(hf b m).elim hb fun q=>by rw[q] at e;cases e),Nat.le_trans K.size K'.size⟩
theorem IntVs.append {L L':List Value} {ys:List Nat} (h:IntVs L xs) (h':IntVs L' ys):IntVs (L++L') (xs++ys):=by
 refine⟨by rw[List.length_append,List.length_append,h.1,h'.1],fun i x e=>?_⟩
 rw[List.getElem?_append] at e ⊢
 rw[←h.1] at e
 split at e
 ·rename_i hi;rw[if_pos hi];exact h.2 i x e
 ·rename_i hi;rw[if_neg hi];exact h'.2 _ x e
theorem Keeps.drop1 (K:Keeps h h' ex) (hx:∀a∈ex,∃o,h.get? a=some o∧h'.get? a=some o):Keeps h h' []:=
 ⟨fun b o e _=>by
  by_cases m:b∈ex
  ·obtain⟨o',e1,e2⟩:=hx b m
   rw[e1] at e;cases e;exact e2
  ·exact K.keep b o e m,K.size⟩
theorem aS (f:h.objs.size≤a):h.get? a=none:=by
 cases q:h.get? a with
 | none=>rfl
 | some o=>exact absurd rfl (aJ q f)
structure TellAt (P:Params) (h:Heap) (k mw cn d tape oc dd wf cw co ct c2 k3 k4 k5 kc:Nat) (fd:FuncData) (vc:Value) (rc:List Value):Prop where
 h1:h.get? mw=some ⟨.type "method",none, .fields #[.ref 107, .ref cn], #[]⟩
 hc:h.get? cn=some (instO 131 d)
 hX:TapeX P h tape (escRef k) oc dd wf cw co ct c2 k3 k4 k5 kc fd vc rc
 hnd:dd≠d
 hd:∃k1 k2 off to,h.get? d=some (tellD P k1 k2 tape off to)
 ho:∃L e,h.get? oc=some (listO L e)
 hdN:(kt P).get d=none
 hoN:(kt P).get oc=none
theorem TellAt.at {cw:Nat} (T:TellAt P h₀ k mw cn d tape oc dd wf cw co ct c2 k3 k4 k5 kc fd vc rc) (K:Keeps h₀ h [d,oc]):
  h.get? mw=some ⟨.type "method",none, .fields #[.ref 107, .ref cn], #[]⟩∧h.get? cn=some (instO 131 d)∧TapeX P h tape (escRef k) oc dd wf cw co ct c2 k3 k4 k5 kc fd vc rc:=by
 kd_adr
 obtain⟨q1,q2,q3,q4,hd⟩:=T.hd
 obtain⟨q5,q6,ho⟩:=T.ho
 have X:=T.hX
 refine⟨K.keep _ _ T.h1 ?_,K.keep _ _ T.hc ?_,K.keep _ _ X.tape ?_,K.keep _ _ X.dd ?_,K.keep _ _ X.wf ?_,K.keep _ _ X.cw ?_,K.keep _ _ X.co ?_,K.keep _ _ X.c2 ?_⟩<;>simp
 ·exact⟨apart T.h1 hd,apart T.h1 ho⟩
 ·exact⟨apart T.hc hd,apart T.hc ho⟩
 ·exact⟨apart X.tape hd,apart X.tape ho⟩
 ·exact⟨T.hnd,apart X.dd ho⟩
 ·exact⟨apart X.wf hd,apart X.wf ho⟩
 ·exact⟨apart X.cw hd,apart X.cw ho⟩
 ·exact⟨apart X.co hd,apart X.co ho⟩
 ·exact⟨apart X.c2 hd,apart X.c2 ho⟩
@[reducible] noncomputable def e12 (w:World) (k1 k2 k3:Nat) (v1 v2 v3:Value):List DictEntry:=[ent w.params sWrite k1 v1,ent w.params sElem k2 v2,ent w.params sPart k3 v3]
theorem nP {cw:Nat} {k8:Nat} {xs:List (List Nat)} (hT0:TellAt w.params h₀ k mw cn d tape oc dd wf cw co ct c2 k3 k4 k5 kc fd vc rc) (hk:k<5)
 (fL:h₀.get? L=none) (fi:h₀.get? it=none) (n1:L≠it) (kL:kg w L=none) (ki:kg w it=none):
 ∀(rs:List (List Nat)) {A:Around} {R:Result→Shared→Prop} {s:Shared} {j tj off to eo:Nat} {Lo:List Value} {v8:Value} (hA:AOk A 18) (hT:TopIn w.params s.heap) (hK0:Keeps h₀ s.heap [d,oc])
 (hL:s.heap.get? L=some (frame (e12 w k6 k7 k8 (.ref mw) (.ref el) v8) e)) (hI:s.heap.get? it=some (av l j tj)) (hl:s.heap.get? l=some (listO L2 el2)) (hV:StrVs L2 xs)
 (hd:s.heap.get? d=some (tellD w.params k1 k2 tape off to)) (hoc:s.heap.get? oc=some (listO Lo eo)) (hrs:xs.drop j=rs) (hw:∀x∈rs,x∈wordsL)
 (hLo:Lo.length+6*rs.length≤40000) (hoff:off+6*rs.length≤40000) (hlo:l≠oc)
 (H:∀(h':Heap) tk' to' Lo' eo' v8',Keeps s.heap h' [L,it,d,oc]→h'.get? L=some (frame (e12 w k6 k7 k8 (.ref mw) (.ref el) v8') e)→h'.get? d=some (tellD w.params k1 k2 tape (off+(rs.map (esc k)).flatten.length) to')→h'.get? oc=some (listO (Lo++Lo') eo')→IntVs Lo' (rs.map (esc k)).flatten→
  R (.ok .next) ⟨h',s.gens,s.drawn,tk',s.os⟩),
  codeAny (mm w) A (aU (dAt 3) 0 (.ref it) (fenv (dAt 3) l6 37 36 L)) R s:=by
 intro rs
 induction rs with
 | nil=>
  intro A R s j tj off to eo Lo v8 hA hT hK0 hL hI hl hV hd hoc hrs hw hLo hoff hlo H
  have hlen:L2.length≤j:=by rw[hV.1];exact List.drop_eq_nil_iff.mp hrs
  have u1:=apart hl hL
  have u2:=apart hl hI
  refine aj _ 1 hT (ag hl (ag hL (ag hI ah))) ?ne ?kn (fun n t hn=>?_)
  case ne=>kd_subs
  case kn=>kd_in
  refine gPx hA.hd [] 5 [3,18,2,0,0,5] ?_
  intro zM zO
  refine gQx [L2.length≤j] ⟨by assumption,trivial⟩ ?_
  refine gdK (.ok .next) (fun h D=>?_)
  have x1:=apart hL hd
  have x2:=apart hL hoc
  have x3:=apart hI hd
  have x4:=apart hI hoc
  exact H h _ to [] eo v8 (D.keeps.mono (by kd_mem)) (D.xK 1) (D.keeps.kq hd (by tbr_iter (ai x1.symm x3.symm))) (by rw[List.append_nil];exact D.keeps.kq hoc (by tbr_iter (ai x2.symm x4.symm))) ⟨rfl,fun i x q=>by simp at q⟩
 | cons x rs ih=>
  intro A R s j tj off to eo Lo v8 hA hT hK0 hL hI hl hV hd hoc hrs hw hLo hoff hlo H
  have dS:xs[j]? = some x:=by rw[←List.head?_drop,hrs];rfl
  have hk':xs.drop (j+1)=rs:=by rw[←List.tail_drop,hrs];rfl
  kd_adr
  obtain⟨tx,hitem⟩:=hV.2 j x dS
  have hxw:x∈wordsL:=hw x (by kd_mem)
  have h1:=(hT0.at hK0).1
  have u1:=apart hl hL
  have u2:=apart hl hI
  have u3:=apart hl hd
  have v1:=apart h1 hL
  have v2:=apart h1 hI
  have v3:=apart h1 hd
  have v4:=apart h1 hoc
  have x1:=apart hL hd
  have x2:=apart hL hoc
  have x3:=apart hI hd
  have x4:=apart hI hoc
  have x5:=apart hd hoc
  have y1:=hT0.hdN
  have y2:=hT0.hoN
  refine aj _ 2 hT (ag hl (ag h1 (ag hL (ag hI (ag hd (ag hoc ah)))))) ?ne ?kn (fun n t hn=>?_)
  case ne=>kd_subs
  case kn=>kd_in
  refine gPx hA.hd [Value.str { cps:={ toList:=x } } tx] 18 [4,17,3,0,0,3,3,3,3,2,0] ?_
  intro zM zO
  refine gQx [L2[j]? = some (Value.str { cps:={ toList:=x } } tx)] ⟨by assumption,trivial⟩ ?_
  refine gcK (.call (.ref mw) ⟨[.str ⟨⟨x⟩⟩ tx],[]⟩) (fun h D=>?_)
  kd_adr
  have⟨g2,w2⟩:=D.wK 2 L (frame (e12 w k6 k7 k8 (.ref mw) (.ref el) (.str ⟨⟨x⟩⟩ tx)) e)
  have⟨g3,w3⟩:=D.wK 3 it (av l (j+1) 0)
  have⟨g4,w4⟩:=D.wK 4 d (tellD w.params k1 k2 tape off to)
  have⟨g5,w5⟩:=D.wK 5 oc (listO Lo eo)
  have hK1:Keeps h₀ h [d,oc]:=hK0.fresh2 D.keeps (by kd_in)
  obtain⟨f1,f2,f3⟩:=hT0.at hK1
  have g0:=D.cK 0 l (listO L2 el2)
  refine dN hk hxw (hA.subN (by kd_p) 2 (by kd_p) (by kst_all)) D.kt f1 f2 g4 y1 hT0.hnd f3 g5 y2 (by simp at hLo;kst_all) (by simp at hoff;kst_all) (fun h' tk' tok to' L' e' K e1 e2 e3=>?_)
  have hes:=(a0 hk hxw).2
  refine resume D K (an w4 (an w5 ax)) _ 2 (ag (K.kq g0 (by kd_in)) (ag (K.kq f1 (by kd_in)) (ag (K.kq g2 (by kd_in)) (ag (K.kq g3 (by kd_in)) (ag e1 (ag e2 ah)))))) (by kd_subs) (by tbr_iter (ai w2 (ai w3 (ai w4 w5)))) (fun n' hn'=>?_)
  refine gRx hA.hd 1 [] ?_
  kst_p
  refine gaK (aU (dAt 3) 0 (.ref it) (fenv (dAt 3) l6 37 36 L)) (fun h D=>?_)
  have g0:=D.cK 0 l (listO L2 el2)
  have g2:=D.cK 2 L (frame (e12 w k6 k7 k8 (.ref mw) (.ref el) (.str ⟨⟨x⟩⟩ tx)) e)
  have g3:=D.cK 3 it (av l (j+1) 0)
  have g4:=D.cK 4 d (tellD w.params k1 k2 tape (off+(esc k x).length) to')
  have g5:=D.cK 5 oc (listO (Lo++L') e')
  have hK2:Keeps h₀ h [d,oc]:=hK0.fresh2 D.keeps (by kd_in)
  have hl3:L'.length≤6:=by rw[e3.1];exact hes
  refine ih hA D.kt hK2 g2 g3 g0 hV g4 g5 hk' (fun y hy=>hw y (by first | kd_facts | simp[hy])) (by simp at hLo ⊢;kst_all) (by simp at hoff ⊢;kst_all) hlo (fun h' tk' to' Lo' eo' v8' K f1 f2 f3 f4=>?_)
  have K':=(D.keeps.trans K).mono (ex':=[L,it,d,oc]) (by kd_mem)
  rw[Nat.add_assoc] at f2
  rw[List.append_assoc] at f3
  exact H h' tk' to' (L'++Lo') eo' v8' K' f1 (by tbr_iter f2) f3 (by tbr_iter (e3.append f4))
@[reducible] noncomputable def e13 (w:World) (k1 k2:Nat) (v1 v2:Value):List DictEntry:=[ent w.params sWrite k1 v1,ent w.params sElem k2 v2]
theorem lY {cw:Nat} {xs:List (List Nat)} (hT0:TellAt w.params h₀ k mw cn d tape oc dd wf cw co ct c2 k3 k4 k5 kc fd vc rc) (hk:k<5)
 (fL:h₀.get? L=none) (fi:h₀.get? it=none) (n1:L≠it) (kL:kg w L=none) (ki:kg w it=none)
 (x:List Nat) (rs:List (List Nat)) {s:Shared} (hA:AOk A 18) (hT:TopIn w.params s.heap) (hK0:Keeps h₀ s.heap [d,oc])
 (hL:s.heap.get? L=some (frame (e13 w k6 k7 (.ref mw) (.ref el)) e)) (hI:s.heap.get? it=some (av l j tj)) (hl:s.heap.get? l=some (listO L2 el2)) (hV:StrVs L2 xs)
 (hd:s.heap.get? d=some (tellD w.params k1 k2 tape off to)) (hoc:s.heap.get? oc=some (listO Lo eo)) (hrs:xs.drop j=x :: rs) (hw:∀y∈x :: rs,y∈wordsL)
 (hLo:Lo.length+6*(x :: rs).length≤40000) (hoff:off+6*(x :: rs).length≤40000) (hlo:l≠oc)
 (H:∀(h':Heap) tk' to' Lo' eo' k8 v8' e',Keeps s.heap h' [L,it,d,oc]→h'.get? L=some (frame (e12 w k6 k7 k8 (.ref mw) (.ref el) v8') e')→h'.get? d=some (tellD w.params k1 k2 tape (off+((x :: rs).map (esc k)).flatten.length) to')→h'.get? oc=some (listO (Lo++Lo') eo')→IntVs Lo' ((x :: rs).map (esc k)).flatten→
  R (.ok .next) ⟨h',s.gens,s.drawn,tk',s.os⟩):
  codeAny (mm w) A (aU (dAt 3) 0 (.ref it) (fenv (dAt 3) l6 37 36 L)) R s:=by
  have dS:xs[j]? = some x:=by rw[←List.head?_drop,hrs];rfl
  have hk':xs.drop (j+1)=rs:=by rw[←List.tail_drop,hrs];rfl
  kd_adr
  obtain⟨tx,hitem⟩:=hV.2 j x dS
  have hxw:x∈wordsL:=hw x (by kd_mem)
  have h1:=(hT0.at hK0).1
  have u1:=apart hl hL
  have u2:=apart hl hI
  have u3:=apart hl hd
  have v1:=apart h1 hL
  have v2:=apart h1 hI
  have v3:=apart h1 hd
  have v4:=apart h1 hoc
  have x1:=apart hL hd
  have x2:=apart hL hoc
  have x3:=apart hI hd
  have x4:=apart hI hoc
  have x5:=apart hd hoc
  have y1:=hT0.hdN
  have y2:=hT0.hoN
  refine aj _ 2 hT (ag hl (ag h1 (ag hL (ag hI (ag hd (ag hoc ah)))))) ?ne ?kn (fun n t hn=>?_)
  case ne=>kd_subs
  case kn=>kd_in
  refine gPx hA.hd [Value.str { cps:={ toList:=x } } tx] 18 [4,17,3,0,0,3,3,3,3,2,0] ?_
  intro zM zO
  refine gQx [L2[j]? = some (Value.str { cps:={ toList:=x } } tx)] ⟨by assumption,trivial⟩ ?_
  refine gcK (.call (.ref mw) ⟨[.str ⟨⟨x⟩⟩ tx],[]⟩) (fun h D=>?_)
  kd_adr
  have⟨g2,w2⟩:=D.wK 2 L (frame (e12 w k6 k7 t (.ref mw) (.ref el) (.str ⟨⟨x⟩⟩ tx)) (e+1))
  have⟨g3,w3⟩:=D.wK 3 it (av l (j+1) 0)
  have⟨g4,w4⟩:=D.wK 4 d (tellD w.params k1 k2 tape off to)
  have⟨g5,w5⟩:=D.wK 5 oc (listO Lo eo)
  have hK1:Keeps h₀ h [d,oc]:=hK0.fresh2 D.keeps (by kd_in)
  obtain⟨f1,f2,f3⟩:=hT0.at hK1
  have g0:=D.cK 0 l (listO L2 el2)
  refine dN hk hxw (hA.subN (by kd_p) 2 (by kd_p) (by kst_all)) D.kt f1 f2 g4 y1 hT0.hnd f3 g5 y2 (by simp at hLo;kst_all) (by simp at hoff;kst_all) (fun h' tk' tok to' L' e' K e1 e2 e3=>?_)
  have hes:=(a0 hk hxw).2
  refine resume D K (an w4 (an w5 ax)) _ 2 (ag (K.kq g0 (by kd_in)) (ag (K.kq f1 (by kd_in)) (ag (K.kq g2 (by kd_in)) (ag (K.kq g3 (by kd_in)) (ag e1 (ag e2 ah)))))) (by kd_subs) (by tbr_iter (ai w2 (ai w3 (ai w4 w5)))) (fun n' hn'=>?_)
  refine gRx hA.hd 1 [] ?_
  kst_p
  refine gaK (aU (dAt 3) 0 (.ref it) (fenv (dAt 3) l6 37 36 L)) (fun h D=>?_)
  have g0:=D.cK 0 l (listO L2 el2)
  have g2:=D.cK 2 L (frame (e12 w k6 k7 t (.ref mw) (.ref el) (.str ⟨⟨x⟩⟩ tx)) (e+1))
  have g3:=D.cK 3 it (av l (j+1) 0)
  have g4:=D.cK 4 d (tellD w.params k1 k2 tape (off+(esc k x).length) to')
  have g5:=D.cK 5 oc (listO (Lo++L') e')
  have hK2:Keeps h₀ h [d,oc]:=hK0.fresh2 D.keeps (by kd_in)
  have hl3:L'.length≤6:=by rw[e3.1];exact hes
  refine nP hT0 hk fL fi n1 kL ki rs hA D.kt hK2 g2 g3 g0 hV g4 g5 hk' (fun y hy=>hw y (by first | kd_facts | simp[hy])) (by simp at hLo ⊢;kst_all) (by simp at hoff ⊢;kst_all) hlo (fun h' tk' to' Lo' eo' v8' K f1 f2 f3 f4=>?_)
  have K':=(D.keeps.trans K).mono (ex':=[L,it,d,oc]) (by kd_mem)
  rw[Nat.add_assoc] at f2
  rw[List.append_assoc] at f3
  exact H h' tk' to' (L'++Lo') eo' _ _ _ K' f1 (by tbr_iter f2) f3 (by tbr_iter (e3.append f4))
theorem i8 {k:Nat} (hk:k<5):∀{xs:List (List Nat)} {n:Nat},(∀x∈xs,x∈wordsL)→xs.length≤n→(xs.map (esc k)).flatten.length≤6*n
 | [],n,_,_=>by simp
 | x :: xs,n,h,hl=>by
  have h1:=(a0 hk (h x (by kd_mem))).2
  have h2:=i8 hk (xs:=xs) (n:=n - 1) (fun y hy=>h y (by first | kd_facts | simp[hy])) (by simp at hl;kst_all)
  simp only[List.map_cons,List.flatten_cons,List.length_append,List.length_cons] at hl ⊢
  omega
theorem law_ser {cw:Nat} {f:Nat} {s:Shared} {row tr:Nat} (hk:k<5) (hA:AOk A (10*f+30)) (hT:TopIn w.params s.heap)
 (hT0:TellAt w.params s.heap k mw cn d tape oc dd wf cw co ct c2 k3 k4 k5 kc fd vc rc) (hd:s.heap.get? d=some (tellD w.params k1 k2 tape off to)) (hoc:s.heap.get? oc=some (listO Lo eo))
 (hE:Elem w.params s.heap el (.str tag tt) ad vL row) (hrow:s.heap.get? row=some (listO (.str ⟨⟨ws.getD node []⟩⟩ tr :: Lr) er)) (hlr:Lr.length=(kss.getD node []).length)
 (hkc:∀(i x:Nat),(kss.getD node [])[i]? = some x→∃c,Lr[i]? = some (Value.ref c)∧ElT w.params s.heap kss ws f c x) (hlen:(partsF kss ws f node).length≤1000) (hw:∀x∈partsF kss ws f node,x∈wordsL)
 (hy:(vL = .none∧y=[])∨∃c kv,vL = .str ⟨⟨[c]⟩⟩ kv∧y=[c]∧y∈wordsL) (hLo:Lo.length≤10000) (hoff:off≤10000)
 (H:∀(h':Heap) tk' to' Lo' eo',Keeps s.heap h' [d,oc]→h'.get? d=some (tellD w.params k1 k2 tape (off+((partsF kss ws f node).map (esc k)).flatten.length+(esc k y).length) to')→h'.get? oc=some (listO (Lo++Lo') eo')→IntVs Lo' (((partsF kss ws f node).map (esc k)).flatten++esc k y)→
  R (.ok (.ret .none)) ⟨h',s.gens,s.drawn,tk',s.os⟩):
  codeAny (mm w) A (.call (.ref 37) ⟨[.ref mw, .ref el],[]⟩) R s:=by
 kd_adr
 obtain⟨de,ap,itf,cl,cte,cc,q1,q2,q3,q4,q5,q6,kce,fde,vce,rce,hX⟩:=hE
 have h1:=hT0.h1
 have y1:=hT0.hdN
 have y2:=hT0.hoN
 have a1:=apart hX.el hd
 have a2:=apart hX.itf hd
 have a3:=apart h1 hd
 have b1':=apart hX.el hoc
 have b2':=apart hX.itf hoc
 have b3':=apart h1 hoc
 have b4':=apart hX.dd hoc
 have a5:=apart hd hoc
 have a4:de≠d:=fun q=>by
  have:=hX.dd
  rw[q,hd] at this
  simp at this
 refine aj _ 4 hT (ag hX.el (ag hX.dd (ag hX.itf (ag h1 (ag hd (ag hoc ah)))))) ?ne ?kn (fun n t hn=>?_)
 case ne=>kd_subs
 case kn=>kd_in
 refine gRx hA.hd 11 [0,0,7,7,7,7] ?_
 kst_p
 refine GoalX.enter (c:= .func (dAt 3).2.1 (fenv (dAt 3) l6 37 36 n)) (by kd_p) (fun h D=>noLimit D.kt) (ir hA 2 (by kd_p) (by kst_all)) ?_
 refine gRx hA.hd 22 [7,1,1,1,1,0,1,1,1,1,2,3] ?_
 kst_p
 refine gcK (.call (.ref itf) ⟨[],[]⟩) (fun h D=>?_)
 have hK:Keeps s.heap h []:=D.keeps.drop1 (by
  intro a m
  rcases List.mem_cons.mp m with rfl | m
  ·exact⟨_,hd,D.xK 4⟩
  ·rcases List.mem_cons.mp m with rfl | m
   ·exact⟨_,hoc,D.xK 5⟩
   ·cases m)
 kd_adr
 have⟨gn,wn⟩:h.get? n=some (frame (e13 w t (t+1) (.ref mw) (.ref el)) 2)∧Wr w _ _ n:=D.cw 6 (by kd_p) (by kd_p)
 have wd:Wr w _ _ d:=(D.cw (a:=d) (x:=tellD w.params k1 k2 tape off to) 4 (by kd_p) (by kd_p)).2
 have wo:Wr w _ _ oc:=(D.cw (a:=oc) (x:=listO Lo eo) 5 (by kd_p) (by kd_p)).2
 refine oC f (hA.subN (by kd_p) 2 (by kd_p) (by kst_all)) D.kt (hK.kp hX.itf) (hK.kp hX.cl) (hK.kp hX.c2) (hK.kp hrow) hlr (fun i x q=>let ⟨c,e1,e2⟩:=hkc i x q;⟨c,e1,ElT.keep hK _ _ _ e2⟩) hlen (fun h' tk' l2 L2 e2 K hl2 hS2 hfr=>?_)
 have hKK:Keeps s.heap h' []:=(hK.trans K).mono (by kd_mem)
 have n1:l2≠n:=aJ gn hfr
 have n2:l2≠d:=aJ (hK.kp hd) hfr
 have n3:l2≠oc:=aJ (hK.kp hoc) hfr
 have n4:n≠d:=aJ hd (Nat.le_of_eq hn)
 have n5:n≠oc:=aJ hoc (Nat.le_of_eq hn)
 have m1:n≠el:=aJ hX.el (Nat.le_of_eq hn)
 have m2:n≠de:=aJ hX.dd (Nat.le_of_eq hn)
 have m3:n≠mw:=aJ h1 (Nat.le_of_eq hn)
 refine resume D K ax _ 4 (ag hl2 (ag (hKK.kp hX.el) (ag (hKK.kp hX.dd) (ag (hKK.kp h1) (ag (K.kp gn) (ag (hKK.kp hd) (ag (hKK.kp hoc) ah))))))) (by simp[Dis, *,m1.symm,m2.symm,m3.symm]) (by tbr_iter (ai wn (ai wd wo))) (fun n' hn'=>?_)
 refine gRx hA.hd 11 [1,1,0,1,8] ?_
 kst_p
 refine gcK (aU (dAt 3) 0 (.ref n') (fenv (dAt 3) l6 37 36 n)) (fun h D=>?_)
 have g0:=D.cK 0 l2 (listO L2 e2)
 kd_adr
 have⟨g4,w4⟩:h.get? n=some (frame (e13 w t (t+1) (.ref mw) (.ref el)) 2)∧Wr w _ _ n:=D.cw 4 (by kd_p) (by kd_p)
 have⟨g5,w5⟩:h.get? d=some (tellD w.params k1 k2 tape off to)∧Wr w _ _ d:=D.cw 5 (by kd_p) (by kd_p)
 have⟨g6,w6⟩:h.get? oc=some (listO Lo eo)∧Wr w _ _ oc:=D.cw 6 (by kd_p) (by kd_p)
 have⟨g7,w7⟩:h.get? n'=some (av l2 0 0)∧Wr w _ _ n':=D.cw 7 (by kd_p) (by kd_p)
 obtain⟨x,rs,hps⟩:=me (kss:=kss) (ws:=ws) f node
 have hf1:s.heap.get? n=none:=aS (Nat.le_of_eq hn)
 have hf2:s.heap.get? n'=none:=aS (by have:=hKK.size;kst_all)
 have hl6:(x :: rs).length≤1000:=by rw[←hps];exact hlen
 refine lY hT0 hk hf1 hf2 (apart g4 g7) w4.kn w7.kn x rs (hA.subN (by kd_p) 2 (by kd_p) (by kst_all)) D.kt D.keeps g4 g7 g0 hS2 g5 g6 hps (by rw[←hps];exact hw) (by kst_all) (by kst_all) n3 (fun h3 tk3 to' Lo' eo' k8 v8' e' K3 e1 e2 e3 e4=>?_)
 have K30:Keeps s.heap h3 [d,oc]:=D.keeps.fresh2 K3 (by first | kd_facts | simp[hf1,hf2])
 have o1:n'≠el:=aJ hX.el (by have:=hKK.size;kst_all)
 have o2:n'≠de:=aJ hX.dd (by have:=hKK.size;kst_all)
 have o3:n'≠mw:=aJ h1 (by have:=hKK.size;kst_all)
 rw[←hps] at e2 e4
 refine resume D K3 (an w4 (an w7 (an w5 (an w6 ax)))) _ 3 (ag (K30.kq hX.el (by kd_in)) (ag (K30.kq hX.dd (by kd_in)) (ag (K30.kq h1 (by kd_in)) (ag e1 (ag e2 (ag e3 ah)))))) (by simp[Dis, *,m1.symm,m2.symm,m3.symm]) (by tbr_iter (ai w4 (ai w5 w6))) (fun n'' hn''=>?_)
 rcases hy with⟨rfl,rfl⟩ | ⟨c,kv,rfl,rfl,hyw⟩
 ·refine gRx hA.hd 16 [4,1,0,1,1,1,1,2] ?_
  kst_p
  refine gdK (.ok (.ret .none)) (fun h D=>?_)
  have f2:=D.cK 4 d (tellD w.params k1 k2 tape (off+((partsF kss ws f node).map (esc k)).flatten.length) to')
  have f3:=D.cK 5 oc (listO (Lo++Lo') eo')
  exact H h _ to' Lo' eo' D.keeps f2 f3 (by show IntVs Lo' (_++[]);rw[List.append_nil];exact e4)
 ·refine gRx hA.hd 44 [4,1,0,1,1,1,1,2,0,0,4,4,1,0,1,1,1,1,2,3,0] ?_
  kst_p
  refine gcK (.call (.ref mw) ⟨[.str ⟨⟨[c]⟩⟩ kv],[]⟩) (fun h D=>?_)
  have hK4:Keeps s.heap h [d,oc]:=D.keeps
  kd_adr
  obtain⟨f1,f2,f3⟩:=hT0.at hK4
  have⟨g4,w4⟩:h.get? d=some (tellD w.params k1 k2 tape (off+((partsF kss ws f node).map (esc k)).flatten.length) to')∧Wr w _ _ d:=D.cw 4 (by kd_p) (by kd_p)
  have⟨g5,w5⟩:h.get? oc=some (listO (Lo++Lo') eo')∧Wr w _ _ oc:=D.cw 5 (by kd_p) (by kd_p)
  have hln:((partsF kss ws f node).map (esc k)).flatten.length≤6*1000:=i8 hk hw hlen
  have hln2:Lo'.length≤6*1000:=by rw[e4.1];exact hln
  refine dN hk hyw (hA.subN (by kd_p) 2 (by kd_p) (by kst_all)) D.kt f1 f2 g4 y1 hT0.hnd f3 g5 y2 (by rw[List.length_append];kst_all) (by kst_all) (fun h' tk' tok to2 L' e' K e1 e2 e3=>?_)
  refine resume D K (an w4 (an w5 ax)) _ 0 (ag e1 (ag e2 ah)) (by simp[Dis,a5]) (by tbr_iter (ai w4 w5)) (fun n3 hn3=>?_)
  refine gRx hA.hd 1 [] ?_
  kst_p
  refine gdK (.ok (.ret .none)) (fun h D=>?_)
  have f2:=D.cK 0 d (tellD w.params k1 k2 tape (off+((partsF kss ws f node).map (esc k)).flatten.length+(esc k [c]).length) to2)
  have f3:=D.cK 1 oc (listO (Lo++Lo'++L') e')
  exact H h _ to2 (Lo'++L') e' D.keeps f2 (by rw[←List.append_assoc];exact f3) (e4.append e3)
section
variable {w:World} {A:Around} {E:Value→Shared→Prop} {s:Shared}
theorem le {x:Str} {Q:Unit→Shared→Prop} (hd:s.heap.get? d=some (dictO es e)) (hk:SD w.params es) (hx:x.cps.isEmpty=false)
  (i? : Option Nat) (hi:es.toArray.findIdx? (fun e=>Value.isStrOf x e.key)=i?)
  (H:∀h',Heap.SameBut d s.heap h'→h'.get? d=some (match i? with | some i=>dictO ((es.toArray.modify i fun e=>{ e with val:=v }).toList) e | none=>dictO (es++[ent w.params x k v]) (e+1))→Q () { s with heap:=h' }) (hsz:es.length≤100):
  wpAny (mm w) A (dictPut d (kz w.params x) (.str x k) v) Q E s:=by
 unfold dictPut
 rw[gB w x hx]
 have hko:KeysOf (PySem.strKind pw w) es.toArray:=fun y hy=>by
  kd_adr
  obtain⟨z,kk,vv,hz,rfl⟩:=hk y (by tbr_iter hy)
  exact⟨z,strKind_is pw w z kk,gB w z hz⟩
 refine wpAny_bind (wpAny_dictFind_of (knd:=PySem.strKind pw w) (k:=x) (strKind_is pw w x k) hd rfl hko ?_)
 rw[show (es.toArray.findIdx? fun e=>(PySem.strKind pw w).is x e.key)=i? from hi]
 cases i? with
 | some i=>
  refine wpAny_updateDict hd rfl ?_ (by kd_mem)
  refine H _ (Heap.SameBut.update ..) ?_
  rw[Heap.get?_update_self _ hd rfl]
  simp[Obj.mapDict,dictO]
 | none=>
  refine wpAny_updateDictKeys hd rfl ?_ (by simp;rw[show sizeLine=2^24 from rfl];kst_all) (by kd_mem)
  refine H _ (Heap.SameBut.update ..) ?_
  rw[Heap.get?_update_self _ hd rfl]
  simp[Obj.mapDictKeys,dictO,gB w x hx]
noncomputable def bf:List DictEntry→DictEntry→List DictEntry
 | [],e=>[e]
 | f :: r,e=>match f.key,e.key with
  | .str x k, .str y l=>if x=y then { f with val:=e.val } :: r else f :: bf r e
  | _,_=>f :: bf r e
theorem em:∀(es:List DictEntry) (e:DictEntry),(bf es e).length≤es.length+1
 | [],_=>by simp[bf]
 | f :: r,e=>by
  unfold bf
  split
  ·split
   ·simp
   ·have:=em r e;simp;kst_all
  ·have:=em r e;simp;kst_all
theorem ib {P:Params} {x:Str} {k:Tok} {v:Value} (hx:x.cps.isEmpty=false):∀{es:List DictEntry},SD P es→SD P (bf es (ent P x k v))
 | [],_=>SD.cons hx SD.nil
 | f :: r,h=>by
  obtain⟨y,l,u,hy,rfl⟩:=h f (by kd_mem)
  have hr:SD P r:=fun e he=>h e (by first | kd_facts | simp[he])
  show SD P (if y=x then ent P y l v :: r else ent P y l u :: bf r (ent P x k v))
  split
  ·exact SD.cons hy hr
  ·exact SD.cons hy (ib hx hr)
theorem ft {x:Str} {P:Params} {k:Tok} {v:Value}:∀{es:List DictEntry},SD P es→
  match es.findIdx? (fun e=>Value.isStrOf x e.key) with
  | some i=>bf es (ent P x k v)=(es.toArray.modify i fun e=>{ e with val:=v }).toList
  | none=>bf es (ent P x k v)=es++[ent P x k v]
 | [],_=>by simp[bf]
 | f :: r,h=>by
  obtain⟨y,l,u,hy,rfl⟩:=h f (by kd_mem)
  have hr:SD P r:=fun e he=>h e (by first | kd_facts | simp[he])
  have ih:=ft (x:=x) (k:=k) (v:=v) hr
  have hp:bf (ent P y l u :: r) (ent P x k v)=if y=x then ent P y l v :: r else ent P y l u :: bf r (ent P x k v):=rfl
  rw[List.findIdx?_cons]
  have hb:Value.isStrOf x (ent P y l u).key=decide (y=x):=by
   show (y == x)=_
   by_cases q:y=x
   ·subst q;simp
   ·simp[q]
  rw[hb,hp]
  by_cases q:y=x
  ·rw[if_pos q]
   simp only[decide_eq_true q,if_true]
   simp
  ·rw[if_neg q]
   simp only[decide_eq_false q,Bool.false_eq_true,if_false]
   cases hf:r.findIdx? (fun e=>Value.isStrOf x e.key) with
   | none=>rw[hf] at ih;simp only[Option.map_none];rw[ih];rfl
   | some i=>rw[hf] at ih;simp only[Option.map_some];rw[ih];simp
theorem put_ent {x:Str} {Q:Unit→Shared→Prop} (hd:s.heap.get? d=some (dictO es e)) (hk:SD w.params es) (hx:x.cps.isEmpty=false)
  (H:∀(h':Heap) e',Heap.SameBut d s.heap h'→h'.get? d=some (dictO (bf es (ent w.params x k v)) e')→Q () { s with heap:=h' }) (hsz:es.length≤100):
  wpAny (mm w) A (dictPut d (kz w.params x) (.str x k) v) Q E s:=by
 have F:=ft (x:=x) (k:=k) (v:=v) hk
 cases hf:es.findIdx? (fun e=>Value.isStrOf x e.key) with
 | none=>
  rw[hf] at F
  refine le hd hk hx none (by rw[List.findIdx?_toArray];exact hf) (fun h' hs he=>H h' (e+1) hs ?_) hsz
  rw[he];simp only at F ⊢;rw[F]
 | some i=>
  rw[hf] at F
  refine le hd hk hx (some i) (by rw[List.findIdx?_toArray];exact hf) (fun h' hs he=>H h' e hs ?_) hsz
  rw[he];simp only at F ⊢;rw[F]
theorem iL {ds:List DictEntry} {Q:Unit→Shared→Prop} (hd:s.heap.get? d=some (dictO ds ed)) (ha:s.heap.get? a=some (dictO es ea)) (hda:d≠a)
  (hS:SD w.params ds) (hS':SD w.params es) (hk:kg w a=none) (hsz:ds.length+es.length≤100)
  (H:∀(h':Heap) e',Heap.SameBut d s.heap h'→h'.get? d=some (dictO (es.foldl bf ds) e')→Q () { s with heap:=h' }):wpAny (mm w) A (mergeMapping d (.ref a) false) Q E s:=by
 have h1:(a == sysModules)=false:=by
  cases q:a == sysModules with
  | false=>rfl
  | true=>rw[eq_of_beq q] at hk;cases hk
 have hT:s.TypeIs (.ref a) "dict" :=⟨_,ha,rfl⟩
 unfold mergeMapping
 refine wpAny_bind (wpAny_isInstance (T:= "dict") (b:=true) hT (by rw[isSubtype_type];kd_p) ?_)
 show wpAny _ _ (specialOf (.ref a) (PySem.Str.ofString "__iter__") >>= _) _ _ s
 refine wpAny_bind (wpAny_specialOf hT F.slot_dict_iter.lookup ?_)
 show wpAny _ _ (if (a == sysModules)=true then _ else _) _ _ s
 rw[h1,if_neg Bool.false_ne_true]
 show wpAny _ _ (dictEntries d >>= _) _ _ s
 refine wpAny_bind (wpAny_dictEntries hd rfl ?_)
 have loop:∀(m j:Nat) (h':Heap) (e':Nat),j+m=es.length→Heap.SameBut d s.heap h'→h'.get? d=some (dictO ((es.take j).foldl bf ds) e')→SD w.params ((es.take j).foldl bf ds)→
   wpAny (mm w) A (forIn (List.range' j m) PUnit.unit (fun i (__s:PUnit)=>do
    let __do_lift ←dictEntries a
    match __do_lift[i]? with
     | some e=>do
      holding [e.key,e.val] (dictPut d e.hash e.key e.val)
      let __do_lift ←dictEpoch a
      if (__do_lift != ea)=true then do
        unsupported "dict.changed-during-merge"
        pure (ForInStep.yield PUnit.unit)
       else pure (ForInStep.yield PUnit.unit)
     | x=>do
      unsupported "dict.changed-during-merge"
      pure (ForInStep.yield PUnit.unit))) (fun _ s'=>Q () s') E { s with heap:=h' }:=by
  intro m
  induction m with
  | zero=>
   intro j h' e' hj hs hd' hSD
   have:es.take j=es:=List.take_of_length_le (by kst_all)
   rw[this] at hd'
   exact wpAny_pure (H h' e' hs hd')
  | succ m ih=>
   intro j h' e' hj hs hd' hSD
   have ha':h'.get? a=some (dictO es ea):=(hs.2 a (Ne.symm hda)).trans ha
   rw[List.range'_succ,List.forIn_cons]
   have hlt:j<es.length:=by kst_all
   kd_adr
   obtain⟨x,k,v,hx,he⟩:=hS' es[j] (List.getElem_mem hlt)
   have htk:es.take (j+1)=es.take j++[es[j]]:=by rw[List.take_append_getElem]
   refine wpAny_bind (wpAny_bind (wpAny_dictEntries ha' rfl ?_))
   have hi:(es.toArray)[j]? = some (ent w.params x k v):=by simp[hlt,he]
   rw[hi]
   refine wpAny_bind (wpAny_holding ?_)
   have hlen:((es.take j).foldl bf ds).length≤100:=by
    have:∀(l:List DictEntry) (ds:List DictEntry),(l.foldl bf ds).length≤ds.length+l.length:=by
     intro l
     induction l with
     | nil=>intro ds;simp
     | cons f l ih=>intro ds;have:=ih (bf ds f);have:=em ds f;simp only[List.foldl_cons,List.length_cons];kst_all
    have:=this (es.take j) ds
    have h3:(es.take j).length≤es.length:=by simp;kst_all
    omega
   refine put_ent hd' hSD hx (fun h2 e2 hs2 hd2=>?_) hlen
   have ha2:h2.get? a=some (dictO es ea):=(hs2.2 a (Ne.symm hda)).trans ha'
   refine wpAny_bind (wpAny_dictEpoch ha2 rfl ?_)
   rw[if_neg (by kd_mem)]
   refine wpAny_pure ?_
   have e3:(es.take (j+1)).foldl bf ds=bf ((es.take j).foldl bf ds) (ent w.params x k v):=by
    rw[htk,List.foldl_append,he];rfl
   exact ih (j+1) h2 e2 (by kst_all) (hs.trans hs2) (by rw[e3];exact hd2) (by rw[e3];exact ib hx hSD)
 have tail:=loop es.length 0 s.heap ed (by kst_all) (.refl ..) hd hS
 have fin:wpAny (mm w) A (do
    let __do_lift ←dictEntries a
    let epoch ←dictEpoch a
    forIn (List.range __do_lift.size) PUnit.unit (fun i (__s:PUnit)=>do
     let __do_lift ←dictEntries a
     match __do_lift[i]? with
      | some e=>do
       holding [e.key,e.val] (dictPut d e.hash e.key e.val)
       let __do_lift ←dictEpoch a
       if (__do_lift != epoch)=true then do
         unsupported "dict.changed-during-merge"
         pure (ForInStep.yield PUnit.unit)
        else pure (ForInStep.yield PUnit.unit)
      | x=>do
       unsupported "dict.changed-during-merge"
       pure (ForInStep.yield PUnit.unit))
    pure ():Sem Unit) Q E s:=by
  refine wpAny_bind (wpAny_dictEntries ha rfl (wpAny_bind (wpAny_dictEpoch ha rfl (wpAny_bind ?_))))
  rw[List.size_toArray,List.range_eq_range']
  exact wpAny_mono tail (fun _ s' h=>wpAny_pure h) fun _ _ h=>h
 refine wpAny_ite ?_
 split
 ·refine wpAny_bind (wpAny_dictEntries ha rfl ?_)
  rw[←Array.forIn_toList]
  rw[forIn_yield_id]
  ·exact wpAny_bind (wpAny_pure fin)
  ·intro e he c
   obtain⟨x,k,v,hx,rfl⟩:=hS' e (by tbr_iter he)
   rfl
 ·exact fin
end
section
variable {w:World} {A:Around} {E:Value→Shared→Prop} {s:Shared}
theorem pe {va vb:Sem Value} {Q:Value→Shared→Prop}
  (h:wpAny (mm w) A va (fun x s1=>wpAny (mm w) A (mergeMapping s.heap.objs.size x false) (fun _ s2=>wpAny (mm w) A vb (fun y s3=>wpAny (mm w) A (mergeMapping s.heap.objs.size y false) (fun _ s4=>Q (.ref s.heap.objs.size) s4) (fun _ _=>False) s3) E s2) (fun _ _=>False) s1) E
   { s with heap:=s.heap.push { cls:= .type "dict",data:= .dict #[] } }):
  wpAny (mm w) A (dictDisplay [(none,va),(none,vb)]) Q E s:=by
 unfold dictDisplay
 dsimp only
 rw[List.forIn_cons]
 simp only[List.isEmpty_nil,if_true]
 refine wpAny_bind (wpAny_bind ?_)
 refine wpAny_bind (wpAny_pure ?_)
 show wpAny _ _ (alloc _ >>= _) _ _ s
 refine wpAny_bind (wpAny_alloc ?_)
 refine wpAny_bind (wpAny_holding (wpAny_mono h (fun x s1 h1=>?_) fun _ _ h=>h))
 refine wpAny_bind (wpAny_onRaise (wpAny_tryCatch (wpAny_onRaise (wpAny_holding (wpAny_mono h1 (fun _ s2 h2=>?_) fun _ _ h=>h.elim)))))
 refine wpAny_pure ?_
 dsimp only
 rw[List.forIn_cons]
 refine wpAny_bind (wpAny_bind ?_)
 refine wpAny_bind (wpAny_pure ?_)
 refine wpAny_pure ?_
 show wpAny _ _ (pure _ >>= _) _ _ s2
 refine wpAny_bind (wpAny_pure ?_)
 refine wpAny_bind (wpAny_holding (wpAny_mono h2 (fun y s3 h3=>?_) fun _ _ h=>h))
 refine wpAny_bind (wpAny_onRaise (wpAny_tryCatch (wpAny_onRaise (wpAny_holding (wpAny_mono h3 (fun _ s4 h4=>?_) fun _ _ h=>h.elim)))))
 refine wpAny_pure ?_
 dsimp only
 rw[List.forIn_nil]
 refine wpAny_pure ?_
 show wpAny _ _ (pure _ >>= _) _ _ s4
 refine wpAny_bind (wpAny_pure ?_)
 exact wpAny_pure h4
end
noncomputable def qV (Q:Value→Shared→Prop):Fin→Shared→Prop:=fun fin s=>match fin with
 | .done (.ret v)=>Q v s
 | _=>False
noncomputable def qF (Q:Flow→Shared→Prop):Fin→Shared→Prop:=fun fin s=>match fin with
 | .done f=>Q f s
 | _=>False
theorem unbindV {t:Sem Value} {Q:Value→Shared→Prop} {s:Shared} (H:wpAny M A (t >>= fun v=>Sem.pure (Fin.done (.ret v))) (qV Q) E s):wpAny M A t Q E s:=fun Γ p hΓ=>by
 have z:=H Γ p hΓ
 rw[Sem.wp_bind'] at z
 exact z
theorem unbindF {t:Sem Flow} {s:Shared} (H:wpAny M A (t >>= fun v=>Sem.pure (Fin.done v)) (qF Q) E s):wpAny M A t Q E s:=fun Γ p hΓ=>by
 have z:=H Γ p hΓ
 rw[Sem.wp_bind'] at z
 exact z
theorem kE {t:Sem Unit} {Q:Unit→Shared→Prop} {s:Shared} (H:wpAny M A (t >>= fun _=>Sem.pure (Fin.done .next)) (qF fun _=>Q ()) E s):wpAny M A t Q E s:=fun Γ p hΓ=>by
 have z:=H Γ p hΓ
 rw[Sem.wp_bind'] at z
 exact z
noncomputable def nY (A:Around) (Q:Fin→Shared→Prop) (E:Value→Shared→Prop) (s:Shared):Me:={ A:=A,Q:=Q,E:=E,R:=fun _ _=>False,g:=s.gens,d:=s.drawn,os:=s.os }
noncomputable def pV (e:Expr) (env:Env) (T:ST) (n m:Nat) (_:Bool):Pl:=⟨.base,PySem.W.R.bindR (PySem.W.ZFast.zw14044960220447912780 e env) fun v=>Sem.pure (Fin.done (.ret v)),T,n,m,0⟩
noncomputable def pX (l:List Stmt) (env:Env) (T:ST) (n m:Nat) (_:Bool):Pl:=⟨.base,PySem.W.R.bindR (PySem.W.ZFast.zw12563942051412417395 l env) fun v=>Sem.pure (Fin.done v),T,n,m,0⟩
noncomputable def pN (env:Env) (x:Str) (v:Value) (T:ST) (n m:Nat) (_:Bool):Pl:=⟨.base,PySem.W.R.bindR (PySem.W.ZFast.zw7998390705656384164 env x v) fun _=>Sem.pure (Fin.done .next),T,n,m,0⟩
section
variable {w:World} {A':Around} {h₀:Heap} {ex:List Addr} {T:ST} {n nn m W:Nat} {E:Value→Shared→Prop} {s:Shared}
theorem pb {e:Expr} {Q:Value→Shared→Prop} (D:Kn w h₀ ex n s.toks W s.heap T nn m)
  (G:aT w (nY A' (qV Q) E s) h₀ ex n s.toks W (pV e env T nn m)):wpAny (mm w) A' (eval e env) Q E s:=by
 have z:At _ _ _ _:=G s.heap (D _)
 simp only[pV] at z
 unfold At at z
 rw[←PySem.W.R.bindR_eq,←PySem.W.ZFast.ze14044960220447912780] at z
 exact unbindV z
theorem o5 {l:List Stmt} (D:Kn w h₀ ex n s.toks W s.heap T nn m)
  (G:aT w (nY A' (qF Q) E s) h₀ ex n s.toks W (pX l env T nn m)):wpAny (mm w) A' (execs l env) Q E s:=by
 have z:At _ _ _ _:=G s.heap (D _)
 simp only[pX] at z
 unfold At at z
 rw[←PySem.W.R.bindR_eq,←PySem.W.ZFast.ze12563942051412417395] at z
 exact unbindF z
theorem nJ {x:Str} {Q:Unit→Shared→Prop} (D:Kn w h₀ ex n s.toks W s.heap T nn m)
  (G:aT w (nY A' (qF fun _=>Q ()) E s) h₀ ex n s.toks W (pN env x v T nn m)):wpAny (mm w) A' (storeName env x v) Q E s:=by
 have z:At _ _ _ _:=G s.heap (D _)
 simp only[pN] at z
 unfold At at z
 rw[←PySem.W.R.bindR_eq,←PySem.W.ZFast.ze7998390705656384164] at z
 exact kE z
variable {M:Me} {t:Nat} {o:Bool→Out}
theorem GoalX.doneN {f:Flow} (e:∀b,(o b).t = .pure (.done f)) (hk:∀b,(o b).κ = .base)
 (H:∀h tk,RepX w h₀ ex n t W h o→M.Q (.done f) ⟨h,M.g,M.d,tk,M.os⟩):GoalX w M h₀ ex n t W o:=fun h D=>by
 have z:=H h (t+(o (bit w)).i) (Kn.of D)
 unfold At
 rw[hk (bit w),e (bit w)]
 exact wpAny_pure z
theorem GoalX.doneG {f:Flow} {g d os} (hg:M.g=g) (hd:M.d=d) (ho:M.os=os) (e:∀b,(o b).t = .pure (.done f)) (hk:∀b,(o b).κ = .base)
 (H:∀h tk,RepX w h₀ ex n t W h o→M.Q (.done f) ⟨h,g,d,tk,os⟩):GoalX w M h₀ ex n t W o:=by
 subst hg hd ho
 exact GoalX.doneN e hk H
theorem ggK {w:World} {M:Me} {h₀:Heap} {ex:List Addr} {n t W:Nat} {o:Bool→Out} (s:Shared) (f:Flow) (H:∀h tk,RepX w h₀ ex n t W h o→M.Q (.done f) ⟨h,s.gens,s.drawn,tk,s.os⟩) (hg:M.g=s.gens:=by rfl) (hd:M.d=s.drawn:=by rfl) (ho:M.os=s.os:=by rfl) (e:∀b,(o b).t = .pure (.done f):=by kd_p) (hk:∀b,(o b).κ = .base:=by kd_p):GoalX w M h₀ ex n t W o:=GoalX.doneG hg hd ho e hk H
theorem GoalX.doneVt {Q:Value→Shared→Prop} {v:Value} (e:∀b,(o b).t = .pure (.done (.ret v))) (hk:∀b,(o b).κ = .base)
 (H:∀h tk,RepX w h₀ ex n t W h o→Q v ⟨h,s.gens,s.drawn,tk,s.os⟩):GoalX w (nY A' (qV Q) E s) h₀ ex n t W o:=GoalX.doneN e hk H
theorem GoalX.doneFt {f:Flow} (e:∀b,(o b).t = .pure (.done f)) (hk:∀b,(o b).κ = .base)
 (H:∀h tk,RepX w h₀ ex n t W h o→Q f ⟨h,s.gens,s.drawn,tk,s.os⟩):GoalX w (nY A' (qF Q) E s) h₀ ex n t W o:=GoalX.doneN e hk H
theorem GoalX.enterC {c:Code} (e:∀b,(o b).t=PySem.W.R.bindR (PySem.W.ZFast.enterX 0) (fun _=>Sem.pure (Fin.again c))) (hl:∀h,RepX w h₀ ex n t W h o→h.NoLimit) (hd:(ar M.A (o (bit w)).κ).depth<recursionLimit) (hk:∀b,isCode (o b).κ=true) (hq:c.quiet=true)
  (H:∀h tk,RepX w h₀ ex n t W h o→codeAny (mm w) M.A c M.R ⟨h,M.g,M.d,tk,M.os⟩):GoalX w M h₀ ex n t W o:=by
 refine GoalX.enter e hl hd ?_
 have hk:=hk (bit w)
 have:∃c0,(o (bit w)).κ = .code c0:=by
  cases q:(o (bit w)).κ with
  | code c0=>exact⟨c0,rfl⟩
  | base=>rw[q] at hk;cases hk
  | ret=>rw[q] at hk;cases hk
 obtain⟨c0,h0⟩:=this
 intro h D
 show At _ (o (bit w)).κ _ _
 rw[h0]
 exact wpAny_pure ⟨hq,H h _ (Kn.of D)⟩
end
theorem AOk.deeper {A:Around} {k k':Nat} {env:Env} (h:AOk A k) (e:k'+1≤k):AOk (A.deeper env) k':=by
 refine⟨h.hd,?_,?_⟩
 ·show A.depth+1+k'<_;have:=h.dp;kst_all
 ·show A.units+3+20*k'<_;have:=h.un;kst_all
noncomputable def nW:Str:=⟨#[101,120,116,114,97]⟩
noncomputable def kR:Str:=⟨#[112,97,114,101,110,116]⟩
noncomputable def qSub:Str:=⟨#[83,117,98,69,108,101,109,101,110,116,46,60,108,111,99,97,108,115,62,46]⟩
theorem py {s:Shared} {row:Nat} (hA:AOk A 3) (hT:TopIn w.params s.heap) (h1:s.heap.get? ap=some (methO "list.append" row)) (hr:s.heap.get? row=some (listO Lr er)) (hl:Lr.length≤100)
  (H:∀(h':Heap) tk',Keeps s.heap h' [row]→h'.get? row=some (listO (Lr++[v]) (er+1))→R (.ok (.ret .none)) ⟨h',s.gens,s.drawn,tk',s.os⟩):
  codeAny (mm w) A (.call (.ref ap) ⟨[v],[]⟩) R s:=by
 refine az _ hT (ag h1 (ag hr ah)) (fun n t hn=>?_)
 refine gRx hA.hd 4 [1,2,2,2] ?_
 kst_p
 refine gaK (.builtin "list.append" ⟨[.ref row,v],[]⟩) (fun h D=>?_)
 have hr':=D.keep _ _ hr (by kd_mem)
 refine codeAny_builtin_at F.entry_list_append (wpAt_of_any ?_)
 show wpAny _ _ (updateSeq row (·.push v) >>= fun _=>ret .none) _ _ _
 refine wpAny_bind (wpAny_updateSeq hr' rfl (wpAny_pure ?_) (by simp;rw[show sizeLine=2^24 from rfl];kst_all))
 have K:Keeps s.heap (h.update row (Obj.mapSeq fun x=>x.push v)) [row]:=(D.keeps.trans (Keeps.update _)).mono (by kd_mem)
 refine H _ _ K ?_
 rw[Heap.get?_update_self _ hr' (by simp[Obj.mapSeq,Obj.isFreed])]
 simp[Obj.mapSeq,listO]
theorem subE:∃pA pD p1 p2 pS,(dAt 2).2.1 = .Assign [.Name sAttrib pA] (.Dict [none,none] [.Name sAttrib p1, .Name nW p2] pD) pS :: (dAt 2).2.1.drop 1:=⟨_,_,_,_,_,rfl⟩
theorem iv {body rest:List Stmt} {st:Stmt} {s:Shared} (e:body=st :: rest)
  (h:wpAny (model prog w) (A.deeper env) (exec st env) (fun f s'=>match f with | .next=>wpAny (model prog w) (A.deeper env) (execs rest env) (fun f s'=>R (.ok (.ret (match f with | .ret v=>v | _=> .none))) s') (fun e s'=>wpAny (model prog w) (A.deeper env) (leaving env e) (fun _ s''=>R (.error e) s'') (fun e' s''=>R (.error e') s'') s') s' | f=>R (.ok (.ret (match f with | .ret v=>v | _=> .none))) s')
   (fun e s'=>wpAny (model prog w) (A.deeper env) (leaving env e) (fun _ s''=>R (.error e) s'') (fun e' s''=>R (.error e') s'') s') s):
  codeAny (model prog w) A (.func body env) R s:=by
 subst e
 exact codeAny_func (wpAny_execs_cons h)
theorem Keeps.pushH (h:Heap) (o:Obj):Keeps h (h.push o) []:=⟨fun b o' e _=>Heap.get?_push_of_some _ e,by rw[show (h.push o).objs.size=h.objs.size+1 from by simp[Heap.push]];kst_all⟩
theorem Keeps.but (H:Heap.SameBut d h h'):Keeps h h' [d]:=⟨fun b o e hb=>by rw[H.2 b (by tbr_iter hb)];exact e,Nat.le_of_eq H.1.symm⟩
theorem bh (e:h.get? a=some o) (f:h.objs.size≤b):b≠a:=fun q=>by subst q;exact absurd (Heap.lt_size e) (Nat.not_lt.mpr f)
theorem ff {P:Params}:∀{es ds:List DictEntry},SD P ds→SD P es→SD P (es.foldl bf ds)
 | [],_,h,_=>h
 | f :: r,ds,h,h'=>by
  kd_adr
  obtain⟨x,k,v,hx,rfl⟩:=h' f (by kd_mem)
  exact ff (es:=r) (ib hx h) (fun e he=>h' e (by first | kd_facts | simp[he]))
theorem fS:∀(es ds:List DictEntry),(es.foldl bf ds).length≤ds.length+es.length
 | [],ds=>by simp
 | f :: r,ds=>by have:=fS r (bf ds f);have:=em ds f;simp only[List.foldl_cons,List.length_cons];kst_all
theorem im (e:h.get? a=some o) (e':h.get? b=some o') (n:o.cls≠o'.cls):a≠b:=fun q=>n (by subst q;rw[e] at e';cases e';rfl)
@[reducible] noncomputable def e14 (w:World) (k1 k2 k3 k4:Nat) (v1 v2 v3 v4:Value):List DictEntry:=[ent w.params kR k1 v1,ent w.params sTag k2 v2,ent w.params sAttrib k3 v3,ent w.params nW k4 v4]
theorem iC {s:Shared} {row cl m1 m2 m3 m4 m5 m6 kd:Nat} {vL:Value} {xT:Str} {kT:Nat} {ks:List DictEntry} (hA:AOk A 8) (hT:TopIn w.params s.heap)
  (h1:s.heap.get? ad=some (dictO es e)) (h2:s.heap.get? kd=some (dictO ks ek)) (hL:s.heap.get? L=some (frame (e14 w j1 j2 j3 j4 (.ref el) (.str tag tt) (.ref ad) (.ref kd)) 4))
  (X:ElemX w.params s.heap el iB ad0 vL0 row dd ap itf cl ct c2 m1 m2 m3 m4 m5 m6 kc fd vc rc) (hr:s.heap.get? row=some (listO Lr er)) (ht:TabE s.heap)
  (kad:kg w ad=none) (kkd:kg w kd=none) (kL:kg w L=none) (kr:kg w row=none) (hSe:SD w.params es) (hSk:SD w.params ks) (hsz:es.length+ks.length≤50) (hlr:Lr.length≤100)
  (hx:lookE (ks.foldl bf (es.foldl bf [])) sText=some (.str xT kT)) (hl:(lookE (ks.foldl bf (es.foldl bf [])) sTail).getD .none=vL) (hv:vL = .none∨∃x k,vL = .str x k)
  (H:∀(h':Heap) tk' el' ad' bm e',Keeps s.heap h' [L,row]→TabE h'→s.heap.objs.size≤el'→s.heap.objs.size≤ad'→s.heap.objs.size≤bm→Elem w.params h' el' (.str tag tt) ad' vL bm→h'.get? ad'=some (dictO (ks.foldl bf (es.foldl bf [])) e')→h'.get? bm=some (listO [.str xT kT] 0)→h'.get? row=some (listO (Lr++[.ref el']) (er+1))→R (.ok (.ret (.ref el'))) ⟨h',s.gens,s.drawn,tk',s.os⟩):
  codeAny (mm w) A (.func (dAt 2).2.1 (fenv (dAt 2) qSub 30 29 L)) R s:=by
 kd_adr
 obtain⟨pA,pD,p1,p2,pS,e0⟩:=subE
 refine iv e0 ?_
 have D0:Kn w s.heap [L,row] s.heap.objs.size s.toks 0 s.heap (ofL []) 0 0:=Kn.mk [] 0 hT (fun _ _ e _=>e) (Nat.le_refl _) ah .nil (fun _ h=>nomatch h)
 have wL:Wr w s.heap [L,row] L:=⟨.inl (by kd_mem),kL⟩
 have wr:Wr w s.heap [L,row] row:=⟨.inl (by kd_mem),kr⟩
 have wd:Wr w s.heap [L,row] s.heap.objs.size:=D0.fresh (Nat.le_refl _)
 refine wpAny_Assign_Name ?_
 rw[arm_eval_Dict]
 refine wpAny_bind (wpAny_standAt ?_)
 refine pe ?_
 have hA0:=hA
 replace hA:=hA.deeper (k':=7) (env:=fenv (dAt 2) qSub 30 29 L) (by kst_all)
 generalize hd:s.heap.objs.size=d at *
 have K1:=Keeps.pushH s.heap { cls:= .type "dict",data:= .dict #[] }
 have g1:(s.heap.push { cls:= .type "dict",data:= .dict #[] }).get? d=some (dictO [] 0):=by subst hd;exact Heap.get?_push_size _ rfl
 generalize s.heap.push { cls:= .type "dict",data:= .dict #[] }=H1 at *
 have D1:=(D0.renew (t':=s.toks) K1 ax _ _ (ag g1 (ag (K1.kp h1) (ag (K1.kp h2) (ag (K1.kp hL) (ag (K1.kp hr) ah))))) (c9 _) (fun p hp=>by rw[List.drop_length] at hp;cases hp))
 refine wpAny_bind (pb D1 ?_)
 generalize hn1:H1.objs.size=n1
 refine gRx hA.hd 2 [4] ?_
 kst_p
 refine GoalX.doneVt (v:= .ref ad) (by kd_p) (by kd_p) (fun H2 tk2 D2=>?_)
 refine wpAny_bind (wpAny_standAt (wpAny_pure ?_))
 have nda:d≠ad:=bh h1 (Nat.le_of_eq hd)
 have ndk:d≠kd:=bh h2 (Nat.le_of_eq hd)
 have ndr:d≠row:=bh hr (Nat.le_of_eq hd)
 have nLr:L≠row:=apart hL hr
 have ndL:d≠L:=bh hL (Nat.le_of_eq hd)
 refine iL (D2.cell 0 (x:=dictO [] 0) (by kd_p)) (D2.cell 1 (x:=dictO es e) (by kd_p)) nda SD.nil hSe kad (by simp;kst_all) (fun H3 e3 S3 g3=>?_)
 have K3:=Keeps.but S3
 have D3:=(D2.renew (t':=tk2) K3 (an wd ax) _ _ (ag g3 (ag (K3.kq (D2.cell 2 (x:=dictO ks ek) (by kd_p)) (by tbr_iter ndk.symm)) (ag (K3.kq (D2.cell 3 (x:=frame (e14 w j1 j2 j3 j4 (.ref el) (.str tag tt) (.ref ad) (.ref kd)) 4) (by kd_p)) (by tbr_iter ndL.symm)) (ag (K3.kq (D2.cell 4 (x:=listO Lr er) (by kd_p)) (by tbr_iter ndr.symm)) ah)))) (c9 _) (fun p hp=>by rw[List.drop_length] at hp;cases hp))
 refine wpAny_bind (pb D3 ?_)
 generalize hn3:H3.objs.size=n3
 refine gRx hA.hd 2 [3] ?_
 kst_p
 refine GoalX.doneVt (v:= .ref kd) (by kd_p) (by kd_p) (fun H4 tk4 D4=>?_)
 refine wpAny_bind (wpAny_standAt (wpAny_pure ?_))
 have hm1:SD w.params (es.foldl bf []):=ff SD.nil hSe
 refine iL (D4.cell 0 (x:=dictO (es.foldl bf []) e3) (by kd_p)) (D4.cell 1 (x:=dictO ks ek) (by kd_p)) ndk hm1 hSk kkd (by have:=fS es [];simp at this;kst_all) (fun H5 e5 S5 g5=>?_)
 have K5:=Keeps.but S5
 generalize hms:ks.foldl bf (es.foldl bf [])=ms at *
 have D5:=(D4.renew (t':=tk4) K5 (an wd ax) ([(d,dictO ms e5)]++[(L,frame (e14 w j1 j2 j3 j4 (.ref el) (.str tag tt) (.ref ad) (.ref kd)) 4),(row,listO Lr er)]) 1 (ag g5 (ag (K5.kq (D4.cell 2 (x:=frame (e14 w j1 j2 j3 j4 (.ref el) (.str tag tt) (.ref ad) (.ref kd)) 4) (by kd_p)) (by tbr_iter ndL.symm)) (ag (K5.kq (D4.cell 3 (x:=listO Lr er) (by kd_p)) (by tbr_iter ndr.symm)) ah))) (by tbr_iter (ai (ai ndL ndr) nLr)) (by tbr_iter (ai wL wr)))
 refine nJ D5 ?_
 generalize hn5:H5.objs.size=n5
 refine gRx hA.hd 4 [2,2] ?_
 kst_p
 refine GoalX.doneFt (f:= .next) (by kd_p) (by kd_p) (fun H6 tk6 D6=>?_)
 have kp:∀{h':Heap} (K:Keeps s.heap h' [L,row]) {b:Addr} {o:Obj},s.heap.get? b=some o→o.cls ≠ .type "frame" →o.cls ≠ .type "list" →h'.get? b=some o:=fun K b o e n1 n2=>K.keep b o e (nmA (ai (im e hL n1) (im e hr n2)))
 have K6:Keeps s.heap H6 [L,row]:=D6.keeps
 have gel:=kp K6 X.el (by kd_mem) (by kd_mem)
 have gdd:=kp K6 X.dd (by kd_mem) (by kd_mem)
 have gap:=kp K6 X.ap (by kd_mem) (by kd_mem)
 have gL:=D6.cK 1 L (frame (e14 w j1 j2 j3 j4 (.ref el) (.str tag tt) (.ref d) (.ref kd)) 4)
 have gr:=D6.cK 2 row (listO Lr er)
 have gd:=D6.cK 0 d (dictO ms e5)
 have D7:=(D6.renew (t':=tk6) (Keeps.refl H6) ax _ _ (ag gd (ag gel (ag gdd (ag gap (ag gL (ag gr ah)))))) (c9 _) (fun p hp=>by rw[List.drop_length] at hp;cases hp))
 refine o5 D7 ?_
 generalize hn6:H6.objs.size=n6
 refine gRx hA.hd 24 [5,2,2,2,2,0,2,2,2,2,3,5,5,0] ?_
 kst_p
 refine gcK (.call (.ref 154) ⟨[.str tag tt, .ref d],[]⟩) (fun h D=>?_)
 have gD:Keeps s.heap h [L,row]:=D.keeps
 have ht':TabE h:=by
  kd_adr
  obtain⟨c1,c2,k2,v2,r2,t1,t2⟩:=ht
  exact⟨c1,c2,k2,v2,r2,kp gD t1 (by kd_mem) (by kd_mem),kp gD t2 (by kd_mem) (by kd_mem)⟩
 have hms':SD w.params ms:=by rw[←hms];exact ff hm1 hSk
 refine elemF (hA.sub (by kd_p) (by kd_p)) D.kt (D.cell 0 (x:=dictO ms e5) (by kd_p)) hms' wd.kn ht' hx hl hv (fun h' tk' el' bm K' T' f1 f2 E' r'=>?_)
 have lt:∀{b:Addr} {o:Obj},s.heap.get? b=some o→b<el'∧b<bm:=fun e=>by
  have h3:s.heap.objs.size≤h.objs.size:=gD.size
  have:=Heap.lt_size e
  exact⟨Nat.lt_of_lt_of_le this (Nat.le_trans h3 f1),Nat.lt_of_lt_of_le this (Nat.le_trans h3 f2)⟩
 have q0:=K'.keep d _ (D.cell 0 (x:=dictO ms e5) (by kd_p)) (by kd_mem)
 have q1:=K'.keep el _ (D.cell 1 (x:=funO fd (some dd)) (by kd_p)) (by kd_mem)
 have q2:=K'.keep dd _ (kp gD X.dd (by kd_mem) (by kd_mem)) (by kd_mem)
 have q3:=K'.keep ap _ (D.cell 3 (x:=methO "list.append" row) (by kd_p)) (by kd_mem)
 have q4:=K'.keep L _ (D.cell 4 (x:=frame (e14 w j1 j2 j3 j4 (.ref el) (.str tag tt) (.ref d) (.ref kd)) 4) (by kd_p)) (by kd_mem)
 have q5:=K'.keep row _ (D.cell 5 (x:=listO Lr er) (by kd_p)) (by kd_mem)
 refine rebase [L,row] ([(d,dictO ms e5),(el,funO fd (some dd)),(dd,_),(ap,_)]++[(L,_),(row,_)]) 4 (K'.top0 D.kt) (ag q0 (ag q1 (ag q2 (ag q3 (ag q4 (ag q5 ah)))))) (by tbr_iter (ai (ai ndL ndr) (ai (ai (apart q1 q4) (apart q1 q5)) (ai (ai (apart q2 q4) (apart q2 q5)) (ai (ai (apart q3 q4) (apart q3 q5)) nLr))))) (by tbr_iter (ai kL kr)) (by kd_mem) (fun n7 hn7=>?_)
 refine gRx hA.hd 30 [5,5,5,2,2,2,2,0,2,2,2,2,3,5,4] ?_
 kst_p
 refine gcK (.call (.ref ap) ⟨[.ref el'],[]⟩) (fun h8 D8=>?_)
 refine py (hA.sub (by kd_p) (by kd_p)) D8.kt (D8.cell 3 (x:=methO "list.append" row) (by kd_p)) (D8.cell 5 (x:=listO Lr er) (by kd_p)) hlr (fun h9 tk9 K9 g9=>?_)
 refine ii 5 D8 rfl (x:=listO Lr er) (by kd_p) K9 g9 (fun n9 hn9=>?_)
 refine gRx hA.hd 4 [5] ?_
 kst_p
 refine GoalX.doneN (f:= .ret (.ref el')) (by kd_p) (by kd_p) (fun h10 tk10 D10=>?_)
 have K10:Keeps h' h10 [L,row]:=D10.keeps
 have Kall:Keeps s.heap h10 [L,row]:=((gD.trans K').trans K10).mono (by kd_mem)
 have kq:∀{b:Addr} {o:Obj},h'.get? b=some o→d≤b→h10.get? b=some o:=fun e hb=>K10.kq e (nmA (ai (bh hL (Nat.le_trans (Nat.le_of_eq hd) hb)) (bh hr (Nat.le_trans (Nat.le_of_eq hd) hb))))
 have kz:∀{b:Addr} {o:Obj},h'.get? b=some o→o.cls ≠ .type "frame" →o.cls ≠ .type "list" →h10.get? b=some o:=fun {b o} e n1 n2=>K10.keep b o e (nmA (ai (im e q4 n1) (im e q5 n2)))
 have sz:d≤h.objs.size:=hd▸gD.size
 have f1':d≤el':=Nat.le_trans sz f1
 have f2':d≤bm:=Nat.le_trans sz f2
 have hrow:=D10.cK 5 row (listO (Lr++[.ref el']) (er+1))
 have hdd:h10.get? d=some (dictO ms e5):=kz q0 (by kd_mem) (by kd_mem)
 have hrw:h10.get? bm=some (listO [.str xT kT] 0):=kq r' f2'
 have hT10:TabE h10:=by
  kd_adr
  obtain⟨c1,c2,k2,v2,r2,t1,t2⟩:=T'
  exact⟨c1,c2,k2,v2,r2,kz t1 (by kd_mem) (by kd_mem),kz t2 (by kd_mem) (by kd_mem)⟩
 have hE10:Elem w.params h10 el' (.str tag tt) d vL bm:=by
  kd_adr
  obtain⟨dd,ap,itf,cl,ct,c2,k1,k2,k3,k4,k5,k6,kc,fd,vc,rc,E⟩:=E'
  exact⟨dd,ap,itf,cl,ct,c2,k1,k2,k3,k4,k5,k6,kc,fd,vc,rc,kz E.el (by kd_mem) (by kd_mem),kz E.dd (by kd_mem) (by kd_mem),kz E.ap (by kd_mem) (by kd_mem),kz E.itf (by kd_mem) (by kd_mem),kz E.cl (by kd_mem) (by kd_mem),kz E.c2 (by kd_mem) (by kd_mem)⟩
 exact H h10 _ el' d bm e5 Kall hT10 f1' (Nat.le_refl _) f2' hE10 hdd hrw hrow
@[reducible] noncomputable def e15 (w:World) (k1 k2:Nat) (v1 v2:Value):List DictEntry:=[ent w.params sText k1 v1,ent w.params sTail k2 v2]
theorem sub_a {s:Shared} {row:Nat} (hA:AOk A 9) (hT:TopIn w.params s.heap)
  (h1:s.heap.get? ad=some (dictO (e15 w a1 a2 (.str xT kT) vL) e)) (X:Elem w.params s.heap el iB ad0 vL0 row) (hr:s.heap.get? row=some (listO Lr er)) (ht:TabE s.heap)
  (kad:kg w ad=none) (kr:kg w row=none) (hlr:Lr.length≤100) (hv0:vL = .none∨∃x k,vL = .str x k)
  (H:∀(h':Heap) tk' el' ad' bm e',Keeps s.heap h' [row]→TabE h'→s.heap.objs.size≤el'→s.heap.objs.size≤ad'→s.heap.objs.size≤bm→Elem w.params h' el' (.str tag tt) ad' vL bm→h'.get? ad'=some (dictO (e15 w a1 a2 (.str xT kT) vL) e')→h'.get? bm=some (listO [.str xT kT] 0)→h'.get? row=some (listO (Lr++[.ref el']) (er+1))→R (.ok (.ret (.ref el'))) ⟨h',s.gens,s.drawn,tk',s.os⟩):
  codeAny (mm w) A (.call (.ref 30) ⟨[.ref el, .str tag tt, .ref ad],[]⟩) R s:=by
 refine az _ hT (ag h1 ah) (fun n t hn=>?_)
 refine gRx hA.hd 21 [0,0,0,3,3,3,3,3,3,3,3] ?_
 kst_p
 refine GoalX.enterC (c:= .func (dAt 2).2.1 (fenv (dAt 2) qSub 30 29 (n+1))) (by kd_p) (fun h D=>noLimit D.kt) (dep0 hA (by kd_p)) (by kd_p) (by kd_p) (fun h tk D=>?_)
 have K0:Keeps s.heap h []:=D.keeps
 kd_adr
 obtain⟨dd,ap,itf,cl,ct,c2,k1,k2,k3,k4,k5,k6,kc,fd,vc,rc,X⟩:=X.keep K0 (by kd_mem)
 obtain⟨c1,c2',k2',v2,r2,t1,t2⟩:=ht
 have ht:TabE h:=⟨c1,c2',k2',v2,r2,K0.kp t1,K0.kp t2⟩
 have hr':=K0.kp hr
 have fresh:∀{a:Nat},n≤a→s.heap.get? a=none:=fun {a} q=>by
  cases z:s.heap.get? a with
  | none=>rfl
  | some o=>exact absurd (Heap.lt_size z) (Nat.not_lt.mpr (by rw[hn];exact q))
 have ktn:∀{a:Nat},n≤a→kg w a=none:=fun {a} q=>by
  cases z:kg w a with
  | none=>rfl
  | some o=>have:=hT a o z;rw[fresh q] at this;cases this
 refine iC (hA.mono (by kst_all)) D.kt (D.cell 0 (x:=dictO (e15 w a1 a2 (.str xT kT) vL) e) (by kd_p)) (D.cell 1 (a:=n) (x:=dictO [] 0) (by kd_p)) (D.cell 2 (a:=(n+1)) (x:=frame (e14 w (t) (t+1) (t+2) (t+3) (.ref el) (.str tag tt) (.ref ad) (.ref n)) 4) (by kd_p)) X hr' ht kad (ktn (by kst_all)) (ktn (by kst_all)) kr ?_ ?_ (by kd_mem) hlr (xT:=xT) (kT:=kT) (vL:=vL) (by kd_p) (by kd_p) hv0 (fun h' tk' el' ad' bm e' K T' f1 f2 f3 E' g1 g2 g3=>?_)
 ·exact SD.cons (by kd_p) (SD.cons (by kd_p) SD.nil)
 ·exact SD.nil
 ·have sz:s.heap.objs.size≤h.objs.size:=K0.size
  refine H h' tk' el' ad' bm e' (Keeps.fresh2 (K0.mono (by kd_mem)) K (fun a ha=>?_)) T' (Nat.le_trans sz f1) (Nat.le_trans sz f2) (Nat.le_trans sz f3) E' g1 g2 g3
  simp only[List.mem_cons,List.not_mem_nil,or_false] at ha
  rcases ha with rfl | rfl
  ·exact .inr (fresh (by kst_all))
  ·exact .inl (by kd_mem)
@[reducible] noncomputable def e16 (w:World) (k1 k2:Nat) (v1 v2:Value):List DictEntry:=[ent w.params sText k1 v1,ent w.params iI k2 v2]
@[reducible] noncomputable def e17 (w:World) (k1 k2 k3:Nat) (v1 v2 v3:Value):List DictEntry:=[ent w.params sText k1 v1,ent w.params iI k2 v2,ent w.params di k3 v3]
theorem sub_b {s:Shared} {row:Nat} {vM:Value} (hA:AOk A 9) (hT:TopIn w.params s.heap)
  (h1:s.heap.get? ad=some (dictO (e16 w u1 u2 vT vM) e)) (X:Elem w.params s.heap el iB ad0 vL0 row) (hr:s.heap.get? row=some (listO Lr er)) (ht:TabE s.heap)
  (kad:kg w ad=none) (kr:kg w row=none) (hlr:Lr.length≤100)
  (H:∀(h':Heap) tk' el' ad' bm e' j1,Keeps s.heap h' [row]→TabE h'→s.heap.objs.size≤el'→s.heap.objs.size≤ad'→s.heap.objs.size≤bm→Elem w.params h' el' (.str tag tt) ad' .none bm→h'.get? ad'=some (dictO (e17 w u1 u2 j1 (.str xT kT) vM (.int (Int.ofNat k) tk0)) e')→h'.get? bm=some (listO [.str xT kT] 0)→h'.get? row=some (listO (Lr++[.ref el']) (er+1))→R (.ok (.ret (.ref el'))) ⟨h',s.gens,s.drawn,tk',s.os⟩):
  codeAny (mm w) A (.call (.ref 30) ⟨[.ref el, .str tag tt, .ref ad],[(sText, .str xT kT),(di, .int (Int.ofNat k) tk0)]⟩) R s:=by
 refine az _ hT (ag h1 ah) (fun n t hn=>?_)
 refine gRx hA.hd 29 [0,0,0,2,2,2,2,3,3,3,3,3,3,3,3] ?_
 kst_p
 refine GoalX.enterC (c:= .func (dAt 2).2.1 (fenv (dAt 2) qSub 30 29 (n+1))) (by kd_p) (fun h D=>noLimit D.kt) (dep0 hA (by kd_p)) (by kd_p) (by kd_p) (fun h tk D=>?_)
 have K0:Keeps s.heap h []:=D.keeps
 kd_adr
 obtain⟨dd,ap,itf,cl,ct,c2,k1,k2,k3,k4,k5,k6,kc,fd,vc,rc,X⟩:=X.keep K0 (by kd_mem)
 obtain⟨c1,c2',k2',v2,r2,t1,t2⟩:=ht
 have ht:TabE h:=⟨c1,c2',k2',v2,r2,K0.kp t1,K0.kp t2⟩
 have hr':=K0.kp hr
 have fresh:∀{a:Nat},n≤a→s.heap.get? a=none:=fun {a} q=>by
  cases z:s.heap.get? a with
  | none=>rfl
  | some o=>exact absurd (Heap.lt_size z) (Nat.not_lt.mpr (by rw[hn];exact q))
 have ktn:∀{a:Nat},n≤a→kg w a=none:=fun {a} q=>by
  cases z:kg w a with
  | none=>rfl
  | some o=>have:=hT a o z;rw[fresh q] at this;cases this
 refine iC (hA.mono (by kst_all)) D.kt (D.cell 0 (x:=dictO (e16 w u1 u2 vT vM) e) (by kd_p)) (D.cell 1 (a:=n) (x:=dictO [ent w.params sText (t) (.str xT kT),ent w.params di (t+1) (.int (Int.ofNat k) tk0)] 2) (by kd_p)) (D.cell 2 (a:=(n+1)) (x:=frame (e14 w (t+2) (t+3) (t+4) (t+5) (.ref el) (.str tag tt) (.ref ad) (.ref n)) 4) (by kd_p)) X hr' ht kad (ktn (by kst_all)) (ktn (by kst_all)) kr ?_ ?_ (by kd_mem) hlr (xT:=xT) (kT:=kT) (vL:= .none) (by kd_p) (by kd_p) (.inl rfl) (fun h' tk' el' ad' bm e' K T' f1 f2 f3 E' g1 g2 g3=>?_)
 ·exact SD.cons (by kd_p) (SD.cons (by kd_p) SD.nil)
 ·exact SD.cons (by kd_p) (SD.cons (by kd_p) SD.nil)
 ·have sz:s.heap.objs.size≤h.objs.size:=K0.size
  refine H h' tk' el' ad' bm e' (t+1) (Keeps.fresh2 (K0.mono (by kd_mem)) K (fun a ha=>?_)) T' (Nat.le_trans sz f1) (Nat.le_trans sz f2) (Nat.le_trans sz f3) E' g1 g2 g3
  simp only[List.mem_cons,List.not_mem_nil,or_false] at ha
  rcases ha with rfl | rfl
  ·exact .inr (fresh (by kst_all))
  ·exact .inl (by kd_mem)
section
variable {w:World} {A:Around} {E:Value→Shared→Prop} {s:Shared}
noncomputable def EqW (w:World) (A:Around) (s:Shared) (y x:Value) (b:Bool):Prop:=∀(E:Value→Shared→Prop) (Q:Bool→Shared→Prop),Q b s→wpAny (mm w) A (eqBool y x) Q E s
theorem EqW.of {y x:Value} {b:Bool} (h:EqAt A s y x b):EqW w A s y x b:=fun E Q hq=>h pw w E Q hq
noncomputable def lJ (w:World) (A:Around) (s:Shared) (es es':List DictEntry):Prop:=es.length=es'.length∧
 ∀j (h:j<es.length),∃x k v i k' v',x.cps.isEmpty=false∧es[j]=ent w.params x k v∧es'.toArray.findIdx? (fun e=>Value.isStrOf x e.key)=some i∧es'[i]? = some (ent w.params x k' v')∧EqW w A s v v' true
theorem hC {id:String} {Q:Bool→Shared→Prop} (ha:s.heap.get? a=some (dictO es ea)) (hb:s.heap.get? b=some (dictO es' eb)) (hka:kg w a=none) (hkb:kg w b=none)
  (hS:SD w.params es') (hP:lJ w A s es es') (h:Q true s):wpAny (mm w) A (Builtin.Dict.samePairs id a b) Q E s:=by
 have h1:(a == sysModules)=false:=by
  cases q:a == sysModules with
  | false=>rfl
  | true=>rw[eq_of_beq q] at hka;cases hka
 have h2:(b == sysModules)=false:=by
  cases q:b == sysModules with
  | false=>rfl
  | true=>rw[eq_of_beq q] at hkb;cases hkb
 unfold Builtin.Dict.samePairs Builtin.Dict.showsAll
 rw[h1,h2]
 simp only[Bool.false_eq_true,if_false]
 refine wpAny_bind (wpAny_pure (wpAny_bind (wpAny_pure ?_)))
 refine wpAny_bind (wpAny_dictEntries ha rfl (wpAny_bind (wpAny_dictEntries hb rfl ?_)))
 have hsz:(es.toArray.size != es'.toArray.size)=false:=by simp[hP.1]
 rw[hsz]
 simp only[Bool.false_eq_true,if_false]
 refine wpAny_bind (wpAny_dictEpoch ha rfl ?_)
 rw[Std.Legacy.Range.forIn_eq_forIn_range']
 simp only[Std.Legacy.Range.size,Nat.sub_zero,Nat.add_sub_cancel,Nat.div_one]
 have loop:∀(m j:Nat),j+m=es.length→wpAny (mm w) A (forIn (List.range' j m) ((none,()):Option Bool×Unit) (fun i __s=>do
      let __do_lift ←dictEntries a
      match __do_lift[i]? with
       | some e=>do
        let same ←
         holding [e.key,e.val] do
           let __x ←dictFind b e.key e.hash
           match __x with
            | some j=>do
             let __do_lift ←dictEntries b
             match __do_lift[j]? with
              | some f=>holding [f.val] (eqBool e.val f.val)
              | x=>unsupported "internal:dict-equal"
            | x=>pure false
        if (!same)=true then pure (ForInStep.done (some false,()))
         else do
          let __do_lift ←dictEpoch a
          if (__do_lift != ea)=true then do
            unsupported (toString id++toString ":changed-during-callback")
            pure (ForInStep.yield (none,()))
           else pure (ForInStep.yield (none,()))
       | x=>do
        unsupported "internal:dict-equal"
        pure (ForInStep.yield (none,())))) (fun r s'=>r=(none,())∧Q true s') E s:=by
  intro m
  induction m with
  | zero=>intro j hj;exact wpAny_pure ⟨rfl,h⟩
  | succ m ih=>
   intro j hj
   have hlt:j<es.length:=by kst_all
   obtain⟨x,k,v,i,k',v',hx,he,hf,hi,hv⟩:=hP.2 j hlt
   rw[List.range'_succ,List.forIn_cons]
   refine wpAny_bind (wpAny_bind (wpAny_dictEntries ha rfl ?_))
   have hej:(es.toArray)[j]? = some (ent w.params x k v):=by simp[hlt,he]
   rw[hej]
   have hko:KeysOf (PySem.strKind pw w) es'.toArray:=fun y hy=>by
    kd_adr
    obtain⟨z,kk,vv,hz,rfl⟩:=hS y (by tbr_iter hy)
    exact⟨z,strKind_is pw w z kk,gB w z hz⟩
   refine wpAny_bind (wpAny_holding ?_)
   show wpAny _ _ (dictFind b (.str x k) (kz w.params x) >>= _) _ _ _
   rw[gB w x hx]
   refine wpAny_bind (wpAny_dictFind_of (knd:=PySem.strKind pw w) (k:=x) (strKind_is pw w x k) hb rfl hko ?_)
   rw[show (es'.toArray.findIdx? fun e=>(PySem.strKind pw w).is x e.key)=some i from hf]
   refine wpAny_bind (wpAny_dictEntries hb rfl ?_)
   have hei:(es'.toArray)[i]? = some (ent w.params x k' v'):=by simpa using hi
   rw[hei]
   refine wpAny_holding (hv E _ ?_)
   simp only[Bool.not_true,Bool.false_eq_true,if_false]
   refine wpAny_bind (wpAny_dictEpoch ha rfl ?_)
   rw[if_neg (by kd_mem)]
   exact wpAny_pure (ih (j+1) (by kst_all))
 have z:=loop es.length 0 (by kst_all)
 refine wpAny_bind ?_
 rw[show es.toArray.size=es.length from by simp]
 refine wpAny_mono z (fun r s' hr=>?_) fun _ _ q=>q
 kd_adr
 obtain⟨rfl,hq⟩:=hr
 exact wpAny_pure hq
theorem dw {Q:Value→Shared→Prop} (ha:s.heap.get? a=some (dictO es ea)) (hb:s.heap.get? b=some (dictO es' eb)) (hka:kg w a=none) (hkb:kg w b=none)
  (hS:SD w.params es') (hP:lJ w A.in1 s es es') (hu:A.units<cLine) (h:Q (.bool true) s):wpAny (mm w) A (richCompare .Eq (.ref a) (.ref b)) Q E s:=by
 refine wpAny_richCompare_same_room (T:= "dict") (id:= "dict.__eq__") ⟨_,ha,rfl⟩ ⟨_,hb,rfl⟩ F.slot_dict_eq ?_ hu
 refine wpAny_call_entry F.slot_dict_eq ⟨_,ha,rfl⟩ F.entry_dict_eq ?_ (F.args_dict_eq_2 _ _)
 show wpAny _ _ (do
  let (self,other) ←Builtin.Dict.dictSlotArgs "__eq__" ⟨[.ref a, .ref b],[]⟩
  if !(←isInstance other (.type "dict")) then rule "dict.__eq__.not-a-dict";return ←ret .notImplemented
  ret (.bool ((←Builtin.Dict.samePairs "dict.__eq__" (←Builtin.Dict.addrOf self) (←Builtin.Dict.addrOf other)) == true))) _ _ s
 refine wpAny_bind (wpAny_pure ?_)
 refine wpAny_bind (wpAny_isInstance (T:= "dict") (b:=true) ⟨_,hb,rfl⟩ (by rw[isSubtype_type];kd_p) ?_)
 simp only[Bool.not_true,Bool.false_eq_true,if_false]
 refine wpAny_bind (wpAny_pure (wpAny_bind (wpAny_pure ?_)))
 refine wpAny_bind (hC ha hb hka hkb hS hP ?_)
 exact wpAny_pure ⟨_,rfl,(fun x=>nomatch x),h⟩
theorem EqW.refs {k:Bool} (hne:l≠b) (h:∀(E:Value→Shared→Prop) (Q:Value→Shared→Prop),Q (.bool k) s→wpAny (mm w) A (richCompare .Eq (.ref l) (.ref b)) Q E s):EqW w A s (.ref l) (.ref b) k:=fun E Q hq=>by
 unfold eqBool
 refine wpAny_holding ?_
 refine wpAny_ite_split (fun hab=>absurd (by have:=eq_of_beq hab;injection this) hne) (fun _=>?_)
 exact wpAny_bind (h E _ (wpAny_truthy_bool hq))
open AutoSeq1 (wpAny_loadPart') in
open MeetsSeq MeetsSeq2 MeetsSeq3 SeqRoads2 in
theorem lN (w:World) (l b:Addr) (items items2:Array Value) (n n2:Nat) (dd dd2:Option Addr) (sl sl2:Array (Option Value)) (e:Nat→Bool):
  MeetsIn pw w (Builtin.«tuple.__eq__» ⟨[.ref l, .ref b],[]⟩)
   (fun A R s=>s.heap.get? l=some { cls:= .type "tuple",dict:=dd,data:= .seq items n,slots:=sl }∧s.heap.get? b=some { cls:= .type "tuple",dict:=dd2,data:= .seq items2 n2,slots:=sl2 }∧
    (∀j (h1:j<items.size) (h2:j<items2.size),EqW w A.in1 s items[j] items2[j] (e j))∧
    R (.ok (.ret (.bool ((List.range (min items.size items2.size)).all e && items.size == items2.size)))) s):=
 .of_wp fun A R s h=>by
  obtain⟨hp,g,d,tk,os⟩:=s;obtain⟨hl,hb,he,h⟩:=h
  have f2:=AutoSeq1.sub_tuple_tuple
  have hZ:(items.toList.zip items2.toList).length=min items.size items2.size:=by simp
  wp_walk using wpAny_loadPart' hl,wpAny_loadPart' hb,wpAny_forIn_list _ (fun rest b s'=>b.1=none∧s'=⟨hp,g,d,tk,os⟩∧∃i,rest=(items.toList.zip items2.toList).drop i∧
   R (.ok (.ret (.bool (((List.range (min items.size items2.size)).drop i).all e && items.size == items2.size)))) ⟨hp,g,d,tk,os⟩) _
  case turn=>
   rintro ⟨y,x⟩ rest b s' ⟨hb',rfl,i,hz,hR⟩
   have hlt:i<(items.toList.zip items2.toList).length:=by
    rcases Nat.lt_or_ge i (items.toList.zip items2.toList).length with h' | h'
    ·exact h'
    ·rw[List.drop_of_length_le h'] at hz;cases hz
   have hm:i<min items.size items2.size:=hZ▸hlt
   have h1:i<items.size:=Nat.lt_of_lt_of_le hm (Nat.min_le_left _ _)
   have h2:i<items2.size:=Nat.lt_of_lt_of_le hm (Nat.min_le_right _ _)
   rw[List.drop_eq_getElem_cons hlt] at hz
   injection hz with hyx hrest
   have hy:y=items[i]:=by have:=congrArg Prod.fst hyx;simpa using this
   have hx:x=items2[i]:=by have:=congrArg Prod.snd hyx;simpa using this
   subst hy hx
   have hd:(List.range (min items.size items2.size)).drop i=i :: (List.range (min items.size items2.size)).drop (i+1):=by simp[List.drop_eq_getElem_cons,hm]
   rw[hd,List.all_cons] at hR
   refine wpAny_bind (he i h1 h2 _ _ ?_)
   cases hy:e i with
   | true=>
    rw[hy] at hR
    wp_walk
    exact⟨rfl,rfl,i+1,hrest,by simpa using hR⟩
   | false=>
    rw[hy] at hR
    wp_walk
    exact⟨_,rfl,by simpa using hR⟩
  case fin=>
   rintro ⟨b1,b2⟩ s' ⟨hb',rfl,i,hz,hR⟩
   simp only at hb'
   subst hb'
   have hge:min items.size items2.size≤i:=by
    rcases Nat.lt_or_ge i (items.toList.zip items2.toList).length with h' | h'
    ·rw[List.drop_eq_getElem_cons h'] at hz;cases hz
    ·exact hZ▸h'
   rw[List.drop_of_length_le (by tbr_iter hge)] at hR
   wp_walk
   exact⟨_,rfl,by simpa [Builtin.Tuple.tupleCompareSizes] using hR⟩
  case h=>
   exact⟨rfl,rfl,0,rfl,by simpa using h⟩
theorem l4 {x1 x2:Value} {e1 e2:Nat} {Q:Value→Shared→Prop} (ha:s.heap.get? a=some (dc [x1,x2] e1)) (hb:s.heap.get? b=some (dc [y1,y2] e2))
  (h1:EqW w A.in1 s x1 y1 true) (h2:EqW w A.in1 s x2 y2 true) (hu:A.units<cLine) (h:Q (.bool true) s):wpAny (mm w) A (richCompare .Eq (.ref a) (.ref b)) Q E s:=by
 refine wpAny_richCompare_same_room (T:= "tuple") (id:= "tuple.__eq__") ⟨_,ha,rfl⟩ ⟨_,hb,rfl⟩ F.slot_tuple_eq ?_ hu
 refine wpAny_call (aI F.slot_tuple_eq ⟨_,ha,rfl⟩ F.entry_tuple_eq (F.args_tuple_eq_2 _ _) (lN w a b #[x1,x2] #[y1,y2] e1 e2 none none #[] #[] (fun _=>true)) ⟨ha,hb,?_,?_⟩)
 ·intro j h3 h4
  match j,h3,h4 with
  | 0,_,_=>exact h1
  | 1,_,_=>exact h2
  | j+2,h3,_=>exact absurd (show j+2<2 from h3) (by kst_all)
 ·exact⟨(fun x=>nomatch x),h⟩
end
noncomputable def bR:Str:=⟨#[101,108,101,109,101,110,116]⟩
noncomputable def jy:Str:=⟨#[100,117,101]⟩
noncomputable def jv:Str:=⟨#[114,105,103,104,116]⟩
noncomputable def hJ:Str:=⟨#[99,111,109,109,111,110]⟩
noncomputable def gy:Str:=⟨#[95,108,97,119,95,104,117,110,103,46,60,108,111,99,97,108,115,62,46]⟩
noncomputable def asgV:Stmt→Expr
 | .Assign _ v _=>v
 | _=>default
noncomputable def dW:Expr→Nat→Expr
 | .BoolOp _ l _,k=>l.getD k default
 | _,_=>default
noncomputable def mV:Expr→Expr
 | .Compare l _ _ _=>l
 | _=>default
noncomputable def jX:Expr→Expr
 | .Compare _ _ (r :: _) _=>r
 | _=>default
noncomputable def iT (k:Nat):Expr:=asgV ((cq (dAt 17) 1).2.1.getD k default)
theorem hungB:∃p1 p2 p3 p4 p5 p6 p7 p8 p9,(cq (dAt 17) 1).2.1=[.Assign [.Name bR p1] (iT 0) p2, .Assign [.Name jy p3] (iT 1) p4,
  .Assign [.Name jv p5] (.BoolOp .And [dW (iT 2) 0, .Name jv p6, .Compare (mV (dW (iT 2) 2)) [.Eq] [jX (dW (iT 2) 2)] p7] p8) p9]:=⟨_,_,_,_,_,_,_,_,_,rfl⟩
section
variable {prog:Program} {w:World} {A:Around} {s:Shared}
theorem cZ {target it body orelse env}
  (h:wpAny (model prog w) A (pyNext it) (fun r s₁=>match r with
   | none=>wpAny (model prog w) A (execs orelse env) (fun f s₃=>R (.ok f) s₃) (notedBy (model prog w) A env fun e s'=>R (.error e) s') s₁
   | some v=>wpAny (model prog w) A (assign target env v) (fun _ s₂=>wpAny (model prog w) A (execs body env) (fun f s₃=>match f with
     | .next | .cont=>codeAny (model prog w) A (.forLoop target it body orelse env) R s₃
     | .brk=>R (.ok .next) s₃
     | .ret v=>R (.ok (.ret v)) s₃) (notedBy (model prog w) A env fun e s'=>R (.error e) s') s₂) (notedBy (model prog w) A env fun e s'=>R (.error e) s') s₁) (notedBy (model prog w) A env fun e s'=>R (.error e) s') s)
  (ht:∀v,letOwnedTupleGo target it v=pure ():=by intro _;rfl):codeAny (model prog w) A (.forLoop target it body orelse env) R s:=by
 refine codeAny_of_tree ?_
 show wpAny _ A ((forTurn target it body orelse env).onRaise (fun x=>do noteFrame x env;theTreesLotGoes x)) _ _ _
 refine wpAny_noted ?_
 simp only[forTurn]
 refine wpAny_bind (wpAny_standAt (wpAny_bind (wpAny_onRaise (wpAny_mono h (fun r s₁ h₁=>?_) fun _ _ h'=>wpAny_standAt h'))))
 cases r with
 | none=>exact wpAny_pure ⟨rfl,codeAny_block h₁⟩
 | some v=>
  refine wpAny_bind (wpAny_of_eq (ht v) ?_)
  refine wpAny_bind (wpAny_mono h₁ (fun _ s₂ h₂=>wpAny_bind (wpAny_mono h₂ (fun f s₃ h₃=>?_) fun _ _ h'=>h')) fun _ _ h'=>h')
  cases f with
  | next=>exact wpAny_pure ⟨rfl,h₃⟩
  | cont=>exact wpAny_pure ⟨rfl,h₃⟩
  | brk=>exact wpAny_pure h₃
  | ret v=>exact wpAny_pure h₃
theorem jl {x y z:Expr} {Q:Value→Shared→Prop}
  (h:wpAny (model prog w) A (eval x env) (fun v s₁=>v = .bool true∧wpAny (model prog w) A (eval y env) (fun v s₂=>v = .bool true∧wpAny (model prog w) A (eval z env) Q E s₂) E s₁) E s):
  wpAny (model prog w) A (eval (.BoolOp .And [x,y,z] pos) env) Q E s:=by
 show wpAny (model prog w) A (do
  let v ←eval x env
  standAt pos
  let t ←holding [v] (truthy v)
  match BoolOp.And,t with
  | .And,false | .Or,true=>pure v
  | _,_=>boolOp pos .And [eval y env,eval z env]) Q E s
 refine wpAny_bind (wpAny_mono h (fun v s₁ h₁=>wpAny_bind (wpAny_standAt (wpAny_bind (wpAny_holding ?_)))) fun _ _ x=>x)
 kd_adr
 obtain⟨rfl,h₁⟩:=h₁
 refine wpAny_truthy_bool ?_
 show wpAny (model prog w) A (do
  let v ←eval y env
  standAt pos
  let t ←holding [v] (truthy v)
  match BoolOp.And,t with
  | .And,false | .Or,true=>pure v
  | _,_=>boolOp pos .And [eval z env]) Q E s₁
 refine wpAny_bind (wpAny_mono h₁ (fun v s₁ h₁=>wpAny_bind (wpAny_standAt (wpAny_bind (wpAny_holding ?_)))) fun _ _ x=>x)
 kd_adr
 obtain⟨rfl,h₁⟩:=h₁
 exact wpAny_truthy_bool h₁
end
theorem unbindO {t:Sem (Option Value)} {Q:Option Value→Shared→Prop} {s:Shared} (H:wpAny M A (t >>= fun r=>Sem.pure (Fin.done (match r with | none=> .next | some v=> .ret v))) (qF fun f s=>match f with | .next=>Q none s | .ret v=>Q (some v) s | _=>False) E s):wpAny M A t Q E s:=fun Γ p hΓ=>by
 have z:=H Γ p hΓ
 rw[Sem.wp_bind'] at z
 refine Sem.wp_mono M Γ _ (fun r p' s' y=>?_) (fun _ _ _ y=>y) _ _ z
 cases r<;>exact y
noncomputable def qO (Q:Option Value→Shared→Prop):Flow→Shared→Prop:=fun f s=>match f with | .next=>Q none s | .ret v=>Q (some v) s | _=>False
noncomputable def pI (it:Value) (T:ST) (n m:Nat) (_:Bool):Pl:=⟨.base,PySem.W.R.bindR (PySem.W.ZFast.zw9404975358583537561 it) fun r=>Sem.pure (Fin.done (match r with | none=> .next | some v=> .ret v)),T,n,m,0⟩
noncomputable def pG (e:Expr) (env:Env) (v:Value) (T:ST) (n m:Nat) (_:Bool):Pl:=⟨.base,PySem.W.R.bindR (PySem.W.ZFast.zw17772580674575903948 e env v) fun _=>Sem.pure (Fin.done .next),T,n,m,0⟩
section
variable {w:World} {A':Around} {h₀:Heap} {ex:List Addr} {T:ST} {n nn m W:Nat} {E:Value→Shared→Prop} {s:Shared}
theorem nextB {it:Value} {Q:Option Value→Shared→Prop} (D:Kn w h₀ ex n s.toks W s.heap T nn m)
  (G:aT w (nY A' (qF (qO Q)) E s) h₀ ex n s.toks W (pI it T nn m)):wpAny (mm w) A' (pyNext it) Q E s:=by
 have z:At _ _ _ _:=G s.heap (D _)
 simp only[pI] at z
 unfold At at z
 rw[←PySem.W.R.bindR_eq,←PySem.W.ZFast.ze9404975358583537561] at z
 exact unbindO z
theorem assignB {e:Expr} {Q:Unit→Shared→Prop} (D:Kn w h₀ ex n s.toks W s.heap T nn m)
  (G:aT w (nY A' (qF fun _=>Q ()) E s) h₀ ex n s.toks W (pG e env v T nn m)):wpAny (mm w) A' (assign e env v) Q E s:=by
 have z:At _ _ _ _:=G s.heap (D _)
 simp only[pG] at z
 unfold At at z
 rw[←PySem.W.R.bindR_eq,←PySem.W.ZFast.ze17772580674575903948] at z
 exact kE z
end
section
variable {w:World} {A':Around} {s:Shared} {E:Value→Shared→Prop}
theorem aE {l:List (Addr×Obj)} (W:Nat) (hT:TopIn w.params s.heap) (own:∀p∈l,s.heap.get? p.1=some p.2) (ne:Dis W l) (kn:∀p∈l.drop W,kg w p.1=none) {e:Expr} {Q:Value→Shared→Prop}
  (G:∀n t,s.heap.objs.size=n→aT w (nY A' (qV Q) E s) s.heap ex n t W (pV e env (ofL l) l.length 0)) (hx:cS W l=ex:=by kd_p1):
  wpAny (mm w) A' (eval e env) Q E s:=pb (rep0 hT own ne kn hx) (G _ _ rfl)
theorem aF {l:List (Addr×Obj)} (W:Nat) (hT:TopIn w.params s.heap) (own:∀p∈l,s.heap.get? p.1=some p.2) (ne:Dis W l) (kn:∀p∈l.drop W,kg w p.1=none) {e:List Stmt}
  (G:∀n t,s.heap.objs.size=n→aT w (nY A' (qF Q) E s) s.heap ex n t W (pX e env (ofL l) l.length 0)) (hx:cS W l=ex:=by kd_p1):
  wpAny (mm w) A' (execs e env) Q E s:=o5 (rep0 hT own ne kn hx) (G _ _ rfl)
theorem dq {l:List (Addr×Obj)} (W:Nat) (hT:TopIn w.params s.heap) (own:∀p∈l,s.heap.get? p.1=some p.2) (ne:Dis W l) (kn:∀p∈l.drop W,kg w p.1=none) {x:Str} {Q:Unit→Shared→Prop}
  (G:∀n t,s.heap.objs.size=n→aT w (nY A' (qF fun _=>Q ()) E s) s.heap ex n t W (pN env x v (ofL l) l.length 0)) (hx:cS W l=ex:=by kd_p1):
  wpAny (mm w) A' (storeName env x v) Q E s:=nJ (rep0 hT own ne kn hx) (G _ _ rfl)
theorem nextR {l:List (Addr×Obj)} (W:Nat) (hT:TopIn w.params s.heap) (own:∀p∈l,s.heap.get? p.1=some p.2) (ne:Dis W l) (kn:∀p∈l.drop W,kg w p.1=none) {it:Value} {Q:Option Value→Shared→Prop}
  (G:∀n t,s.heap.objs.size=n→aT w (nY A' (qF (qO Q)) E s) s.heap ex n t W (pI it (ofL l) l.length 0)) (hx:cS W l=ex:=by kd_p1):
  wpAny (mm w) A' (pyNext it) Q E s:=nextB (rep0 hT own ne kn hx) (G _ _ rfl)
theorem bZ {l:List (Addr×Obj)} (W:Nat) (hT:TopIn w.params s.heap) (own:∀p∈l,s.heap.get? p.1=some p.2) (ne:Dis W l) (kn:∀p∈l.drop W,kg w p.1=none) {e:Expr} {Q:Unit→Shared→Prop}
  (G:∀n t,s.heap.objs.size=n→aT w (nY A' (qF fun _=>Q ()) E s) s.heap ex n t W (pG e env v (ofL l) l.length 0)) (hx:cS W l=ex:=by kd_p1):
  wpAny (mm w) A' (assign e env v) Q E s:=assignB (rep0 hT own ne kn hx) (G _ _ rfl)
end
noncomputable def bQ:Str:=⟨#[107,101,112,116]⟩
theorem abc_at {x:Nat} (h:x<7):(cpsOfBytes 0 0 "abcdefg".toByteArray.data.toList)[x]? = some (97+x):=by
 match x,h with
 | 0,_=>kd_p
 | 1,_=>kd_p
 | 2,_=>kd_p
 | 3,_=>kd_p
 | 4,_=>kd_p
 | 5,_=>kd_p
 | 6,_=>kd_p
noncomputable def ElTb (P:Params) (h:Heap) (kss ws:List (List Nat)) (lo:Nat):Nat→Addr→Nat→Prop
 | 0,_,_=>False
 | f+1,el,node=>∃tag tt ad vL row t L e,lo≤row∧Elem P h el (.str tag tt) ad vL row∧h.get? row=some (listO (.str ⟨⟨ws.getD node []⟩⟩ t :: L) e)∧L.length=(kss.getD node []).length∧
  ∀(i x:Nat),(kss.getD node [])[i]? = some x→∃c,L[i]? = some (Value.ref c)∧ElTb P h kss ws lo f c x
theorem ElTb.toT {P:Params} {h:Heap} {kss ws:List (List Nat)} {lo:Nat}:∀(f el node:Nat),ElTb P h kss ws lo f el node→ElT P h kss ws f el node
 | 0,_,_,H=>H
 | f+1,el,node,H=>by
  kd_adr
  obtain⟨tag,tt,ad,vL,row,t,L,e,h0,h1,h2,h3,h4⟩:=H
  exact⟨tag,tt,ad,vL,row,t,L,e,h1,h2,h3,fun i x q=>let ⟨c,a1,a2⟩:=h4 i x q;⟨c,a1,ElTb.toT f c x a2⟩⟩
theorem ElTb.low {P:Params} {h:Heap} {kss ws:List (List Nat)} {lo lo':Nat} (hl:lo'≤lo):∀(f el node:Nat),ElTb P h kss ws lo f el node→ElTb P h kss ws lo' f el node
 | 0,_,_,H=>H
 | f+1,el,node,H=>by
  kd_adr
  obtain⟨tag,tt,ad,vL,row,t,L,e,h0,h1,h2,h3,h4⟩:=H
  exact⟨tag,tt,ad,vL,row,t,L,e,Nat.le_trans hl h0,h1,h2,h3,fun i x q=>let ⟨c,a1,a2⟩:=h4 i x q;⟨c,a1,ElTb.low hl f c x a2⟩⟩
noncomputable def Wk (o:Obj):Prop:=o.cls = .type "frame" ∨o.cls = .type "list_iterator" ∨o.cls = .type "list"
theorem bt (K:Keeps h h' ex) (hx:∀a∈ex,∀o,h.get? a=some o→Wk o) (e:h.get? b=some o) (n:¬Wk o):h'.get? b=some o:=K.keep b o e fun m=>n (hx b m o e)
theorem Elem.keepC {row:Addr} {tag:Value} (E:Elem P h el tag ad vL row) (K:Keeps h h' ex) (hx:∀a∈ex,∀o,h.get? a=some o→Wk o):Elem P h' el tag ad vL row:=by
 kd_adr
 obtain⟨dd,ap,itf,cl,ct,c2,k1,k2,k3,k4,k5,k6,kc,fd,vc,rc,E⟩:=E
 exact⟨dd,ap,itf,cl,ct,c2,k1,k2,k3,k4,k5,k6,kc,fd,vc,rc,bt K hx E.el (by simp[Wk]),bt K hx E.dd (by simp[Wk]),bt K hx E.ap (by simp[Wk]),bt K hx E.itf (by simp[Wk]),bt K hx E.cl (by simp[Wk]),bt K hx E.c2 (by simp[Wk])⟩
theorem TabE.keepC (E:TabE h) (K:Keeps h h' ex) (hx:∀a∈ex,∀o,h.get? a=some o→Wk o):TabE h':=by
 kd_adr
 obtain⟨c1,c2,k2,v2,r2,t1,t2⟩:=E
 exact⟨c1,c2,k2,v2,r2,bt K hx t1 (by simp[Wk]),bt K hx t2 (by simp[Wk])⟩
theorem ElTb.keep {P:Params} {h h':Heap} {kss ws:List (List Nat)} {lo:Nat} {ex:List Addr} (K:Keeps h h' ex) (hx:∀a∈ex,∀o,h.get? a=some o→Wk o∧(o.cls = .type "list" →a<lo)):∀(f el node:Nat),ElTb P h kss ws lo f el node→ElTb P h' kss ws lo f el node
 | 0,_,_,H=>H
 | f+1,el,node,H=>by
  kd_adr
  obtain⟨tag,tt,ad,vL,row,t,L,e,h0,h1,h2,h3,h4⟩:=H
  refine⟨tag,tt,ad,vL,row,t,L,e,h0,h1.keepC K (fun a m o q=>(hx a m o q).1),K.kq h2 (fun m=>?_),h3,fun i x q=>let ⟨c,a1,a2⟩:=h4 i x q;⟨c,a1,ElTb.keep K hx f c x a2⟩⟩
  exact absurd h0 (Nat.not_le.mpr ((hx row m _ h2).2 rfl))
theorem KidsAt.keepRow {L:List Value} {xs:List (List Nat)} {row:Nat} {x:Str} {t:Nat} (K:Keeps h h' [row]) (hr:h.get? row=some (listO (.str x t :: Lr) er)) (H:KidsAt h L xs):KidsAt h' L xs:=
 ⟨H.1,fun i y e=>by
  kd_adr
  obtain⟨b,Lb,eb,e1,e2,e3⟩:=H.2 i y e
  refine⟨b,Lb,eb,e1,K.kq e2 (fun m=>?_),e3⟩
  simp only[List.mem_cons,List.not_mem_nil,or_false] at m
  subst m
  rw[hr] at e2
  simp only[Option.some.injEq,listO,Obj.mk.injEq,Data.seq.injEq,true_and,and_true] at e2
  have e4:Lb = .str x t :: Lr:=by
   have:=congrArg Array.toList e2.1
   simpa using this.symm
  have h0:y.length=Lr.length+1:=by rw[←e3.1,e4];rfl
  have:y[0]? = some (y[0]'(by kst_all)):=by simp
  obtain⟨t',q⟩:=e3.2 0 _ this
  rw[e4] at q
  simp at q⟩
noncomputable def lK (w:World) (kss ws:List (List Nat)) (f:Nat):Prop:=∀{A:Around} {R:Result→Shared→Prop} {s:Shared} {el node tn ak aw cm row ad0 ek ew ec er u1 u2 kk t0:Nat} {iB vL0 vT:Value} {Lk Lw:List Value} (hA:AOk A (10*f+25)) (hT:TopIn w.params s.heap)
 (X:Elem w.params s.heap el iB ad0 vL0 row) (hr:s.heap.get? row=some (listO [.str ⟨⟨ws.getD node []⟩⟩ t0] er)) (ht:TabE s.heap) (hk:s.heap.get? ak=some (listO Lk ek)) (hK:KidsAt s.heap Lk kss) (hw:s.heap.get? aw=some (listO Lw ew)) (hW:StrVs Lw ws)
 (hc:s.heap.get? cm=some (dictO (e16 w u1 u2 vT (.str bQ kk)) ec)) (kr:kg w row=none) (kc:kg w cm=none) (hra:row≠ak) (hrw:row≠aw) (hD:Dp kss f node=true)
 (H:∀(h':Heap) tk' L er',Keeps s.heap h' [row]→h'.get? row=some (listO (.str ⟨⟨ws.getD node []⟩⟩ t0 :: L) er')→L.length=(kss.getD node []).length→(∀(i x:Nat),(kss.getD node [])[i]? = some x→∃c,L[i]? = some (Value.ref c)∧ElTb w.params h' kss ws s.heap.objs.size (f - 1) c x)→R (.ok (.ret (.bool true))) ⟨h',s.gens,s.drawn,tk',s.os⟩),
  codeAny (mm w) A (.call (.ref 161) ⟨[.ref el, .int (.ofNat node) tn, .ref ak, .ref aw, .ref cm],[]⟩) R s
theorem bE (T:TopIn P h) (f:h.objs.size≤a):(kt P).get a=none:=by
 cases z:(kt P).get a with
 | none=>rfl
 | some o=>exact absurd (Heap.lt_size (T a o z)) (Nat.not_lt.mpr f)
theorem aH {s:Shared} {b l:List Stmt} (e:b=l) (h:wpAny M A (execs l env) Q E s):wpAny M A (execs b env) Q E s:=by subst e;exact h
theorem lv (e:h.get? a=some o) (f:h.objs.size≤b):a≠b:=(bh e f).symm
theorem wkA {Q:Obj→Prop} (e:h.get? a=some o) (k:Q o):∀o',h.get? a=some o'→Q o':=fun o' q=>by rw[e] at q;cases q;exact k
theorem wkFr:Wk (frame es e):= .inl rfl
theorem wkLi {l:List Value}:Wk (listO l e):= .inr (.inr rfl)
theorem wkFr2 {p:Prop}:Wk (frame es e)∧((frame es e).cls = .type "list" →p):=⟨wkFr,fun z=>by simp at z⟩
theorem wkIt2 {t:Nat} {p:Prop}:Wk (av a k t)∧((av a k t).cls = .type "list" →p):=⟨.inr (.inl rfl),fun z=>by simp at z⟩
theorem wkLi2 {l:List Value} {p:Prop} (h:p):Wk (listO l e)∧((listO l e).cls = .type "list" →p):=⟨wkLi,fun _=>h⟩
theorem dp_lt:∀{f x:Nat},Dp kss f x=true→x<kss.length
 | _+1,_,h=>by simp[Dp] at h;exact h.1
theorem dp_pos:∀{f x:Nat},Dp kss f x=true→f≠0
 | _+1,_,_=>Nat.succ_ne_zero _
theorem ElTb.put {row t:Nat} {L:List Value}:∀{f:Nat},f≠0→lo≤row→Elem P h el (.str tag tt) ad vL row→h.get? row=some (listO (.str ⟨⟨ws.getD node []⟩⟩ t :: L) e)→L.length=(kss.getD node []).length→(∀(i x:Nat),(kss.getD node [])[i]? = some x→∃c,L[i]? = some (Value.ref c)∧ElTb P h kss ws lo (f - 1) c x)→ElTb P h kss ws lo f el node
 | 0,z,_,_,_,_,_=>absurd rfl z
 | _+1,_,a,b,c,d,e=>⟨_,_,_,_,_,_,_,_,a,b,c,d,e⟩
@[reducible] noncomputable def hFr (P:Params) (el node tn ak aw cm j1 j2 j3 j4 j5 j6:Nat) (tl:List DictEntry):List DictEntry:=ent P kR j1 (.ref el) :: ent P dt j2 (.int (.ofNat node) tn) :: ent P cC j3 (.ref ak) :: ent P cg j4 (.ref aw) :: ent P hJ j5 (.ref cm) :: ent P jv j6 (.bool true) :: tl
noncomputable def HT1 (P:Params) (tl:List DictEntry):Prop:=tl=[]∨∃j v,tl=[ent P jy j v]
noncomputable def HT2 (P:Params) (tl:List DictEntry):Prop:=tl=[]∨∃j v j' v',tl=[ent P bR j v,ent P jy j' v']
noncomputable def HT3 (P:Params) (tl:List DictEntry):Prop:=tl=[]∨∃j v j' v' j'' v'',tl=[ent P eY j'' v'',ent P bR j v,ent P jy j' v']
theorem HT3.mk {j' j'':Nat} {v' v'':Value}:HT3 P [ent P eY j'' v'',ent P bR j v,ent P jy j' v']:= .inr ⟨_,_,_,_,_,_,rfl⟩
section
variable {w:World} {A:Around} {E:Value→Shared→Prop} {s:Shared} {L ed el node tn ak aw cm j1 j2 j3 j4 j5 j6:Nat} {tl:List DictEntry}
theorem oM (hA:A.handled=none) (hT:TopIn w.params s.heap) (hL:s.heap.get? L=some (frame (hFr w.params el node tn ak aw cm j1 j2 j3 j4 j5 j6 tl) ed)) (kL:kg w L=none) (htl:HT3 w.params tl) {x:Nat} {Q:Unit→Shared→Prop}
 (H:∀h2 t2 j7 tl2 ed2,Keeps s.heap h2 [L]→TopIn w.params h2→h2.get? L=some (frame (hFr w.params el node tn ak aw cm j1 j2 j3 j4 j5 j6 (ent w.params eY j7 (.int (.ofNat x) tx) :: tl2)) ed2)→HT2 w.params tl2→Q () ⟨h2,s.gens,s.drawn,t2,s.os⟩):wpAny (mm w) A (assign (cq (dAt 17) 1).1 (fenv (dAt 17) gy 161 160 L) (.int (.ofNat x) tx)) Q E s:=by
 rcases htl with rfl | ⟨j,u,j',u',j'',u'',rfl⟩
 ·refine bZ (w:=w) (l:=[(L,_)]) 0 hT (ag hL ah) (by kd_subs) (by tbr_iter kL) (fun n2 tB hn2=>?_)
  refine gRx hA 7 [1,1] ?_
  kst_p
  exact ggK s (.next) (fun h2 t2 D2=>H h2 t2 tB [] (ed+1) D2.keeps D2.kt (D2.xK 0) (.inl rfl))
 ·refine bZ (w:=w) (l:=[(L,_)]) 0 hT (ag hL ah) (by kd_subs) (by tbr_iter kL) (fun n2 tB hn2=>?_)
  refine gRx hA 7 [1,1] ?_
  kst_p
  exact ggK s (.next) (fun h2 t2 D2=>H h2 t2 j'' _ ed D2.keeps D2.kt (D2.xK 0) (.inr ⟨j,u,j',u',rfl⟩))
theorem hung_el (hA:A.handled=none) (hT:TopIn w.params s.heap) (hL:s.heap.get? L=some (frame (hFr w.params el node tn ak aw cm j1 j2 j3 j4 j5 j6 (ent w.params eY j7 v7 :: tl)) ed)) (kL:kg w L=none) (htl:HT2 w.params tl) {v:Nat} {Q:Unit→Shared→Prop}
 (H:∀h2 t2 j8 tl2 ed2,Keeps s.heap h2 [L]→TopIn w.params h2→h2.get? L=some (frame (hFr w.params el node tn ak aw cm j1 j2 j3 j4 j5 j6 (ent w.params eY j7 v7 :: ent w.params bR j8 (.ref v) :: tl2)) ed2)→HT1 w.params tl2→Q () ⟨h2,s.gens,s.drawn,t2,s.os⟩):wpAny (mm w) A (storeName (fenv (dAt 17) gy 161 160 L) bR (.ref v)) Q E s:=by
 rcases htl with rfl | ⟨j,u,j',u',rfl⟩
 ·refine dq (w:=w) (l:=[(L,_)]) 0 hT (ag hL ah) (by kd_subs) (by tbr_iter kL) (fun n2 tB hn2=>?_)
  refine gRx hA 4 [1,1] ?_
  kst_p
  exact ggK s (.next) (fun h2 t2 D2=>H h2 t2 tB [] (ed+1) D2.keeps D2.kt (D2.xK 0) (.inl rfl))
 ·refine dq (w:=w) (l:=[(L,_)]) 0 hT (ag hL ah) (by kd_subs) (by tbr_iter kL) (fun n2 tB hn2=>?_)
  refine gRx hA 4 [1,1] ?_
  kst_p
  exact ggK s (.next) (fun h2 t2 D2=>H h2 t2 j _ ed D2.keeps D2.kt (D2.xK 0) (.inr ⟨j',u',rfl⟩))
@[reducible] noncomputable def e18 (w:World) (k1 k2 k3:Nat) (v1 v2 v3:Value):List DictEntry:=[ent w.params eY k1 v1,ent w.params bR k2 v2,ent w.params jy k3 v3]
theorem oO {j8:Nat} {v8:Value} (hA:A.handled=none) (hT:TopIn w.params s.heap) (hL:s.heap.get? L=some (frame (hFr w.params el node tn ak aw cm j1 j2 j3 j4 j5 j6 (ent w.params eY j7 v7 :: ent w.params bR j8 v8 :: tl)) ed)) (kL:kg w L=none) (htl:HT1 w.params tl) {v:Nat} {Q:Unit→Shared→Prop}
 (H:∀h2 t2 j9 ed2,Keeps s.heap h2 [L]→TopIn w.params h2→h2.get? L=some (frame (hFr w.params el node tn ak aw cm j1 j2 j3 j4 j5 j6 (e18 w j7 j8 j9 v7 v8 (.ref v))) ed2)→Q () ⟨h2,s.gens,s.drawn,t2,s.os⟩):wpAny (mm w) A (storeName (fenv (dAt 17) gy 161 160 L) jy (.ref v)) Q E s:=by
 rcases htl with rfl | ⟨j,u,rfl⟩
 ·refine dq (w:=w) (l:=[(L,_)]) 0 hT (ag hL ah) (by kd_subs) (by tbr_iter kL) (fun n2 tB hn2=>?_)
  refine gRx hA 4 [1,1] ?_
  kst_p
  exact ggK s (.next) (fun h2 t2 D2=>H h2 t2 tB (ed+1) D2.keeps D2.kt (D2.xK 0))
 ·refine dq (w:=w) (l:=[(L,_)]) 0 hT (ag hL ah) (by kd_subs) (by tbr_iter kL) (fun n2 tB hn2=>?_)
  refine gRx hA 4 [1,1] ?_
  kst_p
  exact ggK s (.next) (fun h2 t2 D2=>H h2 t2 j ed D2.keeps D2.kt (D2.xK 0))
end
theorem mH (REC:lK w kss ws f) (hlen:kss.length=7∧ws.length=7) {h₀:Heap} {row:Nat}
 (X:Elem w.params h₀ el iB ad0 vL0 row) (ht:TabE h₀) (hk:h₀.get? ak=some (listO Lk ek)) (hK:KidsAt h₀ Lk kss) (hw:h₀.get? aw=some (listO Lw ew)) (hW:StrVs Lw ws)
 (hc:h₀.get? cm=some (dictO (e16 w u1 u2 vT (.str bQ kk)) ec)) (hab:h₀.get? ab=some (listO Lb eb)) (hV:IntVs Lb xs) {er0:Nat} (hr0:h₀.get? row=some (listO [.str ⟨⟨ws.getD node []⟩⟩ t0] er0))
 (kr:kg w row=none) (kc:kg w cm=none) (ki:kg w it=none) (kL:kg w L=none) (hra:row≠ak) (hrw:row≠aw) (hrb:row≠ab) (fi:h₀.objs.size≤it) (fL:h₀.objs.size≤L) (niL:it≠L):∀(rs:List Nat) {A:Around} {R:Result→Shared→Prop} {s:Shared} {k tk er ed:Nat} {tl:List DictEntry} {L0:List Value} (htl:HT3 w.params tl) (hA:AOk A (10*f+30)) (hT:TopIn w.params s.heap) (hK0:Keeps h₀ s.heap [row]) (hI:s.heap.get? it=some (av ab k tk)) (hL:s.heap.get? L=some (frame (hFr w.params el node tn ak aw cm j1 j2 j3 j4 j5 j6 tl) ed))
  (hrow:s.heap.get? row=some (listO (.str ⟨⟨ws.getD node []⟩⟩ t0 :: L0) er)) (hrs:xs.drop k=rs) (hDp:(rs).all (Dp kss f)=true) (hL0:L0.length=k) (hkx:k≤xs.length) (lr:k+(rs).length≤100) (gC:∀(i x:Nat),i<k→xs[i]? = some x→∃c,L0[i]? = some (Value.ref c)∧ElTb w.params s.heap kss ws h₀.objs.size f c x)
  (H:∀(h':Heap) tk' L1 er' ed1 tl',Keeps s.heap h' [it,L,row]→h'.get? L=some (frame (hFr w.params el node tn ak aw cm j1 j2 j3 j4 j5 j6 tl') ed1)→h'.get? row=some (listO (.str ⟨⟨ws.getD node []⟩⟩ t0 :: L1) er')→L1.length=xs.length→(∀(i x:Nat),xs[i]? = some x→∃c,L1[i]? = some (Value.ref c)∧ElTb w.params h' kss ws h₀.objs.size f c x)→R (.ok .next) ⟨h',s.gens,s.drawn,tk',s.os⟩),
  codeAny (mm w) A (aU (dAt 17) 1 (.ref it) (fenv (dAt 17) gy 161 160 L)) R s:=by
 intro rs
 induction rs with
 | nil=>
  intro A R s k tk er ed tl L0 htl hA hT hK0 hI hL hrow hrs hDp hL0 hkx lr gC H
  have hle:Lb.length≤k:=hV.fin hrs
  have hVl:=hV.1
  have hxk:xs.length≤k:=List.drop_eq_nil_iff.mp hrs
  have fi0:=aS fi
  refine cZ ?_
  have fW:=hK0.kq hab (by tbr_iter hrb.symm)
  refine bU ?_
  intro zQ zE
  refine nextR (w:=w) (l:=[(ab,_),(it,_)]) 1 hT (ag fW (ag hI ah)) (by tbr_iter (neF hab fi0)) (by tbr_iter ki) (fun n t hn=>?_)
  refine gPx hA.hd [] 3 [2,18,1,0,0,4] ?_
  intro zM zO
  refine gQx [Lb.length≤k] ⟨by assumption,trivial⟩ ?_
  refine ggK s (.next) (fun h1 t1 D1=>?_)
  have K1:Keeps s.heap h1 [it]:=D1.keeps
  have L1':=K1.keep L _ hL (by tbr_iter niL.symm)
  have nri:row≠it:=fun q=>by rw[q,fi0] at hr0;cases hr0
  have R1':=K1.keep row _ hrow (by tbr_iter nri)
  have hlx:L0.length=xs.length:=by have:=hV.1;kst_all
  have wS:∀a∈[it],∀o,s.heap.get? a=some o→Wk o∧(o.cls = .type "list" →a<h₀.objs.size):=allA (wkA hI wkIt2)
  show wpAny _ _ (execs [] _) _ _ _
  refine wpAny_execs_nil ?_
  exact H h1 t1 L0 er ed tl (K1.mono (by kd_mem)) L1' R1' hlx (fun i x q=>by
   have hi:i<xs.length:=(List.getElem?_eq_some_iff.mp q).1
   kd_adr
   obtain⟨c,a1,a2⟩:=gC i x (by kst_all) q
   exact⟨c,a1,ElTb.keep K1 wS _ _ _ a2⟩)
 | cons x rs ih=>
  intro A R s k tk er ed tl L0 htl hA hT hK0 hI hL hrow hrs hDp hL0 hkx lr gC H
  have hall:Dp kss f x=true∧rs.all (Dp kss f)=true:=by simpa using hDp
  kd_adr
  have hx7:x<7:=hlen.1▸dp_lt hall.1
  have hAt:=abc_at hx7
  have hwx:ws[x]? = some (ws.getD x []):=by simp[show x<ws.length by kst_all]
  obtain⟨tw,hw1⟩:=hW.2 _ _ hwx
  obtain⟨⟨tx,hitem⟩,hk'⟩:=hV.at hrs
  have fi0:=aS fi
  have fL0:=aS fL
  have kpS:∀{h:Heap} (K:Keeps h₀ h [row]) {b:Addr} {o:Obj},h₀.get? b=some o→row≠b→h.get? b=some o:=fun K b o e q=>K.keep b o e (by tbr_iter (Ne.symm q))
  have nrL:row≠L:=fun q=>by rw[q,fL0] at hr0;cases hr0
  have nri:row≠it:=fun q=>by rw[q,fi0] at hr0;cases hr0
  have ncr:row≠cm:=apart hr0 hc
  refine cZ ?_
  have fW:=kpS hK0 hab hrb
  refine bU ?_
  intro zQ zE
  refine nextR (w:=w) (l:=[(ab,_),(it,_)]) 1 hT (ag fW (ag hI ah)) (by tbr_iter (neF hab fi0)) (by tbr_iter ki) (fun n t hn=>?_)
  refine gPx hA.hd [Value.int (Int.ofNat x) tx] 2 [2,17,1,0,0] ?_
  intro zM zO
  refine gQx [Lb[k]? = some (Value.int (Int.ofNat x) tx)] ⟨by assumption,trivial⟩ ?_
  refine ggK s (.ret (.int (.ofNat x) tx)) (fun h1 t1 D1=>?_)
  have K1:Keeps s.heap h1 [it]:=D1.keeps
  have T1:TopIn w.params h1:=D1.kt
  have I1:=D1.cK 1 it (av ab (k+1) 0)
  clear D1
  have L1':=K1.keep L _ hL (by tbr_iter niL.symm)
  refine oM hA.hd T1 L1' kL htl (fun h2 t2 j7 tl2 ed2 K2 T2 L2 iU=>?_)
  have Kc2:Keeps s.heap h2 [it,L,row]:=(K1.trans K2).mono (by kd_mem)
  have S2:Keeps h₀ h2 [row]:=hK0.fresh2 Kc2 (by first | kd_facts | simp[fi0,fL0])
  have I2:=K2.keep it _ I1 (by tbr_iter niL)
  have R2:h2.get? row=some (listO (.str ⟨⟨ws.getD node []⟩⟩ t0 :: L0) er):=(K1.trans K2).kq hrow (by tbr_iter (ai nri nrL))
  kd_adr
  obtain⟨p1,p2,p3,p4,p5,p6,p7,p8,p9,eB⟩:=hungB
  refine bU ?_
  intro zQ zE
  refine aH eB ?_
  refine wpAny_execs_cons (wpAny_Assign_Name ?_)
  have aw2:=kpS S2 hw hrw
  refine aE (w:=w) (l:=[(L,_),(aw,_)]) 2 T2 (ag L2 (ag aw2 ah)) (by kd_subs) (by kd_mem) (fun n3 t3 hn3=>?_)
  refine gPx hA.hd [Value.int (Int.ofNat (97+x)) 0,Value.str { cps:={ toList:=ws.getD x [] } } tw] 26 [0,1,1,24,0,0,0,1,1,1,2,2,2,15,1,0,1,1,0] ?_
  intro zM zO
  refine gQx [Lw[x]? = some (Value.str { cps:={ toList:=ws.getD x [] } } tw),x<2^63,(cpsOfBytes 0 0 "abcdefg".toByteArray.data.toList)[x]? = some (97+x),x<2^63] ⟨by assumption,by kst_all,by assumption,by kst_all,trivial⟩ ?_
  refine gcK (.call (.ref 30) ⟨[.ref el, .str ⟨⟨[97+x]⟩⟩ (t3+1), .ref cm],[(sText, .str ⟨⟨ws.getD x []⟩⟩ tw),(di, .int (.ofNat x) tx)]⟩) (fun h3 D3=>?_)
  have K3:Keeps h2 h3 []:=D3.keeps
  have S3:Keeps h₀ h3 [row]:=S2.fresh2 K3 (by kd_mem)
  have wk:∀a∈[row],∀o,h₀.get? a=some o→Wk o:=allA (wkA hr0 wkLi)
  refine sub_b (hA.subN (by kd_p) 6 (by kd_p) (by kst_all)) D3.kt (kpS S3 hc ncr) (X.keepC S3 wk) (K3.kp R2) (ht.keepC S3 wk) kc kr (by simp at lr ⊢;kst_all) (fun h4 t4 el' ad' bm e' jq K4 T4 f1 f2 f3 E4 g1 g2 g3=>?_)
  have T3:TopIn w.params h3:=D3.kt
  have T4':TopIn w.params h4:=K4.top D3.kt (by tbr_iter kr)
  have L4:=K4.keep L _ (K3.kp L2) (by tbr_iter nrL.symm)
  have I4:=K4.keep it _ (K3.kp I2) (by tbr_iter nri.symm)
  have Kc4:Keeps s.heap h4 [it,L,row]:=((Kc2.trans K3).trans K4).mono (by kd_mem)
  have f1:h3.objs.size≤el':=f1
  have f2:h3.objs.size≤ad':=f2
  have f3:h3.objs.size≤bm:=f3
  clear D3
  refine rebase [] [] 0 T4' ah (by kd_subs) (by kd_mem) (by kd_mem) (fun n4 hn4=>?_)
  refine gRx hA.hd 1 [] ?_
  kst_p
  refine ggK s (.ret (.ref el')) (fun h5 t5 D5=>?_)
  have K5:Keeps h4 h5 []:=D5.keeps
  have T5:TopIn w.params h5:=D5.kt
  have L5:=K5.kp L4
  clear D5
  refine hung_el hA.hd T5 L5 kL iU (fun h6 t6 j8 tl3 ed6 K6 T6 L6 oP=>?_)
  have K46:Keeps h4 h6 [L]:=(K5.trans K6).mono (by kd_mem)
  have Kc6:Keeps s.heap h6 [it,L,row]:=(Kc4.trans K46).mono (by kd_mem)
  have S6:Keeps h₀ h6 [row]:=hK0.fresh2 Kc6 (by first | kd_facts | simp[fi0,fL0])
  have aw6:=kpS S6 hw hrw
  refine wpAny_execs_cons (wpAny_Assign_Name ?_)
  refine aE (w:=w) (l:=[(L,_),(aw,_)]) 2 T6 (ag L6 (ag aw6 ah)) (by kd_subs) (by kd_mem) (fun n6 t6 hn6=>?_)
  refine gPx hA.hd [Value.str { cps:={ toList:=ws.getD x [] } } tw] 56 [1,1,2,2,2,15,1,0,0,1,0,3,3,3,3,0,3,3,3,3,0,3,3,3,3] ?_
  intro zM zO
  refine gQx [Lw[x]? = some (Value.str { cps:={ toList:=ws.getD x [] } } tw),x<2^63] ⟨by assumption,by kst_all,trivial⟩ ?_
  refine ggK s (.ret (.ref n6)) (fun h7 t7 D7=>?_)
  have K7:Keeps h6 h7 []:=D7.keeps
  have T7:TopIn w.params h7:=D7.kt
  have L7:=K7.kp L6
  have du7:=D7.cK 2 n6 (dictO (e17 w t6 (t6+1) (t6+3) (.str ⟨⟨ws.getD x []⟩⟩ tw) (.str bQ (t6+2)) (.int (.ofNat x) tx)) 3)
  clear D7
  have kdu:kg w n6=none:=bE T6 (Nat.le_of_eq hn6)
  refine oO hA.hd T7 L7 kL oP (fun h8 t8 j9 ed8 K8 T8 L8=>?_)
  have K48:Keeps h4 h8 [L]:=((K46.trans K7).trans K8).mono (by kd_mem)
  have Kc8:Keeps s.heap h8 [it,L,row]:=(Kc4.trans K48).mono (by kd_mem)
  have S8:Keeps h₀ h8 [row]:=hK0.fresh2 Kc8 (by first | kd_facts | simp[fi0,fL0])
  refine wpAny_execs_cons (wpAny_Assign_Name (jl ?_))
  refine aE (w:=w) (l:=[(L,_)]) 1 T8 (ag L8 ah) (by kd_subs) (by kd_mem) (fun n8 t8 hn8=>?_)
  refine gRx hA.hd 14 [0,1,1,1,1,1,0] ?_
  kst_p
  refine gcK (.call (.ref 161) ⟨[.ref el', .int (.ofNat x) tx, .ref ak, .ref aw, .ref cm],[]⟩) (fun h9 D9=>?_)
  have K9:Keeps h8 h9 []:=D9.keeps
  have T9:TopIn w.params h9:=D9.kt
  clear D9
  have K49:Keeps h4 h9 [L]:=(K48.trans K9).mono (by kd_mem)
  have Kc9:Keeps s.heap h9 [it,L,row]:=(Kc8.trans K9).mono (by kd_mem)
  have S9:Keeps h₀ h9 [row]:=hK0.fresh2 Kc9 (by first | kd_facts | simp[fi0,fL0])
  have sz3:s.heap.objs.size≤h3.objs.size:=(Kc2.trans K3).size
  have krow':kg w bm=none:=bE T3 f3
  have kad':kg w ad'=none:=bE T3 f2
  have nr1:bm≠ak:=bh hk (Nat.le_trans S3.size f3)
  have nr2:bm≠aw:=bh hw (Nat.le_trans S3.size f3)
  have nr3:bm≠row:=bh hr0 (Nat.le_trans S3.size f3)
  have nr4:bm≠it:=bh hI (Nat.le_trans sz3 f3)
  have nr5:bm≠L:=bh hL (Nat.le_trans sz3 f3)
  have wL4:∀a∈[L],∀o,h4.get? a=some o→Wk o:=allA (wkA L4 wkFr)
  have E9:=E4.keepC K49 wL4
  have R9:=K49.kq g2 (by tbr_iter nr5)
  refine REC (hA.subN (by kd_p) 4 (by kd_p) (by kst_all)) T9 E9 R9 (T4.keepC K49 wL4) (kpS S9 hk hra) (hK.keepRow S9 hr0) (kpS S9 hw hrw) hW (kpS S9 hc ncr) krow' kc nr1 nr2 hall.1 (fun h10 t10 L' er' K10 R10 len10 kids10=>?_)
  have T10:TopIn w.params h10:=K10.top T9 (by tbr_iter krow')
  have fr':s.heap.get? bm=none:=aS (Nat.le_trans sz3 f3)
  have Kc10:Keeps s.heap h10 [it,L,row]:=Kc9.fresh2 K10 (by first | kd_facts | simp[fr'])
  have L10:=K10.keep L _ (K9.kp L8) (by tbr_iter nr5.symm)
  refine rebase [] [] 0 T10 ah (by kd_subs) (by kd_mem) (by kd_mem) (fun n10 hn10=>?_)
  refine gRx hA.hd 1 [] ?_
  kst_p
  refine ggK s (.ret (.bool true)) (fun h11 t11 D11=>?_)
  have K11:Keeps h10 h11 []:=D11.keeps
  have T11:TopIn w.params h11:=D11.kt
  clear D11
  refine⟨rfl,?_⟩
  have L11:=K11.kp L10
  refine aE (w:=w) (l:=[(L,_)]) 1 T11 (ag L11 ah) (by kd_subs) (by kd_mem) (fun n11 t11 hn11=>?_)
  refine gRx hA.hd 2 [1] ?_
  kst_p
  refine ggK s (.ret (.bool true)) (fun h12 t12 D12=>?_)
  have K12:Keeps h11 h12 []:=D12.keeps
  have T12:TopIn w.params h12:=D12.kt
  clear D12
  refine⟨rfl,?_⟩
  have L12:=K12.kp L11
  have K10_12:Keeps h10 h12 []:=(K11.trans K12).mono (by kd_mem)
  have wr9:∀a∈[bm],∀o,h9.get? a=some o→Wk o:=allA (wkA R9 wkLi)
  have E10:=E9.keepC K10 wr9
  have E12:=E10.keepC K10_12 (by kd_mem)
  kd_adr
  obtain⟨dd',ap',itf',cl',ct',c2',q1,q2,q3,q4,q5,q6,kc',fd',vc',rc',X12⟩:=E12
  refine wpAny_Compare1 ?_
  refine aE (w:=w) (l:=[(L,_),(el',_),(dd',_)]) 3 T12 (ag L12 (ag X12.el (ag X12.dd ah))) (by kd_subs) (by kd_mem) (fun n12 t12 hn12=>?_)
  refine gRx hA.hd 30 [1,2,0,2,2,2,2,3,1,2,0,2,2,2,2,3] ?_
  kst_p
  refine ggK s (.ret (.ref n12)) (fun h13 t13 D13=>?_)
  have K13:Keeps h12 h13 []:=D13.keeps
  have T13:TopIn w.params h13:=D13.kt
  have tu13:=D13.cK 3 n12 (dc [.str ⟨⟨[97+x]⟩⟩ (t3+1), .ref ad'] 0)
  clear D13
  have L13:=K13.kp L12
  refine aE (w:=w) (l:=[(L,_)]) 1 T13 (ag L13 ah) (by kd_subs) (by kd_mem) (fun n13 t13 hn13=>?_)
  refine gPx hA.hd [Value.int (Int.ofNat (97+x)) 0] 9 [1,24,0,0,0,1] ?_
  intro zM zO
  refine gQx [(cpsOfBytes 0 0 "abcdefg".toByteArray.data.toList)[x]? = some (97+x),x<2^63] ⟨by assumption,by kst_all,trivial⟩ ?_
  refine ggK s (.ret (.ref n13)) (fun h14 t14 D14=>?_)
  have K14:Keeps h13 h14 []:=D14.keeps
  have T14:TopIn w.params h14:=D14.kt
  have tu14:=D14.cK 1 n13 (dc [.str ⟨⟨[97+x]⟩⟩ (t13+1), .ref n6] 0)
  clear D14
  have L14:=K14.kp L13
  have K10_14:Keeps h10 h14 []:=((K10_12.trans K13).trans K14).mono (by kd_mem)
  have nadL:ad'≠L:=apart g1 L4
  have nadr:ad'≠bm:=apart g1 g2
  have ad14:=K10_14.keep ad' _ (K10.kq (K49.keep _ _ g1 (by tbr_iter nadL)) (by tbr_iter nadr)) (by kd_mem)
  have nduL:n6≠L:=apart du7 L7
  have ndur:n6≠bm:=fun q=>by
   have R7:=(K46.trans K7).kq g2 (by tbr_iter nr5)
   exact (apart du7 R7) q
  have du14:=K10_14.keep n6 _ (K10.kq (K9.keep _ _ (K8.keep _ _ du7 (by tbr_iter nduL)) (by kd_mem)) (by tbr_iter ndur)) (by kd_mem)
  have ndud:ad'≠n6:=lv (K46.kq g1 (by tbr_iter nadL)) (Nat.le_of_eq hn6)
  have tu14':=K14.kp tu13
  have hu:=hA.un
  show wpAny _ _ (richCompare .Eq (.ref n12) (.ref n13)) _ _ _
  refine l4 tu14' tu14 (EqW.of (by have:=EqAt.str_str (A:=A.in1) (s:=⟨h14,s.gens,s.drawn,t14,s.os⟩) ⟨⟨[97+x]⟩⟩ (t3+1) ⟨⟨[97+x]⟩⟩ (t13+1);rwa [beq_self_eq_true] at this)) (EqW.refs ndud (fun E Q hq=>dw ad14 du14 kad' kdu ?sd ?pa (by show A.units+1<_;kst_all) hq)) (by kst_all) ?_
  case sd=>exact SD.cons (by kd_p) (SD.cons (by kd_p) (SD.cons (by kd_p) SD.nil))
  case pa=>
   refine⟨rfl,fun j hj=>?_⟩
   match j,hj with
   | 0,_=>exact⟨sText,_,_,0,_,_,by kd_p,rfl,by kd_p,rfl,EqW.of (EqAt.same _)⟩
   | 1,_=>exact⟨iI,_,_,1,_,_,by kd_p,rfl,by kd_p,rfl,EqW.of (by have:=EqAt.str_str (A:=A.in1.in1) (s:=⟨h14,s.gens,s.drawn,t14,s.os⟩) bQ kk bQ (t6+2);rwa [beq_self_eq_true] at this)⟩
   | 2,_=>exact⟨di,_,_,2,_,_,by kd_p,rfl,by kd_p,rfl,EqW.of (EqAt.same _)⟩
   | j+3,hj=>exact absurd hj (Nat.not_lt.mpr (Nat.le_add_left 3 j))
  refine dq (w:=w) (l:=[(L,_)]) 0 T14 (ag L14 ah) (by kd_subs) (by tbr_iter kL) (fun n14 t15 hn14=>?_)
  refine gRx hA.hd 4 [1,1] ?_
  kst_p
  refine ggK s (.next) (fun h15 t16 D15=>?_)
  have K15:Keeps h14 h15 [L]:=D15.keeps
  have T15:TopIn w.params h15:=D15.kt
  have L15:=D15.cK 0 L (frame (hFr w.params el node tn ak aw cm j1 j2 j3 j4 j5 j6 (e18 w j7 j8 j9 (.int (.ofNat x) tx) (.ref el') (.ref n6))) ed8)
  clear D15
  refine wpAny_execs_nil ?_
  have K10_15:Keeps h10 h15 [L]:=(K10_14.trans K15).mono (by kd_mem)
  have Kc15:Keeps s.heap h15 [it,L,row]:=(Kc10.trans K10_15).mono (by kd_mem)
  have S15:Keeps h₀ h15 [row]:=hK0.fresh2 Kc15 (by first | kd_facts | simp[fi0,fL0])
  have I15:=K10_15.keep it _ (K10.kq (K49.keep _ _ I4 (by tbr_iter niL)) (by tbr_iter nr4.symm)) (by tbr_iter niL)
  have W15:h15.get? row=some (listO (.str ⟨⟨ws.getD node []⟩⟩ t0 :: (L0++[.ref el'])) (er+1)):=K10_15.keep row _ (K10.kq (K49.keep _ _ g3 (by tbr_iter nrL)) (by tbr_iter nr3.symm)) (by tbr_iter nrL)
  have R15:=K10_15.keep bm _ R10 (by tbr_iter nr5)
  have wL10:∀a∈[L],∀o,h10.get? a=some o→Wk o∧(o.cls = .type "list" →a<h₀.objs.size):=allA (wkA L10 wkFr2)
  have E15:=E10.keepC K10_15 (fun a m o q=>(wL10 a m o q).1)
  have sz0:h₀.objs.size≤h3.objs.size:=S3.size
  have hnew:ElTb w.params h15 kss ws h₀.objs.size f el' x:=ElTb.put (dp_pos hall.1) (Nat.le_trans sz0 f3) E15 R15 len10 (fun i y q=>let ⟨c,a1,a2⟩:=kids10 i y q;⟨c,a1,ElTb.keep K10_15 wL10 _ _ _ (ElTb.low S9.size _ _ _ a2)⟩)
  have wS:∀a∈[it,L,row],∀o,s.heap.get? a=some o→Wk o∧(o.cls = .type "list" →a<h₀.objs.size):=allA (ai (wkA hI wkIt2) (ai (wkA hL wkFr2) (wkA hrow (wkLi2 (Heap.lt_size hr0)))))
  refine ih (k:=k+1) (L0:=L0++[.ref el']) (s:=⟨h15,s.gens,s.drawn,t16,s.os⟩) (HT3.mk) hA T15 S15 I15 L15 W15 hk' hall.2 (by first | kd_facts | simp[hL0]) (by have:=congrArg List.length hrs;simp at this;kst_all) (by simp at lr;kst_all) (fun i y hi hy=>?_) (fun h' tk' L1 er' ed1 tl' K a1 a2 a3 a4=>H h' tk' L1 er' ed1 tl' ((Kc15.trans K).mono (by kd_mem)) a1 a2 a3 a4)
  by_cases hik:i<k
  ·obtain⟨c,a1,a2⟩:=gC i y hik hy
   exact⟨c,by rw[List.getElem?_append_left (by kst_all)];exact a1,ElTb.keep Kc15 wS _ _ _ a2⟩
  ·have hik:i=k:=by kst_all
   subst hik
   have hxk:xs[i]? = some x:=by rw[←List.head?_drop,hrs];rfl
   rw[hxk] at hy;cases hy
   exact⟨el',by rw[List.getElem?_append_right (by kst_all),hL0];simp,hnew⟩
theorem n0 {row:Nat} {x:Str} {t:Nat} (hr:h.get? row=some (listO (.str x t :: Lr) er)) (e2:h.get? b=some (listO Lb eb)) (e3:IntVs Lb y):row≠b:=fun m=>by
 subst m
 rw[hr] at e2
 simp only[Option.some.injEq,listO,Obj.mk.injEq,Data.seq.injEq,true_and,and_true] at e2
 have e4:Lb = .str x t :: Lr:=by
  have:=congrArg Array.toList e2.1
  simpa using this.symm
 have h0:y.length=Lr.length+1:=by rw[←e3.1,e4];rfl
 have:y[0]? = some (y[0]'(by kst_all)):=by simp
 obtain⟨t',q⟩:=e3.2 0 _ this
 rw[e4] at q
 simp at q
theorem oN (hlen:kss.length=7∧ws.length=7) (hsm:∀i,(kss.getD i []).length≤50) (REC:lK w kss ws f):lK w kss ws (f+1):=by
 intro A R s el node tn ak aw cm row ad0 ek ew ec er u1 u2 kk t0 iB vL0 vT Lk Lw hA hT X hr ht hk hK hw hW hc kr kc hra hrw hD H
 have hD':node<kss.length∧(kss.getD node []).all (Dp kss f)=true:=by simpa [Dp] using hD
 obtain⟨hn,hDk⟩:=hD'
 have hks:kss[node]? = some (kss.getD node []):=by simp[hn]
 obtain⟨b,Lb,eb,hkb,hb,hV⟩:=hK.2 _ _ hks
 have hxl:=hsm node
 have hn':node<2^63:=by kst_all
 generalize kss.getD node []=xs at *
 refine az _ hT (ag hk (ag hb ah)) (fun n t hn1=>?_)
 refine gRx hA.hd 23 [0,0,3,3,3,3,3,3,3,3,3,3] ?_
 kst_p
 refine GoalX.enter (c:= .func (dAt 17).2.1 (fenv (dAt 17) gy 161 160 n)) (by kd_p) (fun h D=>noLimit D.kt) (ir hA 2 (by kd_p) (by kst_all)) ?_
 refine gPx hA.hd [Value.ref b] 30 [3,3,3,3,1,1,1,15,0,0,0,2,2,0,2,4] ?_
 intro zM zO
 refine gQx [Lk[node]? = some (Value.ref b),node<2^63] ⟨by assumption,by assumption,trivial⟩ ?_
 have rb:row≠b:=n0 hr hb hV
 refine gcK (aU (dAt 17) 1 (.ref (n+1)) (fenv (dAt 17) gy 161 160 n)) (fun h D=>?_)
 have K0:Keeps s.heap h [row]:=D.keeps.mono (by kd_mem)
 have hn2:s.heap.objs.size=n:=hn1
 have kI:kg w (n+1)=none:=bE hT (by kst_all)
 have kF:kg w n=none:=bE hT (by kst_all)
 have cI:=D.cK 3 (n+1) (av b 0 0)
 have cF:=D.cK 2 n (frame (hFr w.params el node tn ak aw cm t (t+1) (t+2) (t+3) (t+4) (t+5) []) 6)
 have cr:h.get? row=some (listO [.str ⟨⟨ws.getD node []⟩⟩ t0] er):=D.keeps.kp hr
 refine mH REC hlen (h₀:=s.heap) X ht hk hK hw hW hc hb hV hr kr kc kI kF hra hrw rb (by kst_all) (by kst_all) (by kd_mem) xs (k:=0) (L0:=[]) (.inl rfl) (hA.subN (by kd_p) 3 (by kd_p) (by kst_all)) D.kt K0 cI cF cr rfl hDk rfl (by kd_mem) (by simp at hxl ⊢;kst_all) (by kd_mem) (fun h' tk' L1 er' ed1 tl' K aL aR aN aK=>?_)
 have T':TopIn w.params h':=K.top D.kt (by tbr_iter (ai kI (ai kF kr)))
 have S':Keeps s.heap h' [row]:=K0.fresh2 K (by simp[aS (Nat.le_of_eq hn2),aS (show s.heap.objs.size≤n+1 by kst_all)])
 refine rebase [] [(n,_)] 1 T' (ag aL ah) (by kd_subs) (by kd_mem) (by kd_mem) (fun n4 hn4=>?_)
 refine lZ [] (hA.hd) [] 3 [1] ?_
 intro zM zO
 refine runC [] ?ob trivial ?_
 case ob=>kd_p
 refine gdK (.ok (.ret (.bool true))) (fun h2 D2=>?_)
 have K2:Keeps h' h2 []:=D2.keeps
 exact H h2 _ L1 er' ((S'.trans K2).mono (by kd_mem)) (K2.kp aR) aN (fun i x q=>let ⟨c,a1,a2⟩:=aK i x q;⟨c,a1,ElTb.keep K2 (by kd_mem) _ _ _ a2⟩)
theorem oD (hlen:kss.length=7∧ws.length=7) (hsm:∀i,(kss.getD i []).length≤50):∀f,lK w kss ws f:=by
 intro f
 induction f with
 | zero=>
  intro A R s el node tn ak aw cm row ad0 ek ew ec er u1 u2 kk t0 iB vL0 vT Lk Lw hA hT X hr ht hk hK hw hW hc kr kc hra hrw hD H
  simp[Dp] at hD
 | succ f ih=>exact oN hlen hsm ih
noncomputable def qHands:Str:=⟨#[95,108,97,119,95,104,97,110,100,115,46,60,108,111,99,97,108,115,62,46]⟩
noncomputable def iW (P:Params) (t:Nat):Nat→List DictEntry
 | 0=>[ent P ⟨⟨[38]⟩⟩ (t+0) (.str ⟨⟨[38,97,109,112,59]⟩⟩ (t+1)),ent P ⟨⟨[60]⟩⟩ (t+2) (.str ⟨⟨[38,108,116,59]⟩⟩ (t+3)),ent P ⟨⟨[62]⟩⟩ (t+4) (.str ⟨⟨[38,103,116,59]⟩⟩ (t+5))]
 | 1=>[ent P ⟨⟨[38]⟩⟩ (t+0) (.str ⟨⟨[38,97,109,112,59]⟩⟩ (t+1)),ent P ⟨⟨[60]⟩⟩ (t+2) (.str ⟨⟨[38,108,116,59]⟩⟩ (t+3)),ent P ⟨⟨[62]⟩⟩ (t+4) (.str ⟨⟨[38,103,116,59]⟩⟩ (t+5)),ent P ⟨⟨[34]⟩⟩ (t+6) (.str ⟨⟨[38,113,117,111,116,59]⟩⟩ (t+7)),ent P ⟨⟨[13]⟩⟩ (t+8) (.str ⟨⟨[38,35,49,51,59]⟩⟩ (t+9)),ent P ⟨⟨[10]⟩⟩ (t+10) (.str ⟨⟨[38,35,49,48,59]⟩⟩ (t+11)),ent P ⟨⟨[9]⟩⟩ (t+12) (.str ⟨⟨[38,35,48,57,59]⟩⟩ (t+13))]
 | 2=>[ent P ⟨⟨[38]⟩⟩ (t+0) (.str ⟨⟨[38,97,109,112,59]⟩⟩ (t+1)),ent P ⟨⟨[62]⟩⟩ (t+2) (.str ⟨⟨[38,103,116,59]⟩⟩ (t+3)),ent P ⟨⟨[34]⟩⟩ (t+4) (.str ⟨⟨[38,113,117,111,116,59]⟩⟩ (t+5))]
 | 3=>[ent P ⟨⟨[38]⟩⟩ (t+0) (.str ⟨⟨[38,97,109,112,59]⟩⟩ (t+1)),ent P ⟨⟨[60]⟩⟩ (t+2) (.str ⟨⟨[38,108,116,59]⟩⟩ (t+3)),ent P ⟨⟨[62]⟩⟩ (t+4) (.str ⟨⟨[38,103,116,59]⟩⟩ (t+5)),ent P ⟨⟨[13]⟩⟩ (t+6) (.str ⟨⟨[38,35,120,68,59]⟩⟩ (t+7))]
 | _=>[ent P ⟨⟨[38]⟩⟩ (t+0) (.str ⟨⟨[38,97,109,112,59]⟩⟩ (t+1)),ent P ⟨⟨[60]⟩⟩ (t+2) (.str ⟨⟨[38,108,116,59]⟩⟩ (t+3)),ent P ⟨⟨[34]⟩⟩ (t+4) (.str ⟨⟨[38,113,117,111,116,59]⟩⟩ (t+5)),ent P ⟨⟨[9]⟩⟩ (t+6) (.str ⟨⟨[38,35,120,57,59]⟩⟩ (t+7)),ent P ⟨⟨[10]⟩⟩ (t+8) (.str ⟨⟨[38,35,120,65,59]⟩⟩ (t+9)),ent P ⟨⟨[13]⟩⟩ (t+10) (.str ⟨⟨[38,35,120,68,59]⟩⟩ (t+11))]
structure HandT (P:Params) (h:Heap) (k:Nat) (d:Addr):Prop where
 tab:∃es e,h.get? d=some (dictO es e)∧SD P es∧∀x∈wordsL,(∃t,lookE es ⟨⟨x⟩⟩=some (.str ⟨⟨esc k x⟩⟩ t))∨(lookE es ⟨⟨x⟩⟩=none∧esc k x=x)
 kn:(kt P).get d=none
theorem HandT.keep (H:HandT P h k d) (K:Keeps h h' ex) (hx:d∉ex):HandT P h' k d:=
 ⟨let ⟨es,e,a,b,c⟩:=H.tab;⟨es,e,K.kq a hx,b,c⟩,H.kn⟩
theorem eD (P:Params) (t:Nat):∀k,k<5→SD P (iW P t k):=fun k hk=>by
 match k,hk with
 | 0,_=>exact SD.cons (by kd_p) (SD.cons (by kd_p) (SD.cons (by kd_p) (SD.nil)))
 | 1,_=>exact SD.cons (by kd_p) (SD.cons (by kd_p) (SD.cons (by kd_p) (SD.cons (by kd_p) (SD.cons (by kd_p) (SD.cons (by kd_p) (SD.cons (by kd_p) (SD.nil)))))))
 | 2,_=>exact SD.cons (by kd_p) (SD.cons (by kd_p) (SD.cons (by kd_p) (SD.nil)))
 | 3,_=>exact SD.cons (by kd_p) (SD.cons (by kd_p) (SD.cons (by kd_p) (SD.cons (by kd_p) (SD.nil))))
 | 4,_=>exact SD.cons (by kd_p) (SD.cons (by kd_p) (SD.cons (by kd_p) (SD.cons (by kd_p) (SD.cons (by kd_p) (SD.cons (by kd_p) (SD.nil))))))
theorem cY (P:Params) (t:Nat):∀k,k<5→∀x∈wordsL,(∃t',lookE (iW P t k) ⟨⟨x⟩⟩=some (.str ⟨⟨esc k x⟩⟩ t'))∨(lookE (iW P t k) ⟨⟨x⟩⟩=none∧esc k x=x):=fun k hk x hx=>by
 simp only[wordsL,List.mem_cons,List.not_mem_nil,or_false] at hx
 match k,hk with
 | 0,_=>
  rcases hx with rfl | rfl | rfl | rfl | rfl | rfl | rfl | rfl | rfl | rfl
  ·exact .inr ⟨by kd_p,by kd_p⟩
  ·exact .inr ⟨by kd_p,by kd_p⟩
  ·exact .inr ⟨by kd_p,by kd_p⟩
  ·exact .inl ⟨t+1,by kd_p⟩
  ·exact .inl ⟨t+3,by kd_p⟩
  ·exact .inl ⟨t+5,by kd_p⟩
  ·exact .inr ⟨by kd_p,by kd_p⟩
  ·exact .inr ⟨by kd_p,by kd_p⟩
  ·exact .inr ⟨by kd_p,by kd_p⟩
  ·exact .inr ⟨by kd_p,by kd_p⟩
 | 1,_=>
  rcases hx with rfl | rfl | rfl | rfl | rfl | rfl | rfl | rfl | rfl | rfl
  ·exact .inr ⟨by kd_p,by kd_p⟩
  ·exact .inr ⟨by kd_p,by kd_p⟩
  ·exact .inr ⟨by kd_p,by kd_p⟩
  ·exact .inl ⟨t+1,by kd_p⟩
  ·exact .inl ⟨t+3,by kd_p⟩
  ·exact .inl ⟨t+5,by kd_p⟩
  ·exact .inl ⟨t+7,by kd_p⟩
  ·exact .inl ⟨t+9,by kd_p⟩
  ·exact .inl ⟨t+11,by kd_p⟩
  ·exact .inl ⟨t+13,by kd_p⟩
 | 2,_=>
  rcases hx with rfl | rfl | rfl | rfl | rfl | rfl | rfl | rfl | rfl | rfl
  ·exact .inr ⟨by kd_p,by kd_p⟩
  ·exact .inr ⟨by kd_p,by kd_p⟩
  ·exact .inr ⟨by kd_p,by kd_p⟩
  ·exact .inl ⟨t+1,by kd_p⟩
  ·exact .inr ⟨by kd_p,by kd_p⟩
  ·exact .inl ⟨t+3,by kd_p⟩
  ·exact .inl ⟨t+5,by kd_p⟩
  ·exact .inr ⟨by kd_p,by kd_p⟩
  ·exact .inr ⟨by kd_p,by kd_p⟩
  ·exact .inr ⟨by kd_p,by kd_p⟩
 | 3,_=>
  rcases hx with rfl | rfl | rfl | rfl | rfl | rfl | rfl | rfl | rfl | rfl
  ·exact .inr ⟨by kd_p,by kd_p⟩
  ·exact .inr ⟨by kd_p,by kd_p⟩
  ·exact .inr ⟨by kd_p,by kd_p⟩
  ·exact .inl ⟨t+1,by kd_p⟩
  ·exact .inl ⟨t+3,by kd_p⟩
  ·exact .inl ⟨t+5,by kd_p⟩
  ·exact .inr ⟨by kd_p,by kd_p⟩
  ·exact .inl ⟨t+7,by kd_p⟩
  ·exact .inr ⟨by kd_p,by kd_p⟩
  ·exact .inr ⟨by kd_p,by kd_p⟩
 | 4,_=>
  rcases hx with rfl | rfl | rfl | rfl | rfl | rfl | rfl | rfl | rfl | rfl
  ·exact .inr ⟨by kd_p,by kd_p⟩
  ·exact .inr ⟨by kd_p,by kd_p⟩
  ·exact .inr ⟨by kd_p,by kd_p⟩
  ·exact .inl ⟨t+1,by kd_p⟩
  ·exact .inl ⟨t+3,by kd_p⟩
  ·exact .inr ⟨by kd_p,by kd_p⟩
  ·exact .inl ⟨t+5,by kd_p⟩
  ·exact .inl ⟨t+11,by kd_p⟩
  ·exact .inl ⟨t+9,by kd_p⟩
  ·exact .inl ⟨t+7,by kd_p⟩
theorem mz {s:Shared} (hA:AOk A 9) (hT:TopIn w.params s.heap)
 (H:∀(h':Heap) tk' l L,Keeps s.heap h' []→h'.get? l=some (listO L 0)→s.heap.objs.size≤l→L.length=5→(∀k,k<5→∃tp d,L[k]? = some (.ref tp)∧h'.get? tp=some (dc [.ref (escRef k), .ref d] 0)∧s.heap.objs.size≤d∧HandT w.params h' k d)→R (.ok (.ret (.ref l))) ⟨h',s.gens,s.drawn,tk',s.os⟩):
  codeAny (mm w) A (.call (.ref 142) ⟨[],[]⟩) R s:=by
 refine az [] hT ah (fun n t hn=>?_)
 refine gRx hA.hd 3 [0,0] ?_
 kst_p
 refine geK hA (.func (dAt 14).2.1 (fenv (dAt 14) qHands 142 141 n)) ?_
 refine gRx hA.hd 380 [0,0,2,2,2,2,0,2,2,2,2,0,2,2,2,2,0,0,4,4,4,4,0,4,4,4,4,0,4,4,4,4,0,4,4,4,4,0,4,4,4,4,0,4,4,4,4,0,4,4,4,4,0,0,6,6,6,6,0,6,6,6,6,0,6,6,6,6,0,0,8,8,8,8,0,8,8,8,8,0,8,8,8,8,0,8,8,8,8,0,0,10,10,10,10,0,10,10,10,10,0,10,10,10,10,0,10,10,10,10,0,10,10,10,10,0,10,10,10,10] ?_
 kst_p
 refine gdK (.ok (.ret (.ref (n+11)))) (fun h D=>?_)
 have kn:∀j,kg w (n+j)=none:=fun j=>by
  cases z:kg w (n+j) with
  | none=>rfl
  | some o=>exact absurd (Heap.lt_size (hT _ o z)) (by rw[hn];exact Nat.not_lt.mpr (Nat.le_add_right _ _))
 refine H h _ (n+11) [.ref (n+2), .ref (n+4), .ref (n+6), .ref (n+8), .ref (n+10)] D.keeps (D.xK 11) (by kst_all) rfl (fun k hk=>?_)
 match k,hk with
 | 0,_=>exact⟨n+2,n+1,rfl,D.xK 2,by kst_all,⟨iW w.params (t+0) 0,3,D.xK 1,eD _ _ _ (by kst_all),cY _ _ _ (by kst_all)⟩,kn _⟩
 | 1,_=>exact⟨n+4,n+3,rfl,D.xK 4,by kst_all,⟨iW w.params (t+9) 1,7,D.xK 3,eD _ _ _ (by kst_all),cY _ _ _ (by kst_all)⟩,kn _⟩
 | 2,_=>exact⟨n+6,n+5,rfl,D.xK 6,by kst_all,⟨iW w.params (t+30) 2,3,D.xK 5,eD _ _ _ (by kst_all),cY _ _ _ (by kst_all)⟩,kn _⟩
 | 3,_=>exact⟨n+8,n+7,rfl,D.xK 8,by kst_all,⟨iW w.params (t+39) 3,4,D.xK 7,eD _ _ _ (by kst_all),cY _ _ _ (by kst_all)⟩,kn _⟩
 | 4,_=>exact⟨n+10,n+9,rfl,D.xK 10,by kst_all,⟨iW w.params (t+51) 4,6,D.xK 9,eD _ _ _ (by kst_all),cY _ _ _ (by kst_all)⟩,kn _⟩
noncomputable def ld:Str:=⟨#[95,108,97,119,95,116,114,101,101,46,60,108,111,99,97,108,115,62,46]⟩
noncomputable def cQ:Str:=⟨#[98,101,108,111,119]⟩
noncomputable def bp:Str:=⟨#[97,98,111,118,101]⟩
noncomputable def kS:Str:=⟨#[110,117,109,98,101,114]⟩
noncomputable def sOne:Str:=⟨#[111,110,101]⟩
noncomputable def kU:Str:=⟨#[102,114,101,101]⟩
noncomputable def dI:Stmt→Expr
 | .Assign _ v _=>v
 | _=>default
noncomputable def dH:Expr:=dI ((cq (dAt 15) 1).2.1.getD 0 default)
@[reducible] noncomputable def dk (L d cb:Addr):Env:={ scope:=cG (bF dH) (dAt 15).2.2,locals:=d,globals:=3,cells:=[(cQ,cb)],qual:=ld,func:=none,code:= .ref 146,frame:=some L,builtins:=0 }
theorem IntVs.push {L:List Value} (H:IntVs L xs) (x:Nat) (t:Tok):IntVs (L++[.int (.ofNat x) t]) (xs++[x]):=by
 refine⟨by simp[H.1],fun i y e=>?_⟩
 rw[List.getElem?_append] at e ⊢
 rw[←H.1] at e
 split at e
 ·rename_i hi;rw[if_pos hi];exact H.2 i y e
 ·rename_i hi
  rw[if_neg hi]
  have:i - L.length=0:=by
   cases q:i - L.length with
   | zero=>rfl
   | succ j=>rw[q] at e;simp at e
  rw[this] at e ⊢
  simp at e;subst e
  exact⟨t,rfl⟩
theorem IntVs.nil:IntVs [] []:=⟨rfl,fun i x e=>by simp at e⟩
theorem KidsAt.keepL {L:List Value} {xs:List (List Nat)} (K:Keeps h h' ex) (H:KidsAt h L xs) (hx:∀(i:Nat) (b:Addr),L[i]? = some (Value.ref b)→b∉ex):KidsAt h' L xs:=
 ⟨H.1,fun i x e=>let ⟨b,Lb,eb,e1,e2,e3⟩:=H.2 i x e;⟨b,Lb,eb,e1,K.kq e2 (hx _ _ e1),e3⟩⟩
theorem KidsAt.row {L:List Value} {xs:List (List Nat)} (H:KidsAt h L xs) {i:Nat} (e:L[i]? = some v):xs[i]? = some (xs.getD i []):=by
 have:i<xs.length:=by rw[←H.1];exact (List.getElem?_eq_some_iff.mp e).1
 simp[this]
@[reducible] noncomputable def e19 (w:World) (k1:Nat) (v1:Value):List DictEntry:=[ent w.params sOne k1 v1]
theorem gF
 (n1:it≠acc) (n2:it≠d) (n3:acc≠d) (ki:kg w it=none) (ka:kg w acc=none) (kd:kg w d=none) (fb:bl≠acc) (fr:∀(i:Nat) (b:Addr),Lb[i]? = some (Value.ref b)→b≠acc) (hsm:∀i,(kss.getD i []).length≤50) (hkl:kss.length≤100):
 ∀(r:Nat) {A:Around} {R:Result→Shared→Prop} {s:Shared} {i ea:Nat} {ta tr:Tok} {La:List Value} {is:List Nat} {v1:Value} (hA:AOk A 19) (hT:TopIn w.params s.heap)
 (hcb:s.heap.get? cb=some (cellO (.ref bl))) (hbl:s.heap.get? bl=some (listO Lb eb)) (hB:KidsAt s.heap Lb kss)
 (hI:s.heap.get? it=some (aq (.ofNat i) (.ofNat r) ta tr ts)) (hacc:s.heap.get? acc=some (listO La ea)) (hd:s.heap.get? d=some (dictO (e19 w k1 v1) ed))
 (hir:i+r≤kss.length) (hil:is.length≤i) (hS:IntVs La is)
 (H:∀(h':Heap) tk' La' ea' v1',Keeps s.heap h' [it,acc,d]→h'.get? acc=some (listO La' ea')→IntVs La' (is++(List.range' i r).filter (fun j=>decide ((kss.getD j []).length<2)))→h'.get? d=some (dictO (e19 w k1 v1') ed)→R (.ok .next) ⟨h',s.gens,s.drawn,tk',s.os⟩),
  codeAny (mm w) A (.compLoop dH 0 (.ref it) (.ref acc) (dk L d cb)) R s:=by
 intro r
 induction r with
 | zero=>
  intro A R s i ea ta tr La is v1 hA hT hcb hbl hB hI hacc hd hir hil hS H
  refine aj _ 0 hT (ag hI (ag hd ah)) ?ne ?kn (fun n t _=>?_)
  case ne=>simp[Dis,n2]
  case kn=>kd_in
  refine gRx hA.hd 14 [1,0,1,1,1,1,4] ?_
  kst_p
  refine gdK (.ok .next) (fun h D=>?_)
  exact H h _ La ea v1 (D.keeps.mono (by kd_mem)) (D.keeps.kq hacc (by tbr_iter (ai n1.symm n3))) (by tbr_iter hS) (D.xK 1)
 | succ r ih=>
  intro A R s i ea ta tr La is v1 hA hT hcb hbl hB hI hacc hd hir hil hS H
  have hik:i<kss.length:=by kst_all
  have hks:kss[i]? = some (kss.getD i []):=by simp[hik]
  obtain⟨b1',Lx,e1,hi,hb,hV⟩:=hB.2 _ _ hks
  have hx50:=hsm i
  have hsplit:(List.range' i (r+1)).filter (fun j=>decide ((kss.getD j []).length<2))=(if (kss.getD i []).length<2 then [i] else [])++(List.range' (i+1) r).filter (fun j=>decide ((kss.getD j []).length<2)):=by
   rw[List.range'_succ,List.filter_cons]
   by_cases q:(kss.getD i []).length<2
   ·rw[if_pos q,if_pos (decide_eq_true q)];rfl
   ·rw[if_neg q,if_neg (by rw[decide_eq_true_eq];exact q)];rfl
  rw[hsplit] at H
  have hlx:Lx.length=(kss.getD i []).length:=hV.1
  generalize kss.getD i []=xs at *
  have hx:Lx.length≤2^24:=by kst_all
  have jR:i<2^63:=by kst_all
  have hla:La.length≤2^24:=by have:=hS.1;kst_all
  have i1:=apart hbl hI
  have i2:=fb
  have i3:=apart hbl hd
  have j1:=apart hcb hI
  have j2:=apart hcb hacc
  have j3:=apart hcb hd
  have l1:=apart hb hI
  have l2:=fr _ _ hi
  have l3:=apart hb hd
  by_cases hlt:(Lx.length:Int)<2
  ·have hq:xs.length<2:=by kst_all
   rw[if_pos hq] at H
   refine aj _ 3 hT (ag hcb (ag hbl (ag hb (ag hI (ag hacc (ag hd ah)))))) ?ne ?kn (fun n t _=>?_)
   case ne=>kd_subs
   case kn=>kd_in
   refine gPx hA.hd [Value.ref b1',Value.int (Int.ofNat xs.length) 0] 43 [4,0,4,4,4,4,4,4,4,4,6,6,0,0,1,6,2,2,2,15,1,0,0,26,2,0,1,8,0,1,0,6,19,4,0,0] ?_
   intro zM zO
   refine gQx [La.length≤2^24,xs.length<2,Lx.length=xs.length,xs.length<2^63,Lb[i]? = some (Value.ref b1'),i<2^63] ⟨by assumption,by assumption,by assumption,by kst_all,by assumption,by assumption,trivial⟩ ?_
   refine gaK (.compLoop dH 0 (.ref it) (.ref acc) (dk L d cb)) (fun h D=>?_)
   have c3:=D.cK 3 it (aq (Int.ofNat (i+1)) (Int.ofNat (r+1) - 1) 0 0 ts)
   rw[ay] at c3
   have c4:=D.cK 4 acc (listO (La++[.int (.ofNat i) t]) (ea+1))
   have c5:=D.cK 5 d (dictO (e19 w k1 (.int (.ofNat i) t)) ed)
   have hB2:KidsAt h Lb kss:=KidsAt.keepL D.keeps hB (by intro i' b' e';obtain⟨_,_,_,q1,q2,_⟩:=hB.2 i' _ (hB.row e');rw[q1] at e';cases e';simp;exact⟨apart q2 hI,fr _ _ q1,apart q2 hd⟩)
   refine ih (is:=(is++[i])) hA D.kt (D.keeps.kq hcb (by tbr_iter (ai j1 (ai j2 j3)))) (D.keeps.kq hbl (by tbr_iter (ai i1 (ai i2 i3)))) hB2 c3 c4 c5 (by kst_all) (by simp;kst_all) (hS.push _ _) (fun h' tk' La' ea' v1' K e1 e2 e3=>H h' tk' La' ea' v1' ((D.keeps.trans K).mono (by kd_mem)) e1 (by tbr_iter e2) e3)
  ·have hq:¬xs.length<2:=by kst_all
   rw[if_neg hq] at H
   refine aj _ 3 hT (ag hcb (ag hbl (ag hb (ag hI (ag hacc (ag hd ah)))))) ?ne ?kn (fun n t _=>?_)
   case ne=>kd_subs
   case kn=>kd_in
   refine gPx hA.hd [Value.ref b1',Value.int (Int.ofNat xs.length) 0] 40 [4,0,4,4,4,4,4,4,4,4,6,6,0,0,1,6,2,2,2,15,1,0,0,26,2,0,1,8,0,0,0] ?_
   intro zM zO
   refine gQx [¬xs.length<2,Lx.length=xs.length,xs.length<2^63,Lb[i]? = some (Value.ref b1'),i<2^63] ⟨by assumption,by assumption,by kst_all,by assumption,by assumption,trivial⟩ ?_
   refine gaK (.compLoop dH 0 (.ref it) (.ref acc) (dk L d cb)) (fun h D=>?_)
   have c3:=D.cK 3 it (aq (Int.ofNat (i+1)) (Int.ofNat (r+1) - 1) 0 0 ts)
   rw[ay] at c3
   have c4:=D.cK 4 acc (listO La ea)
   have c5:=D.cK 5 d (dictO (e19 w k1 (.int (.ofNat i) t)) ed)
   have hB2:KidsAt h Lb kss:=KidsAt.keepL D.keeps hB (by intro i' b' e';obtain⟨_,_,_,q1,q2,_⟩:=hB.2 i' _ (hB.row e');rw[q1] at e';cases e';simp;exact⟨apart q2 hI,fr _ _ q1,apart q2 hd⟩)
   refine ih (is:=is) hA D.kt (D.keeps.kq hcb (by tbr_iter (ai j1 (ai j2 j3)))) (D.keeps.kq hbl (by tbr_iter (ai i1 (ai i2 i3)))) hB2 c3 c4 c5 (by kst_all) (by kst_all) hS (fun h' tk' La' ea' v1' K e1 e2 e3=>H h' tk' La' ea' v1' ((D.keeps.trans K).mono (by kd_mem)) e1 (by tbr_iter e2) e3)
theorem jT
 (n1:it≠acc) (n2:it≠d) (n3:acc≠d) (ki:kg w it=none) (ka:kg w acc=none) (kd:kg w d=none) (fb:bl≠acc) (fr:∀(i:Nat) (b:Addr),Lb[i]? = some (Value.ref b)→b≠acc) (hsm:∀i,(kss.getD i []).length≤50) (hkl:kss.length≤100)
 (r:Nat) {s:Shared} {i:Nat} {tr:Tok} (hA:AOk A 19) (hT:TopIn w.params s.heap)
 (hcb:s.heap.get? cb=some (cellO (.ref bl))) (hbl:s.heap.get? bl=some (listO Lb eb)) (hB:KidsAt s.heap Lb kss)
 (hI:s.heap.get? it=some (aq (.ofNat i) (.ofNat (r+1)) ta tr ts)) (hacc:s.heap.get? acc=some (listO La ea)) (hd:s.heap.get? d=some (dictO [] ed))
 (hir:i+(r+1)≤kss.length) (hil:is.length≤i) (hS:IntVs La is)
 (H:∀(h':Heap) tk' La' ea' k1 v1' ed',Keeps s.heap h' [it,acc,d]→h'.get? acc=some (listO La' ea')→IntVs La' (is++(List.range' i (r+1)).filter (fun j=>decide ((kss.getD j []).length<2)))→h'.get? d=some (dictO (e19 w k1 v1') ed')→R (.ok .next) ⟨h',s.gens,s.drawn,tk',s.os⟩):
  codeAny (mm w) A (.compLoop dH 0 (.ref it) (.ref acc) (dk L d cb)) R s:=by
  have hik:i<kss.length:=by kst_all
  have hks:kss[i]? = some (kss.getD i []):=by simp[hik]
  obtain⟨b1',Lx,e1,hi,hb,hV⟩:=hB.2 _ _ hks
  have hx50:=hsm i
  have hsplit:(List.range' i (r+1)).filter (fun j=>decide ((kss.getD j []).length<2))=(if (kss.getD i []).length<2 then [i] else [])++(List.range' (i+1) r).filter (fun j=>decide ((kss.getD j []).length<2)):=by
   rw[List.range'_succ,List.filter_cons]
   by_cases q:(kss.getD i []).length<2
   ·rw[if_pos q,if_pos (decide_eq_true q)];rfl
   ·rw[if_neg q,if_neg (by rw[decide_eq_true_eq];exact q)];rfl
  rw[hsplit] at H
  have hlx:Lx.length=(kss.getD i []).length:=hV.1
  generalize kss.getD i []=xs at *
  have hx:Lx.length≤2^24:=by kst_all
  have jR:i<2^63:=by kst_all
  have hla:La.length≤2^24:=by have:=hS.1;kst_all
  have i1:=apart hbl hI
  have i2:=fb
  have i3:=apart hbl hd
  have j1:=apart hcb hI
  have j2:=apart hcb hacc
  have j3:=apart hcb hd
  have l1:=apart hb hI
  have l2:=fr _ _ hi
  have l3:=apart hb hd
  by_cases hlt:(Lx.length:Int)<2
  ·have hq:xs.length<2:=by kst_all
   rw[if_pos hq] at H
   refine aj _ 3 hT (ag hcb (ag hbl (ag hb (ag hI (ag hacc (ag hd ah)))))) ?ne ?kn (fun n t _=>?_)
   case ne=>kd_subs
   case kn=>kd_in
   refine gPx hA.hd [Value.ref b1',Value.int (Int.ofNat xs.length) 0] 43 [4,0,4,4,4,4,4,4,4,4,6,6,0,0,1,6,2,2,2,15,1,0,0,26,2,0,1,8,0,1,0,6,19,4,0,0] ?_
   intro zM zO
   refine gQx [La.length≤2^24,xs.length<2,Lx.length=xs.length,xs.length<2^63,Lb[i]? = some (Value.ref b1'),i<2^63] ⟨by assumption,by assumption,by assumption,by kst_all,by assumption,by assumption,trivial⟩ ?_
   refine gaK (.compLoop dH 0 (.ref it) (.ref acc) (dk L d cb)) (fun h D=>?_)
   have c3:=D.cK 3 it (aq (Int.ofNat (i+1)) (Int.ofNat (r+1) - 1) 0 0 ts)
   rw[ay] at c3
   have c4:=D.cK 4 acc (listO (La++[.int (.ofNat i) t]) (ea+1))
   have c5:=D.cK 5 d (dictO (e19 w (t+1) (.int (.ofNat i) t)) (ed+1))
   have hB2:KidsAt h Lb kss:=KidsAt.keepL D.keeps hB (by intro i' b' e';obtain⟨_,_,_,q1,q2,_⟩:=hB.2 i' _ (hB.row e');rw[q1] at e';cases e';simp;exact⟨apart q2 hI,fr _ _ q1,apart q2 hd⟩)
   refine gF n1 n2 n3 ki ka kd fb fr hsm hkl r (is:=(is++[i])) hA D.kt (D.keeps.kq hcb (by tbr_iter (ai j1 (ai j2 j3)))) (D.keeps.kq hbl (by tbr_iter (ai i1 (ai i2 i3)))) hB2 c3 c4 c5 (by kst_all) (by simp;kst_all) (hS.push _ _) (fun h' tk' La' ea' v1' K e1 e2 e3=>H h' tk' La' ea' _ _ _ ((D.keeps.trans K).mono (by kd_mem)) e1 (by tbr_iter e2) e3)
  ·have hq:¬xs.length<2:=by kst_all
   rw[if_neg hq] at H
   refine aj _ 3 hT (ag hcb (ag hbl (ag hb (ag hI (ag hacc (ag hd ah)))))) ?ne ?kn (fun n t _=>?_)
   case ne=>kd_subs
   case kn=>kd_in
   refine gPx hA.hd [Value.ref b1',Value.int (Int.ofNat xs.length) 0] 40 [4,0,4,4,4,4,4,4,4,4,6,6,0,0,1,6,2,2,2,15,1,0,0,26,2,0,1,8,0,0,0] ?_
   intro zM zO
   refine gQx [¬xs.length<2,Lx.length=xs.length,xs.length<2^63,Lb[i]? = some (Value.ref b1'),i<2^63] ⟨by assumption,by assumption,by kst_all,by assumption,by assumption,trivial⟩ ?_
   refine gaK (.compLoop dH 0 (.ref it) (.ref acc) (dk L d cb)) (fun h D=>?_)
   have c3:=D.cK 3 it (aq (Int.ofNat (i+1)) (Int.ofNat (r+1) - 1) 0 0 ts)
   rw[ay] at c3
   have c4:=D.cK 4 acc (listO La ea)
   have c5:=D.cK 5 d (dictO (e19 w (t+1) (.int (.ofNat i) t)) (ed+1))
   have hB2:KidsAt h Lb kss:=KidsAt.keepL D.keeps hB (by intro i' b' e';obtain⟨_,_,_,q1,q2,_⟩:=hB.2 i' _ (hB.row e');rw[q1] at e';cases e';simp;exact⟨apart q2 hI,fr _ _ q1,apart q2 hd⟩)
   refine gF n1 n2 n3 ki ka kd fb fr hsm hkl r (is:=is) hA D.kt (D.keeps.kq hcb (by tbr_iter (ai j1 (ai j2 j3)))) (D.keeps.kq hbl (by tbr_iter (ai i1 (ai i2 i3)))) hB2 c3 c4 c5 (by kst_all) (by kst_all) hS (fun h' tk' La' ea' v1' K e1 e2 e3=>H h' tk' La' ea' _ _ _ ((D.keeps.trans K).mono (by kd_mem)) e1 (by tbr_iter e2) e3)
theorem bC {s:Shared} {e:Expr} {a r:Int} {acc:Value} (he:iR e=true) (hI:s.heap.get? it=some (aq a r 0 0 0))
  (h:codeAny (mm w) A (.compLoop e 0 (.ref it) acc env) R s):codeAny (mm w) A (.compStart e 0 (.ref it) acc env) R s:=by
 unfold iR at he
 split at he
 ·have he:=eq_of_beq he
  subst he
  exact codeAny_compStart_list h (wpAny_pyIter_rangeiter hI h)
 ·cases he
theorem noPy {x:Int} {y:Nat} (h:y<2^64):Builtin.divisionGoesByPylong x (y:Int)=false:=by
 unfold Builtin.divisionGoesByPylong
 by_cases q:y=0
 ·subst q;rfl
 ·have:y.log2<64:=(Nat.log2_lt q).mpr h
  have e:((y:Int) == 0)=false:=by simpa using q
  simp only[e,Bool.and_eq_false_iff]
  left
  simp
  omega
noncomputable def aB (kss:List (List Nat)):List Nat:=(List.range' 0 kss.length).filter (fun j=>decide ((kss.getD j []).length<2))
noncomputable def grow (kss:List (List Nat)) (a j:Nat):List (List Nat):=(kss.set a (kss.getD a []++[j]))++[[]]
theorem mM (kss:List (List Nat)):(aB kss).length≤kss.length:=by
 have:=List.length_filter_le (fun j=>decide ((kss.getD j []).length<2)) (List.range' 0 kss.length)
 simpa [aB] using this
theorem oW {g:Nat} (h:(aB kss)[g]? = some a):a<kss.length:=by
 have h:=List.mem_of_getElem? h
 have h:=(List.mem_filter.mp h).1
 simpa using h
noncomputable def WW (P:Params) (h₀:Heap) (ex:List Addr) (a:Addr):Prop:=(kt P).get a=none∧(a∈ex∨h₀.get? a=none)
structure TreeI (P:Params) (h₀ h:Heap) (ex:List Addr) (cb ab bl:Addr) (above:List Nat) (kss:List (List Nat)):Prop where
 K:Keeps h₀ h ex
 hcb:h.get? cb=some (cellO (.ref bl))
 hab:∃La ea,h.get? ab=some (listO La ea)∧IntVs La above
 hbl:∃Lb eb,h.get? bl=some (listO Lb eb)∧KidsAt h Lb kss∧(∀(i j:Nat) (b b':Addr),Lb[i]? = some (Value.ref b)→Lb[j]? = some (Value.ref b')→i≠j→b≠b')∧(∀(i:Nat) (b:Addr),Lb[i]? = some (Value.ref b)→WW P h₀ ex b∧b≠ab∧b≠bl)
 wa:WW P h₀ ex ab
 wb:WW P h₀ ex bl
 nab:ab≠bl
theorem ce {L:List Value} {x:Value} {i:Nat} (e:(L++[x])[i]? = some v):(i<L.length∧L[i]? = some v)∨(i=L.length∧x=v):=by
 rw[List.getElem?_append] at e
 split at e
 ·rename_i h;exact .inl ⟨h,e⟩
 ·rename_i h
  have:i - L.length=0:=by
   cases q:i - L.length with
   | zero=>rfl
   | succ j=>rw[q] at e;simp at e
  rw[this] at e
  simp at e
  exact .inr ⟨by kst_all,e⟩
theorem WW.fresh (K:Keeps h₀ h ex) (e:h.get? a=none) (k:(kt P).get a=none):WW P h₀ ex a:=
 ⟨k,by
  by_cases m:a∈ex
  ·exact .inl m
  ·right
   cases q:h₀.get? a with
   | none=>rfl
   | some o=>have:=K.keep a o q m;rw[e] at this;cases this⟩
theorem TreeI.step {s:Heap} {ba nn:Addr} {ex1 ea0 eb0:Nat} {tka:Tok}
  (K0:Keeps h₀ s ex) (K:Keeps s h [it,L,ab,bl,ba]) (hcb:h.get? cb=some (cellO (.ref bl))) (hLa0:s.get? ab=some (listO La ea0)) (hLb0:s.get? bl=some (listO Lb eb0))
  (hLa:h.get? ab=some (listO (La++[.int (.ofNat a) tka]) ea)) (hVa:IntVs La above) (hLb:h.get? bl=some (listO (Lb++[.ref nn]) eb)) (hB:KidsAt s Lb kss)
  (hba:h.get? ba=some (listO (Lx++[.int (.ofNat j) tj]) ex1)) (hVx:IntVs Lx (kss.getD a [])) (hia:Lb[a]? = some (.ref ba)) (hnn:h.get? nn=some (listO [] 0)) (fn:s.get? nn=none) (kn:(kt P).get nn=none)
  (hdis:∀(i j:Nat) (b b':Addr),Lb[i]? = some (Value.ref b)→Lb[j]? = some (Value.ref b')→i≠j→b≠b') (hrow:∀(i:Nat) (b:Addr),Lb[i]? = some (Value.ref b)→WW P h₀ ex b∧b≠ab∧b≠bl)
  (hrx:∀(i:Nat) (b:Addr),Lb[i]? = some (Value.ref b)→i≠a→b∉([it,L,ab,bl,ba]:List Addr)) (wi:WW P h₀ ex it) (wL:WW P h₀ ex L) (wa:WW P h₀ ex ab) (wb:WW P h₀ ex bl) (nab:ab≠bl):
  TreeI P h₀ h ex cb ab bl (above++[a]) (grow kss a j):=by
 have wba:=(hrow _ _ hia).1
 refine⟨K0.fresh2 K (by tbr_iter (ai wi.2 (ai wL.2 (ai wa.2 (ai wb.2 wba.2))))),hcb,⟨_,_,hLa,hVa.push _ _⟩,⟨_,_,hLb,⟨by simp[grow,hB.1],?_⟩,?_,?_⟩,wa,wb,nab⟩
 ·intro i y e
  unfold grow at e
  rw[List.getElem?_append] at e
  rw[List.getElem?_append,hB.1]
  simp only[List.length_set] at e
  split at e
  ·rename_i hi
   rw[if_pos hi]
   rw[List.getElem?_set] at e
   split at e
   ·rename_i hai
    subst hai
    rw[if_pos hi] at e
    cases e
    exact⟨ba,_,_,hia,hba,hVx.push _ _⟩
   ·rename_i hai
    kd_adr
    obtain⟨b,Ly,ey,q1,q2,q3⟩:=hB.2 i y e
    exact⟨b,Ly,ey,q1,K.kq q2 (hrx _ _ q1 (Ne.symm hai)),q3⟩
  ·rename_i hi
   rw[if_neg hi]
   have:i - kss.length=0:=by
    cases q:i - kss.length with
    | zero=>rfl
    | succ j=>rw[q] at e;simp at e
   rw[this] at e ⊢
   simp at e;subst e
   exact⟨nn,[],0,rfl,hnn,IntVs.nil⟩
 ·have old:∀(i:Nat) (b:Addr),Lb[i]? = some (Value.ref b)→b≠nn:=fun i b e=>by
   obtain⟨b',Ly,ey,q1,q2,_⟩:=hB.2 i _ (hB.row e)
   rw[q1] at e;cases e
   exact neF q2 fn
  intro i i' b b' e e' hne
  rcases ce e with⟨l1,e⟩ | ⟨l1,e⟩<;>rcases ce e' with⟨l2,e'⟩ | ⟨l2,e'⟩
  ·exact hdis _ _ _ _ e e' hne
  ·cases e';exact old _ _ e
  ·cases e;exact (old _ _ e').symm
  ·omega
 ·intro i b e
  rcases ce e with⟨l1,e⟩ | ⟨l1,e⟩
  ·exact hrow _ _ e
  ·cases e
   exact⟨WW.fresh K0 fn kn,(neF hLa0 fn).symm,(neF hLb0 fn).symm⟩
theorem aA {s:Shared} {l1 l2:List Stmt}
  (h:wpAny M A (execs l1 env) (fun f s'=>match f with | .next=>wpAny M A (execs l2 env) Q E s' | f=>Q f s') E s):wpAny M A (execs (l1++l2) env) Q E s:=fun Γ p hΓ=>by
 have z:=h Γ p hΓ
 clear h
 induction l1 generalizing p s with
 | nil=>exact z Γ p hΓ
 | cons st r ih=>
  rw[List.cons_append,execs_cons,Sem.wp_bind']
  rw[execs_cons,Sem.wp_bind'] at z
  refine Sem.wp_mono M Γ _ (fun f p' s' h'=>?_) (fun _ _ _ h'=>h') _ _ z
  cases f with
  | next=>exact ih p' h'
  | _=>exact h'
noncomputable def TT2 (P:Params) (j:Nat) (tl:List DictEntry):Prop:=(j=0∧tl=[])∨j≠0∧∃k v,tl=[ent P kU k v]
noncomputable def TT (P:Params) (j:Nat) (tl:List DictEntry):Prop:=(j=0∧tl=[])∨j≠0∧∃k v k' v',tl=[ent P dt k v,ent P kU k' v']
@[reducible] noncomputable def tFr (P:Params) (x tx ab k1 k2:Nat) (tl:List DictEntry):List DictEntry:=ent P kS k1 (.int (.ofNat x) tx) :: ent P bp k2 (.ref ab) :: tl
@[reducible] noncomputable def nF (L cb:Addr):Env:={ fenv (dAt 15) ld 147 146 L with cells:=[(cQ,cb)] }
section
variable {w:World} {A:Around} {E:Value→Shared→Prop} {hp:Heap} {gn:Array GenState} {dr:Drawn} {tk:Nat} {os:OsState} {L cb x tx ab k1 k2 ed:Nat} {tl:List DictEntry} {j:Nat}
theorem lP (hA:A.handled=none) (hT:TopIn w.params hp) (hL:hp.get? L=some (frame (tFr w.params x tx ab k1 k2 tl) ed)) (kL:kg w L=none) (htl:TT w.params j tl) {i:Nat} {Q:Unit→Shared→Prop}
 (H:∀h2 t2 k tl2 ed2,Keeps hp h2 [L]→TopIn w.params h2→h2.get? L=some (frame (tFr w.params x tx ab k1 k2 (ent w.params dt k (.int (.ofNat i) tj) :: tl2)) ed2)→TT2 w.params j tl2→Q () ⟨h2,gn,dr,t2,os⟩):wpAny (mm w) A (assign (cq (dAt 15) 1).1 (nF L cb) (.int (.ofNat i) tj)) Q E ⟨hp,gn,dr,tk,os⟩:=by
 rcases htl with⟨jj,rfl⟩ | ⟨jj,k,u,k',u',rfl⟩
 ·refine bZ (w:=w) (l:=[(L,_)]) 0 hT (ag hL ah) (by kd_subs) (by tbr_iter kL) (fun n2 tB hn2=>?_)
  refine gRx hA 7 [1,1] ?_
  kst_p
  exact GoalX.doneG (g:=gn) (d:=dr) (os:=os) rfl rfl rfl (f:= .next) (by kd_p) (by kd_p) (fun h2 t2 D2=>H h2 t2 tB [] (ed+1) D2.keeps D2.kt (D2.xK 0) (.inl ⟨jj,rfl⟩))
 ·refine bZ (w:=w) (l:=[(L,_)]) 0 hT (ag hL ah) (by kd_subs) (by tbr_iter kL) (fun n2 tB hn2=>?_)
  refine gRx hA 7 [1,1] ?_
  kst_p
  exact GoalX.doneG (g:=gn) (d:=dr) (os:=os) rfl rfl rfl (f:= .next) (by kd_p) (by kd_p) (fun h2 t2 D2=>H h2 t2 k _ ed D2.keeps D2.kt (D2.xK 0) (.inr ⟨jj,k',u',rfl⟩))
theorem gt {w:World} {A:Around} {s:Shared} {L cb n j:Nat} (hA:AOk A 19) (hT:TopIn w.params s.heap) (hT0:TopIn w.params h0) (K:Keeps h0 s.heap []) (hn:h0.objs.size=n) (hj:j<6)
 (hcb:h0.get? cb=some (cellO (.ref bl))) (hbl:h0.get? bl=some (listO Lb eb)) (hB:KidsAt h0 Lb kss) (hk:kss.length=j+1) (hsm:∀i,(kss.getD i []).length≤2)
 (d1:s.heap.get? (n+1)=some (aq (.ofNat 0) (.ofNat (j+1)) 0 0 0)) (d2:s.heap.get? (n+2)=some (listO [] 0)) (d3:s.heap.get? (n+3)=some (dictO [] 0))
 (H:∀h2 t2 La ea k v ed,Keeps h0 h2 []→TopIn w.params h2→h2.get? (n+2)=some (listO La ea)→IntVs La (aB kss)→h2.get? (n+3)=some (dictO (e19 w k v) ed)→R (.ok .next) ⟨h2,s.gens,s.drawn,t2,s.os⟩):codeAny (mm w) A (.compStart dH 0 (.ref (n+1)) (.ref (n+2)) (dk L (n+3) cb)) R s:=by
 have sz:∀k,h0.objs.size≤n+k:=fun k=>hn▸Nat.le_add_right _ k
 have kf:∀k,kg w (n+k)=none:=fun k=>bE hT0 (sz k)
 refine bC (by kd_p) d1 ?_
 refine jT (by kst_all) (by kst_all) (by kst_all) (kf 1) (kf 2) (kf 3) (lv hbl (sz 2)) (fun i b e=>?_) (fun i=>Nat.le_trans (hsm i) (by kst_all)) (by kst_all) j hA hT (K.kp hcb) (K.kp hbl) (hB.keep K) d1 d2 d3 (by kst_all) (by kd_mem) IntVs.nil (fun h' tk' La' ea' k1' v1' ed' K' e1 e2 e3=>?_)
 ·obtain⟨b',Ly,ey,q1,q2,_⟩:=hB.2 i _ (hB.row e)
  rw[q1] at e;cases e
  exact lv q2 (sz 2)
 ·have e4:IntVs La' (aB kss):=by
   unfold aB
   rw[hk]
   exact e2
  exact H h' tk' La' ea' _ _ _ (K.fresh K' (by tbr_iter (ai (aS (sz 1)) (ai (aS (sz 2)) (aS (sz 3)))))) (K'.top hT (by tbr_iter (ai (kf 1) (ai (kf 2) (kf 3))))) e1 e4 e3
theorem lt15:∀j,j<6→j≠0→j=1∨j=2∨j=3∨j=4∨j=5:=by decide
@[reducible] noncomputable def e20 (w:World) (k1 k2:Nat) (v1 v2:Value):List DictEntry:=[ent w.params dt k1 v1,ent w.params kU k2 v2]
theorem lR (hj6:j<6) (htl:TT2 w.params j tl) (hA:AOk A 28) (hT:TopIn w.params hp) (hL:hp.get? L=some (frame (tFr w.params x tx ab k1 k2 (ent w.params dt k (.int (.ofNat (j+1)) tj) :: tl)) ed))
 (hcb:hp.get? cb=some (cellO (.ref bl))) (hbl:hp.get? bl=some (listO Lb eb)) (hB:KidsAt hp Lb kss) (hk:kss.length=j+1) (hsm:∀i,(kss.getD i []).length≤2) (kL:kg w L=none)
 (H:∀h2 t2 fr La ea k' ed',Keeps hp h2 [L]→TopIn w.params h2→hp.objs.size≤fr→h2.get? fr=some (listO La ea)→IntVs La (aB kss)→h2.get? L=some (frame (tFr w.params x tx ab k1 k2 (e20 w k k' (.int (.ofNat (j+1)) tj) (.ref fr))) ed')→Q .next ⟨h2,gn,dr,t2,os⟩):wpAny (mm w) A (execs ((cq (dAt 15) 1).2.1.take 1) (nF L cb)) Q E ⟨hp,gn,dr,tk,os⟩:=by
 refine aF (w:=w) (l:=[(L,_)]) 1 hT (ag hL ah) (by kd_subs) (by kd_mem) (fun n t hn=>?_)
 have sz:hp.objs.size≤n+2:=hn▸Nat.le_add_right _ 2
 have s3:hp.objs.size≤n+3:=hn▸Nat.le_add_right _ 3
 have f3:=aS s3
 have k3:=bE hT s3
 have d4:n+2≠n+3:=by kst_all
 have fin:∀(h2:Heap) La ea k0 v0 ed0,Keeps hp h2 []→h2.get? (n+2)=some (listO La ea)→h2.get? (n+3)=some (dictO (e19 w k0 v0) ed0)→h2.get? L=some (frame (tFr w.params x tx ab k1 k2 (ent w.params dt k (.int (.ofNat (j+1)) tj) :: tl)) ed)∧L≠n+2∧L≠n+3:=fun h2 La ea k0 v0 ed0 K2 e1 e3=>⟨K2.kp hL,apart (K2.kp hL) e1,apart (K2.kp hL) e3⟩
 have htl:(j=0∧tl=[])∨(j=1∨j=2∨j=3∨j=4∨j=5)∧∃k v,tl=[ent w.params kU k v]:=htl.imp_right fun q=>⟨lt15 j ‹_› q.1,q.2⟩
 rcases htl with⟨rfl,rfl⟩ | ⟨rfl | rfl | rfl | rfl | rfl,k',u',rfl⟩
 ·refine gRx hA.hd 41 [0,0,1,0,0,2,2,0,2,2,2,2,0,2,2,2,2,3] ?_
  kst_p
  refine gcK (.compStart dH 0 (.ref (n+1)) (.ref (n+2)) (dk L (n+3) cb)) (fun h D=>?_)
  refine gt (hA.subN (by kd_p) 6 (by kd_p) (by kst_all)) D.kt hT D.keeps hn hj6 hcb hbl hB hk hsm (D.xK 2) (D.xK 3) (D.xK 4) (fun h2 t2 La ea k0 v0 ed0 K2 T2 e1 e2 e3=>?_)
  kd_adr
  obtain⟨L2,d2,d3⟩:=fin _ _ _ _ _ _ K2 e1 e3
  refine rebase [n+3,L] [(n+3,_),(L,_)] 0 T2 (ag e3 (ag L2 ah)) (by kd_subs) (by tbr_iter (ai k3 kL)) (by kd_mem) (fun n4 hn4=>?_)
  refine gRx hA.hd 13 [2,2,1,1,1] ?_
  kst_p
  exact GoalX.doneG (g:=gn) (d:=dr) (os:=os) rfl rfl rfl (f:= .next) (by kd_p) (by kd_p) (fun h5 t5 D5=>H h5 t5 _ La ea t2 (ed+1) (((K2.mono (by kd_mem)):Keeps hp h2 [L]).fresh2 D5.keeps (by tbr_iter (ai (Or.inr f3) (Or.inl (by kd_mem))))) D5.kt sz (D5.keeps.kq e1 (by tbr_iter (ai d4 d2.symm))) e2 (D5.xK 1))
 all_goals
  refine gRx hA.hd 41 [0,0,1,0,0,2,2,0,2,2,2,2,0,2,2,2,2,3] ?_
  kst_p
  refine gcK (.compStart dH 0 (.ref (n+1)) (.ref (n+2)) (dk L (n+3) cb)) (fun h D=>?_)
  refine gt (hA.subN (by kd_p) 6 (by kd_p) (by kst_all)) D.kt hT D.keeps hn hj6 hcb hbl hB hk hsm (D.xK 2) (D.xK 3) (D.xK 4) (fun h2 t2 La ea k0 v0 ed0 K2 T2 e1 e2 e3=>?_)
  kd_adr
  obtain⟨L2,d2,d3⟩:=fin _ _ _ _ _ _ K2 e1 e3
  refine rebase [n+3,L] [(n+3,_),(L,_)] 0 T2 (ag e3 (ag L2 ah)) (by kd_subs) (by tbr_iter (ai k3 kL)) (by kd_mem) (fun n4 hn4=>?_)
  refine gRx hA.hd 13 [2,2,1,1,1] ?_
  kst_p
  exact GoalX.doneG (g:=gn) (d:=dr) (os:=os) rfl rfl rfl (f:= .next) (by kd_p) (by kd_p) (fun h5 t5 D5=>H h5 t5 _ La ea k' ed (((K2.mono (by kd_mem)):Keeps hp h2 [L]).fresh2 D5.keeps (by tbr_iter (ai (Or.inr f3) (Or.inl (by kd_mem))))) D5.kt sz (D5.keeps.kq e1 (by tbr_iter (ai d4 d2.symm))) e2 (D5.xK 1))
end
theorem lO {s:Shared} {x tr m:Nat} (hj:j<6) (htl:TT w.params j tl) (hA:AOk A 28) (hT:TopIn w.params s.heap)
  (hTr:TreeI w.params h₀ s.heap ex cb ab bl above kss) (hab:above.length=j+1) (hk:kss.length=j+1) (hsm:∀i,(kss.getD i []).length≤2) (hpos:0<(aB kss).length)
  (h1:s.heap.get? it=some (aq (.ofNat (j+1)) (.ofNat (m+1)) ta tr ts)) (h2:s.heap.get? L=some (frame (tFr w.params x tx ab k1 k2 tl) e)) (wi:WW w.params h₀ ex it) (wL:WW w.params h₀ ex L)
  (H:∀(h':Heap) tk' x' tx' tl' e',x'=x / (aB kss).length→TreeI w.params h₀ h' ex cb ab bl (above++[(aB kss).getD (x % (aB kss).length) 0]) (grow kss ((aB kss).getD (x % (aB kss).length) 0) (j+1))→
   TopIn w.params h'→h'.get? it=some (aq (.ofNat (j+2)) (.ofNat m) 0 0 ts)→h'.get? L=some (frame (tFr w.params x' tx' ab k1 k2 tl') e')→TT w.params (j+1) tl'→
   codeAny (mm w) A (aU (dAt 15) 1 (.ref it) (nF L cb)) R ⟨h',s.gens,s.drawn,tk',s.os⟩):
  codeAny (mm w) A (aU (dAt 15) 1 (.ref it) (nF L cb)) R s:=by
 obtain⟨K0,hcb,⟨La,ea,hLa,hVa⟩,⟨Lb,eb,hLb,hB,hdis,hrow⟩,wa,wb,nab⟩:=hTr
 have hi:x % (aB kss).length<(aB kss).length:=Nat.mod_lt _ hpos
 have hga:(aB kss)[x % (aB kss).length]? = some ((aB kss).getD (x % (aB kss).length) 0):=by simp[hi]
 generalize hga':(aB kss).getD (x % (aB kss).length) 0=a at *
 have hak:=oW hga
 have hfl:(aB kss).length≤j+1:=hk▸mM kss
 have hks:kss[a]? = some (kss.getD a []):=by simp[hak]
 have hlx:=hsm a
 kd_adr
 obtain⟨ba,Lx,ex1,hia,hba,hVx⟩:=hB.2 _ _ hks
 have⟨wba,nba,nbb⟩:=hrow _ _ hia
 have c1:=apart hcb h1
 have c2:=apart hcb h2
 have n1:=apart h1 h2
 have n2:=apart h1 hLa
 have n3:=apart h1 hLb
 have n5:=apart h2 hLa
 have n6:=apart h2 hLb
 have fV:∀(i:Nat) (b:Addr),Lb[i]? = some (Value.ref b)→b≠it∧b≠L:=fun i b e=>by
  obtain⟨b',Ly,ey,q1,q2,_⟩:=hB.2 i _ (hB.row e)
  rw[q1] at e;cases e
  exact⟨apart q2 h1,apart q2 h2⟩
 refine cZ ?_
 refine bU ?_
 intro zQ zE
 refine nextR (w:=w) (l:=[(it,_)]) 0 hT (ag h1 ah) (by kd_subs) (by tbr_iter wi.1) (fun n t hn=>?_)
 refine gRx hA.hd 13 [1,0,1,1,1,1,1,1,1,1] ?_
 kst_p
 refine ggK s (.ret (.int (.ofNat (j+1)) t)) (fun hh1 t1 D1=>?_)
 have K1:Keeps s.heap hh1 [it]:=D1.keeps
 have T1:=D1.kt
 have I1:=D1.cK 0 it (aq (.ofNat (j+2)) (.ofNat (m+1) - 1) 0 0 ts)
 rw[ay] at I1
 clear D1
 have hba1:=K1.kq hba (by tbr_iter (fV _ _ hia).1)
 refine lP hA.hd T1 (K1.kq h2 (by tbr_iter n1.symm)) wL.1 htl (fun hh2 t2 k3 tl2 ed2 K2 T2 L2 iU=>?_)
 refine bU ?_
 intro zQ zE
 refine aH (List.take_append_drop 1 _).symm (aA ?_)
 have K12:Keeps s.heap hh2 [it,L]:=(K1.trans K2).mono (by kd_mem)
 have hB2:KidsAt hh2 Lb kss:=hB.keepL K12 (fun i b e=>by tbr_iter (ai (fV i b e).1 (fV i b e).2))
 refine lR hj iU hA T2 L2 (K12.kq hcb (by tbr_iter (ai c1 c2))) (K12.kq hLb (by tbr_iter (ai n3.symm n6.symm))) hB2 hk hsm wL.1 (fun hh4 t4 fr Lf ef k4 ed4 K4 T4 f3 F4 V3 L4=>?_)
 have K14:Keeps s.heap hh4 [it,L]:=(K12.trans K4).mono (by kd_mem)
 have q1:=K14.kq hcb (by tbr_iter (ai c1 c2))
 have q2:=K14.kq hLa (by tbr_iter (ai n2.symm n5.symm))
 have q3:=K14.kq hLb (by tbr_iter (ai n3.symm n6.symm))
 have q4:=K14.kq hba (by tbr_iter (ai (fV _ _ hia).1 (fV _ _ hia).2))
 obtain⟨tka,hga2⟩:=V3.2 _ _ hga
 have hlf:=V3.1
 have hl3:La.length=j+1:=by rw[hVa.1];exact hab
 have hLan:(La++[Value.int (Int.ofNat a) tka])[j+1]? = some (Value.int (Int.ofNat a) tka):=by rw[←hl3];simp
 have hpy:Builtin.divisionGoesByPylong (x:Int) ((aB kss).length:Int)=false:=noPy (by kst_all)
 have hl1:=hVx.1
 have hl2:=hB.1
 have u1:=apart q1 L4
 have u2:=apart q1 q2
 have u3:=apart q1 q3
 have u4:=apart q1 q4
 have u5:=apart F4 L4
 have u6:=(fV _ _ hia).2
 have u7:=neF hLa (aS (Nat.le_trans K12.size f3))
 have u8:=neF hLb (aS (Nat.le_trans K12.size f3))
 have u9:=neF hba (aS (Nat.le_trans K12.size f3))
 refine aF (w:=w) (l:=[(cb,_),(fr,_),(L,_),(ab,_),(bl,_),(ba,_)]) 2 T4 (ag q1 (ag F4 (ag L4 (ag q2 (ag q3 (ag q4 ah)))))) (by kd_subs) (by tbr_iter (ai wL.1 (ai wa.1 (ai wb.1 wba.1)))) (fun n5 t5 hn5=>?_)
 refine gPx hA.hd [Value.int (Int.ofNat (aB kss).length) 0,Value.int (Int.ofNat a) tka,Value.int (Int.ofNat (aB kss).length) 0,Value.int (Int.ofNat a) tka,Value.ref ba] 92 [3,4,4,4,4,3,3,0,0,3,26,1,0,0,5,0,0,0,2,2,2,15,1,0,1,19,3,0,0,3,0,0,3,26,1,0,2,4,0,0,0,3,3,1,3,3,4,4,4,15,3,0,3,5,5,5,15,4,0,4,6,6,6,6,3,19,5,0,0,1,5,5,5,5,19,4,0,0] ?_
 intro zM zO
 refine gQx [Lb.length≤2^24,Lx.length≤2^24,Lb[a]? = some (Value.ref ba),a<2^63,(La++[Value.int (Int.ofNat a) tka])[j+1]? = some (Value.int (Int.ofNat a) tka),j+1<2^63,(aB kss).length≠0,Builtin.divisionGoesByPylong ↑x ↑(aB kss).length=false,Lf.length=(aB kss).length,(aB kss).length<2^63,La.length≤2^24,Lf[x % (aB kss).length]? = some (Value.int (Int.ofNat a) tka),x % (aB kss).length<2^63,(aB kss).length≠0,Lf.length=(aB kss).length,(aB kss).length<2^63] ⟨by kst_all,by kst_all,by assumption,by kst_all,by assumption,by kst_all,by kst_all,by assumption,by assumption,by kst_all,by kst_all,by assumption,by kst_all,by kst_all,by assumption,by kst_all,trivial⟩ ?_
 refine ggK s (.next) (fun hh5 t6 D5=>?_)
 have K5:Keeps s.heap hh5 [it,L,ab,bl,ba]:=(K14.trans D5.keeps).mono (by kd_mem)
 have b1:=D5.cK 2 L (frame (tFr w.params (x / (aB kss).length) (t5+5) ab k1 k2 (e20 w k3 k4 (.int (.ofNat (j+1)) t) (.ref fr))) ed4)
 have b2:=D5.cK 3 ab (listO (La++[Value.int (Int.ofNat a) tka]) (ea+1))
 have b3:=D5.cK 4 bl (listO (Lb++[Value.ref n5]) (eb+1))
 have b4:=D5.cK 5 ba (listO (Lx++[Value.int (.ofNat (j+1)) t]) (ex1+1))
 have b5:=D5.cK 6 n5 (listO [] 0)
 have I5:=((K2.trans K4).trans D5.keeps).kq I1 (by tbr_iter (ai n1 (ai n1 (ai n1 (ai n2 (ai n3 (apart I1 hba1)))))))
 have szs:s.heap.objs.size≤n5:=Nat.le_trans K14.size (Nat.le_of_eq hn5)
 refine H hh5 _ (x / (aB kss).length) _ _ _ rfl (TreeI.step K0 K5 (D5.xK 0) hLa hLb b2 hVa b3 hB b4 hVx hia b5 (aS szs) (bE hT szs) hdis hrow (fun i b e ne=>?_) wi wL wa wb nab) D5.kt I5 b1 (.inr ⟨Nat.succ_ne_zero _,_,_,_,_,rfl⟩)
 have r:=hrow _ _ e
 have r2:=fV _ _ e
 tbr_iter (ai r2.1 (ai r2.2 (ai r.2.1 (ai r.2.2 (hdis _ _ _ _ e hia ne)))))
theorem dg {α:Type} {x v:α} {i:Nat} (e:[x][i]? = some v):i=0∧x=v:=by
 cases i with
 | zero=>exact⟨rfl,by simpa using e⟩
 | succ i=>simp at e
theorem TreeI.top {P:Params} {h₀ h:Heap} {ex:List Addr} {cb ab bl:Addr} {above:List Nat} {kss:List (List Nat)} (T:TreeI P h₀ h ex cb ab bl above kss) (hx:∀a∈ex,(kt P).get a=none) (hT:TopIn P h₀):TopIn P h:=T.K.top hT hx
noncomputable def reach:Nat→List (List Nat×List (List Nat))
 | 0=>[([0],[[]])]
 | j+1=>(reach j).flatMap fun t=>(aB t.2).map fun a=>(t.1++[a],grow t.2 a (j+1))
noncomputable def okT (j:Nat) (t:List Nat×List (List Nat)):Bool:=decide (t.1.length=j+1) && (decide (t.2.length=j+1) && (t.2.all (fun l=>decide (l.length≤2)) && decide (0<(aB t.2).length)))
theorem og:(List.range 7).all (fun j=>(reach j).all (okT j))=true:=by decide +kernel
theorem dQ (j:Nat) (hj:j<7) {ab:List Nat} (M:(ab,ks)∈reach j):ab.length=j+1∧ks.length=j+1∧(∀i,(ks.getD i []).length≤2)∧0<(aB ks).length:=by
 have h:=List.all_eq_true.mp (List.all_eq_true.mp og j (by first | kd_facts | simp[hj])) _ M
 simp only[okT,Bool.and_eq_true,decide_eq_true_eq] at h
 refine⟨h.1,h.2.1,fun i=>?_,h.2.2.2⟩
 by_cases hi:i<ks.length
 ·have:=List.all_eq_true.mp h.2.2.1 ks[i] (List.getElem_mem hi)
  simpa [hi] using this
 ·have:ks[i]? = none:=by simp;kst_all
  simp[List.getD,this]
theorem jA {x:Nat} {ab:List Nat} (M:(ab,ks)∈reach j) (hp:0<(aB ks).length):
  (ab++[(aB ks).getD (x % (aB ks).length) 0],grow ks ((aB ks).getD (x % (aB ks).length) 0) (j+1))∈reach (j+1):=by
 unfold reach
 refine List.mem_flatMap.mpr ⟨_,M,List.mem_map.mpr ⟨(aB ks).getD (x % (aB ks).length) 0,?_,rfl⟩⟩
 have:=Nat.mod_lt x hp
 simp[this]
noncomputable def iA (t:Nat×List Nat×List (List Nat)) (j:Nat):Nat×List Nat×List (List Nat):=
 (t.1 / (aB t.2.2).length,t.2.1++[(aB t.2.2).getD (t.1 % (aB t.2.2).length) 0],grow t.2.2 ((aB t.2.2).getD (t.1 % (aB t.2.2).length) 0) j)
noncomputable def gu (x:Nat):Nat→Nat×List Nat×List (List Nat)
 | 0=>(x,[0],[[]])
 | j+1=>iA (gu x j) (j+1)
noncomputable def dm (x:Nat):List Nat×List (List Nat):=(gu x 6).2
theorem jn {x0 x x':Nat} {ab:List Nat} (S:gu x0 j=(x,ab,ks)) (e:x'=x / (aB ks).length):
  gu x0 (j+1)=(x',ab++[(aB ks).getD (x % (aB ks).length) 0],grow ks ((aB ks).getD (x % (aB ks).length) 0) (j+1)):=by
 show iA (gu x0 j) (j+1)=_
 rw[S,e];rfl
theorem aC {n:Nat} (e:h.objs.size≤n) (k:Nat):h.get? (n+k)=none:=by
 cases q:h.get? (n+k) with
 | none=>rfl
 | some o=>exact absurd (Heap.lt_size q) (Nat.not_lt.mpr (Nat.le_trans e (Nat.le_add_right n k)))
theorem lQ {x0:Nat} (hex:∀a∈ex,kg w a=none) (hT0:TopIn w.params h₀) (wi:WW w.params h₀ ex it) (wL:WW w.params h₀ ex L):∀(m:Nat) {A:Around} {R:Result→Shared→Prop} {s:Shared} {j x tx ta tr e:Nat} {tl:List DictEntry} {above:List Nat} {kss:List (List Nat)}
  (hj:j+m=6) (M:(above,kss)∈reach j) (S:gu x0 j=(x,above,kss)) (htl:TT w.params j tl) (hA:AOk A 28) (hTr:TreeI w.params h₀ s.heap ex cb ab bl above kss)
  (h1:s.heap.get? it=some (aq (.ofNat (j+1)) (.ofNat m) ta tr ts)) (h2:s.heap.get? L=some (frame (tFr w.params x tx ab k1 k2 tl) e))
  (H:∀(h':Heap) tk' x' tx' tl' e',(dm x0)∈reach 6→TreeI w.params h₀ h' ex cb ab bl (dm x0).1 (dm x0).2→h'.get? L=some (frame (tFr w.params x' tx' ab k1 k2 tl') e')→R (.ok .next) ⟨h',s.gens,s.drawn,tk',s.os⟩),
  codeAny (mm w) A (aU (dAt 15) 1 (.ref it) (nF L cb)) R s:=by
 intro m
 induction m with
 | zero=>
  intro A R s j x tx ta tr e tl above kss hj M S htl hA hTr h1 h2 H
  obtain rfl:j=6:=hj
  have e:dm x0=(above,kss):=congrArg Prod.snd S
  rw[e] at H
  refine az _ (hTr.top hex hT0) (ag h2 (ag h1 ah)) (fun nn t hn=>?_)
  refine gRx hA.hd 15 [2,0,2,2,2,2,4] ?_
  kst_p
  refine gdK (.ok .next) (fun h D=>?_)
  obtain⟨K0,hcb,⟨La,ea,hLa,hVa⟩,⟨Lb,eb,hLb,hB,hd,hr⟩,wa,wb,nab⟩:=hTr
  exact H h _ _ _ _ _ M ⟨(K0.trans D.keeps).mono (by kd_mem),D.keeps.kp hcb,⟨La,ea,D.keeps.kp hLa,hVa⟩,⟨Lb,eb,D.keeps.kp hLb,hB.keep D.keeps,hd,hr⟩,wa,wb,nab⟩ (D.keeps.kp h2)
 | succ m ih=>
  intro A R s j x tx ta tr e tl above kss hj M S htl hA hTr h1 h2 H
  have⟨qa,qb,qc,qd⟩:=dQ j (by kst_all) M
  refine lO (by kst_all) htl hA (hTr.top hex hT0) hTr qa qb qc qd h1 h2 wi wL (fun h' tk' x' tx' tl' e' ex' T' hT' I' F' htl'=>?_)
  exact ih (by kst_all) (jA M qd) (jn S ex') htl' hA T' I' F' H
theorem oB {s:Shared} {x:Nat} (hA:AOk A 30) (hT:TopIn w.params s.heap)
  (H:∀(h':Heap) tk' rt ab bl La ea Lb eb,Keeps s.heap h' []→(dm x)∈reach 6→h'.get? rt=some (dc [.ref ab, .ref bl] 0)→h'.get? ab=some (listO La ea)→IntVs La (dm x).1→h'.get? bl=some (listO Lb eb)→KidsAt h' Lb (dm x).2→R (.ok (.ret (.ref rt))) ⟨h',s.gens,s.drawn,tk',s.os⟩):
  codeAny (mm w) A (.call (.ref 147) ⟨[.int (.ofNat x) tx],[]⟩) R s:=by
 refine az [] hT ah (fun n t hn=>?_)
 refine gRx hA.hd 8 [0,0,1,1] ?_
 kst_p
 refine GoalX.enter (c:= .func (dAt 15).2.1 { fenv (dAt 15) ld 147 146 n with cells:=[(cQ,n+1)] }) (by kd_p) (fun h D=>noLimit D.kt) (ir hA 2 (by kd_p) (by kst_all)) ?_
 refine gRx hA.hd 106 [6,6,6,0,6,7,7,0,7,7,7,6,7,7,7,0,7,7,7,6,7,7,7,0,7,7,7,6,7,7,9,1,1,2,2,0,0,0,0,10,10,0,10,10,10,10,0,10,10,10,10,11] ?_
 kst_p
 refine gcK (aU (dAt 15) 1 (.ref (n+10)) { fenv (dAt 15) ld 147 146 n with cells:=[(cQ,n+1)] }) (fun h D=>?_)
 kd_adr
 have⟨F0,w0⟩:=D.wK 0 n (frame [ent w.params kS t (.int (.ofNat x) tx),ent w.params bp (t+2) (.ref (n+2))] 2)
 have⟨C0,w1⟩:=D.wK 1 (n+1) (cellO (.ref (n+4)))
 have⟨A0,w2⟩:=D.wK 2 (n+2) (listO [.int (.ofNat 0) (t+1)] 0)
 have⟨R0,w3⟩:=D.wK 3 (n+3) (listO [] 0)
 have⟨B0,w4⟩:=D.wK 4 (n+4) (listO [.ref (n+3)] 0)
 have⟨I0,w10⟩:=D.wK 10 (n+10) (aq 1 (.ofNat 6) 0 0 0)
 have wex:∀a∈([n+10,n,n+2,n+4,n+3]:List Addr),kg w a=none:=by tbr_iter (ai w10.kn (ai w0.kn (ai w2.kn (ai w4.kn w3.kn))))
 have wi:WW w.params h [n+10,n,n+2,n+4,n+3] (n+10):=⟨w10.kn, .inl (by kd_mem)⟩
 have wL:WW w.params h [n+10,n,n+2,n+4,n+3] n:=⟨w0.kn, .inl (by kd_mem)⟩
 have T0:TreeI w.params h h [n+10,n,n+2,n+4,n+3] (n+1) (n+2) (n+4) [0] [[]]:=by
  refine⟨(Keeps.refl h).mono (by kd_mem),C0,⟨_,_,A0,?_⟩,⟨_,_,B0,⟨rfl,?_⟩,?_,?_⟩,⟨w2.kn, .inl (by kd_mem)⟩,⟨w4.kn, .inl (by kd_mem)⟩,Nat.ne_of_lt (Nat.add_lt_add_left (by decide) n)⟩
  ·exact IntVs.nil.push 0 (t+1)
  ·intro i y e
   obtain⟨rfl,rfl⟩:=dg e
   exact⟨n+3,[],0,rfl,R0,IntVs.nil⟩
  ·intro i j b b' e e' hne
   have:=(dg e).1;have:=(dg e').1;kst_all
  ·intro i b e
   have:=(dg e).2
   cases this
   exact⟨⟨w3.kn, .inl (by kd_mem)⟩,Nat.ne_of_gt (Nat.add_lt_add_left (by decide) n),Nat.ne_of_lt (Nat.add_lt_add_left (by decide) n)⟩
 refine lQ (x0:=x) wex D.kt wi wL 6 (j:=0) rfl (by simp[reach]) rfl (.inl ⟨rfl,rfl⟩) (hA.subN (by kd_p) 2 (by kd_p) (by kst_all)) T0 I0 F0 (fun h7 tk7 x7 tx7 tl7 e7 M6 T7 F6=>?_)
 have T7t:=T7.top wex D.kt
 kd_adr
 obtain⟨K6,C6,⟨La,ea,A6,V6⟩,⟨Lb,eb,B6,KB6,_,_⟩,_,_,_⟩:=T7
 have fz:∀k,s.heap.get? (n+k)=none:=aC (Nat.le_of_eq hn)
 have KA:Keeps s.heap h7 []:=(D.keeps.mono (by kd_mem)).fresh K6 (by tbr_iter (ai (fz 10) (ai (fz 0) (ai (fz 2) (ai (fz 4) (fz 3))))))
 refine rebase [] [(n,_),(n+1,_)] 2 T7t (ag F6 (ag C6 ah)) (by kd_subs) (by kd_mem) (by kd_mem) (fun n' _=>?_)
 refine lZ [] (hA.hd) [] 7 [1,2] ?_
 intro zM zO
 refine runC [] ?ob trivial ?_
 case ob=>kd_p
 refine gdK (.ok (.ret (.ref n'))) (fun h3 D3=>?_)
 have K3:Keeps h7 h3 []:=D3.keeps
 exact H h3 _ n' (n+2) (n+4) La ea Lb eb ((KA.trans K3).mono (by kd_mem)) M6 (D3.xK 2) (K3.kp A6) V6 (K3.kp B6) (KB6.keep K3)
theorem IntVs.uncons {L:List Value} {x:Nat} (H:IntVs L (x :: xs)):∃t L',L = .int (.ofNat x) t :: L'∧IntVs L' xs:=by
 obtain⟨t,e⟩:=H.2 0 x rfl
 cases L with
 | nil=>simp at e
 | cons v L=>
  simp at e;subst e
  exact⟨t,L,rfl,by have:=H.1;simpa using this,fun i y q=>by have:=H.2 (i+1) y (by tbr_iter q);simpa using this⟩
theorem IntVs.none {L:List Value} (H:IntVs L []):L=[]:=List.length_eq_zero_iff.mp H.1
noncomputable def mn (xs:List Nat):Nat:=xs.foldl max 0
noncomputable def qChg:Str:=⟨#[95,108,97,119,95,99,104,97,110,103,101,46,60,108,111,99,97,108,115,62,46]⟩
noncomputable def sWay:Str:=⟨#[119,97,121]⟩
noncomputable def ej:Str:=⟨#[99,104,111,115,101,110]⟩
noncomputable def fM:Str:=⟨#[102,105,114,115,116]⟩
noncomputable def hH:Str:=⟨#[115,101,99,111,110,100]⟩
noncomputable def hM:Str:=⟨#[97,115,105,100,101]⟩
noncomputable def kD (x:Arguments×List Stmt×Scope) (k:Nat):Expr×List Stmt×List Stmt:=match x.2.1[k]? with
 | some (.While t b o _)=>(t,b,o)
 | _=>default
noncomputable def gN:Expr×List Stmt×List Stmt:=forOf (kD (dAt 22) 3).2.1 0
@[reducible] noncomputable def chF (P:Params) (ac aa nd p j1 j2 j3 j4 j5 j6 tn tp:Nat) (u4 u5:Value) (tl:List DictEntry):List DictEntry:=ent P ej j1 (.ref ac) :: ent P bp j2 (.ref aa) :: ent P dt j3 (.int (.ofNat nd) tn) :: ent P fM j4 u4 :: ent P hH j5 u5 :: ent P aV j6 (.int (.ofNat p) tp) :: tl
noncomputable def pC (P:Params) (tl:List DictEntry):Prop:=tl=[]∨∃k v,tl=[ent P hM k v]
noncomputable def iy (P:Params) (tl:List DictEntry):Prop:=tl=[]∨∃k v tl',tl=ent P eY k v :: tl'∧pC P tl'
noncomputable def ChF (P:Params) (h:Heap) (L ac aa:Addr) (nd p:Nat):Prop:=∃(j1 j2 j3 j4 j5 j6 tn tp e:Nat) (u4 u5:Value) (tl:List DictEntry),iy P tl∧h.get? L=some (frame (chF P ac aa nd p j1 j2 j3 j4 j5 j6 tn tp u4 u5 tl) e)
theorem ChF.mk {nd:Nat} (ht:iy P tl) (k:h.get? L=some (frame (chF P ac aa nd p j1 j2 j3 j4 j5 j6 tn tp u4 u5 tl) e)):ChF P h L ac aa nd p:=⟨_,_,_,_,_,_,_,_,_,_,_,_,ht,k⟩
theorem ChF.out {nd:Nat} (H:ChF P h L ac aa nd p) (K:∀j1 j2 j3 j4 j5 j6 tn tp e u4 u5 tl,iy P tl→h.get? L=some (frame (chF P ac aa nd p j1 j2 j3 j4 j5 j6 tn tp u4 u5 tl) e)→G):G:=by
 obtain⟨j1,j2,j3,j4,j5,j6,tn,tp,e,u4,u5,tl,ht,k⟩:=H
 exact K _ _ _ _ _ _ _ _ _ _ _ _ ht k
theorem ChF.keep {nd:Nat} (H:ChF P h L ac aa nd p) (K:Keeps h h' []):ChF P h' L ac aa nd p:=H.out fun _ _ _ _ _ _ _ _ _ _ _ _ ht k=> .mk ht (K.kp k)
noncomputable def cf (kss ws:List (List Nat)) (nd:Nat) (inn:Bool) (p x:Nat):Nat:=
 if x≠nd∧(inn=true∨nd<x) then al p (List.replicate (laidF kss ws 7 x).length 0)^^^(if inn then p else 0) else p
theorem all2 {p:Addr→Prop} {o1 o2:Obj} (h1:p a1) (h2:p a2):∀q∈[(a1,o1),(a2,o2)],p q.1:=by
 tbr_iter (ai h1 h2)
theorem eh {s:Shared} {t n:Nat} (hn:n≤1000)
  (H:∀tok tk',R (.ok (.ret (.str ⟨⟨List.replicate n 0⟩⟩ tok))) { s with toks:=tk' }):codeAny (mm w) A (.call (.builtin "str.__mul__") ⟨[.str ⟨⟨[0]⟩⟩ t, .int (.ofNat n) u],[]⟩) R s:=by
 have hrep:∀(k:Nat) (acc:Array Nat),(List.replicate k (⟨[0]⟩:Array Nat)).foldl (· ++ ·) acc=⟨acc.toList++List.replicate k 0⟩:=by
  intro k
  induction k with
  | zero=>intro acc;simp
  | succ k ih=>
   intro acc
   rw[List.replicate_succ,List.foldl_cons,ih]
   simp[List.replicate_succ]
 refine aG F.slot_str_mul (typeIs_str _ _ _) F.entry_str_mul (F.args_str_mul_2 _ _) (gives_str_mul ⟨⟨[0]⟩⟩ (.ofNat n) t u ?_ ?_ ?_) ?_
 ·simp only[Int.ofNat_eq_natCast,Bool.or_eq_false_iff,decide_eq_false_iff_not]
  constructor<;>omega
 ·intro h1 h2
  have h1:¬((n:Int)<1):=h1
  show ¬((1:Int)>(2^63 - 1) / (n:Int))
  have:(1:Int)≤(2^63 - 1) / (n:Int):=by
   rw[Int.le_ediv_iff_mul_le (by kst_all)];kst_all
  omega
 ·intro h1 h2
  unfold Builtin.Str.tooLong
  refine decide_eq_false ?_
  rw[show sizeLine=2^24 from rfl]
  show ¬(1*n>_)
  omega
 ·by_cases h1:Int.ofNat n<1
  ·rw[if_pos h1]
   have:n=0:=by have:(n:Int)<1:=h1;kst_all
   subst this
   refine⟨by decide,H _ _⟩
  ·rw[if_neg h1]
   split
   ·rename_i h2
    have h2:n=1:=by
     rcases Bool.or_eq_true_iff.mp h2 with h | h
     ·have h:=eq_of_beq h;have h:(n:Int)=1:=h;kst_all
     ·exact absurd h (by decide)
    subst h2
    exact H t s.toks
   ·refine⟨?_,?_⟩
    ·show ((List.replicate n (⟨[0]⟩:Array Nat)).foldl (· ++ ·) #[]).size≤_
     rw[hrep,show sizeLine=2^24 from rfl]
     simp;kst_all
    ·have:(List.replicate (Int.ofNat n).toNat (⟨⟨[0]⟩⟩:Str).cps).foldl (· ++ ·) #[]=⟨List.replicate n 0⟩:=by
      show (List.replicate n (⟨[0]⟩:Array Nat)).foldl (· ++ ·) #[]=_
      rw[hrep];simp
     rw[this];exact H _ _
theorem cO (n:Nat):Ascii (List.replicate n 0):=by
 intro c hc
 rw[List.eq_of_mem_replicate hc];decide
@[reducible] noncomputable def chE (L cy cw cb:Addr):Env:={ fenv (dAt 22) qChg 192 191 L with cells:=[(sWay,cy),(cg,cw),(cQ,cb)] }
noncomputable def chT:Expr:=match gN.2.1 with | [.If t _ _ _]=>t | _=>default
noncomputable def chB:List Stmt:=match gN.2.1 with | [.If _ b _ _]=>b | _=>[]
noncomputable def chV (k:Nat):Expr:=asgV (chB.getD k default)
theorem chIf:∃p,gN.2.1=[.If chT chB [] p]:=⟨_,rfl⟩
theorem chB2:∃p1 p2 p3 p4,chB=[.Assign [.Name hM p1] (chV 0) p2, .Assign [.Name aV p3] (chV 1) p4]:=⟨_,_,_,_,rfl⟩
noncomputable def qT (Q:Bool→Shared→Prop):Fin→Shared→Prop:=fun fin s=>match fin with
 | .done (.ret (.bool b))=>Q b s
 | _=>False
theorem unbindT {t:Sem Bool} {Q:Bool→Shared→Prop} {s:Shared} (H:wpAny M A (t >>= fun b=>Sem.pure (Fin.done (.ret (.bool b)))) (qT Q) E s):wpAny M A t Q E s:=fun Γ p hΓ=>by
 have z:=H Γ p hΓ
 rw[Sem.wp_bind'] at z
 exact z
noncomputable def pB2 (e:Expr) (env:Env) (T:ST) (n m:Nat) (_:Bool):Pl:=⟨.base,PySem.W.R.bindR (PySem.W.ZFast.zw15418851999007992765 e env (PySem.W.ZFast.zw14044960220447912780 e env)) fun b=>Sem.pure (Fin.done (.ret (.bool b))),T,n,m,0⟩
theorem fD {w:World} {A':Around} {s:Shared} {l:List (Addr×Obj)} (W:Nat) (hT:TopIn w.params s.heap) (own:∀p∈l,s.heap.get? p.1=some p.2) (ne:Dis W l) (kn:∀p∈l.drop W,kg w p.1=none) {e:Expr} {Q:Bool→Shared→Prop}
  (G:∀n t,s.heap.objs.size=n→aT w (nY A' (qT Q) E s) s.heap ex n t W (pB2 e env (ofL l) l.length 0)) (hx:cS W l=ex:=by kd_p1):
  wpAny (mm w) A' (isTrue e env (eval e env)) Q E s:=by
 have z:At _ _ _ _:=G _ _ rfl s.heap (rep0 hT own ne kn hx _)
 simp only[pB2] at z
 unfold At at z
 rw[←PySem.W.R.bindR_eq,←PySem.W.ZFast.ze14044960220447912780,←PySem.W.ZFast.ze15418851999007992765] at z
 exact unbindT z
theorem nq {x:Nat} (h:(x :: rs).all (fun x=>Dp kss f x && decide (x<7))=true):(Dp kss f x=true∧x<7)∧rs.all (fun x=>Dp kss f x && decide (x<7))=true:=by simpa using h
section
variable {w:World} {A:Around} {E:Value→Shared→Prop} {s:Shared} {L cy cw cb ac aa nd p j1 j2 j3 j4 j5 j6 tn tp e:Nat} {u4 u5:Value} {tl:List DictEntry} {m:Nat}
theorem nK (hA:AOk A m) (hT:TopIn w.params s.heap) (hL:s.heap.get? L=some (frame (chF w.params ac aa nd p j1 j2 j3 j4 j5 j6 tn tp u4 u5 tl) e)) (kL:kg w L=none) (htl:iy w.params tl) {x:Nat} {Q:Unit→Shared→Prop}
 (H:∀h2 t2 j7 tl2 e2,Keeps s.heap h2 [L]→TopIn w.params h2→h2.get? L=some (frame (chF w.params ac aa nd p j1 j2 j3 j4 j5 j6 tn tp u4 u5 (ent w.params eY j7 (.int (.ofNat x) tx) :: tl2)) e2)→pC w.params tl2→Q () ⟨h2,s.gens,s.drawn,t2,s.os⟩):wpAny (mm w) A (assign gN.1 (chE L cy cw cb) (.int (.ofNat x) tx)) Q E s:=by
 rcases htl with rfl | ⟨j,u,tl',rfl,hr⟩
 ·refine bZ (w:=w) (l:=[(L,_)]) 0 hT (ag hL ah) (by kd_subs) (by tbr_iter kL) (fun n2 tB hn2=>?_)
  refine gRx hA.hd 7 [1,1] ?_
  kst_p
  exact ggK s (.next) (fun h2 t2 D2=>H h2 t2 tB [] (e+1) D2.keeps D2.kt (D2.xK 0) (.inl rfl))
 ·refine bZ (w:=w) (l:=[(L,_)]) 0 hT (ag hL ah) (by kd_subs) (by tbr_iter kL) (fun n2 tB hn2=>?_)
  refine gRx hA.hd 7 [1,1] ?_
  kst_p
  exact ggK s (.next) (fun h2 t2 D2=>H h2 t2 j tl' e D2.keeps D2.kt (D2.xK 0) hr)
@[reducible] noncomputable def e211 (w:World) (k1 k2:Nat) (v1 v2:Value):List DictEntry:=[ent w.params eY k1 v1,ent w.params hM k2 v2]
theorem ju (hA:AOk A m) (hT:TopIn w.params s.heap) (hL:s.heap.get? L=some (frame (chF w.params ac aa nd p j1 j2 j3 j4 j5 j6 tn tp u4 u5 (ent w.params eY j7 v7 :: tl)) e)) (kL:kg w L=none) (htl:pC w.params tl) {x:Str} {Q:Unit→Shared→Prop}
 (H:∀h2 t2 j8 e2,Keeps s.heap h2 [L]→TopIn w.params h2→h2.get? L=some (frame (chF w.params ac aa nd p j1 j2 j3 j4 j5 j6 tn tp u4 u5 (e211 w j7 j8 v7 (.str x tx))) e2)→Q () ⟨h2,s.gens,s.drawn,t2,s.os⟩):wpAny (mm w) A (storeName (chE L cy cw cb) hM (.str x tx)) Q E s:=by
 rcases htl with rfl | ⟨j,u,rfl⟩
 ·refine dq (w:=w) (l:=[(L,_)]) 0 hT (ag hL ah) (by kd_subs) (by tbr_iter kL) (fun n2 tB hn2=>?_)
  refine gRx hA.hd 4 [1,1] ?_
  kst_p
  exact ggK s (.next) (fun h2 t2 D2=>H h2 t2 tB (e+1) D2.keeps D2.kt (D2.xK 0))
 ·refine dq (w:=w) (l:=[(L,_)]) 0 hT (ag hL ah) (by kd_subs) (by tbr_iter kL) (fun n2 tB hn2=>?_)
  refine gRx hA.hd 4 [1,1] ?_
  kst_p
  exact ggK s (.next) (fun h2 t2 D2=>H h2 t2 j e D2.keeps D2.kt (D2.xK 0))
theorem lV {x:Nat} (hA:AOk A m) (hT:TopIn w.params s.heap) (hc:s.heap.get? ac=some (listO Lc ec)) (hVc:IntVs Lc cs) (ha:s.heap.get? aa=some (listO La ea)) (hpn:La[nd]? = some (.int (.ofNat pn) tpn)) (hnd:nd<2^63) (hL:s.heap.get? L=some (frame (chF w.params ac aa nd p j1 j2 j3 j4 j5 j6 tn tp u4 u5 (ent w.params eY j7 (.int (.ofNat x) tx) :: tl)) e)) {Q:Bool→Shared→Prop}
 (H:∀h2 t2,Keeps s.heap h2 []→TopIn w.params h2→Q (decide (x≠nd∧(pn∈cs∨nd<x))) ⟨h2,s.gens,s.drawn,t2,s.os⟩):wpAny (mm w) A (isTrue chT (chE L cy cw cb) (eval chT (chE L cy cw cb))) Q E s:=by
 by_cases hne:x=nd
 ·refine fD (w:=w) (l:=[(ac,_),(aa,_),(L,_)]) 3 hT (ag hc (ag ha (ag hL ah))) (by kd_subs) (by kd_mem) (fun n2 tB hn2=>?_)
  rw[decide_eq_false (by simp[hne])] at H
  refine gPx hA.hd [] 7 [3,3,13,0,0,0] ?_
  intro zM zO
  refine gQx [¬x≠nd] ⟨by kst_all,trivial⟩ ?_
  exact ggK s (.ret (.bool false)) (fun h2 t2 D2=>H h2 t2 D2.keeps D2.kt)
 by_cases hin:pn∈cs
 ·have hm:db Lc pn:=⟨cs,hVc.1,hVc.2,hin⟩
  refine fD (w:=w) (l:=[(ac,_),(aa,_),(L,_)]) 3 hT (ag hc (ag ha (ag hL ah))) (by kd_subs) (by kd_mem) (fun n2 tB hn2=>?_)
  rw[decide_eq_true ⟨hne, .inl hin⟩] at H
  refine gPx hA.hd [Value.int (Int.ofNat pn) tpn] 22 [3,3,13,0,1,0,3,3,2,2,2,15,1,0,0,3,1,1,25,0,1,0] ?_
  intro zM zO
  refine gQx [db Lc pn,La[nd]? = some (Value.int (Int.ofNat pn) tpn),nd<2^63,x≠nd] ⟨by assumption,by assumption,by assumption,by assumption,trivial⟩ ?_
  exact ggK s (.ret (.bool true)) (fun h2 t2 D2=>H h2 t2 D2.keeps D2.kt)
 have hm:bx Lc pn:=⟨cs,hVc.1,hVc.2,hin⟩
 by_cases hgt:nd<x
 ·refine fD (w:=w) (l:=[(ac,_),(aa,_),(L,_)]) 3 hT (ag hc (ag ha (ag hL ah))) (by kd_subs) (by kd_mem) (fun n2 tB hn2=>?_)
  rw[decide_eq_true ⟨hne, .inr hgt⟩] at H
  refine gPx hA.hd [Value.int (Int.ofNat pn) tpn] 29 [3,3,13,0,1,0,3,3,2,2,2,15,1,0,0,3,1,1,25,0,0,0,3,3,10,0,1,0] ?_
  intro zM zO
  refine gQx [nd<x,bx Lc pn,La[nd]? = some (Value.int (Int.ofNat pn) tpn),nd<2^63,x≠nd] ⟨by assumption,by assumption,by assumption,by assumption,by assumption,trivial⟩ ?_
  exact ggK s (.ret (.bool true)) (fun h2 t2 D2=>H h2 t2 D2.keeps D2.kt)
 ·refine fD (w:=w) (l:=[(ac,_),(aa,_),(L,_)]) 3 hT (ag hc (ag ha (ag hL ah))) (by kd_subs) (by kd_mem) (fun n2 tB hn2=>?_)
  rw[decide_eq_false (fun z=>z.2.elim hin hgt)] at H
  refine gPx hA.hd [Value.int (Int.ofNat pn) tpn] 29 [3,3,13,0,1,0,3,3,2,2,2,15,1,0,0,3,1,1,25,0,0,0,3,3,10,0,0,0] ?_
  intro zM zO
  refine gQx [¬nd<x,bx Lc pn,La[nd]? = some (Value.int (Int.ofNat pn) tpn),nd<2^63,x≠nd] ⟨by assumption,by assumption,by assumption,by assumption,by assumption,trivial⟩ ?_
  exact ggK s (.ret (.bool false)) (fun h2 t2 D2=>H h2 t2 D2.keeps D2.kt)
theorem lW {zs:List Nat} {tz:Nat} (hA:AOk A 130) (hT:TopIn w.params s.heap) (hc:s.heap.get? ac=some (listO Lc ec)) (hVc:IntVs Lc cs) (ha:s.heap.get? aa=some (listO La ea)) (hpn:La[nd]? = some (.int (.ofNat pn) tpn)) (hnd:nd<2^63) (kL:kg w L=none) (hz:Ascii zs) (hp:p<2^32) (hL:s.heap.get? L=some (frame (chF w.params ac aa nd p j1 j2 j3 j4 j5 j6 tn tp u4 u5 (e211 w j7 j8 v7 (.str ⟨⟨zs⟩⟩ tz))) e)) {Q:Value→Shared→Prop}
 (H:∀h2 t2 u,Keeps s.heap h2 []→TopIn w.params h2→Q (.int (.ofNat (al p zs^^^if pn∈cs then p else 0)) u) ⟨h2,s.gens,s.drawn,t2,s.os⟩):wpAny (mm w) A (eval (chV 1) (chE L cy cw cb)) Q E s:=by
 refine aE (w:=w) (l:=[(ac,_),(aa,_),(L,_)]) 3 hT (ag hc (ag ha (ag hL ah))) (by kd_subs) (by kd_mem) (fun n2 tB hn2=>?_)
 refine gRx hA.hd 8 [0,3,3,0] ?_
 kst_p
 refine gcK (.call (.ref 187) ⟨[.int (.ofNat p) tp, .str ⟨⟨zs⟩⟩ tz],[]⟩) (fun h3 D3=>?_)
 refine bK (hA.subN (by kd_p) 6 (by kd_p) (by kst_all)) D3.kt hp hz (fun h4 tk4 jr K=>?_)
 have q64:p<2^64∧al p zs<2^64:=⟨Nat.lt_trans hp (by decide),Nat.lt_trans (bw zs hp) (by decide)⟩
 by_cases hin:pn∈cs
 ·have hm:db Lc pn:=⟨cs,hVc.1,hVc.2,hin⟩
  rw[if_pos hin] at H
  refine dR D3 K (fun n4 _=>?_)
  refine gPx hA.hd [Value.int (Int.ofNat pn) tpn] 20 [3,3,2,2,2,15,1,0,0,3,1,1,25,0,1,0,3,6,0,0,0] ?_
  intro zM zO
  refine gQx [db Lc pn,La[nd]? = some (Value.int (Int.ofNat pn) tpn),nd<2^63] ⟨by assumption,by assumption,by assumption,trivial⟩ ?_
  exact ggK s (.ret (.int (.ofNat (al p zs^^^p)) (tk4+0))) (fun h2 t2 D2=>H h2 t2 _ D2.keeps D2.kt)
 ·have hm:bx Lc pn:=⟨cs,hVc.1,hVc.2,hin⟩
  rw[if_neg hin] at H
  refine dR D3 K (fun n4 _=>?_)
  refine gPx hA.hd [Value.int (Int.ofNat pn) tpn] 19 [3,3,2,2,2,15,1,0,0,3,1,1,25,0,0,0,6,0,0,0] ?_
  intro zM zO
  refine gQx [bx Lc pn,La[nd]? = some (Value.int (Int.ofNat pn) tpn),nd<2^63] ⟨by assumption,by assumption,by assumption,trivial⟩ ?_
  exact ggK s (.ret (.int (.ofNat (al p zs^^^0)) (tk4+1))) (fun h2 t2 D2=>H h2 t2 _ D2.keeps D2.kt)
end
theorem lX (LC:bo w kss ws 7) {cw nd:Nat}
  (ki:kg w it=none) (kL:kg w L=none) (fi:h₀.get? it=none) (fL:h₀.get? L=none)
  (hc:h₀.get? ac=some (listO Lc ec)) (hVc:IntVs Lc cs) (ha:h₀.get? aa=some (listO La ea)) (hb:h₀.get? bl=some (listO Lb ebl)) (hKB:KidsAt h₀ Lb kss) (hw:h₀.get? aw=some (listO Lw ew)) (hW:StrVs Lw ws)
  (hab:h₀.get? ab=some (listO Lk eb)) (hVk:IntVs Lk xs) (hxl:xs.length≤50) (hpn:La[nd]? = some (.int (.ofNat pn) tpn)) (hnd:nd<7) (hnn:ac≠ab∧aa≠ab∧ac≠aa):
  ∀(rs:List Nat) {A:Around} {R:Result→Shared→Prop} {s:Shared} {k p tk:Nat} (hA:AOk A 130) (hT:TopIn w.params s.heap) (hK0:Keeps h₀ s.heap [])
  (hcb:s.heap.get? cb=some (cellO (.ref bl))) (hcw:s.heap.get? cw=some (cellO (.ref aw))) (hI:s.heap.get? it=some (av ab k tk)) (hfr:ChF w.params s.heap L ac aa nd p)
  (hrs:xs.drop k=rs) (hDp:rs.all (fun x=>Dp kss 7 x && decide (x<7))=true) (hlen:∀x∈rs,(laidF kss ws 7 x).length≤1000) (hp:p<2^32)
  (H:∀(h':Heap) tk',Keeps s.heap h' [it,L]→ChF w.params h' L ac aa nd (rs.foldl (cf kss ws nd (decide (pn∈cs))) p)→R (.ok .next) ⟨h',s.gens,s.drawn,tk',s.os⟩),
  codeAny (mm w) A (gl gN (.ref it) (chE L cy cw cb)) R s:=by
 intro rs
 induction rs with
 | nil=>
  intro A R s k p tk hA hT hK0 hcb hcw hI hfr hrs hDp hlen hp H
  have hlen:=hVk.fin hrs
  kd_adr
  refine hfr.out fun j1 j2 j3 j4 j5 j6 tn tp e u4 u5 tl htl hL=>?_
  have hab':=hK0.kp hab
  refine aj _ 1 hT (ag hab' (ag hI ah)) (by tbr_iter (neF hab fi)) (by tbr_iter ki) (fun n t _=>?_)
  refine gPx hA.hd [] 5 [2,18,1,0,0,4] ?_
  intro zM zO
  refine gQx [Lk.length≤k] ⟨by assumption,trivial⟩ ?_
  refine gdK (.ok .next) (fun h D=>?_)
  exact H h _ (D.keeps.mono (by kd_mem)) (.mk htl (D.keeps.kq hL (by tbr_iter (apart hI hL).symm)))
 | cons x rs ih=>
  intro A R s k p tk hA hT hK0 hcb hcw hI hfr hrs hDp hlen hp H
  kd_adr
  obtain⟨⟨tx,hk⟩,hk'⟩:=hVk.at hrs
  refine hfr.out fun j1 j2 j3 j4 j5 j6 tn tp e u4 u5 tl htl hL=>?_
  have hDa:=nq hDp
  have hlx:=hlen x (by kd_mem)
  have n1:=(apart hI hL).symm
  refine cZ ?_
  refine bU ?_
  intro zQ zE
  refine nextR (w:=w) (l:=[(ab,_),(it,_)]) 1 hT (ag (hK0.kp hab) (ag hI ah)) (by tbr_iter (neF hab fi)) (by tbr_iter ki) (fun n t hn=>?_)
  refine gPx hA.hd [Value.int (Int.ofNat x) tx] 2 [2,17,1,0,0] ?_
  intro zM zO
  refine gQx [Lk[k]? = some (Value.int (Int.ofNat x) tx)] ⟨by assumption,trivial⟩ ?_
  refine ggK s (.ret (.int (.ofNat x) tx)) (fun h1 t1 D1=>?_)
  have I1:=D1.cK 1 it (av ab (k+1) 0)
  have K1:=D1.keeps
  refine nK hA D1.kt (K1.kq hL (by tbr_iter n1)) kL htl (fun h2 t2 j7 tl2 e2 K2 T2 L2 iU=>?_)
  have K12:Keeps s.heap h2 [it,L]:=K1.trans K2
  have B2:Keeps h₀ h2 []:=hK0.fresh K12 (by tbr_iter (ai fi fL))
  refine aH chIf.choose_spec ?_
  refine bU ?_
  intro zQ zE
  refine wpAny_execs_cons (wpAny_If ?_)
  refine lV hA T2 (B2.kp hc) hVc (B2.kp ha) hpn (Nat.lt_trans hnd (by decide)) L2 (fun h3 t3 K3 T3=>?_)
  have K13:Keeps s.heap h3 [it,L]:=K12.trans K3
  have B3:Keeps h₀ h3 []:=B2.trans K3
  have cb2:h3.get? cb=some (cellO (.ref bl)):=K13.kq hcb (by tbr_iter (ai (apart hcb hI) (apart hcb hL)))
  have cw2:h3.get? cw=some (cellO (.ref aw)):=K13.kq hcw (by tbr_iter (ai (apart hcw hI) (apart hcw hL)))
  have I3:h3.get? it=some (av ab (k+1) 0):=(K2.trans K3).kq I1 (by tbr_iter n1.symm)
  have L3:=K3.kp L2
  by_cases hx:x≠nd∧(pn∈cs∨nd<x)
  ·rw[decide_eq_true hx]
   show wpAny _ _ (execs chB _) _ _ _
   refine aH chB2.choose_spec.choose_spec.choose_spec.choose_spec ?_
   refine wpAny_execs_cons (wpAny_Assign_Name ?_)
   refine aE (w:=w) (l:=[(cb,_),(cw,_),(L,_)]) 3 T3 (ag cb2 (ag cw2 (ag L3 ah))) (by kd_subs) (by kd_mem) (fun n4 t4 hn4=>?_)
   refine gRx hA.hd 23 [0,0,0,0,0,0,3,1,2,0] ?_
   kst_p
   refine gcK (.call (.ref 173) ⟨[.int (.ofNat x) tx, .ref bl, .ref aw],[]⟩) (fun h4 D4=>?_)
   have B4:Keeps h₀ h4 []:=B3.trans D4.keeps
   refine LC (hA.subN (by kd_p) 6 (by kd_p) (by kst_all)) D4.kt (B4.kp hb) (hKB.keep B4) (B4.kp hw) hW hDa.1.1 hlx (fun h5 tk5 fG K5=>?_)
   refine dR D4 K5 (fun n5 _=>?_)
   refine gPx hA.hd [Value.int (Int.ofNat (laidF kss ws 7 x).length) 0] 10 [26,0,0,0,0] ?_
   intro zM zO
   refine gQx [(laidF kss ws 7 x).length=(laidF kss ws 7 x).length,(laidF kss ws 7 x).length<2^63] ⟨by rfl,by kst_all,trivial⟩ ?_
   refine gcK (.call (.builtin "str.__mul__") ⟨[.str ⟨⟨[0]⟩⟩ (t4+1), .int (.ofNat (laidF kss ws 7 x).length) (tk5+1)],[]⟩) (fun h6 D6=>?_)
   refine eh hlx (fun nA tk6=>?_)
   refine aD D6 ?_
   refine gRx hA.hd 0 [] ?_
   kst_p
   refine ggK s (.ret (.str ⟨⟨List.replicate (laidF kss ws 7 x).length 0⟩⟩ nA)) (fun h7 t7 D7=>?_)
   have K7:=D7.keeps
   refine ju hA D7.kt (K7.kp L3) kL iU (fun h8 t8 j8 e8 K8 T8 L8=>?_)
   have K38:Keeps h3 h8 [L]:=K7.trans K8
   have B8:Keeps h₀ h8 []:=B3.fresh K38 (by tbr_iter fL)
   refine wpAny_execs_cons (wpAny_Assign_Name ?_)
   refine lW hA T8 (B8.kp hc) hVc (B8.kp ha) hpn (Nat.lt_trans hnd (by decide)) kL (cO _) hp L8 (fun h9 t9 u K9 T9=>?_)
   refine dq (w:=w) (l:=[(L,_)]) 0 T9 (ag (K9.kp L8) ah) (by kd_subs) (by tbr_iter kL) (fun n9 tB hn9=>?_)
   refine gRx hA.hd 4 [1,1] ?_
   kst_p
   refine ggK s (.next) (fun h10 t10 D10=>?_)
   have L10:=D10.cK 0 L (frame (chF w.params ac aa nd (al p (List.replicate (laidF kss ws 7 x).length 0)^^^if pn∈cs then p else 0) j1 j2 j3 j4 j5 j6 tn u u4 u5 (e211 w j7 j8 (.int (.ofNat x) tx) (.str ⟨⟨List.replicate (laidF kss ws 7 x).length 0⟩⟩ nA))) e8)
   have K310:Keeps h3 h10 [L]:=(K38.trans K9).trans D10.keeps |>.mono (by kd_mem)
   have nb:=apart hcb hL
   have nw:=apart hcw hL
   refine wpAny_execs_nil ?_
   show wpAny _ _ (execs [] _) _ _ _
   refine wpAny_execs_nil ?_
   have hu:∀{p:Nat},p<2^32→(al p (List.replicate (laidF kss ws 7 x).length 0)^^^if pn∈cs then p else 0)<2^32:=fun hp=>Nat.xor_lt_two_pow (bw _ hp) (by split;exact hp;decide)
   have hst:cf kss ws nd (decide (pn∈cs)) p x=al p (List.replicate (laidF kss ws 7 x).length 0)^^^(if pn∈cs then p else 0):=by rw[cf,if_pos (by simpa using hx)];simp
   exact ih (k:=k+1) (s:=⟨h10,s.gens,s.drawn,t10,s.os⟩) hA D10.kt (B3.fresh K310 (by tbr_iter fL)) (K310.kq cb2 (by tbr_iter nb)) (K310.kq cw2 (by tbr_iter nw)) (K310.kq I3 (by tbr_iter n1.symm)) (.mk (.inr ⟨_,_,_,rfl, .inr ⟨_,_,rfl⟩⟩) L10) hk' hDa.2 (fun y hy=>hlen y (.tail _ hy)) (hu hp) (fun h' tk' K' q=>H h' tk' (((K13.trans K310).trans K').mono (by kd_mem)) (by rw[List.foldl_cons,hst];exact q))
  ·rw[decide_eq_false hx]
   show wpAny _ _ (execs [] _) _ _ _
   refine wpAny_execs_nil ?_
   show wpAny _ _ (execs [] _) _ _ _
   refine wpAny_execs_nil ?_
   have hst:cf kss ws nd (decide (pn∈cs)) p x=p:=by rw[cf,if_neg (by simpa using hx)]
   exact ih (k:=k+1) (s:=⟨h3,s.gens,s.drawn,t3,s.os⟩) hA T3 B3 cb2 cw2 I3 (.mk (.inr ⟨_,_,_,rfl,iU⟩) L3) hk' hDa.2 (fun y hy=>hlen y (.tail _ hy)) hp (fun h' tk' K' q=>H h' tk' ((K13.trans K').mono (by kd_mem)) (by rw[List.foldl_cons,hst];exact q))
noncomputable def chWh:Expr×List Stmt×List Stmt:=kD (dAt 22) 3
@[reducible] noncomputable def whS (f:Expr×List Stmt×List Stmt) (env:Env):Code:= .whileLoop f.1 f.2.1 f.2.2 env
noncomputable def bu (above:List Nat) (kss ws:List (List Nat)) (cs:List Nat):Nat→Nat→Nat→List Nat→Nat×List Nat
 | 0,_,p,way=>(p,way)
 | f+1,nd,p,way=>if nd=0 then (p,way) else
  bu above kss ws cs f (above.getD nd 0) ((kss.getD (above.getD nd 0) []).foldl (cf kss ws nd (decide (above.getD nd 0∈cs))) p) (way++[above.getD nd 0])
theorem nN {nd x:Nat} (hp:p<2^32):cf kss ws nd inn p x<2^32:=by
 unfold cf
 split
 ·refine Nat.xor_lt_two_pow (bw _ hp) ?_
  split
  ·exact hp
  ·decide
 ·exact hp
theorem cR {kss ws:List (List Nat)} {nd:Nat} {inn:Bool}:∀(l:List Nat) {p:Nat},p<2^32→l.foldl (cf kss ws nd inn) p<2^32
 | [],_,h=>h
 | x :: l,_,h=>by rw[List.foldl_cons];exact cR l (nN h)
theorem fresh_ne {n:Addr} (e:h.get? a=some o) (hn:h.objs.size=n):a≠n:=by
 subst hn;intro q;subst q;exact absurd (Heap.lt_size e) (Nat.lt_irrefl _)
theorem jY (LC:bo w kss ws 7) {h₀:Heap} {cw:Nat}
  (kL:kg w L=none) (kY:kg w yl=none) (fL:h₀.get? L=none) (fY:h₀.get? yl=none)
  (hc:h₀.get? ac=some (listO Lc ec)) (hVc:IntVs Lc cs) (ha:h₀.get? aa=some (listO La ea)) (hVa:IntVs La above) (hb:h₀.get? bl=some (listO Lb ebl)) (hKB:KidsAt h₀ Lb kss) (hw:h₀.get? aw=some (listO Lw ew)) (hW:StrVs Lw ws)
  (bX:above.length=7∧kss.length=7) (hup:∀i,0<i→i<7→above.getD i 0<i) (hks:∀i,(kss.getD i []).length≤50) (hDp:∀i,i<7→(kss.getD i []).all (fun x=>Dp kss 7 x && decide (x<7))=true) (hlen:∀x,x<7→(laidF kss ws 7 x).length≤1000)
  (hne:ac≠aa) (hrow:∀(i:Nat) (b:Addr),Lb[i]? = some (Value.ref b)→ac≠b∧aa≠b):
  ∀(f:Nat) {A:Around} {R:Result→Shared→Prop} {s:Shared} {nd p:Nat} {way:List Nat} {Ly:List Value} {ey:Nat} (hA:AOk A 140) (hT:TopIn w.params s.heap) (hK0:Keeps h₀ s.heap [])
  (hcb:s.heap.get? cb=some (cellO (.ref bl))) (hcw:s.heap.get? cw=some (cellO (.ref aw))) (hcy:s.heap.get? cy=some (cellO (.ref yl))) (hY:s.heap.get? yl=some (listO Ly ey)) (hVy:IntVs Ly way) (hyl:way.length+nd≤7) (hfr:ChF w.params s.heap L ac aa nd p)
  (hnf:nd<f) (hnd:nd<7) (hp:p<2^32)
  (H:∀(h':Heap) tk' Ly' ey',Keeps s.heap h' [L,yl]→h'.get? yl=some (listO Ly' ey')→IntVs Ly' (bu above kss ws cs f nd p way).2→ChF w.params h' L ac aa 0 (bu above kss ws cs f nd p way).1→R (.ok .next) ⟨h',s.gens,s.drawn,tk',s.os⟩),
  codeAny (mm w) A (whS chWh (chE L cy cw cb)) R s:=by
 intro f
 induction f with
 | zero=>intro A R s nd p way Ly ey hA hT hK0 hcb hcw hcy hY hVy hyl hfr hnf;kst_all
 | succ f ih=>
  intro A R s nd p way Ly ey hA hT hK0 hcb hcw hcy hY hVy hyl hfr hnf hnd hp H
  refine hfr.out fun j1 j2 j3 j4 j5 j6 tn tp e u4 u5 tl htl hL=>?_
  by_cases h0:nd=0
  ·have hcl:bu above kss ws cs (f+1) nd p way=(p,way):=by unfold bu;rw[if_pos h0]
   rw[hcl] at H
   subst h0
   refine aj _ 0 hT (ag hL ah) (by kd_subs) (by tbr_iter kL) (fun n t _=>?_)
   refine gRx hA.hd 6 [1,0] ?_
   kst_p
   refine gdK (.ok .next) (fun h D=>?_)
   have nY:=apart hY hL
   have c0:=D.cK 0 L (frame (chF w.params ac aa 0 p j1 j2 j3 j4 j5 j6 tn tp u4 u5 tl) e)
   exact H h _ Ly ey (D.keeps.mono (by kd_mem)) (D.keeps.kq hY (by tbr_iter nY)) hVy (.mk htl c0)
  ·have hcl:bu above kss ws cs (f+1) nd p way=bu above kss ws cs f (above.getD nd 0) ((kss.getD (above.getD nd 0) []).foldl (cf kss ws nd (decide (above.getD nd 0∈cs))) p) (way++[above.getD nd 0]):=by rw[bu,if_neg h0]
   rw[hcl] at H
   have hpl:=hup nd (by kst_all) hnd
   have hpa:above[nd]? = some (above.getD nd 0):=by
    have:nd<above.length:=by kst_all
    simp[this]
   generalize above.getD nd 0=pn at *
   kd_adr
   obtain⟨tpn,hpn⟩:=hVa.2 _ _ hpa
   have hpk:kss[pn]? = some (kss.getD pn []):=by
    have:pn<kss.length:=by kst_all
    simp[this]
   obtain⟨ab,Lk,eb,hib,hab,hVk⟩:=hKB.2 _ _ hpk
   have hxl:=hks pn
   have hDk:=hDp pn (by kst_all)
   have hc':=hK0.kp hc
   have ha':=hK0.kp ha
   have hb':=hK0.kp hb
   have hab':=hK0.kp hab
   have n1:=neF ha fL
   have n2:=neF ha fY
   have n3:=neF hb fL
   have n4:=neF hb fY
   have n5:=neF hab fL
   have n6:=neF hab fY
   have n7:=apart hcb hL
   have n8:=apart hcb hY
   have n9:=apart hcy hL
   have n10:=apart hcy hY
   have n11:=(apart hY hL).symm
   have hnd63:nd<2^63∧pn<2^63:=by kst_all
   have hly:Ly.length≤2^24:=by rw[hVy.1];kst_all
   refine aj _ 5 hT (ag ha' (ag hb' (ag hab' (ag hcb (ag hcy (ag hL (ag hY ah))))))) (by kd_subs) (by tbr_iter (ai kL kY)) (fun n t hn=>?_)
   refine gPx hA.hd [Value.int (Int.ofNat pn) tpn,Value.ref ab] 31 [6,14,0,1,0,4,6,6,1,1,1,15,0,0,0,2,2,2,15,1,0,1,3,3,0,3,8] ?_
   intro zM zO
   refine gQx [Lb[pn]? = some (Value.ref ab),pn<2^63,La[nd]? = some (Value.int (Int.ofNat pn) tpn),nd<2^63,nd≠0] ⟨by assumption,by kst_all,by assumption,by kst_all,by assumption,trivial⟩ ?_
   refine gcK (gl gN (.ref n) (chE L cy cw cb)) (fun h D=>?_)
   kd_adr
   have⟨d5,w5⟩:=D.wK 5 L (frame (chF w.params ac aa nd p j1 j2 j3 j4 j5 j6 tn tp u4 u5 tl) e)
   have⟨d6,w6⟩:=D.wK 6 yl (listO Ly ey)
   have⟨d7,w7⟩:=D.wK 7 n (av ab 0 0)
   have fn0:s.heap.get? n=none:=aC (Nat.le_of_eq hn) 0
   have fn:h₀.get? n=none:=by
    cases q:h₀.get? n with
    | none=>rfl
    | some o=>have:=hK0.kp q;rw[fn0] at this;cases this
   have hK1:Keeps h₀ h []:=hK0.fresh D.keeps (by tbr_iter (ai fL fY))
   have hxr:=hrow _ _ hib
   have e3:=D.cK 3 cb (cellO (.ref bl))
   have e4:h.get? cw=some (cellO (.ref aw)):=D.keeps.kq hcw (by tbr_iter (ai (apart hcw hL) (apart hcw hY)))
   have e5:=D.cK 4 cy (cellO (.ref yl))
   refine lX LC w7.kn kL fn fL hc hVc ha hb hKB hw hW hab hVk hxl hpn hnd ⟨hxr.1,hxr.2,hne⟩ (kss.getD pn []) (hA.subN (by kd_p) 4 (by kd_p) (by kst_all)) D.kt hK1 e3 e4 d7 (.mk htl d5) rfl hDk (fun x hx=>hlen x (by have:=List.all_eq_true.mp hDk x hx;simp at this;exact this.2)) hp (fun h' tk' K hfr=>?_)
   have hp':(kss.getD pn []).foldl (cf kss ws nd (decide (pn∈cs))) p<2^32:=cR _ hp
   generalize (kss.getD pn []).foldl (cf kss ws nd (decide (pn∈cs))) p=p2 at *
   kd_adr
   refine hfr.out fun j1 j2 j3 j4 j5 j6 tn tp e u4 u5 tl htl hL2=>?_
   have y1:=fresh_ne hY hn
   have y2:=fresh_ne hcy hn
   have y3:=fresh_ne ha' hn
   have y4:=fresh_ne hcb hn
   have y5:=fresh_ne hcw hn
   have x0:h'.get? aa=some (listO La ea):=K.kq (D.xK 0) (by tbr_iter (ai y3 n1))
   have x1:h'.get? cy=some (cellO (.ref yl)):=K.kq e5 (by tbr_iter (ai y2 n9))
   have x2:h'.get? yl=some (listO Ly ey):=K.kq d6 (by tbr_iter (ai y1 n11.symm))
   have x3:h'.get? cb=some (cellO (.ref bl)):=K.kq e3 (by tbr_iter (ai y4 n7))
   have x4:h'.get? cw=some (cellO (.ref aw)):=K.kq e4 (by tbr_iter (ai y5 (apart hcw hL)))
   have z1:=apart hcw hL
   have z2:=apart hcw hY
   refine resume D K (an w7 (an w5 ax)) _ 4 (ag x0 (ag x1 (ag x3 (ag x4 (ag hL2 (ag x2 ah)))))) (by kd_subs) (all2 w5 w6) (fun n2 _=>?_)
   refine gPx hA.hd [Value.int (Int.ofNat pn) tpn] 31 [5,5,1,1,1,15,0,0,0,5,5,2,6,6,6,6,5,19,5,0,0] ?_
   intro zM zO
   refine gQx [Ly.length≤2^24,La[nd]? = some (Value.int (Int.ofNat pn) tpn),nd<2^63] ⟨by assumption,by assumption,by kst_all,trivial⟩ ?_
   refine gaK (whS chWh (chE L cy cw cb)) (fun h5 D5=>?_)
   have c4:=D5.cK 4 L (frame (chF w.params ac aa pn p2 j1 j2 j3 j4 j5 j6 tpn tp u4 u5 tl) e)
   have c5:=D5.cK 5 yl (listO (Ly++[.int (.ofNat pn) tpn]) (ey+1))
   have K5:Keeps h₀ h5 []:=hK0.fresh D5.keeps (by tbr_iter (ai fL fY))
   exact ih hA D5.kt K5 (D5.xK 2) (D5.xK 3) (D5.xK 1) c5 (hVy.push _ _) (by simp;kst_all) (.mk htl c4) (by kst_all) (by kst_all) hp' (fun h' tk' Ly' ey' K' q1 q2 q3=>H h' tk' Ly' ey' ((D5.keeps.trans K').mono (by kd_mem)) q1 q2 q3)
noncomputable def gq:Expr:=dI ((dAt 22).2.1.getD 1 default)
@[reducible] noncomputable def eM (L d cb cw:Addr):Env:={ scope:=cG (bF gq) (dAt 22).2.2,locals:=d,globals:=3,cells:=[(cg,cw),(cQ,cb)],qual:=qChg,func:=none,code:= .ref 191,frame:=some L,builtins:=0 }
theorem gK (LC:bo w kss ws 7) {h₀:Heap} {cw kk x2 t2:Nat} {v0 vv:Value}
 (n1:it≠acc) (n2:it≠d) (n3:acc≠d) (ki:kg w it=none) (ka:kg w acc=none) (kd:kg w d=none) (fi:h₀.get? it=none) (fa:h₀.get? acc=none) (fd:h₀.get? d=none) {s:Shared} (hA:AOk A 100) (hT:TopIn w.params s.heap) (hK0:Keeps h₀ s.heap [])
 (hb:h₀.get? bl=some (listO Lb ebl)) (hKB:KidsAt h₀ Lb kss) (hw:h₀.get? aw=some (listO Lw ew)) (hW:StrVs Lw ws)
 (hab:h₀.get? ab=some (listO [.int (.ofNat x1) t1, .int (.ofNat x2) t2] eb)) (hcb:s.heap.get? cb=some (cellO (.ref bl))) (hcw:s.heap.get? cw=some (cellO (.ref aw)))
 (hI:s.heap.get? it=some (av ab 0 tk)) (hacc:s.heap.get? acc=some (listO ([]:List Value) ea)) (hd:s.heap.get? d=some (dictO [] ed))
 (hDp:Dp kss 7 x1=true) (hlx:(laidF kss ws 7 x1).length≤1000)
 (H:∀(h':Heap) tk' tok ea' kk vv ed',Keeps s.heap h' [it,acc,d]→h'.get? it=some (av ab 1 0)→h'.get? acc=some (listO [.str ⟨⟨laidF kss ws 7 x1⟩⟩ tok] ea')→h'.get? d=some (dictO (e71 w kk vv) ed')→codeAny (mm w) A (.compLoop gq 0 (.ref it) (.ref acc) (eM L d cb cw)) R ⟨h',s.gens,s.drawn,tk',s.os⟩):
  codeAny (mm w) A (.compLoop gq 0 (.ref it) (.ref acc) (eM L d cb cw)) R s:=by
 have hab':=hK0.kp hab
 have i1:=neF hab fi
 have i2:=neF hab fa
 have i3:=neF hab fd
 have j1:=apart hcb hI
 have j2:=apart hcb hacc
 have j3:=apart hcb hd
 have l1:=apart hcw hI
 have l2:=apart hcw hacc
 have l3:=apart hcw hd
 refine aj _ 3 hT (ag hab' (ag hcb (ag hcw (ag hI (ag hacc (ag hd ah)))))) (by kd_subs) (by tbr_iter (ai ki (ai ka kd))) (fun n t _=>?_)
 refine gRx hA.hd 28 [4,0,4,4,4,1,4,4,6,6,0,6,2,3,0] ?_
 kst_p
 refine gcK (.call (.ref 173) ⟨[.int (.ofNat x1) t1, .ref bl, .ref aw],[]⟩) (fun h D=>?_)
 have hK1:Keeps h₀ h []:=hK0.fresh D.keeps (by kd_in)
 kd_adr
 have⟨c3,w3⟩:=D.wK 3 it (av ab 1 0)
 have⟨c4,w4⟩:=D.wK 4 acc (listO ([]:List Value) ea)
 have⟨c5,w5⟩:=D.wK 5 d (dictO (e71 w t (.int (.ofNat x1) t1)) (ed+1))
 have c1:=D.cK 1 cb (cellO (.ref bl))
 have c2:=D.cK 2 cw (cellO (.ref aw))
 refine LC (hA.subN (by kd_p) 4 (by kd_p) (by kst_all)) D.kt (hK1.kp hb) (hKB.keep hK1) (hK1.kp hw) hW hDp hlx (fun h' tk' tok K=>?_)
 refine resume D K ax _ 3 (ag (K.kp (hK1.keep _ _ hab (by kd_mem))) (ag (K.kp c1) (ag (K.kp c2) (ag (K.kp c3) (ag (K.kp c4) (ag (K.kp c5) ah)))))) (by kd_subs) (by tbr_iter (ai w3 (ai w4 w5))) (fun n' _=>?_)
 refine gRx hA.hd 8 [0,5,5,5,5] ?_
 kst_p
 refine gaK (.compLoop gq 0 (.ref it) (.ref acc) (eM L d cb cw)) (fun h D=>?_)
 exact H h _ tok (ea+1) _ _ _ D.keeps (D.xK 3) (D.xK 4) (D.cell 5 (x:=dictO (e71 w t (.int (.ofNat x1) t1)) (ed+1)) (by kd_p))
theorem gJ (LC:bo w kss ws 7) {h₀:Heap} {cw x1 t1:Nat}
 (n1:it≠acc) (n2:it≠d) (n3:acc≠d) (ki:kg w it=none) (ka:kg w acc=none) (kd:kg w d=none) (fi:h₀.get? it=none) (fa:h₀.get? acc=none) (fd:h₀.get? d=none) {s:Shared} (hA:AOk A 100) (hT:TopIn w.params s.heap) (hK0:Keeps h₀ s.heap [])
 (hb:h₀.get? bl=some (listO Lb ebl)) (hKB:KidsAt h₀ Lb kss) (hw:h₀.get? aw=some (listO Lw ew)) (hW:StrVs Lw ws)
 (hab:h₀.get? ab=some (listO [.int (.ofNat x1) t1, .int (.ofNat x2) t2] eb)) (hcb:s.heap.get? cb=some (cellO (.ref bl))) (hcw:s.heap.get? cw=some (cellO (.ref aw)))
 (hI:s.heap.get? it=some (av ab 1 tk)) (hacc:s.heap.get? acc=some (listO [v0] ea)) (hd:s.heap.get? d=some (dictO (e71 w kk vv) ed))
 (hDp:Dp kss 7 x2=true) (hlx:(laidF kss ws 7 x2).length≤1000)
 (H:∀(h':Heap) tk' tok ea' kk vv ed',Keeps s.heap h' [it,acc,d]→h'.get? it=some (av ab 2 0)→h'.get? acc=some (listO [v0, .str ⟨⟨laidF kss ws 7 x2⟩⟩ tok] ea')→h'.get? d=some (dictO (e71 w kk vv) ed')→codeAny (mm w) A (.compLoop gq 0 (.ref it) (.ref acc) (eM L d cb cw)) R ⟨h',s.gens,s.drawn,tk',s.os⟩):
  codeAny (mm w) A (.compLoop gq 0 (.ref it) (.ref acc) (eM L d cb cw)) R s:=by
 have hab':=hK0.kp hab
 have i1:=neF hab fi
 have i2:=neF hab fa
 have i3:=neF hab fd
 have j1:=apart hcb hI
 have j2:=apart hcb hacc
 have j3:=apart hcb hd
 have l1:=apart hcw hI
 have l2:=apart hcw hacc
 have l3:=apart hcw hd
 refine aj _ 3 hT (ag hab' (ag hcb (ag hcw (ag hI (ag hacc (ag hd ah)))))) (by kd_subs) (by tbr_iter (ai ki (ai ka kd))) (fun n t _=>?_)
 refine gRx hA.hd 28 [4,0,4,4,4,1,4,4,6,6,0,6,2,3,0] ?_
 kst_p
 refine gcK (.call (.ref 173) ⟨[.int (.ofNat x2) t2, .ref bl, .ref aw],[]⟩) (fun h D=>?_)
 have hK1:Keeps h₀ h []:=hK0.fresh D.keeps (by kd_in)
 kd_adr
 have⟨c3,w3⟩:=D.wK 3 it (av ab 2 0)
 have⟨c4,w4⟩:=D.wK 4 acc (listO [v0] ea)
 have⟨c5,w5⟩:=D.wK 5 d (dictO (e71 w kk (.int (.ofNat x2) t2)) ed)
 have c1:=D.cK 1 cb (cellO (.ref bl))
 have c2:=D.cK 2 cw (cellO (.ref aw))
 refine LC (hA.subN (by kd_p) 4 (by kd_p) (by kst_all)) D.kt (hK1.kp hb) (hKB.keep hK1) (hK1.kp hw) hW hDp hlx (fun h' tk' tok K=>?_)
 refine resume D K ax _ 3 (ag (K.kp (hK1.keep _ _ hab (by kd_mem))) (ag (K.kp c1) (ag (K.kp c2) (ag (K.kp c3) (ag (K.kp c4) (ag (K.kp c5) ah)))))) (by kd_subs) (by tbr_iter (ai w3 (ai w4 w5))) (fun n' _=>?_)
 refine gRx hA.hd 8 [0,5,5,5,5] ?_
 kst_p
 refine gaK (.compLoop gq 0 (.ref it) (.ref acc) (eM L d cb cw)) (fun h D=>?_)
 exact H h _ tok (ea+1) _ _ _ D.keeps (D.xK 3) (D.xK 4) (D.cell 5 (x:=dictO (e71 w kk (.int (.ofNat x2) t2)) ed) (by kd_p))
theorem lB {cw:Nat} {s:Shared} (hA:AOk A 20) (hT:TopIn w.params s.heap) (hab:s.heap.get? ab=some (listO Lk eb)) (hI:s.heap.get? it=some (av ab k tk)) (hlen:Lk.length≤k) (ki:kg w it=none)
 (H:∀(h':Heap) tk',Keeps s.heap h' [it]→R (.ok .next) ⟨h',s.gens,s.drawn,tk',s.os⟩):
  codeAny (mm w) A (.compLoop gq 0 (.ref it) (.ref acc) (eM L d cb cw)) R s:=by
 refine aj _ 1 hT (ag hab (ag hI ah)) ?ne ?kn (fun n t _=>?_)
 case ne=>tbr_iter (apart hab hI)
 case kn=>kd_in
 refine gPx hA.hd [] 4 [2,18,1,0,0,4] ?_
 intro zM zO
 refine gQx [Lk.length≤k] ⟨by assumption,trivial⟩ ?_
 refine gdK (.ok .next) (fun h D=>?_)
 exact H h _ D.keeps
noncomputable def la:Stmt→Expr
 | .Return (some (.IfExp t _ _ _)) _=>t
 | _=>default
noncomputable def cmpLeft:Expr→Expr
 | .Compare l _ _ _=>l
 | _=>default
noncomputable def inE:Expr:=cmpLeft (la ((dAt 22).2.1.getD 4 default))
@[reducible] noncomputable def fy (L d cy:Addr):Env:={ scope:=cG (bF inE) (dAt 22).2.2,locals:=d,globals:=3,cells:=[(sWay,cy)],qual:=qChg,func:=none,code:= .ref 191,frame:=some L,builtins:=0 }
theorem in_1 {b tb:Nat} {s:Shared} (hA:AOk A 20) (hT:TopIn w.params s.heap)
  (hc:s.heap.get? ac=some (listO [.int (.ofNat a) ta] ec)) (hcy:s.heap.get? cy=some (cellO (.ref yl))) (hy:s.heap.get? yl=some (listO Ly ey)) (hVy:IntVs Ly way) (ha:a∈way)
  (hI:s.heap.get? it=some (av ac 0 0)) (hacc:s.heap.get? acc=some (listO [] ea)) (hd:s.heap.get? d=some (dictO [] ed)) (n1:ac≠acc) (n2:yl≠acc) (ki:kg w it=none) (ka:kg w acc=none) (kd:kg w d=none)
  (H:∀(h':Heap) tk' kk vv ed' ea',Keeps s.heap h' [it,acc,d]→h'.get? acc=some (listO [] ea')→h'.get? d=some (dictO (e19 w kk vv) ed')→R (.ok .next) ⟨h',s.gens,s.drawn,tk',s.os⟩):
  codeAny (mm w) A (.compLoop inE 0 (.ref it) (.ref acc) (fy L d cy)) R s:=by
 have ma:db Ly a:=⟨way,hVy.1,hVy.2,ha⟩
 have m1:=apart hc hI
 have m2:=apart hc hd
 have m3:=apart hcy hI
 have m4:=apart hcy hacc
 have m5:=apart hcy hd
 have m6:=apart hy hI
 have m7:=apart hy hd
 have m8:=apart hI hacc
 have m9:=apart hI hd
 have m10:=apart hacc hd
 refine aj _ 3 hT (ag hc (ag hcy (ag hy (ag hI (ag hacc (ag hd ah)))))) (by kd_subs) (by tbr_iter (ai ki (ai ka kd))) (fun n t _=>?_)
 refine gPx hA.hd [] 43 [4,0,4,4,4,1,4,4,6,6,6,2,3,3,25,2,1,0,4,0,4,4,4,1,4,4,8] ?_
 intro zM zO
 refine gQx [db Ly a] ⟨by assumption,trivial⟩ ?_
 refine gdK (.ok .next) (fun h D=>?_)
 exact H h _ t (.int (.ofNat a) ta) (ed+1) (ea+0) D.keeps (D.xK 4) (D.xK 5)
theorem in_0 {b tb:Nat} {s:Shared} (hA:AOk A 20) (hT:TopIn w.params s.heap)
  (hc:s.heap.get? ac=some (listO [.int (.ofNat a) ta] ec)) (hcy:s.heap.get? cy=some (cellO (.ref yl))) (hy:s.heap.get? yl=some (listO Ly ey)) (hVy:IntVs Ly way) (ha:a∉way)
  (hI:s.heap.get? it=some (av ac 0 0)) (hacc:s.heap.get? acc=some (listO [] ea)) (hd:s.heap.get? d=some (dictO [] ed)) (n1:ac≠acc) (n2:yl≠acc) (ki:kg w it=none) (ka:kg w acc=none) (kd:kg w d=none)
  (H:∀(h':Heap) tk' kk vv ed' ea',Keeps s.heap h' [it,acc,d]→h'.get? acc=some (listO [.int (.ofNat a) ta] ea')→h'.get? d=some (dictO (e19 w kk vv) ed')→R (.ok .next) ⟨h',s.gens,s.drawn,tk',s.os⟩):
  codeAny (mm w) A (.compLoop inE 0 (.ref it) (.ref acc) (fy L d cy)) R s:=by
 have ma:bx Ly a:=⟨way,hVy.1,hVy.2,ha⟩
 have m1:=apart hc hI
 have m2:=apart hc hd
 have m3:=apart hcy hI
 have m4:=apart hcy hacc
 have m5:=apart hcy hd
 have m6:=apart hy hI
 have m7:=apart hy hd
 have m8:=apart hI hacc
 have m9:=apart hI hd
 have m10:=apart hacc hd
 refine aj _ 3 hT (ag hc (ag hcy (ag hy (ag hI (ag hacc (ag hd ah)))))) (by kd_subs) (by tbr_iter (ai ki (ai ka kd))) (fun n t _=>?_)
 refine gPx hA.hd [] 52 [4,0,4,4,4,1,4,4,6,6,6,2,3,3,25,2,0,0,6,0,5,5,5,5,4,0,4,4,4,1,4,4,8] ?_
 intro zM zO
 refine gQx [bx Ly a] ⟨by assumption,trivial⟩ ?_
 refine gdK (.ok .next) (fun h D=>?_)
 exact H h _ t (.int (.ofNat a) ta) (ed+1) (ea+1) D.keeps (D.xK 4) (D.xK 5)
theorem in_11 {s:Shared} (hA:AOk A 20) (hT:TopIn w.params s.heap)
  (hc:s.heap.get? ac=some (listO [.int (.ofNat a) ta, .int (.ofNat b) tb] ec)) (hcy:s.heap.get? cy=some (cellO (.ref yl))) (hy:s.heap.get? yl=some (listO Ly ey)) (hVy:IntVs Ly way) (ha:a∈way) (hb:b∈way)
  (hI:s.heap.get? it=some (av ac 0 0)) (hacc:s.heap.get? acc=some (listO [] ea)) (hd:s.heap.get? d=some (dictO [] ed)) (n1:ac≠acc) (n2:yl≠acc) (ki:kg w it=none) (ka:kg w acc=none) (kd:kg w d=none)
  (H:∀(h':Heap) tk' kk vv ed' ea',Keeps s.heap h' [it,acc,d]→h'.get? acc=some (listO [] ea')→h'.get? d=some (dictO (e19 w kk vv) ed')→R (.ok .next) ⟨h',s.gens,s.drawn,tk',s.os⟩):
  codeAny (mm w) A (.compLoop inE 0 (.ref it) (.ref acc) (fy L d cy)) R s:=by
 have ma:db Ly a:=⟨way,hVy.1,hVy.2,ha⟩
 have mb:db Ly b:=⟨way,hVy.1,hVy.2,hb⟩
 have m1:=apart hc hI
 have m2:=apart hc hd
 have m3:=apart hcy hI
 have m4:=apart hcy hacc
 have m5:=apart hcy hd
 have m6:=apart hy hI
 have m7:=apart hy hd
 have m8:=apart hI hacc
 have m9:=apart hI hd
 have m10:=apart hacc hd
 refine aj _ 3 hT (ag hc (ag hcy (ag hy (ag hI (ag hacc (ag hd ah)))))) (by kd_subs) (by tbr_iter (ai ki (ai ka kd))) (fun n t _=>?_)
 refine gPx hA.hd [] 70 [4,0,4,4,4,1,4,4,6,6,6,2,3,3,25,2,1,0,4,0,4,4,4,1,4,4,6,6,6,2,3,3,25,2,1,0,4,0,4,4,4,1,4,4,8] ?_
 intro zM zO
 refine gQx [db Ly b,db Ly a] ⟨by assumption,by assumption,trivial⟩ ?_
 refine gdK (.ok .next) (fun h D=>?_)
 exact H h _ t (.int (.ofNat b) tb) (ed+1) (ea+0) D.keeps (D.xK 4) (D.xK 5)
theorem in_10 {s:Shared} (hA:AOk A 20) (hT:TopIn w.params s.heap)
  (hc:s.heap.get? ac=some (listO [.int (.ofNat a) ta, .int (.ofNat b) tb] ec)) (hcy:s.heap.get? cy=some (cellO (.ref yl))) (hy:s.heap.get? yl=some (listO Ly ey)) (hVy:IntVs Ly way) (ha:a∈way) (hb:b∉way)
  (hI:s.heap.get? it=some (av ac 0 0)) (hacc:s.heap.get? acc=some (listO [] ea)) (hd:s.heap.get? d=some (dictO [] ed)) (n1:ac≠acc) (n2:yl≠acc) (ki:kg w it=none) (ka:kg w acc=none) (kd:kg w d=none)
  (H:∀(h':Heap) tk' kk vv ed' ea',Keeps s.heap h' [it,acc,d]→h'.get? acc=some (listO [.int (.ofNat b) tb] ea')→h'.get? d=some (dictO (e19 w kk vv) ed')→R (.ok .next) ⟨h',s.gens,s.drawn,tk',s.os⟩):
  codeAny (mm w) A (.compLoop inE 0 (.ref it) (.ref acc) (fy L d cy)) R s:=by
 have ma:db Ly a:=⟨way,hVy.1,hVy.2,ha⟩
 have mb:bx Ly b:=⟨way,hVy.1,hVy.2,hb⟩
 have m1:=apart hc hI
 have m2:=apart hc hd
 have m3:=apart hcy hI
 have m4:=apart hcy hacc
 have m5:=apart hcy hd
 have m6:=apart hy hI
 have m7:=apart hy hd
 have m8:=apart hI hacc
 have m9:=apart hI hd
 have m10:=apart hacc hd
 refine aj _ 3 hT (ag hc (ag hcy (ag hy (ag hI (ag hacc (ag hd ah)))))) (by kd_subs) (by tbr_iter (ai ki (ai ka kd))) (fun n t _=>?_)
 refine gPx hA.hd [] 79 [4,0,4,4,4,1,4,4,6,6,6,2,3,3,25,2,1,0,4,0,4,4,4,1,4,4,6,6,6,2,3,3,25,2,0,0,6,0,5,5,5,5,4,0,4,4,4,1,4,4,8] ?_
 intro zM zO
 refine gQx [bx Ly b,db Ly a] ⟨by assumption,by assumption,trivial⟩ ?_
 refine gdK (.ok .next) (fun h D=>?_)
 exact H h _ t (.int (.ofNat b) tb) (ed+1) (ea+1) D.keeps (D.xK 4) (D.xK 5)
theorem in_01 {s:Shared} (hA:AOk A 20) (hT:TopIn w.params s.heap)
  (hc:s.heap.get? ac=some (listO [.int (.ofNat a) ta, .int (.ofNat b) tb] ec)) (hcy:s.heap.get? cy=some (cellO (.ref yl))) (hy:s.heap.get? yl=some (listO Ly ey)) (hVy:IntVs Ly way) (ha:a∉way) (hb:b∈way)
  (hI:s.heap.get? it=some (av ac 0 0)) (hacc:s.heap.get? acc=some (listO [] ea)) (hd:s.heap.get? d=some (dictO [] ed)) (n1:ac≠acc) (n2:yl≠acc) (ki:kg w it=none) (ka:kg w acc=none) (kd:kg w d=none)
  (H:∀(h':Heap) tk' kk vv ed' ea',Keeps s.heap h' [it,acc,d]→h'.get? acc=some (listO [.int (.ofNat a) ta] ea')→h'.get? d=some (dictO (e19 w kk vv) ed')→R (.ok .next) ⟨h',s.gens,s.drawn,tk',s.os⟩):
  codeAny (mm w) A (.compLoop inE 0 (.ref it) (.ref acc) (fy L d cy)) R s:=by
 have ma:bx Ly a:=⟨way,hVy.1,hVy.2,ha⟩
 have mb:db Ly b:=⟨way,hVy.1,hVy.2,hb⟩
 have m1:=apart hc hI
 have m2:=apart hc hd
 have m3:=apart hcy hI
 have m4:=apart hcy hacc
 have m5:=apart hcy hd
 have m6:=apart hy hI
 have m7:=apart hy hd
 have m8:=apart hI hacc
 have m9:=apart hI hd
 have m10:=apart hacc hd
 refine aj _ 3 hT (ag hc (ag hcy (ag hy (ag hI (ag hacc (ag hd ah)))))) (by kd_subs) (by tbr_iter (ai ki (ai ka kd))) (fun n t _=>?_)
 refine gPx hA.hd [] 79 [4,0,4,4,4,1,4,4,6,6,6,2,3,3,25,2,0,0,6,0,5,5,5,5,4,0,4,4,4,1,4,4,6,6,6,2,3,3,25,2,1,0,4,0,4,4,4,1,4,4,8] ?_
 intro zM zO
 refine gQx [db Ly b,bx Ly a] ⟨by assumption,by assumption,trivial⟩ ?_
 refine gdK (.ok .next) (fun h D=>?_)
 exact H h _ t (.int (.ofNat b) tb) (ed+1) (ea+1) D.keeps (D.xK 4) (D.xK 5)
theorem in_00 {s:Shared} (hA:AOk A 20) (hT:TopIn w.params s.heap)
  (hc:s.heap.get? ac=some (listO [.int (.ofNat a) ta, .int (.ofNat b) tb] ec)) (hcy:s.heap.get? cy=some (cellO (.ref yl))) (hy:s.heap.get? yl=some (listO Ly ey)) (hVy:IntVs Ly way) (ha:a∉way) (hb:b∉way)
  (hI:s.heap.get? it=some (av ac 0 0)) (hacc:s.heap.get? acc=some (listO [] ea)) (hd:s.heap.get? d=some (dictO [] ed)) (n1:ac≠acc) (n2:yl≠acc) (ki:kg w it=none) (ka:kg w acc=none) (kd:kg w d=none)
  (H:∀(h':Heap) tk' kk vv ed' ea',Keeps s.heap h' [it,acc,d]→h'.get? acc=some (listO [.int (.ofNat a) ta, .int (.ofNat b) tb] ea')→h'.get? d=some (dictO (e19 w kk vv) ed')→R (.ok .next) ⟨h',s.gens,s.drawn,tk',s.os⟩):
  codeAny (mm w) A (.compLoop inE 0 (.ref it) (.ref acc) (fy L d cy)) R s:=by
 have ma:bx Ly a:=⟨way,hVy.1,hVy.2,ha⟩
 have mb:bx Ly b:=⟨way,hVy.1,hVy.2,hb⟩
 have m1:=apart hc hI
 have m2:=apart hc hd
 have m3:=apart hcy hI
 have m4:=apart hcy hacc
 have m5:=apart hcy hd
 have m6:=apart hy hI
 have m7:=apart hy hd
 have m8:=apart hI hacc
 have m9:=apart hI hd
 have m10:=apart hacc hd
 refine aj _ 3 hT (ag hc (ag hcy (ag hy (ag hI (ag hacc (ag hd ah)))))) (by kd_subs) (by tbr_iter (ai ki (ai ka kd))) (fun n t _=>?_)
 refine gPx hA.hd [] 88 [4,0,4,4,4,1,4,4,6,6,6,2,3,3,25,2,0,0,6,0,5,5,5,5,4,0,4,4,4,1,4,4,6,6,6,2,3,3,25,2,0,0,6,0,5,5,5,5,4,0,4,4,4,1,4,4,8] ?_
 intro zM zO
 refine gQx [bx Ly b,bx Ly a] ⟨by assumption,by assumption,trivial⟩ ?_
 refine gdK (.ok .next) (fun h D=>?_)
 exact H h _ t (.int (.ofNat b) tb) (ed+1) (ea+2) D.keeps (D.xK 4) (D.xK 5)
theorem ic {s:Heap} (K:Keeps s h (a :: ex)) (e0:s.get? a=some o') (e:h.get? a=some o) (al:o.isFreed=false):Keeps (s.update a (fun _=>o)) h ex∧(∀b,b≠a→(s.update a (fun _=>o)).get? b=s.get? b):=by
 have other:∀b,b≠a→(s.update a (fun _=>o)).get? b=s.get? b:=fun b hb=>Heap.get?_update_other s _ (Ne.symm hb)
 refine⟨⟨fun b p q hb=>?_,?_⟩,other⟩
 ·by_cases hba:b=a
  ·subst hba
   rw[Heap.get?_update_self (fun _=>o) e0 al] at q
   cases q;exact e
  ·rw[other b hba] at q
   exact K.kq q (by tbr_iter (ai hba hb))
 ·rw[(Heap.SameBut.update (f:=fun _=>o) ..).1];exact K.size
noncomputable def chS1:List Stmt:=(dAt 22).2.1.take 2
@[reducible] noncomputable def cu (L cy cw cb:Addr):Env:={ fenv (dAt 22) qChg 192 191 L with cells:=[(sWay,cy),(cg,cw),(cQ,cb)] }
@[reducible] noncomputable def e22 (w:World) (k1 k2:Nat) (v1 v2:Value):List DictEntry:=[ent w.params ej k1 v1,ent w.params bp k2 v2]
@[reducible] noncomputable def e23 (w:World) (k1 k2 k3 k4 k5:Nat) (v1 v2 v3 v4 v5:Value):List DictEntry:=[ent w.params ej k1 v1,ent w.params bp k2 v2,ent w.params dt k3 v3,ent w.params fM k4 v4,ent w.params hH k5 v5]
@[reducible] noncomputable def e24 (w:World) (k1 k2 k3:Nat) (v1 v2 v3:Value):List DictEntry:=[ent w.params ej k1 v1,ent w.params bp k2 v2,ent w.params dt k3 v3]
theorem chg_p1a (LC:bo w kss ws 7) {s:Shared} {cw b tb:Nat} (hA:AOk A 150) (hT:TopIn w.params s.heap)
  (hc:s.heap.get? ac=some (listO [.int (.ofNat a) ta] ec)) (hb:s.heap.get? bl=some (listO Lb ebl)) (hKB:KidsAt s.heap Lb kss) (hw:s.heap.get? aw=some (listO Lw ew)) (hW:StrVs Lw ws)
  (hL:s.heap.get? L=some (frame (e22 w j1 j2 (.ref ac) (.ref aa)) 2)) (hcb:s.heap.get? cb=some (cellO (.ref bl))) (hcw:s.heap.get? cw=some (cellO (.ref aw))) (hcy:s.heap.get? cy=some ⟨.type "cell",none, .cell none, #[]⟩) (kL:kg w L=none) (kY:kg w cy=none) (nbw:cb≠cy∧cw≠cy)
  (hm7:a<7) (hib:Lb[a]? = some (.ref ab)) (hab:s.heap.get? ab=some (listO [.int (.ofNat x1) t1, .int (.ofNat x2) t2] eb))
  (d1:Dp kss 7 x1=true) (d2:Dp kss 7 x2=true) (lx1:(laidF kss ws 7 x1).length≤400) (lx2:(laidF kss ws 7 x2).length≤400)
  (H:∀(h':Heap) tk' yl j3 j4 j5 cU aX,Keeps s.heap h' [L,cy]→s.heap.get? yl=none→kg w yl=none→h'.get? L=some (frame (e23 w j1 j2 j3 j4 j5 (.ref ac) (.ref aa) (.int (.ofNat a) ta) (.str ⟨⟨laidF kss ws 7 x1⟩⟩ cU) (.str ⟨⟨laidF kss ws 7 x2⟩⟩ aX)) 5)→h'.get? cy=some (cellO (.ref yl))→h'.get? yl=some (listO [.int (.ofNat a) ta] 0)→Q .next ⟨h',s.gens,s.drawn,tk',s.os⟩):
  wpAny (mm w) A (execs chS1 (cu L cy cw cb)) Q E s:=by
 have hm63:a<2^63:=by kst_all
 have n1:=apart hc hL
 have n2:=apart hc hcy
 have n3:=apart hb hL
 have n4:=apart hb hcy
 have n5:=apart hab hL
 have n6:=apart hab hcy
 have n7:=apart hcb hL
 have n8:=apart hcw hL
 have n9:=(apart hcy hL).symm
 refine aF (w:=w) (l:=[(ac,_),(bl,_),(ab,_),(cb,_),(cw,_),(L,_),(cy,_)]) 5 hT (ag hc (ag hb (ag hab (ag hcb (ag hcw (ag hL (ag hcy ah))))))) (by kd_subs) (by tbr_iter (ai kL kY)) (fun n t hn=>?_)
 refine gPx hA.hd [Value.ref ab] 197 [0,0,6,0,1,1,0,1,8,9,8,0,8,8,8,1,8,8,9,9,9,9,8,0,8,8,8,1,8,8,11,9,9,9,0,0,6,0,1,1,0,1,12,13,12,0,12,12,12,1,12,12,13,13,13,13,12,0,12,12,12,1,12,12,15,13,13,13,17,17,17,0,17,18,18,0,18,18,18,17,18,18,18,0,18,18,18,17,18,18,18,0,18,18,18,17,18,18,20,6,6,7,7,4,6,2,2,2,15,1,0,0,3,3,0,3,21] ?_
 intro zM zO
 refine gQx [Lb[a]? = some (Value.ref ab),a<2^63] ⟨by assumption,by assumption,trivial⟩ ?_
 have f0:∀k,s.heap.get? (n+k)=none:=aC (Nat.le_of_eq hn)
 refine gcK (.compStart gq 0 (.ref (n+13)) (.ref (n+14)) (eM L (n+15) cb cw)) (fun h D=>?_)
 kd_adr
 have⟨d5,w5⟩:=D.wK 5 L (frame (e24 w j1 j2 t (.ref ac) (.ref aa) (.int (.ofNat a) ta)) 3)
 have⟨d6,w6⟩:=D.wK 6 cy (cellO (.ref (n+8)))
 have⟨d15,w15⟩:=D.wK 15 (n+8) (listO [.int (.ofNat a) ta] 0)
 have⟨d20,w20⟩:=D.wK 20 (n+13) (av ab 0 0)
 have⟨d21,w21⟩:=D.wK 21 (n+14) (listO [] 0)
 have⟨d22,w22⟩:=D.wK 22 (n+15) (dictO [] 0)
 have KD:Keeps s.heap h [L,cy]:=D.keeps
 have TD:TopIn w.params h:=D.kt
 have hb1:=D.cK 1 bl (listO Lb ebl)
 have hab1:=D.cK 2 ab (listO [.int (.ofNat x1) t1, .int (.ofNat x2) t2] eb)
 have oU:=D.cK 3 cb (cellO (.ref bl))
 have oT:=D.cK 4 cw (cellO (.ref aw))
 have hw1:h.get? aw=some (listO Lw ew):=KD.kq hw (by tbr_iter (ai (apart hw hL) (apart hw hcy)))
 have hKB1:KidsAt h Lb kss:=KidsAt.keepL KD hKB (fun i b e=>by obtain⟨b',Ly,ey,q1,q2,_⟩:=hKB.2 i _ (hKB.row e);rw[q1] at e;cases e;simp;exact⟨apart q2 hL,apart q2 hcy⟩)
 refine aM (by kd_p) d20 ?_
 have Lcy:cy≠L:=(Ne.symm n9)
 obtain⟨P1,o1⟩:=ic KD hL d5 rfl
 obtain⟨P2,o2⟩:=ic P1 (by rw[o1 _ Lcy];exact hcy) d6 rfl
 generalize (s.heap.update L _).update cy _=h₀ at P2 o2
 have o3:∀b,b≠L→b≠cy→h₀.get? b=s.heap.get? b:=fun b q1 q2=>by rw[o2 b q2,o1 b q1]
 have g0:∀k,h₀.get? (n+k)=none:=fun k=>by
  have fk:=f0 k
  rw[o3]
  ·exact fk
  ·intro q;rw[q,hL] at fk;cases fk
  ·intro q;rw[q,hcy] at fk;cases fk
 have hb0:h₀.get? bl=some (listO Lb ebl):=by rw[o3 _ (by tbr_iter n3) (by tbr_iter n4)];exact hb
 have hw0:h₀.get? aw=some (listO Lw ew):=by rw[o3 _ (apart hw hL) (apart hw hcy)];exact hw
 have fW:h₀.get? ab=some (listO [.int (.ofNat x1) t1, .int (.ofNat x2) t2] eb):=by rw[o3 _ (by tbr_iter n5) (by tbr_iter n6)];exact hab
 have ip:KidsAt h₀ Lb kss:=⟨hKB.1,fun i x e=>by
  kd_adr
  obtain⟨b',Ly,ey,q1,q2,q3⟩:=hKB.2 i x e
  exact⟨b',Ly,ey,q1,by rw[o3 _ (apart q2 hL) (apart q2 hcy)];exact q2,q3⟩⟩
 have kx:∀a∈([n+13,n+14,n+15]:List Addr),kg w a=none:=by tbr_iter (ai w20.kn (ai w21.kn w22.kn))
 have fx:∀a∈([n+13,n+14,n+15]:List Addr),h₀.get? a=none:=by tbr_iter (ai (g0 13) (ai (g0 14) (g0 15)))
 refine gK (kk:=0) (v0:= .none) (vv:= .none) (x2:=x2) (t2:=t2) LC (h₀:=h₀) (by kst_all) (by kst_all) (by kst_all) w20.kn w21.kn w22.kn (g0 13) (g0 14) (g0 15) (hA.subN (by kd_p) 6 (by kd_p) (by kst_all)) TD P2 hb0 ip hw0 hW fW oU oT d20 d21 d22 d1 (by kst_all) (fun h1 tk1 cU ea1 kk1 vv1 ed1 K1 i1 q1 r1=>?_)
 have S1:=P2.fresh K1 fx
 have T1:=K1.top TD kx
 refine gJ (x1:=x1) (t1:=t1) LC (h₀:=h₀) (by kst_all) (by kst_all) (by kst_all) w20.kn w21.kn w22.kn (g0 13) (g0 14) (g0 15) (hA.subN (by kd_p) 6 (by kd_p) (by kst_all)) T1 S1 hb0 ip hw0 hW fW (K1.kq oU (by tbr_iter (ai (neF hcb (f0 13)) (ai (neF hcb (f0 14)) (neF hcb (f0 15)))))) (K1.kq oT (by tbr_iter (ai (neF hcw (f0 13)) (ai (neF hcw (f0 14)) (neF hcw (f0 15)))))) i1 q1 r1 d2 (by kst_all) (fun h2 tk2 aX ea2 kk2 vv2 ed2 K2 i2 q2 r2=>?_)
 have S2:=S1.fresh K2 fx
 refine lB (hA.subN (by kd_p) 6 (by kd_p) (by kst_all)) (K2.top T1 kx) (S2.kp fW) i2 (by kd_mem) w20.kn (fun h3 tk3 K3=>?_)
 have K:Keeps h h3 [n+13,n+14,n+15]:=(((K1.trans K2).trans K3).mono (by kd_mem))
 have q3:=K3.kp q2
 have r3:=K3.kp r2
 have T3:=K.top TD kx
 have kL3:h3.get? L=some (frame (e24 w j1 j2 t (.ref ac) (.ref aa) (.int (.ofNat a) ta)) 3):=K.kq d5 (by tbr_iter (ai (neF hL (f0 13)) (ai (neF hL (f0 14)) (neF hL (f0 15)))))
 have kC3:h3.get? cy=some (cellO (.ref (n+8))):=K.kq d6 (by tbr_iter (ai (neF hcy (f0 13)) (ai (neF hcy (f0 14)) (neF hcy (f0 15)))))
 have kY3:h3.get? (n+8)=some (listO [.int (.ofNat a) ta] 0):=K.kp d15
 have m1:=neF hL (f0 15)
 have m2:=neF hL (f0 14)
 have m3:=neF hL (f0 8)
 have m4:=neF hcy (f0 15)
 have m5:=neF hcy (f0 14)
 have m6:=neF hcy (f0 8)
 have m1':=Ne.symm m1
 have m2':=Ne.symm m2
 have m3':=Ne.symm m3
 have m4':=Ne.symm m4
 have m5':=Ne.symm m5
 have m6':=Ne.symm m6
 refine resume D K (an w20 (an w21 (an w22 ax))) [(n+15,_),(n+14,_),(L,_),(cy,_),(n+8,_)] 0 (ag r3 (ag q3 (ag kL3 (ag kC3 (ag kY3 ah))))) (by kd_subs) (by tbr_iter (ai w22 (ai w21 (ai w5 (ai w6 w15))))) (fun n1 _=>?_)
 refine gRx hA.hd 65 [1,1,1,2,2,2,0,2,6,6,0,6,6,6,2,6,6,6,0,6,6,6,2,6,6,6,0,6,6,6,2,6,6,8,3,3,3,3] ?_
 kst_p
 refine ggK s (.next) (fun h4 t4 D4=>?_)
 exact H h4 t4 (n+8) _ _ _ _ _ D4.keeps (f0 8) w15.kn (D4.cell 2 (x:=frame (e23 w j1 j2 t tk3 (tk3+1) (.ref ac) (.ref aa) (.int (.ofNat a) ta) (.str ⟨⟨laidF kss ws 7 x1⟩⟩ cU) (.str ⟨⟨laidF kss ws 7 x2⟩⟩ aX)) 5) (by kd_p)) (D4.xK 3) (D4.xK 4)
theorem chg_p1b (LC:bo w kss ws 7) {s:Shared} {cw:Nat} (hA:AOk A 150) (hT:TopIn w.params s.heap)
  (hc:s.heap.get? ac=some (listO [.int (.ofNat a) ta, .int (.ofNat b) tb] ec)) (hb:s.heap.get? bl=some (listO Lb ebl)) (hKB:KidsAt s.heap Lb kss) (hw:s.heap.get? aw=some (listO Lw ew)) (hW:StrVs Lw ws)
  (hL:s.heap.get? L=some (frame (e22 w j1 j2 (.ref ac) (.ref aa)) 2)) (hcb:s.heap.get? cb=some (cellO (.ref bl))) (hcw:s.heap.get? cw=some (cellO (.ref aw))) (hcy:s.heap.get? cy=some ⟨.type "cell",none, .cell none, #[]⟩) (kL:kg w L=none) (kY:kg w cy=none) (nbw:cb≠cy∧cw≠cy)
  (mJ:a<b) (hm7:b<7) (hib:Lb[b]? = some (.ref ab)) (hab:s.heap.get? ab=some (listO [.int (.ofNat x1) t1, .int (.ofNat x2) t2] eb))
  (d1:Dp kss 7 x1=true) (d2:Dp kss 7 x2=true) (lx1:(laidF kss ws 7 x1).length≤400) (lx2:(laidF kss ws 7 x2).length≤400)
  (H:∀(h':Heap) tk' yl j3 j4 j5 cU aX,Keeps s.heap h' [L,cy]→s.heap.get? yl=none→kg w yl=none→h'.get? L=some (frame (e23 w j1 j2 j3 j4 j5 (.ref ac) (.ref aa) (.int (.ofNat b) tb) (.str ⟨⟨laidF kss ws 7 x1⟩⟩ cU) (.str ⟨⟨laidF kss ws 7 x2⟩⟩ aX)) 5)→h'.get? cy=some (cellO (.ref yl))→h'.get? yl=some (listO [.int (.ofNat b) tb] 0)→Q .next ⟨h',s.gens,s.drawn,tk',s.os⟩):
  wpAny (mm w) A (execs chS1 (cu L cy cw cb)) Q E s:=by
 have hm63:b<2^63:=by kst_all
 have n1:=apart hc hL
 have n2:=apart hc hcy
 have n3:=apart hb hL
 have n4:=apart hb hcy
 have n5:=apart hab hL
 have n6:=apart hab hcy
 have n7:=apart hcb hL
 have n8:=apart hcw hL
 have n9:=(apart hcy hL).symm
 refine aF (w:=w) (l:=[(ac,_),(bl,_),(ab,_),(cb,_),(cw,_),(L,_),(cy,_)]) 5 hT (ag hc (ag hb (ag hab (ag hcb (ag hcw (ag hL (ag hcy ah))))))) (by kd_subs) (by tbr_iter (ai kL kY)) (fun n t hn=>?_)
 refine gPx hA.hd [Value.ref ab] 237 [0,0,6,0,1,1,0,1,8,9,8,0,8,8,8,1,8,8,9,9,9,9,8,0,8,8,8,1,8,8,10,0,1,0,9,9,9,9,8,0,8,8,8,1,8,8,11,9,9,9,0,0,6,0,1,1,0,1,12,13,12,0,12,12,12,1,12,12,13,13,13,13,12,0,12,12,12,1,12,12,10,0,1,0,13,13,13,13,12,0,12,12,12,1,12,12,15,13,13,13,17,17,17,0,17,18,18,0,18,18,18,17,18,18,18,0,18,18,18,17,18,18,18,0,18,18,18,17,18,18,20,6,6,7,7,4,6,2,2,2,15,1,0,0,3,3,0,3,21] ?_
 intro zM zO
 refine gQx [Lb[b]? = some (Value.ref ab),b<2^63,a<b,a<b] ⟨by assumption,by assumption,by assumption,by assumption,trivial⟩ ?_
 have f0:∀k,s.heap.get? (n+k)=none:=aC (Nat.le_of_eq hn)
 refine gcK (.compStart gq 0 (.ref (n+13)) (.ref (n+14)) (eM L (n+15) cb cw)) (fun h D=>?_)
 kd_adr
 have⟨d5,w5⟩:=D.wK 5 L (frame (e24 w j1 j2 t (.ref ac) (.ref aa) (.int (.ofNat b) tb)) 3)
 have⟨d6,w6⟩:=D.wK 6 cy (cellO (.ref (n+8)))
 have⟨d15,w15⟩:=D.wK 15 (n+8) (listO [.int (.ofNat b) tb] 0)
 have⟨d20,w20⟩:=D.wK 20 (n+13) (av ab 0 0)
 have⟨d21,w21⟩:=D.wK 21 (n+14) (listO [] 0)
 have⟨d22,w22⟩:=D.wK 22 (n+15) (dictO [] 0)
 have KD:Keeps s.heap h [L,cy]:=D.keeps
 have TD:TopIn w.params h:=D.kt
 have hb1:=D.cK 1 bl (listO Lb ebl)
 have hab1:=D.cK 2 ab (listO [.int (.ofNat x1) t1, .int (.ofNat x2) t2] eb)
 have oU:=D.cK 3 cb (cellO (.ref bl))
 have oT:=D.cK 4 cw (cellO (.ref aw))
 have hw1:h.get? aw=some (listO Lw ew):=KD.kq hw (by tbr_iter (ai (apart hw hL) (apart hw hcy)))
 have hKB1:KidsAt h Lb kss:=KidsAt.keepL KD hKB (fun i b e=>by obtain⟨b',Ly,ey,q1,q2,_⟩:=hKB.2 i _ (hKB.row e);rw[q1] at e;cases e;simp;exact⟨apart q2 hL,apart q2 hcy⟩)
 refine aM (by kd_p) d20 ?_
 have Lcy:cy≠L:=(Ne.symm n9)
 obtain⟨P1,o1⟩:=ic KD hL d5 rfl
 obtain⟨P2,o2⟩:=ic P1 (by rw[o1 _ Lcy];exact hcy) d6 rfl
 generalize (s.heap.update L _).update cy _=h₀ at P2 o2
 have o3:∀b,b≠L→b≠cy→h₀.get? b=s.heap.get? b:=fun b q1 q2=>by rw[o2 b q2,o1 b q1]
 have g0:∀k,h₀.get? (n+k)=none:=fun k=>by
  have fk:=f0 k
  rw[o3]
  ·exact fk
  ·intro q;rw[q,hL] at fk;cases fk
  ·intro q;rw[q,hcy] at fk;cases fk
 have hb0:h₀.get? bl=some (listO Lb ebl):=by rw[o3 _ (by tbr_iter n3) (by tbr_iter n4)];exact hb
 have hw0:h₀.get? aw=some (listO Lw ew):=by rw[o3 _ (apart hw hL) (apart hw hcy)];exact hw
 have fW:h₀.get? ab=some (listO [.int (.ofNat x1) t1, .int (.ofNat x2) t2] eb):=by rw[o3 _ (by tbr_iter n5) (by tbr_iter n6)];exact hab
 have ip:KidsAt h₀ Lb kss:=⟨hKB.1,fun i x e=>by
  kd_adr
  obtain⟨b',Ly,ey,q1,q2,q3⟩:=hKB.2 i x e
  exact⟨b',Ly,ey,q1,by rw[o3 _ (apart q2 hL) (apart q2 hcy)];exact q2,q3⟩⟩
 have kx:∀a∈([n+13,n+14,n+15]:List Addr),kg w a=none:=by tbr_iter (ai w20.kn (ai w21.kn w22.kn))
 have fx:∀a∈([n+13,n+14,n+15]:List Addr),h₀.get? a=none:=by tbr_iter (ai (g0 13) (ai (g0 14) (g0 15)))
 refine gK (kk:=0) (v0:= .none) (vv:= .none) (x2:=x2) (t2:=t2) LC (h₀:=h₀) (by kst_all) (by kst_all) (by kst_all) w20.kn w21.kn w22.kn (g0 13) (g0 14) (g0 15) (hA.subN (by kd_p) 6 (by kd_p) (by kst_all)) TD P2 hb0 ip hw0 hW fW oU oT d20 d21 d22 d1 (by kst_all) (fun h1 tk1 cU ea1 kk1 vv1 ed1 K1 i1 q1 r1=>?_)
 have S1:=P2.fresh K1 fx
 have T1:=K1.top TD kx
 refine gJ (x1:=x1) (t1:=t1) LC (h₀:=h₀) (by kst_all) (by kst_all) (by kst_all) w20.kn w21.kn w22.kn (g0 13) (g0 14) (g0 15) (hA.subN (by kd_p) 6 (by kd_p) (by kst_all)) T1 S1 hb0 ip hw0 hW fW (K1.kq oU (by tbr_iter (ai (neF hcb (f0 13)) (ai (neF hcb (f0 14)) (neF hcb (f0 15)))))) (K1.kq oT (by tbr_iter (ai (neF hcw (f0 13)) (ai (neF hcw (f0 14)) (neF hcw (f0 15)))))) i1 q1 r1 d2 (by kst_all) (fun h2 tk2 aX ea2 kk2 vv2 ed2 K2 i2 q2 r2=>?_)
 have S2:=S1.fresh K2 fx
 refine lB (hA.subN (by kd_p) 6 (by kd_p) (by kst_all)) (K2.top T1 kx) (S2.kp fW) i2 (by kd_mem) w20.kn (fun h3 tk3 K3=>?_)
 have K:Keeps h h3 [n+13,n+14,n+15]:=(((K1.trans K2).trans K3).mono (by kd_mem))
 have q3:=K3.kp q2
 have r3:=K3.kp r2
 have T3:=K.top TD kx
 have kL3:h3.get? L=some (frame (e24 w j1 j2 t (.ref ac) (.ref aa) (.int (.ofNat b) tb)) 3):=K.kq d5 (by tbr_iter (ai (neF hL (f0 13)) (ai (neF hL (f0 14)) (neF hL (f0 15)))))
 have kC3:h3.get? cy=some (cellO (.ref (n+8))):=K.kq d6 (by tbr_iter (ai (neF hcy (f0 13)) (ai (neF hcy (f0 14)) (neF hcy (f0 15)))))
 have kY3:h3.get? (n+8)=some (listO [.int (.ofNat b) tb] 0):=K.kp d15
 have m1:=neF hL (f0 15)
 have m2:=neF hL (f0 14)
 have m3:=neF hL (f0 8)
 have m4:=neF hcy (f0 15)
 have m5:=neF hcy (f0 14)
 have m6:=neF hcy (f0 8)
 have m1':=Ne.symm m1
 have m2':=Ne.symm m2
 have m3':=Ne.symm m3
 have m4':=Ne.symm m4
 have m5':=Ne.symm m5
 have m6':=Ne.symm m6
 refine resume D K (an w20 (an w21 (an w22 ax))) [(n+15,_),(n+14,_),(L,_),(cy,_),(n+8,_)] 0 (ag r3 (ag q3 (ag kL3 (ag kC3 (ag kY3 ah))))) (by kd_subs) (by tbr_iter (ai w22 (ai w21 (ai w5 (ai w6 w15))))) (fun n1 _=>?_)
 refine gRx hA.hd 65 [1,1,1,2,2,2,0,2,6,6,0,6,6,6,2,6,6,6,0,6,6,6,2,6,6,6,0,6,6,6,2,6,6,8,3,3,3,3] ?_
 kst_p
 refine ggK s (.next) (fun h4 t4 D4=>?_)
 exact H h4 t4 (n+8) _ _ _ _ _ D4.keeps (f0 8) w15.kn (D4.cell 2 (x:=frame (e23 w j1 j2 t tk3 (tk3+1) (.ref ac) (.ref aa) (.int (.ofNat b) tb) (.str ⟨⟨laidF kss ws 7 x1⟩⟩ cU) (.str ⟨⟨laidF kss ws 7 x2⟩⟩ aX)) 5) (by kd_p)) (D4.xK 3) (D4.xK 4)
noncomputable def eN:List Stmt:=(dAt 22).2.1.drop 4
noncomputable def ifB:Stmt→Expr
 | .Return (some (.IfExp _ b _ _)) _=>b
 | _=>default
noncomputable def ifO:Stmt→Expr
 | .Return (some (.IfExp _ _ o _)) _=>o
 | _=>default
noncomputable def kj:Expr:=ifB ((dAt 22).2.1.getD 4 default)
noncomputable def f7:Expr:=ifO ((dAt 22).2.1.getD 4 default)
noncomputable def chCmpR:Expr:=jX (la ((dAt 22).2.1.getD 4 default))
theorem gM:∃p1 p2 p3,eN=[.Return (some (.IfExp (.Compare inE [.Eq] [chCmpR] p1) kj f7 p2)) p3]:=⟨_,_,_,rfl⟩
@[reducible] noncomputable def e25 (w:World) (k1 k2 k3 k4 k5 k6:Nat) (v1 v2 v3 v4 v5 v6:Value):List DictEntry:=[ent w.params ej k1 v1,ent w.params bp k2 v2,ent w.params dt k3 v3,ent w.params fM k4 v4,ent w.params hH k5 v5,ent w.params aV k6 v6]
theorem pg {s:Shared} {cw b tb:Nat} (hA:AOk A 60) (hT:TopIn w.params s.heap)
  (hc:s.heap.get? ac=some (listO [.int (.ofNat a) ta] ec)) (hL:s.heap.get? L=some (frame ((e25 w j1 j2 j3 j4 j5 j6 (.ref ac) (.ref aa) (.int (.ofNat 0) tn) u4 u5 (.int (.ofNat p) tp))++tl) e)) (hcy:s.heap.get? cy=some (cellO (.ref yl))) (hy:s.heap.get? yl=some (listO Ly ey)) (hVy:IntVs Ly way) (ha:a∈way)
  (H:∀(h':Heap) tk' tok,Keeps s.heap h' []→Q (.ret (.int (.ofNat p) tok)) ⟨h',s.gens,s.drawn,tk',s.os⟩):
  wpAny (mm w) A (execs eN (cu L cy cw cb)) Q E s:=by
 kd_adr
 obtain⟨p1,p2,p3,eR⟩:=gM
 refine bU ?_
 intro zQ zE
 refine aH eR ?_
 refine wpAny_execs_cons (wpAny_Return_some (wpAny_IfExp ?_))
 refine wpAny_isTrue_Compare1 ?_
 refine aE (w:=w) (l:=[(ac,_),(yl,_),(cy,_),(L,_)]) 4 hT (ag hc (ag hy (ag hcy (ag hL ah)))) (by kd_subs) (by kd_mem) (fun n t hn=>?_)
 refine gRx hA.hd 14 [4,1,1,0,1,5] ?_
 kst_p
 have f0:∀k,s.heap.get? (n+k)=none:=aC (Nat.le_of_eq hn)
 refine gcK (.compStart inE 0 (.ref n) (.ref (n+1)) (fy L (n+2) cy)) (fun h D=>?_)
 kd_adr
 have⟨s4,z4⟩:=D.wK 4 n (av ac 0 0)
 have⟨s5,z5⟩:=D.wK 5 (n+1) (listO [] 0)
 have⟨s6,z6⟩:=D.wK 6 (n+2) (dictO [] 0)
 have KD:Keeps s.heap h []:=D.keeps
 have y1:ac≠n+1:=neF hc (f0 1)
 have y2:yl≠n+1:=neF hy (f0 1)
 have s1:h.get? ac=some (listO [.int (.ofNat a) ta] ec):=KD.kp hc
 have s2:h.get? yl=some (listO Ly ey):=KD.kp hy
 have s3:h.get? cy=some (cellO (.ref yl)):=KD.kp hcy
 refine aM (by kd_p) s4 ?_
 refine in_1 (b:=0) (tb:=0) (hA.subN (by kd_p) 6 (by kd_p) (by kst_all)) D.kt s1 s3 s2 hVy ha s4 s5 s6 y1 y2 z4.kn z5.kn z6.kn (fun h1 t1 kk vv ed ea K1 x1 x2=>?_)
 have L1:h1.get? L=some (frame ((e25 w j1 j2 j3 j4 j5 j6 (.ref ac) (.ref aa) (.int (.ofNat 0) tn) u4 u5 (.int (.ofNat p) tp))++tl) e):=K1.kq (KD.keep _ _ hL (by kd_mem)) (by tbr_iter (ai (neF hL (f0 0)) (ai (neF hL (f0 1)) (neF hL (f0 2)))))
 have m1:=neF hL (f0 1)
 have m2:=neF hL (f0 2)
 refine resume D K1 (an z4 (an z5 (an z6 ax))) [(L,_),(n+1,_),(n+2,_)] 1 (ag L1 (ag x1 (ag x2 ah))) (by simp[Dis,m1,m2,Ne.symm m1,Ne.symm m2]) (by tbr_iter (ai z5 z6)) (fun n1 hn1=>?_)
 refine gRx hA.hd 5 [3,3,3] ?_
 kst_p
 refine ggK s (.ret (.ref (n+1))) (fun h2 t2 D2=>?_)
 have K2:Keeps s.heap h2 []:=D2.keeps
 have gg:=D2.cK 1 (n+1) (listO [] ea)
 have T2:TopIn w.params h2:=D2.kt
 refine aE (w:=w) (l:=[]) 0 T2 ah (by kd_subs) (by kd_mem) (fun n3 t3 hn3=>?_)
 refine gRx hA.hd 2 [] ?_
 kst_p
 refine ggK s (.ret (.ref n3)) (fun h4 t4 D4=>?_)
 have K4:Keeps h2 h4 []:=D4.keeps
 have em4:=D4.cK 0 n3 (listO [] 0)
 have gc:=K4.kp gg
 have T4:TopIn w.params h4:=D4.kt
 have hu:=hA.un
 show wpAny _ _ (richCompare .Eq (.ref (n+1)) (.ref n3)) _ _ _
 refine RcAt.lists (items:= #[]) (items2:= #[]) (e:=fun _=>true) ⟨_,gc,rfl,_,rfl⟩ ⟨_,em4,rfl,_,rfl⟩ rfl (by kst_all) (fun j h1 _=>absurd h1 (by kd_mem)) _ _ _ _ ?_
 refine wpAny_truthy_bool ?_
 show wpAny _ _ (eval kj _) _ _ _
 have K04:Keeps s.heap h4 []:=(K2.trans K4).mono (by kd_mem)
 refine aE (w:=w) (l:=[(L,_)]) 1 T4 (ag (K04.kp hL) ah) (by kd_subs) (by kd_mem) (fun n5 t5 hn5=>?_)
 refine gRx hA.hd 2 [1] ?_
 kst_p
 refine ggK s (.ret (.int (.ofNat p) tp)) (fun h6 t6 D6=>?_)
 have K6:Keeps h4 h6 []:=D6.keeps
 exact H h6 t6 _ ((K04.trans K6).mono (by kd_mem))
theorem ph {s:Shared} {cw b tb:Nat} (hA:AOk A 60) (hT:TopIn w.params s.heap)
  (hc:s.heap.get? ac=some (listO [.int (.ofNat a) ta] ec)) (hL:s.heap.get? L=some (frame ((e25 w j1 j2 j3 j4 j5 j6 (.ref ac) (.ref aa) (.int (.ofNat 0) tn) u4 u5 (.int (.ofNat p) tp))++tl) e)) (hcy:s.heap.get? cy=some (cellO (.ref yl))) (hy:s.heap.get? yl=some (listO Ly ey)) (hVy:IntVs Ly way) (ha:a∉way)
  (H:∀(h':Heap) tk' tok,Keeps s.heap h' []→Q (.ret (.int (.ofNat 0) tok)) ⟨h',s.gens,s.drawn,tk',s.os⟩):
  wpAny (mm w) A (execs eN (cu L cy cw cb)) Q E s:=by
 kd_adr
 obtain⟨p1,p2,p3,eR⟩:=gM
 refine bU ?_
 intro zQ zE
 refine aH eR ?_
 refine wpAny_execs_cons (wpAny_Return_some (wpAny_IfExp ?_))
 refine wpAny_isTrue_Compare1 ?_
 refine aE (w:=w) (l:=[(ac,_),(yl,_),(cy,_),(L,_)]) 4 hT (ag hc (ag hy (ag hcy (ag hL ah)))) (by kd_subs) (by kd_mem) (fun n t hn=>?_)
 refine gRx hA.hd 14 [4,1,1,0,1,5] ?_
 kst_p
 have f0:∀k,s.heap.get? (n+k)=none:=aC (Nat.le_of_eq hn)
 refine gcK (.compStart inE 0 (.ref n) (.ref (n+1)) (fy L (n+2) cy)) (fun h D=>?_)
 kd_adr
 have⟨s4,z4⟩:=D.wK 4 n (av ac 0 0)
 have⟨s5,z5⟩:=D.wK 5 (n+1) (listO [] 0)
 have⟨s6,z6⟩:=D.wK 6 (n+2) (dictO [] 0)
 have KD:Keeps s.heap h []:=D.keeps
 have y1:ac≠n+1:=neF hc (f0 1)
 have y2:yl≠n+1:=neF hy (f0 1)
 have s1:h.get? ac=some (listO [.int (.ofNat a) ta] ec):=KD.kp hc
 have s2:h.get? yl=some (listO Ly ey):=KD.kp hy
 have s3:h.get? cy=some (cellO (.ref yl)):=KD.kp hcy
 refine aM (by kd_p) s4 ?_
 refine in_0 (b:=0) (tb:=0) (hA.subN (by kd_p) 6 (by kd_p) (by kst_all)) D.kt s1 s3 s2 hVy ha s4 s5 s6 y1 y2 z4.kn z5.kn z6.kn (fun h1 t1 kk vv ed ea K1 x1 x2=>?_)
 have L1:h1.get? L=some (frame ((e25 w j1 j2 j3 j4 j5 j6 (.ref ac) (.ref aa) (.int (.ofNat 0) tn) u4 u5 (.int (.ofNat p) tp))++tl) e):=K1.kq (KD.keep _ _ hL (by kd_mem)) (by tbr_iter (ai (neF hL (f0 0)) (ai (neF hL (f0 1)) (neF hL (f0 2)))))
 have m1:=neF hL (f0 1)
 have m2:=neF hL (f0 2)
 refine resume D K1 (an z4 (an z5 (an z6 ax))) [(L,_),(n+1,_),(n+2,_)] 1 (ag L1 (ag x1 (ag x2 ah))) (by simp[Dis,m1,m2,Ne.symm m1,Ne.symm m2]) (by tbr_iter (ai z5 z6)) (fun n1 hn1=>?_)
 refine gRx hA.hd 5 [3,3,3] ?_
 kst_p
 refine ggK s (.ret (.ref (n+1))) (fun h2 t2 D2=>?_)
 have K2:Keeps s.heap h2 []:=D2.keeps
 have gg:=D2.cK 1 (n+1) (listO [.int (.ofNat a) ta] ea)
 have T2:TopIn w.params h2:=D2.kt
 refine aE (w:=w) (l:=[]) 0 T2 ah (by kd_subs) (by kd_mem) (fun n3 t3 hn3=>?_)
 refine gRx hA.hd 2 [] ?_
 kst_p
 refine ggK s (.ret (.ref n3)) (fun h4 t4 D4=>?_)
 have K4:Keeps h2 h4 []:=D4.keeps
 have em4:=D4.cK 0 n3 (listO [] 0)
 have gc:=K4.kp gg
 have T4:TopIn w.params h4:=D4.kt
 have hu:=hA.un
 show wpAny _ _ (richCompare .Eq (.ref (n+1)) (.ref n3)) _ _ _
 refine RcAt.lists_lengths ⟨_,gc,rfl,_,rfl⟩ ⟨_,em4,rfl,_,rfl⟩ (by rfl) (by kst_all) _ _ _ _ ?_
 refine wpAny_truthy_bool ?_
 show wpAny _ _ (eval f7 _) _ _ _
 have K04:Keeps s.heap h4 []:=(K2.trans K4).mono (by kd_mem)
 refine aE (w:=w) (l:=[(L,_)]) 1 T4 (ag (K04.kp hL) ah) (by kd_subs) (by kd_mem) (fun n5 t5 hn5=>?_)
 refine gRx hA.hd 1 [] ?_
 kst_p
 refine ggK s (.ret (.int (.ofNat 0) t5)) (fun h6 t6 D6=>?_)
 have K6:Keeps h4 h6 []:=D6.keeps
 exact H h6 t6 _ ((K04.trans K6).mono (by kd_mem))
theorem mW {s:Shared} {cw:Nat} (hA:AOk A 60) (hT:TopIn w.params s.heap)
  (hc:s.heap.get? ac=some (listO [.int (.ofNat a) ta, .int (.ofNat b) tb] ec)) (hL:s.heap.get? L=some (frame ((e25 w j1 j2 j3 j4 j5 j6 (.ref ac) (.ref aa) (.int (.ofNat 0) tn) u4 u5 (.int (.ofNat p) tp))++tl) e)) (hcy:s.heap.get? cy=some (cellO (.ref yl))) (hy:s.heap.get? yl=some (listO Ly ey)) (hVy:IntVs Ly way) (ha:a∈way) (hb:b∈way)
  (H:∀(h':Heap) tk' tok,Keeps s.heap h' []→Q (.ret (.int (.ofNat p) tok)) ⟨h',s.gens,s.drawn,tk',s.os⟩):
  wpAny (mm w) A (execs eN (cu L cy cw cb)) Q E s:=by
 kd_adr
 obtain⟨p1,p2,p3,eR⟩:=gM
 refine bU ?_
 intro zQ zE
 refine aH eR ?_
 refine wpAny_execs_cons (wpAny_Return_some (wpAny_IfExp ?_))
 refine wpAny_isTrue_Compare1 ?_
 refine aE (w:=w) (l:=[(ac,_),(yl,_),(cy,_),(L,_)]) 4 hT (ag hc (ag hy (ag hcy (ag hL ah)))) (by kd_subs) (by kd_mem) (fun n t hn=>?_)
 refine gRx hA.hd 14 [4,1,1,0,1,5] ?_
 kst_p
 have f0:∀k,s.heap.get? (n+k)=none:=aC (Nat.le_of_eq hn)
 refine gcK (.compStart inE 0 (.ref n) (.ref (n+1)) (fy L (n+2) cy)) (fun h D=>?_)
 kd_adr
 have⟨s4,z4⟩:=D.wK 4 n (av ac 0 0)
 have⟨s5,z5⟩:=D.wK 5 (n+1) (listO [] 0)
 have⟨s6,z6⟩:=D.wK 6 (n+2) (dictO [] 0)
 have KD:Keeps s.heap h []:=D.keeps
 have y1:ac≠n+1:=neF hc (f0 1)
 have y2:yl≠n+1:=neF hy (f0 1)
 have s1:h.get? ac=some (listO [.int (.ofNat a) ta, .int (.ofNat b) tb] ec):=KD.kp hc
 have s2:h.get? yl=some (listO Ly ey):=KD.kp hy
 have s3:h.get? cy=some (cellO (.ref yl)):=KD.kp hcy
 refine aM (by kd_p) s4 ?_
 refine in_11 (hA.subN (by kd_p) 6 (by kd_p) (by kst_all)) D.kt s1 s3 s2 hVy ha hb s4 s5 s6 y1 y2 z4.kn z5.kn z6.kn (fun h1 t1 kk vv ed ea K1 x1 x2=>?_)
 have L1:h1.get? L=some (frame ((e25 w j1 j2 j3 j4 j5 j6 (.ref ac) (.ref aa) (.int (.ofNat 0) tn) u4 u5 (.int (.ofNat p) tp))++tl) e):=K1.kq (KD.keep _ _ hL (by kd_mem)) (by tbr_iter (ai (neF hL (f0 0)) (ai (neF hL (f0 1)) (neF hL (f0 2)))))
 have m1:=neF hL (f0 1)
 have m2:=neF hL (f0 2)
 refine resume D K1 (an z4 (an z5 (an z6 ax))) [(L,_),(n+1,_),(n+2,_)] 1 (ag L1 (ag x1 (ag x2 ah))) (by simp[Dis,m1,m2,Ne.symm m1,Ne.symm m2]) (by tbr_iter (ai z5 z6)) (fun n1 hn1=>?_)
 refine gRx hA.hd 5 [3,3,3] ?_
 kst_p
 refine ggK s (.ret (.ref (n+1))) (fun h2 t2 D2=>?_)
 have K2:Keeps s.heap h2 []:=D2.keeps
 have gg:=D2.cK 1 (n+1) (listO [] ea)
 have T2:TopIn w.params h2:=D2.kt
 refine aE (w:=w) (l:=[]) 0 T2 ah (by kd_subs) (by kd_mem) (fun n3 t3 hn3=>?_)
 refine gRx hA.hd 2 [] ?_
 kst_p
 refine ggK s (.ret (.ref n3)) (fun h4 t4 D4=>?_)
 have K4:Keeps h2 h4 []:=D4.keeps
 have em4:=D4.cK 0 n3 (listO [] 0)
 have gc:=K4.kp gg
 have T4:TopIn w.params h4:=D4.kt
 have hu:=hA.un
 show wpAny _ _ (richCompare .Eq (.ref (n+1)) (.ref n3)) _ _ _
 refine RcAt.lists (items:= #[]) (items2:= #[]) (e:=fun _=>true) ⟨_,gc,rfl,_,rfl⟩ ⟨_,em4,rfl,_,rfl⟩ rfl (by kst_all) (fun j h1 _=>absurd h1 (by kd_mem)) _ _ _ _ ?_
 refine wpAny_truthy_bool ?_
 show wpAny _ _ (eval kj _) _ _ _
 have K04:Keeps s.heap h4 []:=(K2.trans K4).mono (by kd_mem)
 refine aE (w:=w) (l:=[(L,_)]) 1 T4 (ag (K04.kp hL) ah) (by kd_subs) (by kd_mem) (fun n5 t5 hn5=>?_)
 refine gRx hA.hd 2 [1] ?_
 kst_p
 refine ggK s (.ret (.int (.ofNat p) tp)) (fun h6 t6 D6=>?_)
 have K6:Keeps h4 h6 []:=D6.keeps
 exact H h6 t6 _ ((K04.trans K6).mono (by kd_mem))
theorem mX {s:Shared} {cw:Nat} (hA:AOk A 60) (hT:TopIn w.params s.heap)
  (hc:s.heap.get? ac=some (listO [.int (.ofNat a) ta, .int (.ofNat b) tb] ec)) (hL:s.heap.get? L=some (frame ((e25 w j1 j2 j3 j4 j5 j6 (.ref ac) (.ref aa) (.int (.ofNat 0) tn) u4 u5 (.int (.ofNat p) tp))++tl) e)) (hcy:s.heap.get? cy=some (cellO (.ref yl))) (hy:s.heap.get? yl=some (listO Ly ey)) (hVy:IntVs Ly way) (ha:a∈way) (hb:b∉way)
  (H:∀(h':Heap) tk' tok,Keeps s.heap h' []→Q (.ret (.int (.ofNat 0) tok)) ⟨h',s.gens,s.drawn,tk',s.os⟩):
  wpAny (mm w) A (execs eN (cu L cy cw cb)) Q E s:=by
 kd_adr
 obtain⟨p1,p2,p3,eR⟩:=gM
 refine bU ?_
 intro zQ zE
 refine aH eR ?_
 refine wpAny_execs_cons (wpAny_Return_some (wpAny_IfExp ?_))
 refine wpAny_isTrue_Compare1 ?_
 refine aE (w:=w) (l:=[(ac,_),(yl,_),(cy,_),(L,_)]) 4 hT (ag hc (ag hy (ag hcy (ag hL ah)))) (by kd_subs) (by kd_mem) (fun n t hn=>?_)
 refine gRx hA.hd 14 [4,1,1,0,1,5] ?_
 kst_p
 have f0:∀k,s.heap.get? (n+k)=none:=aC (Nat.le_of_eq hn)
 refine gcK (.compStart inE 0 (.ref n) (.ref (n+1)) (fy L (n+2) cy)) (fun h D=>?_)
 kd_adr
 have⟨s4,z4⟩:=D.wK 4 n (av ac 0 0)
 have⟨s5,z5⟩:=D.wK 5 (n+1) (listO [] 0)
 have⟨s6,z6⟩:=D.wK 6 (n+2) (dictO [] 0)
 have KD:Keeps s.heap h []:=D.keeps
 have y1:ac≠n+1:=neF hc (f0 1)
 have y2:yl≠n+1:=neF hy (f0 1)
 have s1:h.get? ac=some (listO [.int (.ofNat a) ta, .int (.ofNat b) tb] ec):=KD.kp hc
 have s2:h.get? yl=some (listO Ly ey):=KD.kp hy
 have s3:h.get? cy=some (cellO (.ref yl)):=KD.kp hcy
 refine aM (by kd_p) s4 ?_
 refine in_10 (hA.subN (by kd_p) 6 (by kd_p) (by kst_all)) D.kt s1 s3 s2 hVy ha hb s4 s5 s6 y1 y2 z4.kn z5.kn z6.kn (fun h1 t1 kk vv ed ea K1 x1 x2=>?_)
 have L1:h1.get? L=some (frame ((e25 w j1 j2 j3 j4 j5 j6 (.ref ac) (.ref aa) (.int (.ofNat 0) tn) u4 u5 (.int (.ofNat p) tp))++tl) e):=K1.kq (KD.keep _ _ hL (by kd_mem)) (by tbr_iter (ai (neF hL (f0 0)) (ai (neF hL (f0 1)) (neF hL (f0 2)))))
 have m1:=neF hL (f0 1)
 have m2:=neF hL (f0 2)
 refine resume D K1 (an z4 (an z5 (an z6 ax))) [(L,_),(n+1,_),(n+2,_)] 1 (ag L1 (ag x1 (ag x2 ah))) (by simp[Dis,m1,m2,Ne.symm m1,Ne.symm m2]) (by tbr_iter (ai z5 z6)) (fun n1 hn1=>?_)
 refine gRx hA.hd 5 [3,3,3] ?_
 kst_p
 refine ggK s (.ret (.ref (n+1))) (fun h2 t2 D2=>?_)
 have K2:Keeps s.heap h2 []:=D2.keeps
 have gg:=D2.cK 1 (n+1) (listO [.int (.ofNat b) tb] ea)
 have T2:TopIn w.params h2:=D2.kt
 refine aE (w:=w) (l:=[]) 0 T2 ah (by kd_subs) (by kd_mem) (fun n3 t3 hn3=>?_)
 refine gRx hA.hd 2 [] ?_
 kst_p
 refine ggK s (.ret (.ref n3)) (fun h4 t4 D4=>?_)
 have K4:Keeps h2 h4 []:=D4.keeps
 have em4:=D4.cK 0 n3 (listO [] 0)
 have gc:=K4.kp gg
 have T4:TopIn w.params h4:=D4.kt
 have hu:=hA.un
 show wpAny _ _ (richCompare .Eq (.ref (n+1)) (.ref n3)) _ _ _
 refine RcAt.lists_lengths ⟨_,gc,rfl,_,rfl⟩ ⟨_,em4,rfl,_,rfl⟩ (by rfl) (by kst_all) _ _ _ _ ?_
 refine wpAny_truthy_bool ?_
 show wpAny _ _ (eval f7 _) _ _ _
 have K04:Keeps s.heap h4 []:=(K2.trans K4).mono (by kd_mem)
 refine aE (w:=w) (l:=[(L,_)]) 1 T4 (ag (K04.kp hL) ah) (by kd_subs) (by kd_mem) (fun n5 t5 hn5=>?_)
 refine gRx hA.hd 1 [] ?_
 kst_p
 refine ggK s (.ret (.int (.ofNat 0) t5)) (fun h6 t6 D6=>?_)
 have K6:Keeps h4 h6 []:=D6.keeps
 exact H h6 t6 _ ((K04.trans K6).mono (by kd_mem))
theorem mY {s:Shared} {cw:Nat} (hA:AOk A 60) (hT:TopIn w.params s.heap)
  (hc:s.heap.get? ac=some (listO [.int (.ofNat a) ta, .int (.ofNat b) tb] ec)) (hL:s.heap.get? L=some (frame ((e25 w j1 j2 j3 j4 j5 j6 (.ref ac) (.ref aa) (.int (.ofNat 0) tn) u4 u5 (.int (.ofNat p) tp))++tl) e)) (hcy:s.heap.get? cy=some (cellO (.ref yl))) (hy:s.heap.get? yl=some (listO Ly ey)) (hVy:IntVs Ly way) (ha:a∉way) (hb:b∈way)
  (H:∀(h':Heap) tk' tok,Keeps s.heap h' []→Q (.ret (.int (.ofNat 0) tok)) ⟨h',s.gens,s.drawn,tk',s.os⟩):
  wpAny (mm w) A (execs eN (cu L cy cw cb)) Q E s:=by
 kd_adr
 obtain⟨p1,p2,p3,eR⟩:=gM
 refine bU ?_
 intro zQ zE
 refine aH eR ?_
 refine wpAny_execs_cons (wpAny_Return_some (wpAny_IfExp ?_))
 refine wpAny_isTrue_Compare1 ?_
 refine aE (w:=w) (l:=[(ac,_),(yl,_),(cy,_),(L,_)]) 4 hT (ag hc (ag hy (ag hcy (ag hL ah)))) (by kd_subs) (by kd_mem) (fun n t hn=>?_)
 refine gRx hA.hd 14 [4,1,1,0,1,5] ?_
 kst_p
 have f0:∀k,s.heap.get? (n+k)=none:=aC (Nat.le_of_eq hn)
 refine gcK (.compStart inE 0 (.ref n) (.ref (n+1)) (fy L (n+2) cy)) (fun h D=>?_)
 kd_adr
 have⟨s4,z4⟩:=D.wK 4 n (av ac 0 0)
 have⟨s5,z5⟩:=D.wK 5 (n+1) (listO [] 0)
 have⟨s6,z6⟩:=D.wK 6 (n+2) (dictO [] 0)
 have KD:Keeps s.heap h []:=D.keeps
 have y1:ac≠n+1:=neF hc (f0 1)
 have y2:yl≠n+1:=neF hy (f0 1)
 have s1:h.get? ac=some (listO [.int (.ofNat a) ta, .int (.ofNat b) tb] ec):=KD.kp hc
 have s2:h.get? yl=some (listO Ly ey):=KD.kp hy
 have s3:h.get? cy=some (cellO (.ref yl)):=KD.kp hcy
 refine aM (by kd_p) s4 ?_
 refine in_01 (hA.subN (by kd_p) 6 (by kd_p) (by kst_all)) D.kt s1 s3 s2 hVy ha hb s4 s5 s6 y1 y2 z4.kn z5.kn z6.kn (fun h1 t1 kk vv ed ea K1 x1 x2=>?_)
 have L1:h1.get? L=some (frame ((e25 w j1 j2 j3 j4 j5 j6 (.ref ac) (.ref aa) (.int (.ofNat 0) tn) u4 u5 (.int (.ofNat p) tp))++tl) e):=K1.kq (KD.keep _ _ hL (by kd_mem)) (by tbr_iter (ai (neF hL (f0 0)) (ai (neF hL (f0 1)) (neF hL (f0 2)))))
 have m1:=neF hL (f0 1)
 have m2:=neF hL (f0 2)
 refine resume D K1 (an z4 (an z5 (an z6 ax))) [(L,_),(n+1,_),(n+2,_)] 1 (ag L1 (ag x1 (ag x2 ah))) (by simp[Dis,m1,m2,Ne.symm m1,Ne.symm m2]) (by tbr_iter (ai z5 z6)) (fun n1 hn1=>?_)
 refine gRx hA.hd 5 [3,3,3] ?_
 kst_p
 refine ggK s (.ret (.ref (n+1))) (fun h2 t2 D2=>?_)
 have K2:Keeps s.heap h2 []:=D2.keeps
 have gg:=D2.cK 1 (n+1) (listO [.int (.ofNat a) ta] ea)
 have T2:TopIn w.params h2:=D2.kt
 refine aE (w:=w) (l:=[]) 0 T2 ah (by kd_subs) (by kd_mem) (fun n3 t3 hn3=>?_)
 refine gRx hA.hd 2 [] ?_
 kst_p
 refine ggK s (.ret (.ref n3)) (fun h4 t4 D4=>?_)
 have K4:Keeps h2 h4 []:=D4.keeps
 have em4:=D4.cK 0 n3 (listO [] 0)
 have gc:=K4.kp gg
 have T4:TopIn w.params h4:=D4.kt
 have hu:=hA.un
 show wpAny _ _ (richCompare .Eq (.ref (n+1)) (.ref n3)) _ _ _
 refine RcAt.lists_lengths ⟨_,gc,rfl,_,rfl⟩ ⟨_,em4,rfl,_,rfl⟩ (by rfl) (by kst_all) _ _ _ _ ?_
 refine wpAny_truthy_bool ?_
 show wpAny _ _ (eval f7 _) _ _ _
 have K04:Keeps s.heap h4 []:=(K2.trans K4).mono (by kd_mem)
 refine aE (w:=w) (l:=[(L,_)]) 1 T4 (ag (K04.kp hL) ah) (by kd_subs) (by kd_mem) (fun n5 t5 hn5=>?_)
 refine gRx hA.hd 1 [] ?_
 kst_p
 refine ggK s (.ret (.int (.ofNat 0) t5)) (fun h6 t6 D6=>?_)
 have K6:Keeps h4 h6 []:=D6.keeps
 exact H h6 t6 _ ((K04.trans K6).mono (by kd_mem))
theorem mZ {s:Shared} {cw:Nat} (hA:AOk A 60) (hT:TopIn w.params s.heap)
  (hc:s.heap.get? ac=some (listO [.int (.ofNat a) ta, .int (.ofNat b) tb] ec)) (hL:s.heap.get? L=some (frame ((e25 w j1 j2 j3 j4 j5 j6 (.ref ac) (.ref aa) (.int (.ofNat 0) tn) u4 u5 (.int (.ofNat p) tp))++tl) e)) (hcy:s.heap.get? cy=some (cellO (.ref yl))) (hy:s.heap.get? yl=some (listO Ly ey)) (hVy:IntVs Ly way) (ha:a∉way) (hb:b∉way)
  (H:∀(h':Heap) tk' tok,Keeps s.heap h' []→Q (.ret (.int (.ofNat 0) tok)) ⟨h',s.gens,s.drawn,tk',s.os⟩):
  wpAny (mm w) A (execs eN (cu L cy cw cb)) Q E s:=by
 kd_adr
 obtain⟨p1,p2,p3,eR⟩:=gM
 refine bU ?_
 intro zQ zE
 refine aH eR ?_
 refine wpAny_execs_cons (wpAny_Return_some (wpAny_IfExp ?_))
 refine wpAny_isTrue_Compare1 ?_
 refine aE (w:=w) (l:=[(ac,_),(yl,_),(cy,_),(L,_)]) 4 hT (ag hc (ag hy (ag hcy (ag hL ah)))) (by kd_subs) (by kd_mem) (fun n t hn=>?_)
 refine gRx hA.hd 14 [4,1,1,0,1,5] ?_
 kst_p
 have f0:∀k,s.heap.get? (n+k)=none:=aC (Nat.le_of_eq hn)
 refine gcK (.compStart inE 0 (.ref n) (.ref (n+1)) (fy L (n+2) cy)) (fun h D=>?_)
 kd_adr
 have⟨s4,z4⟩:=D.wK 4 n (av ac 0 0)
 have⟨s5,z5⟩:=D.wK 5 (n+1) (listO [] 0)
 have⟨s6,z6⟩:=D.wK 6 (n+2) (dictO [] 0)
 have KD:Keeps s.heap h []:=D.keeps
 have y1:ac≠n+1:=neF hc (f0 1)
 have y2:yl≠n+1:=neF hy (f0 1)
 have s1:h.get? ac=some (listO [.int (.ofNat a) ta, .int (.ofNat b) tb] ec):=KD.kp hc
 have s2:h.get? yl=some (listO Ly ey):=KD.kp hy
 have s3:h.get? cy=some (cellO (.ref yl)):=KD.kp hcy
 refine aM (by kd_p) s4 ?_
 refine in_00 (hA.subN (by kd_p) 6 (by kd_p) (by kst_all)) D.kt s1 s3 s2 hVy ha hb s4 s5 s6 y1 y2 z4.kn z5.kn z6.kn (fun h1 t1 kk vv ed ea K1 x1 x2=>?_)
 have L1:h1.get? L=some (frame ((e25 w j1 j2 j3 j4 j5 j6 (.ref ac) (.ref aa) (.int (.ofNat 0) tn) u4 u5 (.int (.ofNat p) tp))++tl) e):=K1.kq (KD.keep _ _ hL (by kd_mem)) (by tbr_iter (ai (neF hL (f0 0)) (ai (neF hL (f0 1)) (neF hL (f0 2)))))
 have m1:=neF hL (f0 1)
 have m2:=neF hL (f0 2)
 refine resume D K1 (an z4 (an z5 (an z6 ax))) [(L,_),(n+1,_),(n+2,_)] 1 (ag L1 (ag x1 (ag x2 ah))) (by simp[Dis,m1,m2,Ne.symm m1,Ne.symm m2]) (by tbr_iter (ai z5 z6)) (fun n1 hn1=>?_)
 refine gRx hA.hd 5 [3,3,3] ?_
 kst_p
 refine ggK s (.ret (.ref (n+1))) (fun h2 t2 D2=>?_)
 have K2:Keeps s.heap h2 []:=D2.keeps
 have gg:=D2.cK 1 (n+1) (listO [.int (.ofNat a) ta, .int (.ofNat b) tb] ea)
 have T2:TopIn w.params h2:=D2.kt
 refine aE (w:=w) (l:=[]) 0 T2 ah (by kd_subs) (by kd_mem) (fun n3 t3 hn3=>?_)
 refine gRx hA.hd 2 [] ?_
 kst_p
 refine ggK s (.ret (.ref n3)) (fun h4 t4 D4=>?_)
 have K4:Keeps h2 h4 []:=D4.keeps
 have em4:=D4.cK 0 n3 (listO [] 0)
 have gc:=K4.kp gg
 have T4:TopIn w.params h4:=D4.kt
 have hu:=hA.un
 show wpAny _ _ (richCompare .Eq (.ref (n+1)) (.ref n3)) _ _ _
 refine RcAt.lists_lengths ⟨_,gc,rfl,_,rfl⟩ ⟨_,em4,rfl,_,rfl⟩ (by rfl) (by kst_all) _ _ _ _ ?_
 refine wpAny_truthy_bool ?_
 show wpAny _ _ (eval f7 _) _ _ _
 have K04:Keeps s.heap h4 []:=(K2.trans K4).mono (by kd_mem)
 refine aE (w:=w) (l:=[(L,_)]) 1 T4 (ag (K04.kp hL) ah) (by kd_subs) (by kd_mem) (fun n5 t5 hn5=>?_)
 refine gRx hA.hd 1 [] ?_
 kst_p
 refine ggK s (.ret (.int (.ofNat 0) t5)) (fun h6 t6 D6=>?_)
 have K6:Keeps h4 h6 []:=D6.keeps
 exact H h6 t6 _ ((K04.trans K6).mono (by kd_mem))
noncomputable def chS2:List Stmt:=((dAt 22).2.1.drop 2).take 1
noncomputable def ni:List Stmt:=((dAt 22).2.1.drop 3).take 1
theorem lC:(dAt 22).2.1=chS1++(chS2++(ni++eN)):=rfl
theorem eS (hx:Ascii x) (hy:Ascii y):Ascii (x++y):=fun c hc=>(List.mem_append.mp hc).elim (hx c) (hy c)
noncomputable def changeF (above:List Nat) (kss ws:List (List Nat)) (cs:List Nat):Nat:=
 let m:=mn cs
 let l1:=laidF kss ws 7 ((kss.getD m []).getD 0 0)
 let l2:=laidF kss ws 7 ((kss.getD m []).getD 1 0)
 let r:=bu above kss ws cs 7 m (al 0 (l1++l2)^^^al 0 (l2++l1)) [m]
 if cs.all (fun c=>decide (c∈r.2)) then r.1 else 0
theorem po {s:Shared} {cw m tm cU aX:Nat} {l1 l2:List Nat} (hA:AOk A 100) (hT:TopIn w.params s.heap)
  (hL:s.heap.get? L=some (frame (e23 w j1 j2 j3 j4 j5 (.ref ac) (.ref aa) (.int (.ofNat m) tm) (.str ⟨⟨l1⟩⟩ cU) (.str ⟨⟨l2⟩⟩ aX)) e)) (kL:kg w L=none) (hlen:l1.length+l2.length≤1000) (ha1:Ascii l1) (ha2:Ascii l2)
  (H:∀(h':Heap) tk' j6 tp,Keeps s.heap h' [L]→h'.get? L=some (frame (e25 w j1 j2 j3 j4 j5 j6 (.ref ac) (.ref aa) (.int (.ofNat m) tm) (.str ⟨⟨l1⟩⟩ cU) (.str ⟨⟨l2⟩⟩ aX) (.int (.ofNat (al 0 (l1++l2)^^^al 0 (l2++l1))) tp)) (e+1))→Q .next ⟨h',s.gens,s.drawn,tk',s.os⟩):
  wpAny (mm w) A (execs chS2 (cu L cy cw cb)) Q E s:=by
 have le12:(l1++l2).length≤1000∧(l2++l1).length≤1000:=by simp;kst_all
 refine aF (w:=w) (l:=[(L,_)]) 0 hT (ag hL ah) (by kd_subs) (by tbr_iter kL) (fun n t hn=>?_)
 refine gRx hA.hd 10 [0,1,1] ?_
 kst_p
 refine gcK (.call (.builtin "str.__add__") ⟨[.str ⟨⟨l1⟩⟩ cU, .str ⟨⟨l2⟩⟩ aX],[]⟩) (fun h4 D4=>?_)
 refine dD le12.1 (fun eW tk4=>?_)
 refine aD D4 ?_
 refine gRx hA.hd 2 [0] ?_
 kst_p
 refine gcK (.call (.ref 187) ⟨[.int (.ofNat 0) t, .str ⟨⟨l1++l2⟩⟩ eW],[]⟩) (fun h5 D5=>?_)
 kd_adr
 have⟨g0,v0⟩:=D5.wK 0 L (frame (e23 w j1 j2 j3 j4 j5 (.ref ac) (.ref aa) (.int (.ofNat m) tm) (.str ⟨⟨l1⟩⟩ cU) (.str ⟨⟨l2⟩⟩ aX)) e)
 refine bK (hA.subN (by kd_p) 6 (by kd_p) (by kst_all)) D5.kt (by decide) (eS ha1 ha2) (fun h6 tk6 nA K6=>?_)
 refine resume D5 K6 ax _ 0 (ag (K6.kp g0) ah) (by kd_subs) (by tbr_iter v0) (fun n6 _=>?_)
 refine gRx hA.hd 10 [0,1,1] ?_
 kst_p
 refine gcK (.call (.builtin "str.__add__") ⟨[.str ⟨⟨l2⟩⟩ aX, .str ⟨⟨l1⟩⟩ cU],[]⟩) (fun h7 D7=>?_)
 refine dD le12.2 (fun tok7 tk7=>?_)
 refine aD D7 ?_
 refine gRx hA.hd 2 [0] ?_
 kst_p
 refine gcK (.call (.ref 187) ⟨[.int (.ofNat 0) tk6, .str ⟨⟨l2++l1⟩⟩ tok7],[]⟩) (fun h8 D8=>?_)
 kd_adr
 have⟨g0,v0⟩:=D8.wK 0 L (frame (e23 w j1 j2 j3 j4 j5 (.ref ac) (.ref aa) (.int (.ofNat m) tm) (.str ⟨⟨l1⟩⟩ cU) (.str ⟨⟨l2⟩⟩ aX)) e)
 refine bK (hA.subN (by kd_p) 6 (by kd_p) (by kst_all)) D8.kt (by decide) (eS ha2 ha1) (fun h9 tk9 tok9 K9=>?_)
 have q64:al 0 (l1++l2)<2^64∧al 0 (l2++l1)<2^64:=by have:=bw (l1++l2) (p:=0) (by decide);have:=bw (l2++l1) (p:=0) (by decide);kst_all
 refine resume D8 K9 ax _ 0 (ag (K9.kp g0) ah) (by kd_subs) (by tbr_iter v0) (fun n9 _=>?_)
 refine gPx hA.hd [] 10 [6,0,0,0,1,1] ?_
 intro zM zO
 refine gQx [] trivial ?_
 refine ggK s (.next) (fun h10 t10 D10=>?_)
 exact H h10 t10 (tk9+1) tk9 D10.keeps (D10.xK 0)
theorem pj (LC:bo w kss ws 7) {s:Shared} {h₀:Heap} {cw m:Nat} {cs above way:List Nat} (hA:AOk A 150) (hT:TopIn w.params s.heap) (hK0:Keeps h₀ s.heap [])
  (hc:h₀.get? ac=some (listO Lc ec)) (hVc:IntVs Lc cs) (ha:h₀.get? aa=some (listO La ea)) (hVa:IntVs La above) (hb:h₀.get? bl=some (listO Lb ebl)) (hKB:KidsAt h₀ Lb kss) (hw:h₀.get? aw=some (listO Lw ew)) (hW:StrVs Lw ws)
  (bX:above.length=7∧kss.length=7) (hup:∀i,0<i→i<7→above.getD i 0<i) (hks:∀i,(kss.getD i []).length≤50) (hDp:∀i,i<7→(kss.getD i []).all (fun x=>Dp kss 7 x && decide (x<7))=true) (hlen:∀x,x<7→(laidF kss ws 7 x).length≤1000)
  (hne:ac≠aa) (hrow:∀(i:Nat) (b:Addr),Lb[i]? = some (Value.ref b)→ac≠b∧aa≠b) (kL:kg w L=none) (kY:kg w yl=none) (fL:h₀.get? L=none) (fY:h₀.get? yl=none)
  (hcb:s.heap.get? cb=some (cellO (.ref bl))) (hcw:s.heap.get? cw=some (cellO (.ref aw))) (hcy:s.heap.get? cy=some (cellO (.ref yl))) (hY:s.heap.get? yl=some (listO Ly ey)) (hVy:IntVs Ly way) (hyl:way.length+m≤7) (hfr:ChF w.params s.heap L ac aa m p) (hm:m<7) (hp:p<2^32)
  (H:∀(h':Heap) tk' Ly' ey',Keeps s.heap h' [L,yl]→h'.get? yl=some (listO Ly' ey')→IntVs Ly' (bu above kss ws cs 7 m p way).2→ChF w.params h' L ac aa 0 (bu above kss ws cs 7 m p way).1→Q .next ⟨h',s.gens,s.drawn,tk',s.os⟩):
  wpAny (mm w) A (execs ni (cu L cy cw cb)) Q E s:=by
 refine aF (w:=w) (l:=[]) 0 hT ah (by kd_subs) (by kd_mem) (fun n t hn=>?_)
 refine gRx hA.hd 1 [] ?_
 kst_p
 refine gcK (whS chWh (cu L cy cw cb)) (fun h D=>?_)
 have KD:Keeps s.heap h []:=D.keeps
 have TD:TopIn w.params h:=D.kt
 refine jY LC (h₀:=h₀) kL kY fL fY hc hVc ha hVa hb hKB hw hW bX hup hks hDp hlen hne hrow 7 (hA.subN (by kd_p) 4 (by kd_p) (by kst_all)) TD ((hK0.trans KD).mono (by kd_mem)) (KD.kp hcb) (KD.kp hcw) (KD.kp hcy) (KD.kp hY) hVy hyl (hfr.keep KD) hm hm hp (fun h1 t1 Ly1 ey1 K1 q1 q2 q3=>?_)
 have T1:=K1.top TD (by tbr_iter (ai kL kY))
 clear D
 refine rebase [] [] 0 T1 ah (by kd_subs) (by kd_mem) (by kd_mem) (fun n1 hn1=>?_)
 refine gRx hA.hd 0 [] ?_
 kst_p
 refine ggK s (.next) (fun h2 t2 D2=>?_)
 have K2:Keeps h1 h2 []:=D2.keeps
 exact H h2 t2 Ly1 ey1 (((KD.trans K1).trans K2).mono (by kd_mem)) (K2.kp q1) q2 (q3.keep K2)
theorem ng (LC:bo w kss ws 7) {s:Shared} {cw b tb:Nat} (hA:AOk A 152) (hT:TopIn w.params s.heap)
  (hc:s.heap.get? ac=some (listO [.int (.ofNat a) ta] ec)) (ha:s.heap.get? aa=some (listO La ea)) (hVa:IntVs La above) (hb:s.heap.get? bl=some (listO Lb ebl)) (hKB:KidsAt s.heap Lb kss) (hw:s.heap.get? aw=some (listO Lw ew)) (hW:StrVs Lw ws)
  (hL:s.heap.get? L=some (frame (e22 w j1 j2 (.ref ac) (.ref aa)) 2)) (hcb:s.heap.get? cb=some (cellO (.ref bl))) (hcw:s.heap.get? cw=some (cellO (.ref aw))) (hcy:s.heap.get? cy=some ⟨.type "cell",none, .cell none, #[]⟩) (kL:kg w L=none) (kY:kg w cy=none) (nbw:cb≠cy∧cw≠cy)
  (bX:above.length=7∧kss.length=7) (hup:∀i,0<i→i<7→above.getD i 0<i) (hks:∀i,(kss.getD i []).length≤50) (hDp:∀i,i<7→(kss.getD i []).all (fun x=>Dp kss 7 x && decide (x<7))=true) (hlen:∀x,x<7→(laidF kss ws 7 x).length≤400) (hasc:∀x,x<7→Ascii (laidF kss ws 7 x))
  (hne:ac≠aa) (hrow:∀(i:Nat) (b:Addr),Lb[i]? = some (Value.ref b)→ac≠b∧aa≠b) (hm7:a<7) (hib:Lb[a]? = some (.ref ab)) (hab:s.heap.get? ab=some (listO [.int (.ofNat x1) t1, .int (.ofNat x2) t2] eb)) (hkm:kss.getD a []=[x1,x2])
  (h₀:Heap) (hS0:Keeps h₀ s.heap []) (fL:h₀.get? L=none) (fcy:h₀.get? cy=none) (hc0:h₀.get? ac=some (listO [.int (.ofNat a) ta] ec)) (ha0:h₀.get? aa=some (listO La ea)) (hb0:h₀.get? bl=some (listO Lb ebl)) (ip:KidsAt h₀ Lb kss) (hw0:h₀.get? aw=some (listO Lw ew))
  (H:∀(h':Heap) tk' tok v,Keeps h₀ h' []→v=changeF above kss ws [a]→Q (.ret (.int (.ofNat v) tok)) ⟨h',s.gens,s.drawn,tk',s.os⟩):
  wpAny (mm w) A (execs (dAt 22).2.1 (cu L cy cw cb)) Q E s:=by
 have hdk:=hDp a hm7
 rw[hkm] at hdk
 have hdk:(Dp kss 7 x1=true∧x1<7)∧(Dp kss 7 x2=true∧x2<7):=by simpa using hdk
 refine bU ?_
 intro zQ zE
 refine aH lC ?_
 refine aA ?_
 refine chg_p1a (b:=0) (tb:=0) LC (hA.mono (by kst_all)) hT hc hb hKB hw hW hL hcb hcw hcy kL kY nbw hm7 hib hab hdk.1.1 hdk.2.1 (hlen _ hdk.1.2) (hlen _ hdk.2.2) (fun h1 tk1 yl j3 j4 j5 cU aX K1 fY kyl a1 a2 a3=>?_)
 show wpAny _ _ (execs (chS2++(ni++eN)) _) _ _ _
 refine aA ?_
 have T1:=K1.top hT (by tbr_iter (ai kL kY))
 have e1:=hlen _ hdk.1.2
 have e2:=hlen _ hdk.2.2
 refine po (hA.mono (by kst_all)) T1 a1 kL (by kst_all) (hasc _ hdk.1.2) (hasc _ hdk.2.2) (fun h2 tk2 j6 tp K2 c1=>?_)
 show wpAny _ _ (execs (ni++eN) _) _ _ _
 refine aA ?_
 have T2:=K2.top T1 (by tbr_iter kL)
 have K12:Keeps s.heap h2 [L,cy]:=(K1.trans K2).mono (by kd_mem)
 have S2:Keeps h₀ h2 []:=hS0.fresh K12 (by tbr_iter (ai fL fcy))
 have nyL:yl≠L:=(neF hL fY).symm
 have ncL:cy≠L:=apart hcy hL
 have b1':h2.get? cb=some (cellO (.ref bl)):=K12.kq hcb (by tbr_iter (ai (apart hcb hL) nbw.1))
 have b2':h2.get? cw=some (cellO (.ref aw)):=K12.kq hcw (by tbr_iter (ai (apart hcw hL) nbw.2))
 have b3':h2.get? cy=some (cellO (.ref yl)):=K2.kq a2 (by tbr_iter ncL)
 have b4':h2.get? yl=some (listO [.int (.ofNat a) ta] 0):=K2.kq a3 (by tbr_iter nyL)
 have fY0:h₀.get? yl=none:=by
  cases q:h₀.get? yl with
  | none=>rfl
  | some o=>have:=hS0.kp q;rw[fY] at this;cases this
 have hp0:al 0 (laidF kss ws 7 x1++laidF kss ws 7 x2)^^^al 0 (laidF kss ws 7 x2++laidF kss ws 7 x1)<2^32:=Nat.xor_lt_two_pow (bw _ (by decide)) (bw _ (by decide))
 have hcF:changeF above kss ws [a]=if ([a]).all (fun c=>decide (c∈(bu above kss ws [a] 7 a (al 0 (laidF kss ws 7 x1++laidF kss ws 7 x2)^^^al 0 (laidF kss ws 7 x2++laidF kss ws 7 x1)) [a]).2)) then (bu above kss ws [a] 7 a (al 0 (laidF kss ws 7 x1++laidF kss ws 7 x2)^^^al 0 (laidF kss ws 7 x2++laidF kss ws 7 x1)) [a]).1 else 0:=by
  have hmx:mn [a]=a:=by unfold mn;simp
  unfold changeF
  rw[hmx]
  dsimp only
  rw[hkm]
  simp only[List.getD_cons_zero,List.getD_cons_succ]
 refine pj LC (h₀:=h₀) (cs:=[a]) (above:=above) (way:=[a]) (hA.mono (by kst_all)) T2 S2 hc0 (IntVs.nil.push a ta) ha0 hVa hb0 ip hw0 hW bX hup hks hDp (fun x hx=>by have:=hlen x hx;kst_all) hne hrow kL kyl fL fY0 b1' b2' b3' b4' (IntVs.nil.push a ta) (by simp;kst_all) ⟨_,_,_,_,_,_,_,_,_,_,_,[], .inl rfl,c1⟩ hm7 hp0 (fun h11 tk11 Ly ey K11 z1 z2 z3=>?_)
 have T11:=K11.top T2 (by tbr_iter (ai kL kyl))
 have S11:Keeps h₀ h11 []:=S2.fresh K11 (by tbr_iter (ai fL fY0))
 have y10:=b3'
 have nLy:cy≠L:=ncL
 have nYy:cy≠yl:=fun q=>by rw[←q] at fY;rw[hcy] at fY;cases fY
 rw[hcF] at H
 generalize bu above kss ws [a] 7 a (al 0 (laidF kss ws 7 x1++laidF kss ws 7 x2)^^^al 0 (laidF kss ws 7 x2++laidF kss ws 7 x1)) [a]=cl at *
 refine z3.out fun j1 j2 j3 j4 j5 j6 tn tp e u4 u5 tl htl hL=>?_
 have hc:=hc0
 show wpAny _ _ (execs eN _) _ _ _
 by_cases ha:a∈cl.2
 ·refine pg (b:=0) (tb:=0) (hA.mono (by kst_all)) T11 (S11.kp hc) hL (K11.kq y10 (by tbr_iter (ai nLy nYy))) z1 z2 ha (fun h12 fH tok K12=>H h12 fH tok _ ((S11.trans K12).mono (by kd_mem)) ?_)
  simp[*]
 ·refine ph (b:=0) (tb:=0) (hA.mono (by kst_all)) T11 (S11.kp hc) hL (K11.kq y10 (by tbr_iter (ai nLy nYy))) z1 z2 ha (fun h12 fH tok K12=>H h12 fH tok _ ((S11.trans K12).mono (by kd_mem)) ?_)
  simp[*]
theorem nc (LC:bo w kss ws 7) {s:Shared} {cw:Nat} (hA:AOk A 152) (hT:TopIn w.params s.heap)
  (hc:s.heap.get? ac=some (listO [.int (.ofNat a) ta, .int (.ofNat b) tb] ec)) (ha:s.heap.get? aa=some (listO La ea)) (hVa:IntVs La above) (hb:s.heap.get? bl=some (listO Lb ebl)) (hKB:KidsAt s.heap Lb kss) (hw:s.heap.get? aw=some (listO Lw ew)) (hW:StrVs Lw ws)
  (hL:s.heap.get? L=some (frame (e22 w j1 j2 (.ref ac) (.ref aa)) 2)) (hcb:s.heap.get? cb=some (cellO (.ref bl))) (hcw:s.heap.get? cw=some (cellO (.ref aw))) (hcy:s.heap.get? cy=some ⟨.type "cell",none, .cell none, #[]⟩) (kL:kg w L=none) (kY:kg w cy=none) (nbw:cb≠cy∧cw≠cy)
  (bX:above.length=7∧kss.length=7) (hup:∀i,0<i→i<7→above.getD i 0<i) (hks:∀i,(kss.getD i []).length≤50) (hDp:∀i,i<7→(kss.getD i []).all (fun x=>Dp kss 7 x && decide (x<7))=true) (hlen:∀x,x<7→(laidF kss ws 7 x).length≤400) (hasc:∀x,x<7→Ascii (laidF kss ws 7 x))
  (hne:ac≠aa) (hrow:∀(i:Nat) (b:Addr),Lb[i]? = some (Value.ref b)→ac≠b∧aa≠b) (mJ:a<b) (hm7:b<7) (hib:Lb[b]? = some (.ref ab)) (hab:s.heap.get? ab=some (listO [.int (.ofNat x1) t1, .int (.ofNat x2) t2] eb)) (hkm:kss.getD b []=[x1,x2])
  (h₀:Heap) (hS0:Keeps h₀ s.heap []) (fL:h₀.get? L=none) (fcy:h₀.get? cy=none) (hc0:h₀.get? ac=some (listO [.int (.ofNat a) ta, .int (.ofNat b) tb] ec)) (ha0:h₀.get? aa=some (listO La ea)) (hb0:h₀.get? bl=some (listO Lb ebl)) (ip:KidsAt h₀ Lb kss) (hw0:h₀.get? aw=some (listO Lw ew))
  (H:∀(h':Heap) tk' tok v,Keeps h₀ h' []→v=changeF above kss ws [a,b]→Q (.ret (.int (.ofNat v) tok)) ⟨h',s.gens,s.drawn,tk',s.os⟩):
  wpAny (mm w) A (execs (dAt 22).2.1 (cu L cy cw cb)) Q E s:=by
 have hdk:=hDp b hm7
 rw[hkm] at hdk
 have hdk:(Dp kss 7 x1=true∧x1<7)∧(Dp kss 7 x2=true∧x2<7):=by simpa using hdk
 refine bU ?_
 intro zQ zE
 refine aH lC ?_
 refine aA ?_
 refine chg_p1b LC (hA.mono (by kst_all)) hT hc hb hKB hw hW hL hcb hcw hcy kL kY nbw mJ hm7 hib hab hdk.1.1 hdk.2.1 (hlen _ hdk.1.2) (hlen _ hdk.2.2) (fun h1 tk1 yl j3 j4 j5 cU aX K1 fY kyl a1 a2 a3=>?_)
 show wpAny _ _ (execs (chS2++(ni++eN)) _) _ _ _
 refine aA ?_
 have T1:=K1.top hT (by tbr_iter (ai kL kY))
 have e1:=hlen _ hdk.1.2
 have e2:=hlen _ hdk.2.2
 refine po (hA.mono (by kst_all)) T1 a1 kL (by kst_all) (hasc _ hdk.1.2) (hasc _ hdk.2.2) (fun h2 tk2 j6 tp K2 c1=>?_)
 show wpAny _ _ (execs (ni++eN) _) _ _ _
 refine aA ?_
 have T2:=K2.top T1 (by tbr_iter kL)
 have K12:Keeps s.heap h2 [L,cy]:=(K1.trans K2).mono (by kd_mem)
 have S2:Keeps h₀ h2 []:=hS0.fresh K12 (by tbr_iter (ai fL fcy))
 have nyL:yl≠L:=(neF hL fY).symm
 have ncL:cy≠L:=apart hcy hL
 have b1':h2.get? cb=some (cellO (.ref bl)):=K12.kq hcb (by tbr_iter (ai (apart hcb hL) nbw.1))
 have b2':h2.get? cw=some (cellO (.ref aw)):=K12.kq hcw (by tbr_iter (ai (apart hcw hL) nbw.2))
 have b3':h2.get? cy=some (cellO (.ref yl)):=K2.kq a2 (by tbr_iter ncL)
 have b4':h2.get? yl=some (listO [.int (.ofNat b) tb] 0):=K2.kq a3 (by tbr_iter nyL)
 have fY0:h₀.get? yl=none:=by
  cases q:h₀.get? yl with
  | none=>rfl
  | some o=>have:=hS0.kp q;rw[fY] at this;cases this
 have hp0:al 0 (laidF kss ws 7 x1++laidF kss ws 7 x2)^^^al 0 (laidF kss ws 7 x2++laidF kss ws 7 x1)<2^32:=Nat.xor_lt_two_pow (bw _ (by decide)) (bw _ (by decide))
 have hcF:changeF above kss ws [a,b]=if ([a,b]).all (fun c=>decide (c∈(bu above kss ws [a,b] 7 b (al 0 (laidF kss ws 7 x1++laidF kss ws 7 x2)^^^al 0 (laidF kss ws 7 x2++laidF kss ws 7 x1)) [b]).2)) then (bu above kss ws [a,b] 7 b (al 0 (laidF kss ws 7 x1++laidF kss ws 7 x2)^^^al 0 (laidF kss ws 7 x2++laidF kss ws 7 x1)) [b]).1 else 0:=by
  have hmx:mn [a,b]=b:=by unfold mn;simp;kst_all
  unfold changeF
  rw[hmx]
  dsimp only
  rw[hkm]
  simp only[List.getD_cons_zero,List.getD_cons_succ]
 refine pj LC (h₀:=h₀) (cs:=[a,b]) (above:=above) (way:=[b]) (hA.mono (by kst_all)) T2 S2 hc0 (IntVs.nil.push a ta |>.push b tb) ha0 hVa hb0 ip hw0 hW bX hup hks hDp (fun x hx=>by have:=hlen x hx;kst_all) hne hrow kL kyl fL fY0 b1' b2' b3' b4' (IntVs.nil.push b tb) (by simp;kst_all) ⟨_,_,_,_,_,_,_,_,_,_,_,[], .inl rfl,c1⟩ hm7 hp0 (fun h11 tk11 Ly ey K11 z1 z2 z3=>?_)
 have T11:=K11.top T2 (by tbr_iter (ai kL kyl))
 have S11:Keeps h₀ h11 []:=S2.fresh K11 (by tbr_iter (ai fL fY0))
 have y10:=b3'
 have nLy:cy≠L:=ncL
 have nYy:cy≠yl:=fun q=>by rw[←q] at fY;rw[hcy] at fY;cases fY
 rw[hcF] at H
 generalize bu above kss ws [a,b] 7 b (al 0 (laidF kss ws 7 x1++laidF kss ws 7 x2)^^^al 0 (laidF kss ws 7 x2++laidF kss ws 7 x1)) [b]=cl at *
 refine z3.out fun j1 j2 j3 j4 j5 j6 tn tp e u4 u5 tl htl hL=>?_
 have hc:=hc0
 show wpAny _ _ (execs eN _) _ _ _
 by_cases ha:a∈cl.2
 ·by_cases hb:b∈cl.2
  ·refine mW (hA.mono (by kst_all)) T11 (S11.kp hc) hL (K11.kq y10 (by tbr_iter (ai nLy nYy))) z1 z2 ha hb (fun h12 fH tok K12=>H h12 fH tok _ ((S11.trans K12).mono (by kd_mem)) ?_)
   simp[*]
  ·refine mX (hA.mono (by kst_all)) T11 (S11.kp hc) hL (K11.kq y10 (by tbr_iter (ai nLy nYy))) z1 z2 ha hb (fun h12 fH tok K12=>H h12 fH tok _ ((S11.trans K12).mono (by kd_mem)) ?_)
   simp[*]
 ·by_cases hb:b∈cl.2
  ·refine mY (hA.mono (by kst_all)) T11 (S11.kp hc) hL (K11.kq y10 (by tbr_iter (ai nLy nYy))) z1 z2 ha hb (fun h12 fH tok K12=>H h12 fH tok _ ((S11.trans K12).mono (by kd_mem)) ?_)
   simp[*]
  ·refine mZ (hA.mono (by kst_all)) T11 (S11.kp hc) hL (K11.kq y10 (by tbr_iter (ai nLy nYy))) z1 z2 ha hb (fun h12 fH tok K12=>H h12 fH tok _ ((S11.trans K12).mono (by kd_mem)) ?_)
   simp[*]
theorem fs (LC:bo w kss ws 7) {s:Shared} {b tb:Nat} (hA:AOk A 160) (hT:TopIn w.params s.heap)
  (hc:s.heap.get? ac=some (listO [.int (.ofNat a) ta] ec)) (ha:s.heap.get? aa=some (listO La ea)) (hVa:IntVs La above) (hb:s.heap.get? bl=some (listO Lb ebl)) (hKB:KidsAt s.heap Lb kss) (hw:s.heap.get? aw=some (listO Lw ew)) (hW:StrVs Lw ws)
  (bX:above.length=7∧kss.length=7) (hup:∀i,0<i→i<7→above.getD i 0<i) (hks:∀i,(kss.getD i []).length≤50) (hDp:∀i,i<7→(kss.getD i []).all (fun x=>Dp kss 7 x && decide (x<7))=true) (hlen:∀x,x<7→(laidF kss ws 7 x).length≤400) (hasc:∀x,x<7→Ascii (laidF kss ws 7 x))
  (hne:ac≠aa) (hrow:∀(i:Nat) (b:Addr),Lb[i]? = some (Value.ref b)→ac≠b∧aa≠b) (hm7:a<7) (hib:Lb[a]? = some (.ref ab)) (hab:s.heap.get? ab=some (listO [.int (.ofNat x1) t1, .int (.ofNat x2) t2] eb)) (hkm:kss.getD a []=[x1,x2])
  (H:∀(h':Heap) tk' tok,Keeps s.heap h' []→R (.ok (.ret (.int (.ofNat (changeF above kss ws [a])) tok))) ⟨h',s.gens,s.drawn,tk',s.os⟩):
  codeAny (mm w) A (.call (.ref 192) ⟨[.ref ac, .ref aa, .ref bl, .ref aw],[]⟩) R s:=by
 refine az [] hT ah (fun n t hn=>?_)
 refine gRx hA.hd 18 [0,0,1,1,1,1,2,2,3,3] ?_
 kst_p
 have f0:∀k,s.heap.get? (n+k)=none:=aC (Nat.le_of_eq hn)
 refine GoalX.enterC (c:= .func (dAt 22).2.1 (cu n (n+3) (n+2) (n+1))) (by kd_p) (fun h D=>noLimit D.kt) (ir hA 2 (by kd_p) (by kst_all)) (by kd_p) (by kd_p) (fun h tk D=>?_)
 kd_adr
 have⟨d3,w3⟩:=D.wK 0 n (frame (e22 w t (t+1) (.ref ac) (.ref aa)) 2)
 have d4:=D.cK 1 (n+1) (cellO (.ref bl))
 have d5:=D.cK 2 (n+2) (cellO (.ref aw))
 have⟨d6,w6⟩:=D.wK 3 (n+3) ⟨.type "cell",none, .cell none, #[]⟩
 have K:Keeps s.heap h []:=D.keeps
 have TD:TopIn w.params h:=D.kt
 refine codeAny_func ?_
 have k:=fun {a o} (e:s.heap.get? a=some o)=>K.keep a o e (by kd_mem)
 refine ng (b:=0) (tb:=0) (s:=⟨h,s.gens,s.drawn,tk,s.os⟩) LC (AOk.deeper hA (by kst_all)) TD (k hc) (k ha) hVa (k hb) (hKB.keep K) (k hw) hW d3 d4 d5 d6 w3.kn w6.kn ⟨by simp,by simp⟩ bX hup hks hDp hlen hasc hne hrow hm7 hib (k hab) hkm s.heap K (f0 0) (f0 3) hc ha hb hKB hw (fun h' tk' tok v K' hv=>?_)
 subst hv
 exact H h' tk' tok K'
theorem iO (LC:bo w kss ws 7) {s:Shared} (hA:AOk A 160) (hT:TopIn w.params s.heap)
  (hc:s.heap.get? ac=some (listO [.int (.ofNat a) ta, .int (.ofNat b) tb] ec)) (ha:s.heap.get? aa=some (listO La ea)) (hVa:IntVs La above) (hb:s.heap.get? bl=some (listO Lb ebl)) (hKB:KidsAt s.heap Lb kss) (hw:s.heap.get? aw=some (listO Lw ew)) (hW:StrVs Lw ws)
  (bX:above.length=7∧kss.length=7) (hup:∀i,0<i→i<7→above.getD i 0<i) (hks:∀i,(kss.getD i []).length≤50) (hDp:∀i,i<7→(kss.getD i []).all (fun x=>Dp kss 7 x && decide (x<7))=true) (hlen:∀x,x<7→(laidF kss ws 7 x).length≤400) (hasc:∀x,x<7→Ascii (laidF kss ws 7 x))
  (hne:ac≠aa) (hrow:∀(i:Nat) (b:Addr),Lb[i]? = some (Value.ref b)→ac≠b∧aa≠b) (mJ:a<b) (hm7:b<7) (hib:Lb[b]? = some (.ref ab)) (hab:s.heap.get? ab=some (listO [.int (.ofNat x1) t1, .int (.ofNat x2) t2] eb)) (hkm:kss.getD b []=[x1,x2])
  (H:∀(h':Heap) tk' tok,Keeps s.heap h' []→R (.ok (.ret (.int (.ofNat (changeF above kss ws [a,b])) tok))) ⟨h',s.gens,s.drawn,tk',s.os⟩):
  codeAny (mm w) A (.call (.ref 192) ⟨[.ref ac, .ref aa, .ref bl, .ref aw],[]⟩) R s:=by
 refine az [] hT ah (fun n t hn=>?_)
 refine gRx hA.hd 18 [0,0,1,1,1,1,2,2,3,3] ?_
 kst_p
 have f0:∀k,s.heap.get? (n+k)=none:=aC (Nat.le_of_eq hn)
 refine GoalX.enterC (c:= .func (dAt 22).2.1 (cu n (n+3) (n+2) (n+1))) (by kd_p) (fun h D=>noLimit D.kt) (ir hA 2 (by kd_p) (by kst_all)) (by kd_p) (by kd_p) (fun h tk D=>?_)
 kd_adr
 have⟨d3,w3⟩:=D.wK 0 n (frame (e22 w t (t+1) (.ref ac) (.ref aa)) 2)
 have d4:=D.cK 1 (n+1) (cellO (.ref bl))
 have d5:=D.cK 2 (n+2) (cellO (.ref aw))
 have⟨d6,w6⟩:=D.wK 3 (n+3) ⟨.type "cell",none, .cell none, #[]⟩
 have K:Keeps s.heap h []:=D.keeps
 have TD:TopIn w.params h:=D.kt
 refine codeAny_func ?_
 have k:=fun {a o} (e:s.heap.get? a=some o)=>K.keep a o e (by kd_mem)
 refine nc (s:=⟨h,s.gens,s.drawn,tk,s.os⟩) LC (AOk.deeper hA (by kst_all)) TD (k hc) (k ha) hVa (k hb) (hKB.keep K) (k hw) hW d3 d4 d5 d6 w3.kn w6.kn ⟨by simp,by simp⟩ bX hup hks hDp hlen hasc hne hrow mJ hm7 hib (k hab) hkm s.heap K (f0 0) (f0 3) hc ha hb hKB hw (fun h' tk' tok v K' hv=>?_)
 subst hv
 exact H h' tk' tok K'
noncomputable def sBase:Str:=⟨#[98,97,115,101]⟩
noncomputable def sOwn:Str:=⟨#[111,119,110]⟩
noncomputable def kQ:Str:=⟨#[115,99,114,105,112,116]⟩
noncomputable def nS:Str:=⟨#[116,97,98,108,101]⟩
noncomputable def nZ:Str:=⟨#[101,118,101,114,121]⟩
noncomputable def nU:Str:=⟨#[111,114,100,101,114]⟩
noncomputable def kP:Str:=⟨#[116,117,114,110,101,100]⟩
noncomputable def jw:Str:=⟨#[111,100,100]⟩
noncomputable def eX:Str:=⟨#[112,108,97,105,110]⟩
noncomputable def ei:Str:=⟨#[115,112,101,108,108,101,100]⟩
noncomputable def sEnd:Str:=⟨#[101,110,100]⟩
noncomputable def jx:Str:=⟨#[102,111,114,107,115]⟩
noncomputable def sSums:Str:=⟨#[115,117,109,115]⟩
noncomputable def fK:Str:=⟨#[116,97,112,101]⟩
noncomputable def du:Str:=⟨#[99,111,117,110,116,101,114]⟩
noncomputable def nT:Str:=⟨#[114,111,111,116]⟩
noncomputable def ch:Str:=⟨#[111,116,104,101,114]⟩
noncomputable def sFork:Str:=⟨#[102,111,114,107]⟩
noncomputable def sWord:Str:=⟨#[119,111,114,100]⟩
noncomputable def gk:Str:=⟨#[108,97,119,46,60,108,111,99,97,108,115,62,46]⟩
@[reducible] noncomputable def bq (L c1 c2 c3 c4 c5 c6 c7 c8:Addr):Env:={ fenv (dAt 23) gk 197 196 L with cells:=[(kP,c8),(nU,c7),(nZ,c6),(nS,c5),(cQ,c4),(sOwn,c3),(sBase,c2),(kQ,c1)] }
noncomputable def aZ (k:Nat):Stmt:=(dAt 23).2.1.getD k default
@[reducible] noncomputable def bd:Obj:=⟨.type "cell",none, .cell none, #[]⟩
noncomputable def ie:Expr:=dI (aZ 1)
@[reducible] noncomputable def fp (L d c1 c2:Addr):Env:={ scope:=cG (bF ie) (dAt 23).2.2,locals:=d,globals:=3,cells:=[(kQ,c1),(sBase,c2)],qual:=gk,func:=none,code:= .ref 196,frame:=some L,builtins:=0 }
theorem bJ {s:Shared} {sl:Nat} {L:List Value} {vl vu vs:Value} {lo hi st:Option Int} (hl:s.heap.get? l=some (listO L e)) (hs:s.heap.IsSliceOf sl vl vu vs) (pl:IsPart vl lo) (pu:IsPart vu hi) (ps:IsPart vs st) (h0:st≠some 0) (hsz:L.length≤1000)
  (H:∀tk',R (.ok (.ret (.ref s.heap.objs.size))) ⟨s.heap.push (listO (slicePick L.toArray lo hi st).toList 0),s.gens,s.drawn,tk',s.os⟩):
  codeAny (mm w) A (.call (.builtin "list.__getitem__") ⟨[.ref l, .ref sl],[]⟩) R s:=by
 have hl:s.heap.IsList l L.toArray:=⟨_,hl,rfl,_,rfl⟩
 kd_adr
 obtain⟨o,ho,hc,ne,hd⟩:=id hl
 obtain⟨os,hos,hcs,hds⟩:=id hs
 have hTs:s.TypeIs (.ref sl) "slice" :=⟨os,hos,hcs⟩
 have hst:¬((rawPart st == rawInt 0)=true):=by
  cases st with
  | none=>exact Bool.false_ne_true
  | some c=>
   intro hh
   have:c=0:=by simpa [rawPart,rawInt] using hh
   exact h0 (by rw[this])
 refine aI slot_list_getitem hl.typeIs entry_list_getitem (args_list_getitem _ _) (S:=fun A R s'=>s'=s∧R (.ok (.ret (.ref s.heap.objs.size))) { s with heap:=s.heap.push (listO (slicePick L.toArray lo hi st).toList 0) }) ?_ ⟨rfl,H s.toks⟩
 intro A R s' hh
 obtain⟨rfl,H⟩:=hh
 show wpAny _ _ (Builtin.List.listSubscript? (.ref sl) >>= _) _ _ s'
 refine wpAny_bind ?_
 unfold Builtin.List.listSubscript?
 refine wpAny_bind (wpAny_specialOf hTs slice_no_index ?_)
 simp only[Option.isNone_none,if_true]
 refine wpAny_pure ?_
 show wpAny _ _ (typeOf (.ref sl) >>= _) _ _ s'
 refine wpAny_bind (wpAny_typeOf hTs ?_)
 rw[if_neg (by decide)]
 rw[listSliceParts_eq]
 refine wpAny_bind (wpAny_bind (wpAny_field hos hds (x:=vs) rfl (wpAny_bind (wpAny_listPart ps ?_))))
 rw[if_neg hst]
 refine wpAny_bind (wpAny_field hos hds (x:=vl) rfl (wpAny_bind (wpAny_listPart pl ?_)))
 refine wpAny_bind (wpAny_field hos hds (x:=vu) rfl (wpAny_bind (wpAny_listPart pu (wpAny_pure ?_))))
 refine wpAny_bind (m:=Builtin.List.listItems (.ref l)) ?_
 unfold Builtin.List.listItems
 refine wpAny_bind (wpAny_seqItems ho hd (wpAny_pure ?_))
 refine wpAny_bind (wpAny_of_eq (sliceIndices_raw lo hi st L.toArray.size h0) ?_)
 refine wpAny_bind (wpAny_newObj_type (wpAny_pure H) (Nat.le_trans (slicePick_size_le L.toArray lo hi st) (by rw[show sizeLine=2^24 from rfl];simp;kst_all)))
theorem nG {s:Shared} {L:List Value} {Q:Value→Shared→Prop} (hh:A.handled=Option.none) (hl:s.heap.get? l=some (listO L e)) (hi:IntsAre L ns) (hsz:s.heap.objs.size=l+1)
  (H:∀(h':Heap) tk v tok,Keeps s.heap h' []→Q (.int v tok) { s with heap:=h',toks:=tk }):wpAny (model prog w) A (PySem.call (.builtin "sum") [.ref l]) Q E s:=by
 kd_adr
 obtain⟨xs,hx⟩:=hi.allInts.items
 have hl':s.heap.IsList l (intItems xs):=by rw[←hx];exact⟨_,hl,rfl,_,rfl⟩
 refine sum_intListG hh hl' fun h' tk t' hk=>?_
 exact H h' tk _ t' ⟨fun b o e _=>hk b o e,by rw[hsz];exact Heap.lt_size (hk _ _ hl)⟩
theorem ll {s:Shared} {a b:Int} {t:Tok} (H:∀tok tk',R (.ok (.ret (.int (a+b) tok))) { s with toks:=tk' }):codeAny (mm w) A (.call (.builtin "int.__add__") ⟨[.int a t, .int b u],[]⟩) R s:=
 aG F.slot_int_add (typeIs_int s _ _) F.entry_int_add (F.args_int_add_2 _ _) (AutoIntG4.int___add___int_int_0 a t b u) (H _ _)
theorem cM {s:Shared} {a:Int} {t:Tok} (hb:0<b) (H:∀tok tk',R (.ok (.ret (.int (.ofNat (a % b).toNat) tok))) { s with toks:=tk' }):codeAny (mm w) A (.call (.builtin "int.__mod__") ⟨[.int a t, .int (.ofNat b) u],[]⟩) R s:=by
 refine aG F.slot_int_mod (typeIs_int s _ _) F.entry_int_mod (F.args_int_mod_2 _ _) (AutoIntG6.int___mod___int_int_1 a t (.ofNat b) u (by simp;kst_all)) ?_
 have e:a.fmod (.ofNat b) = .ofNat (a % b).toNat:=by
  rw[Int.fmod_eq_emod_of_nonneg _ (by kd_mem)]
  have:0≤a % (b:Int):=Int.emod_nonneg _ (by kst_all)
  show a % (b:Int)=_
  simp only[Int.ofNat_eq_natCast];kst_all
 rw[e]
 exact H _ _
theorem cX {s:Shared} {a:Int} {t:Tok} (hb:0<b) (hb64:b<2^64) (H:∀tok tk',R (.ok (.ret (.int (a / b) tok))) { s with toks:=tk' }):codeAny (mm w) A (.call (.builtin "int.__floordiv__") ⟨[.int a t, .int (.ofNat b) u],[]⟩) R s:=by
 refine aG F.slot_int_floordiv (typeIs_int s _ _) F.entry_int_floordiv (F.args_int_floordiv_2 _ _) (AutoIntG4.int___floordiv___int_int_1 a t (.ofNat b) u (by simp;kst_all) (by rw[show (Int.ofNat b)=(b:Int) from rfl,noPy hb64];decide)) ?_
 have e:a.fdiv (.ofNat b)=a / b:=Int.fdiv_eq_ediv_of_nonneg _ (by kd_mem)
 rw[e]
 exact H _ _
@[reducible] noncomputable def e26 (w:World) (k1:Nat) (v1:Value):List DictEntry:=[ent w.params di k1 v1]
theorem mf {i r tr es kk:Nat} {vv:Value} {s:Shared} (hA:AOk A 19) (hT:TopIn w.params s.heap) (jR:i<2^63) (hls:Ls.length≤63) (hns:IntsAre Ls ns) (hla:La.length≤100)
  (h1:s.heap.get? c1=some (cellO (.ref sc))) (h2:s.heap.get? c2=some (cellO (.ref bs))) (hs:s.heap.get? sc=some (listO Ls es)) (hb:s.heap.get? bs=some (listO Lb eb)) (hbi:Lb[i]? = some (.int bv tb))
  (hI:s.heap.get? it=some (aq (.ofNat i) (.ofNat (r+1)) ta tr 0)) (hacc:s.heap.get? acc=some (listO La ea)) (hd:s.heap.get? d=some (dictO [] ed)) (ki:kg w it=none) (ka:kg w acc=none) (kd:kg w d=none) (nsa:sc≠acc) (nba:bs≠acc)
  (H:∀(h':Heap) tk' v tok kk' vv' ed',Keeps s.heap h' [it,acc,d]→h'.get? it=some (aq (.ofNat (i+1)) (.ofNat r) 0 0 0)→h'.get? acc=some (listO (La++[.int v tok]) (ea+1))→h'.get? d=some (dictO (e26 w kk' vv') ed')→
   codeAny (mm w) A (.compLoop ie 0 (.ref it) (.ref acc) (fp L d c1 c2)) R ⟨h',s.gens,s.drawn,tk',s.os⟩):
  codeAny (mm w) A (.compLoop ie 0 (.ref it) (.ref acc) (fp L d c1 c2)) R s:=by
 have m1:=apart h1 hI
 have m2:=apart h1 hacc
 have m3:=apart h1 hd
 have m4:=apart h2 hI
 have m5:=apart h2 hacc
 have m6:=apart h2 hd
 have m7:=apart hs hI
 have m8:=apart hs hd
 have m9:=apart hb hI
 have m10:=apart hb hd
 have m11:=apart hI hacc
 have m12:=apart hI hd
 have m13:=apart hacc hd
 have eA:La.length≤2^24:=by kst_all
 refine aj [(c1,_),(c2,_),(sc,_),(bs,_),(it,_),(acc,_),(d,_)] 4 hT (ag h1 (ag h2 (ag hs (ag hb (ag hI (ag hacc (ag hd ah))))))) (by kd_subs) (by tbr_iter (ai ki (ai ka kd))) (fun n t hn=>?_)
 refine gPx hA.hd [Value.int bv tb] 41 [5,0,5,5,5,5,5,5,5,5,7,7,2,7,4,4,4,15,3,0,0,0,0,1,3,3,3] ?_
 intro zM zO
 refine gQx [Lb[i]? = some (Value.int bv tb),i<2^63] ⟨by assumption,by assumption,trivial⟩ ?_
 refine gcK (.call (.builtin "list.__getitem__") ⟨[.ref sc, .ref n],[]⟩) (fun h D=>?_)
 have⟨g4,w4⟩:=D.wK 4 it (aq (.ofNat (i+1)) (Int.ofNat (r+1) - 1) 0 0 0)
 rw[ay] at g4
 kd_adr
 have⟨g5,w5⟩:=D.wK 5 acc (listO La ea)
 have⟨g6,w6⟩:=D.wK 6 d (dictO (e26 w (t+1) (.int (.ofNat i) t)) (ed+1))
 have g2:=D.cK 2 sc (listO Ls es)
 have g7:=D.cK 7 n ⟨.type "slice",none, .fields #[.none, .int 60 (t+2), .none], #[]⟩
 refine bJ g2 ⟨_,g7,rfl,rfl⟩ .none (.int 60 _) .none (by kd_mem) (by kst_all) (fun tk1=>?_)
 have K1:Keeps h (h.push (listO (slicePick Ls.toArray none (some 60) none).toList 0)) []:=Keeps.pushH _ _
 have n1e:(h.push (listO (slicePick Ls.toArray none (some 60) none).toList 0)).get? h.objs.size=some (listO (slicePick Ls.toArray none (some 60) none).toList 0):=Heap.get?_push_size _ rfl
 have hns1:=hns.pick none (some 60) none
 have hsz1:(slicePick Ls.toArray none (some 60) none).toList.length≤63:=by have:=slicePick_size_le Ls.toArray none (some 60) none;simp at this ⊢;kst_all
 generalize (slicePick Ls.toArray none (some 60) none).toList=Lx at *
 generalize hx:h.objs.size=x1 at *
 have wx:Wr w _ _ x1:=D.fresh (Nat.le_of_eq hx)
 have q4:=bh g4 (Nat.le_of_eq hx)
 have q5:=bh g5 (Nat.le_of_eq hx)
 have q6:=bh g6 (Nat.le_of_eq hx)
 refine resume D K1 ax [(c1,_),(x1,_),(it,_),(acc,_),(d,_)] 2 (ag (K1.kp (D.cell 0 (x:=cellO (.ref sc)) (by kd_p))) (ag n1e (ag (K1.kp g4) (ag (K1.kp g5) (ag (K1.kp g6) ah))))) ?dis (by tbr_iter (ai w4 (ai w5 w6))) (fun n2 hn2=>?_)
 case dis=>simp[Dis, *]
 refine gRx hA.hd 9 [5,2,2,2] ?_
 kst_p
 refine gcK (.call (.builtin "list.__getitem__") ⟨[.ref x1, .ref n2],[]⟩) (fun h2 D2=>?_)
 kd_adr
 have⟨g4,w4⟩:=D2.wK 2 it (aq (.ofNat (i+1)) (.ofNat r) 0 0 0)
 have⟨g5,w5⟩:=D2.wK 3 acc (listO La ea)
 have⟨g6,w6⟩:=D2.wK 4 d (dictO (e26 w (t+1) (.int (.ofNat i) t)) (ed+1))
 have g1:=D2.cK 1 x1 (listO Lx 0)
 have g7:=D2.cK 5 n2 ⟨.type "slice",none, .fields #[.int (.ofNat i) t, .none, .int 4 tk1], #[]⟩
 refine bJ g1 ⟨_,g7,rfl,rfl⟩ (.int _ _) .none (.int 4 _) (by kd_mem) (by kst_all) (fun tk2=>?_)
 have K2:Keeps h2 (h2.push (listO (slicePick Lx.toArray (some (.ofNat i)) none (some 4)).toList 0)) []:=Keeps.pushH _ _
 have n2e:(h2.push (listO (slicePick Lx.toArray (some (.ofNat i)) none (some 4)).toList 0)).get? h2.objs.size=some (listO (slicePick Lx.toArray (some (.ofNat i)) none (some 4)).toList 0):=Heap.get?_push_size _ rfl
 have szp:(h2.push (listO (slicePick Lx.toArray (some (.ofNat i)) none (some 4)).toList 0)).objs.size=h2.objs.size+1:=Heap.size_push ..
 have hns2:=hns1.pick (some (.ofNat i)) none (some 4)
 generalize (slicePick Lx.toArray (some (.ofNat i)) none (some 4)).toList=Ly at *
 generalize hy:h2.objs.size=y1 at *
 have wy:Wr w _ _ y1:=D2.fresh (Nat.le_of_eq hy)
 have p4:=bh g4 (Nat.le_of_eq hy)
 have p5:=bh g5 (Nat.le_of_eq hy)
 have p6:=bh g6 (Nat.le_of_eq hy)
 refine resume D2 K2 ax [(y1,_),(it,_),(acc,_),(d,_)] 1 (ag n2e (ag (K2.kp g4) (ag (K2.kp g5) (ag (K2.kp g6) ah)))) ?dis2 (by tbr_iter (ai w4 (ai w5 w6))) (fun n3 hn3=>?_)
 case dis2=>simp[Dis, *]
 refine gRx hA.hd 4 [0] ?_
 kst_p
 refine GoalX.callw (f:= .builtin "sum") (pos:=[.ref y1]) (kw:=[]) (by kd_p) (fun h3 D3=>?_)
 kd_adr
 have⟨g4,w4⟩:=D3.wK 1 it (aq (.ofNat (i+1)) (.ofNat r) 0 0 0)
 have⟨g5,w5⟩:=D3.wK 2 acc (listO La ea)
 have⟨g6,w6⟩:=D3.wK 3 d (dictO (e26 w (t+1) (.int (.ofNat i) t)) (ed+1))
 have g0:=D3.cK 0 y1 (listO Ly 0)
 have sz3:h3.objs.size=n3:=D3.size _ (by kd_p)
 have sz3:h3.objs.size=y1+1:=sz3.trans (hn3.symm.trans szp)
 refine nG ((bj hA.hd _).trans (by kd_p)) g0 hns2 sz3 (fun h4 tk4 v tok K4=>?_)
 refine resume D3 K4 ax [(it,_),(acc,_),(d,_)] 0 (ag (K4.kp g4) (ag (K4.kp g5) (ag (K4.kp g6) ah))) (by kd_subs) (by tbr_iter (ai w4 (ai w5 w6))) (fun n5 hn5=>?_)
 refine gRx hA.hd 2 [] ?_
 kst_p
 refine gcK (.call (.builtin "int.__add__") ⟨[.int bv tb, .int v tok],[]⟩) (fun h5 D5=>?_)
 refine ll (fun fG tk5=>?_)
 refine aD D5 ?_
 refine gPx hA.hd [] 1 [19,1,0,0] ?_
 intro zM zO
 refine gQx [La.length≤2^24] ⟨by assumption,trivial⟩ ?_
 refine gaK (.compLoop ie 0 (.ref it) (.ref acc) (fp L d c1 c2)) (fun h6 D6=>?_)
 exact H h6 _ (bv+v) fG _ _ _ D6.keeps (D6.xK 0) (D6.xK 1) (D6.cell 2 (x:=dictO (e26 w (t+1) (.int (.ofNat i) t)) (ed+1)) (by kd_p))
theorem fc {i r tr es:Nat} {s:Shared} (hA:AOk A 19) (hT:TopIn w.params s.heap) (jR:i<2^63) (hls:Ls.length≤63) (hns:IntsAre Ls ns) (hla:La.length≤100)
  (h1:s.heap.get? c1=some (cellO (.ref sc))) (h2:s.heap.get? c2=some (cellO (.ref bs))) (hs:s.heap.get? sc=some (listO Ls es)) (hb:s.heap.get? bs=some (listO Lb eb)) (hbi:Lb[i]? = some (.int bv tb))
  (hI:s.heap.get? it=some (aq (.ofNat i) (.ofNat (r+1)) ta tr 0)) (hacc:s.heap.get? acc=some (listO La ea)) (hd:s.heap.get? d=some (dictO (e26 w kk vv) ed)) (ki:kg w it=none) (ka:kg w acc=none) (kd:kg w d=none) (nsa:sc≠acc) (nba:bs≠acc)
  (H:∀(h':Heap) tk' v tok kk' vv' ed',Keeps s.heap h' [it,acc,d]→h'.get? it=some (aq (.ofNat (i+1)) (.ofNat r) 0 0 0)→h'.get? acc=some (listO (La++[.int v tok]) (ea+1))→h'.get? d=some (dictO (e26 w kk' vv') ed')→
   codeAny (mm w) A (.compLoop ie 0 (.ref it) (.ref acc) (fp L d c1 c2)) R ⟨h',s.gens,s.drawn,tk',s.os⟩):
  codeAny (mm w) A (.compLoop ie 0 (.ref it) (.ref acc) (fp L d c1 c2)) R s:=by
 have m1:=apart h1 hI
 have m2:=apart h1 hacc
 have m3:=apart h1 hd
 have m4:=apart h2 hI
 have m5:=apart h2 hacc
 have m6:=apart h2 hd
 have m7:=apart hs hI
 have m8:=apart hs hd
 have m9:=apart hb hI
 have m10:=apart hb hd
 have m11:=apart hI hacc
 have m12:=apart hI hd
 have m13:=apart hacc hd
 have eA:La.length≤2^24:=by kst_all
 refine aj [(c1,_),(c2,_),(sc,_),(bs,_),(it,_),(acc,_),(d,_)] 4 hT (ag h1 (ag h2 (ag hs (ag hb (ag hI (ag hacc (ag hd ah))))))) (by kd_subs) (by tbr_iter (ai ki (ai ka kd))) (fun n t hn=>?_)
 refine gPx hA.hd [Value.int bv tb] 41 [5,0,5,5,5,5,5,5,5,5,7,7,2,7,4,4,4,15,3,0,0,0,0,1,3,3,3] ?_
 intro zM zO
 refine gQx [Lb[i]? = some (Value.int bv tb),i<2^63] ⟨by assumption,by assumption,trivial⟩ ?_
 refine gcK (.call (.builtin "list.__getitem__") ⟨[.ref sc, .ref n],[]⟩) (fun h D=>?_)
 have⟨g4,w4⟩:=D.wK 4 it (aq (.ofNat (i+1)) (Int.ofNat (r+1) - 1) 0 0 0)
 rw[ay] at g4
 kd_adr
 have⟨g5,w5⟩:=D.wK 5 acc (listO La ea)
 have⟨g6,w6⟩:=D.wK 6 d (dictO (e26 w kk (.int (.ofNat i) t)) ed)
 have g2:=D.cK 2 sc (listO Ls es)
 have g7:=D.cK 7 n ⟨.type "slice",none, .fields #[.none, .int 60 (t+2), .none], #[]⟩
 refine bJ g2 ⟨_,g7,rfl,rfl⟩ .none (.int 60 _) .none (by kd_mem) (by kst_all) (fun tk1=>?_)
 have K1:Keeps h (h.push (listO (slicePick Ls.toArray none (some 60) none).toList 0)) []:=Keeps.pushH _ _
 have n1e:(h.push (listO (slicePick Ls.toArray none (some 60) none).toList 0)).get? h.objs.size=some (listO (slicePick Ls.toArray none (some 60) none).toList 0):=Heap.get?_push_size _ rfl
 have hns1:=hns.pick none (some 60) none
 have hsz1:(slicePick Ls.toArray none (some 60) none).toList.length≤63:=by have:=slicePick_size_le Ls.toArray none (some 60) none;simp at this ⊢;kst_all
 generalize (slicePick Ls.toArray none (some 60) none).toList=Lx at *
 generalize hx:h.objs.size=x1 at *
 have wx:Wr w _ _ x1:=D.fresh (Nat.le_of_eq hx)
 have q4:=bh g4 (Nat.le_of_eq hx)
 have q5:=bh g5 (Nat.le_of_eq hx)
 have q6:=bh g6 (Nat.le_of_eq hx)
 refine resume D K1 ax [(c1,_),(x1,_),(it,_),(acc,_),(d,_)] 2 (ag (K1.kp (D.cell 0 (x:=cellO (.ref sc)) (by kd_p))) (ag n1e (ag (K1.kp g4) (ag (K1.kp g5) (ag (K1.kp g6) ah))))) ?dis (by tbr_iter (ai w4 (ai w5 w6))) (fun n2 hn2=>?_)
 case dis=>simp[Dis, *]
 refine gRx hA.hd 9 [5,2,2,2] ?_
 kst_p
 refine gcK (.call (.builtin "list.__getitem__") ⟨[.ref x1, .ref n2],[]⟩) (fun h2 D2=>?_)
 kd_adr
 have⟨g4,w4⟩:=D2.wK 2 it (aq (.ofNat (i+1)) (.ofNat r) 0 0 0)
 have⟨g5,w5⟩:=D2.wK 3 acc (listO La ea)
 have⟨g6,w6⟩:=D2.wK 4 d (dictO (e26 w kk (.int (.ofNat i) t)) ed)
 have g1:=D2.cK 1 x1 (listO Lx 0)
 have g7:=D2.cK 5 n2 ⟨.type "slice",none, .fields #[.int (.ofNat i) t, .none, .int 4 tk1], #[]⟩
 refine bJ g1 ⟨_,g7,rfl,rfl⟩ (.int _ _) .none (.int 4 _) (by kd_mem) (by kst_all) (fun tk2=>?_)
 have K2:Keeps h2 (h2.push (listO (slicePick Lx.toArray (some (.ofNat i)) none (some 4)).toList 0)) []:=Keeps.pushH _ _
 have n2e:(h2.push (listO (slicePick Lx.toArray (some (.ofNat i)) none (some 4)).toList 0)).get? h2.objs.size=some (listO (slicePick Lx.toArray (some (.ofNat i)) none (some 4)).toList 0):=Heap.get?_push_size _ rfl
 have szp:(h2.push (listO (slicePick Lx.toArray (some (.ofNat i)) none (some 4)).toList 0)).objs.size=h2.objs.size+1:=Heap.size_push ..
 have hns2:=hns1.pick (some (.ofNat i)) none (some 4)
 generalize (slicePick Lx.toArray (some (.ofNat i)) none (some 4)).toList=Ly at *
 generalize hy:h2.objs.size=y1 at *
 have wy:Wr w _ _ y1:=D2.fresh (Nat.le_of_eq hy)
 have p4:=bh g4 (Nat.le_of_eq hy)
 have p5:=bh g5 (Nat.le_of_eq hy)
 have p6:=bh g6 (Nat.le_of_eq hy)
 refine resume D2 K2 ax [(y1,_),(it,_),(acc,_),(d,_)] 1 (ag n2e (ag (K2.kp g4) (ag (K2.kp g5) (ag (K2.kp g6) ah)))) ?dis2 (by tbr_iter (ai w4 (ai w5 w6))) (fun n3 hn3=>?_)
 case dis2=>simp[Dis, *]
 refine gRx hA.hd 4 [0] ?_
 kst_p
 refine GoalX.callw (f:= .builtin "sum") (pos:=[.ref y1]) (kw:=[]) (by kd_p) (fun h3 D3=>?_)
 kd_adr
 have⟨g4,w4⟩:=D3.wK 1 it (aq (.ofNat (i+1)) (.ofNat r) 0 0 0)
 have⟨g5,w5⟩:=D3.wK 2 acc (listO La ea)
 have⟨g6,w6⟩:=D3.wK 3 d (dictO (e26 w kk (.int (.ofNat i) t)) ed)
 have g0:=D3.cK 0 y1 (listO Ly 0)
 have sz3:h3.objs.size=n3:=D3.size _ (by kd_p)
 have sz3:h3.objs.size=y1+1:=sz3.trans (hn3.symm.trans szp)
 refine nG ((bj hA.hd _).trans (by kd_p)) g0 hns2 sz3 (fun h4 tk4 v tok K4=>?_)
 refine resume D3 K4 ax [(it,_),(acc,_),(d,_)] 0 (ag (K4.kp g4) (ag (K4.kp g5) (ag (K4.kp g6) ah))) (by kd_subs) (by tbr_iter (ai w4 (ai w5 w6))) (fun n5 hn5=>?_)
 refine gRx hA.hd 2 [] ?_
 kst_p
 refine gcK (.call (.builtin "int.__add__") ⟨[.int bv tb, .int v tok],[]⟩) (fun h5 D5=>?_)
 refine ll (fun fG tk5=>?_)
 refine aD D5 ?_
 refine gPx hA.hd [] 1 [19,1,0,0] ?_
 intro zM zO
 refine gQx [La.length≤2^24] ⟨by assumption,trivial⟩ ?_
 refine gaK (.compLoop ie 0 (.ref it) (.ref acc) (fp L d c1 c2)) (fun h6 D6=>?_)
 exact H h6 _ (bv+v) fG _ _ _ D6.keeps (D6.xK 0) (D6.xK 1) (D6.cell 2 (x:=dictO (e26 w kk (.int (.ofNat i) t)) ed) (by kd_p))
theorem own_end {i tr:Nat} {s:Shared} (hA:AOk A 19) (hT:TopIn w.params s.heap) (hI:s.heap.get? it=some (aq (.ofNat i) (.ofNat 0) ta tr 0)) (ki:kg w it=none)
  (H:∀(h':Heap) tk',Keeps s.heap h' [it]→R (.ok .next) ⟨h',s.gens,s.drawn,tk',s.os⟩):
  codeAny (mm w) A (.compLoop ie 0 (.ref it) (.ref acc) (fp L d c1 c2)) R s:=by
 refine aj [(it,_)] 0 hT (ag hI ah) (by kd_subs) (by tbr_iter ki) (fun n t hn=>?_)
 refine gRx hA.hd 14 [1,0,1,1,1,1,3] ?_
 kst_p
 refine gdK (.ok .next) (fun h D=>?_)
 exact H h _ D.keeps
theorem law_a1 {s:Shared} {c3 es:Nat} (hA:AOk A 250) (hT:TopIn w.params s.heap) (hls:Ls.length≤63) (hns:IntsAre Ls ns)
  (h2:s.heap.get? c2=some bd) (h3:s.heap.get? c3=some bd) (h1:s.heap.get? c1=some (cellO (.ref sc))) (hs:s.heap.get? sc=some (listO Ls es)) (k2:kg w c2=none) (k3:kg w c3=none) (n23:c2≠c3) (n12:c1≠c2∧c1≠c3)
  (H:∀(h':Heap) tk' ow o0 o1 o2 o3 t0 t1 t2 t3 e',Keeps s.heap h' [c2,c3]→h'.get? c3=some (cellO (.ref ow))→h'.get? ow=some (listO [.int o0 t0, .int o1 t1, .int o2 t2, .int o3 t3] e')→s.heap.get? ow=none→Q .next ⟨h',s.gens,s.drawn,tk',s.os⟩):
  wpAny (mm w) A (execs ((dAt 23).2.1.take 2) (bq L c1 c2 c3 c4 c5 c6 c7 c8)) Q E s:=by
 have m1:=apart hs h1
 have m2:=apart hs h2
 have m3:=apart hs h3
 refine aF (w:=w) (l:=[(sc,_),(c1,_),(c2,_),(c3,_)]) 2 hT (ag hs (ag h1 (ag h2 (ag h3 ah)))) (by kd_subs) (by tbr_iter (ai k2 k3)) (fun n t hn=>?_)
 refine gRx hA.hd 51 [3,3,0,0,0,0,6,6,0,6,6,6,6,0,6,6,6,6,7] ?_
 kst_p
 have f0:∀k,s.heap.get? (n+k)=none:=aC (Nat.le_of_eq hn)
 refine gcK (.compStart ie 0 (.ref (n+2)) (.ref (n+3)) (fp L (n+4) c1 c2)) (fun h D=>?_)
 kd_adr
 have⟨g3,w3⟩:=D.wK 3 c3 bd
 have⟨g2,w2⟩:=D.wK 2 c2 (cellO (.ref n))
 have g0:=D.cK 0 sc (listO Ls es)
 have g1:=D.cK 1 c1 (cellO (.ref sc))
 have g4:=D.cK 4 n (listO [.int 108 t, .int 410 (t+1), .int 26 (t+2), .int 6 (t+3)] 0)
 have⟨g6,w6⟩:=D.wK 6 (n+2) (aq (.ofNat 0) (.ofNat 4) 0 0 0)
 have⟨g7,w7⟩:=D.wK 7 (n+3) (listO [] 0)
 have⟨g8,w8⟩:=D.wK 8 (n+4) (dictO [] 0)
 refine bC (by kd_p) g6 ?_
 have kx:∀a∈([n+2,n+3,n+4]:List Addr),kg w a=none:=by tbr_iter (ai w6.kn (ai w7.kn w8.kn))
 have q1:=neF hs (f0 3)
 have q2:n≠n+3:=by kst_all
 have z0:=neF hs (f0 2)
 have z1:=neF hs (f0 4)
 have z2:=neF h1 (f0 2)
 have z3:=neF h1 (f0 3)
 have z4:=neF h1 (f0 4)
 have z5:=neF h2 (f0 2)
 have z6:=neF h2 (f0 3)
 have z7:=neF h2 (f0 4)
 have z8:=neF h3 (f0 2)
 have z9:=neF h3 (f0 3)
 have z10:=neF h3 (f0 4)
 refine mf (kk:=0) (vv:= .none) (i:=0) (r:=3) (hA.subN (by kd_p) 6 (by kd_p) (by kst_all)) D.kt (by kst_all) hls hns (by kd_mem) g1 g2 g0 g4 rfl g6 g7 g8 w6.kn w7.kn w8.kn q1 q2 (fun h1x k1 o0 t0 kk0 vv0 ed0 K1 i1 a1 d1=>?_)
 have KK1:Keeps h h1x [n+2,n+3,n+4]:=K1
 have T1:=KK1.top D.kt kx
 refine fc (i:=1) (r:=2) (hA.subN (by kd_p) 6 (by kd_p) (by kst_all)) T1 (by kst_all) hls hns (by kd_mem) (KK1.kq g1 (by tbr_iter (ai z2 (ai z3 z4)))) (KK1.kq g2 (by tbr_iter (ai z5 (ai z6 z7)))) (KK1.kq g0 (by tbr_iter (ai z0 (ai q1 z1)))) (KK1.kp g4) rfl i1 a1 d1 w6.kn w7.kn w8.kn q1 q2 (fun h2x k2 o1 t1 kk1 vv1 ed1 K2 i2 a2 d2=>?_)
 have KK2:Keeps h h2x [n+2,n+3,n+4]:=(KK1.trans K2).mono (by kd_mem)
 have T2:=KK2.top D.kt kx
 refine fc (i:=2) (r:=1) (hA.subN (by kd_p) 6 (by kd_p) (by kst_all)) T2 (by kst_all) hls hns (by kd_mem) (KK2.kq g1 (by tbr_iter (ai z2 (ai z3 z4)))) (KK2.kq g2 (by tbr_iter (ai z5 (ai z6 z7)))) (KK2.kq g0 (by tbr_iter (ai z0 (ai q1 z1)))) (KK2.kp g4) rfl i2 a2 d2 w6.kn w7.kn w8.kn q1 q2 (fun h3x k3 o2 t2 kk2 vv2 ed2 K3 i3 a3 d3=>?_)
 have KK3:Keeps h h3x [n+2,n+3,n+4]:=(KK2.trans K3).mono (by kd_mem)
 have T3:=KK3.top D.kt kx
 refine fc (i:=3) (r:=0) (hA.subN (by kd_p) 6 (by kd_p) (by kst_all)) T3 (by kst_all) hls hns (by kd_mem) (KK3.kq g1 (by tbr_iter (ai z2 (ai z3 z4)))) (KK3.kq g2 (by tbr_iter (ai z5 (ai z6 z7)))) (KK3.kq g0 (by tbr_iter (ai z0 (ai q1 z1)))) (KK3.kp g4) rfl i3 a3 d3 w6.kn w7.kn w8.kn q1 q2 (fun h4x k4 o3 t3 kk3 vv3 ed3 K4 i4 a4 d4=>?_)
 have KK4:Keeps h h4x [n+2,n+3,n+4]:=(KK3.trans K4).mono (by kd_mem)
 have T4:=KK4.top D.kt kx
 refine own_end (i:=4) (hA.subN (by kd_p) 6 (by kd_p) (by kst_all)) T4 i4 w6.kn (fun h5x k5 K5=>?_)
 have KK:Keeps h h5x [n+2,n+3,n+4]:=(KK4.trans K5).mono (by kd_mem)
 have a5:=K5.kp a4
 have d5:=K5.kp d4
 have c35:=KK.kq g3 (by tbr_iter (ai z8 (ai z9 z10)))
 refine resume D KK (an w6 (an w7 (an w8 ax))) [(c3,_),(n+3,_),(n+4,_)] 0 (ag c35 (ag a5 (ag d5 ah))) (by simp[Dis,z9,z10,Ne.symm z9,Ne.symm z10]) (by tbr_iter (ai w3 (ai w7 w8))) (fun n9 hn9=>?_)
 refine gRx hA.hd 10 [3,3,3,1,1] ?_
 kst_p
 refine ggK s (.next) (fun h6 t6 D6=>?_)
 exact H h6 t6 (n+3) o0 o1 o2 o3 t0 t1 t2 t3 _ D6.keeps (D6.xK 0) (D6.cell 1 (x:=listO [.int o0 t0, .int o1 t1, .int o2 t2, .int o3 t3] (0+1+1+1+1)) (by kd_p)) (f0 3)
theorem cJ {s:Shared} {t:Tok} (ha:2≤a) (hbig:Builtin.Int.intTooBig (((Builtin.Int.intBits (a:Int):Nat):Int)*(b:Int))=false) (H:∀tok tk',R (.ok (.ret (.int (.ofNat (a^b)) tok))) { s with toks:=tk' }):codeAny (mm w) A (.call (.builtin "int.__pow__") ⟨[.int (.ofNat a) t, .int (.ofNat b) u],[]⟩) R s:=by
 by_cases h0:b=0
 ·subst h0
  exact aG F.slot_int_pow (typeIs_int s _ _) F.entry_int_pow (F.args_int_pow_2 _ _) (AutoIntG9.int___pow___int_int_0 (.ofNat a) t (.ofNat 0) u (by decide) (by decide)) (H _ _)
 ·refine aG F.slot_int_pow (typeIs_int s _ _) F.entry_int_pow (F.args_int_pow_2 _ _) (AutoIntG2.int___pow___int_int_4 (.ofNat a) t (.ofNat b) u (by kd_mem) (by simp;kst_all) (by simp;kst_all) (by kd_mem) (by rw[show (Int.ofNat a)=(a:Int) from rfl,show (Int.ofNat b)=(b:Int) from rfl,hbig];decide)) ?_
  have e:(Int.ofNat a)^(Int.ofNat b).toNat=Int.ofNat (a^b):=by
   show (a:Int)^b=((a^b:Nat):Int)
   simp
  rw[e];exact H _ _
@[reducible] noncomputable def e27 (w:World) (k1 k2:Nat) (v1 v2:Value):List DictEntry:=[ent w.params bp k1 v1,ent w.params sWriter k2 v2]
theorem law_a2 {s:Shared} {c3:Nat} (hA:AOk A 250) (hT:TopIn w.params s.heap)
  (h3:s.heap.get? c3=some (cellO (.ref ow))) (ho:s.heap.get? ow=some (listO [.int o0 t0, .int o1 t1, .int o2 t2, .int o3 t3] eo)) (h4:s.heap.get? c4=some bd) (h5:s.heap.get? c5=some bd) (hL:s.heap.get? L=some (frame [] el)) (k4:kg w c4=none) (k5:kg w c5=none) (kL:kg w L=none) (n45:c4≠c5∧c3≠c4∧c3≠c5)
  (H:∀(h':Heap) tk' ab bl d k La ea Lb eb x j1 j2,Keeps s.heap h' [c4,c5,L]→k<5→dm x∈reach 6→h'.get? L=some (frame (e27 w j1 j2 (.ref ab) (.ref (escRef k))) (el+2))→h'.get? c4=some (cellO (.ref bl))→h'.get? c5=some (cellO (.ref d))→
   h'.get? ab=some (listO La ea)→IntVs La (dm x).1→h'.get? bl=some (listO Lb eb)→KidsAt h' Lb (dm x).2→HandT w.params h' k d→Q .next ⟨h',s.gens,s.drawn,tk',s.os⟩):
  wpAny (mm w) A (execs (((dAt 23).2.1.drop 2).take 2) (bq L c1 c2 c3 c4 c5 c6 c7 c8)) Q E s:=by
 have m1:=apart ho h3
 have m2:=apart ho h4
 have m3:=apart ho h5
 have m4:=apart ho hL
 have m5:=apart h3 hL
 have m6:=apart h4 hL
 have m7:=apart h5 hL
 refine aF (w:=w) (l:=[(ow,_),(c3,_),(c4,_),(c5,_),(L,_)]) 2 hT (ag ho (ag h3 (ag h4 (ag h5 (ag hL ah))))) (by kd_subs) (by tbr_iter (ai k4 (ai k5 kL))) (fun n t hn=>?_)
 refine gRx hA.hd 18 [0,2,1,1,1,0,1,1] ?_
 kst_p
 refine gcK (.call (.builtin "int.__pow__") ⟨[.int (.ofNat 10) (t+1), .int (.ofNat 6) (t+2)],[]⟩) (fun h D=>?_)
 refine cJ (by kst_all) (by decide) (fun tok tk1=>?_)
 refine aD D ?_
 refine gRx hA.hd 1 [] ?_
 kst_p
 refine gcK (.call (.builtin "int.__mod__") ⟨[.int o0 t0, .int (.ofNat (10^6)) tok],[]⟩) (fun h D=>?_)
 refine cM (by decide) (fun aX tk2=>?_)
 refine aD D ?_
 refine gRx hA.hd 2 [0] ?_
 kst_p
 refine gcK (.call (.ref 147) ⟨[.int (.ofNat (o0 % (10^6:Nat)).toNat) aX],[]⟩) (fun h D=>?_)
 generalize hx:(o0 % (10^6:Nat)).toNat=x at *
 kd_adr
 have⟨g0,w0⟩:h.get? ow=some (listO [.int o0 t0, .int o1 t1, .int o2 t2, .int o3 t3] eo)∧h.get? c3=some (cellO (.ref ow)):=⟨D.xK 0,D.xK 1⟩
 have⟨g2,w2⟩:=D.wK 2 c4 bd
 have⟨g3,w3⟩:=D.wK 3 c5 bd
 have⟨g4,w4⟩:=D.wK 4 L (frame [] el)
 refine oB (hA.subN (by kd_p) 6 (by kd_p) (by kst_all)) D.kt (fun h1 tk1 rt ab bl La ea Lb eb K1 hmem hrt hab hVa hbl hKB=>?_)
 have e0:=K1.kp g0
 have e1:=K1.kp w0
 have e2:=K1.kp g2
 have e3:=K1.kp g3
 have e4:=K1.kp g4
 have⟨ze0_hrt,ze0_hrt'⟩:=ap2 e0 hrt
 have⟨ze1_hrt,ze1_hrt'⟩:=ap2 e1 hrt
 have⟨ze2_hrt,ze2_hrt'⟩:=ap2 e2 hrt
 have⟨ze3_hrt,ze3_hrt'⟩:=ap2 e3 hrt
 have⟨ze4_hrt,ze4_hrt'⟩:=ap2 e4 hrt
 have e2':=e2
 have e3':=e3
 have e4':=e4
 have S1:Keeps s.heap h1 [c4,c5,L]:=(D.keeps.trans K1).mono (by kd_mem)
 refine rebase [c4,c5,L] [(ow,_),(c3,_),(rt,_),(c4,_),(c5,_),(L,_)] 3 (K1.top0 D.kt) (ag e0 (ag e1 (ag hrt (ag e2 (ag e3 (ag e4 ah)))))) (by kd_subs) (by tbr_iter (ai k4 (ai k5 kL))) (by kd_mem) (fun n1 hn1=>?_)
 refine gRx hA.hd 64 [3,3,3,0,3,7,7,0,7,7,7,3,7,7,7,0,7,7,7,3,7,7,7,0,7,7,7,3,7,7,9,6,6,4,4,0,0] ?_
 kst_p
 refine gcK (.call (.ref 142) ⟨[],[]⟩) (fun h2 D2=>?_)
 kd_adr
 have⟨f2,w2⟩:=D2.wK 3 c4 (cellO (.ref bl))
 have⟨f3,w3⟩:=D2.wK 4 c5 bd
 have⟨f4,w4⟩:=D2.wK 5 L (frame [ent w.params bp tk1 (.ref ab)] (el+1))
 have f0:=D2.cK 0 ow (listO [.int o0 t0, .int o1 t1, .int o2 t2, .int o3 t3] eo)
 have f1:=D2.cK 1 c3 (cellO (.ref ow))
 refine mz (hA.subN (by kd_p) 6 (by kd_p) (by kst_all)) D2.kt (fun h3 tk3 l Lh K3 hl hlsz hlen5 hh=>?_)
 have e0:=K3.kp f0
 have e1:=K3.kp f1
 have e2:=K3.kp f2
 have e3:=K3.kp f3
 have e4:=K3.kp f4
 generalize hk:(o3 % (5:Nat)).toNat=k at *
 have hk5:k<5:=by kst_all
 kd_adr
 obtain⟨tp,d,hLk,htp,hdsz,hT⟩:=hh k hk5
 have⟨ze1_hl,ze1_hl'⟩:=ap2 e1 hl
 have⟨ze1_htp,ze1_htp'⟩:=ap2 e1 htp
 have⟨ze2_hl,ze2_hl'⟩:=ap2 e2 hl
 have⟨ze2_htp,ze2_htp'⟩:=ap2 e2 htp
 have⟨ze3_hl,ze3_hl'⟩:=ap2 e3 hl
 have⟨ze3_htp,ze3_htp'⟩:=ap2 e3 htp
 have⟨ze4_hl,ze4_hl'⟩:=ap2 e4 hl
 have⟨ze4_htp,ze4_htp'⟩:=ap2 e4 htp
 have⟨ze0_htp,ze0_htp'⟩:=ap2 e0 htp
 have⟨zhl_htp,zhl_htp'⟩:=ap2 hl htp
 have nol:ow≠l:=fun q=>by subst q;exact absurd (Heap.lt_size f0) (Nat.not_lt.mpr hlsz)
 have S3:Keeps h1 h3 [c4,c5,L]:=(D2.keeps.trans K3).mono (by kd_mem)
 refine rebase [c4,c5,L] [(ow,_),(c3,_),(l,_),(tp,_),(c4,_),(c5,_),(L,_)] 4 (K3.top0 D2.kt) (ag e0 (ag e1 (ag hl (ag htp (ag e2 (ag e3 (ag e4 ah))))))) (by kd_subs) (by tbr_iter (ai k4 (ai k5 kL))) (by kd_mem) (fun n3 hn3=>?_)
 refine gRx hA.hd 15 [2,1,1,1,0,1,1] ?_
 kst_p
 refine gcK (.call (.builtin "int.__mod__") ⟨[.int o3 t3, .int (.ofNat 5) (tk3+1)],[]⟩) (fun h4 D4=>?_)
 refine cM (by decide) (fun jr tk4=>?_)
 rw[hk]
 refine aD D4 ?_
 have hk63:k<2^63:=by kst_all
 refine gPx hA.hd [Value.ref tp] 65 [3,3,3,15,2,0,0,0,4,4,4,0,4,8,8,0,8,8,8,4,8,8,8,0,8,8,8,4,8,8,8,0,8,8,8,4,8,8,10,7,7,6,6] ?_
 intro zM zO
 refine gQx [Lh[k]? = some (Value.ref tp),k<2^63] ⟨by assumption,by assumption,trivial⟩ ?_
 refine ggK s (.next) (fun h5 t5 D5=>?_)
 have S5:Keeps h3 h5 [c4,c5,L]:=D5.keeps
 have S15:Keeps h1 h5 [c4,c5,L]:=(S3.trans S5).mono (by kd_mem)
 have zz:∀{a:Addr} {L0:List Value} {e0:Nat},h1.get? a=some (listO L0 e0)→a∉([c4,c5,L]:List Addr):=fun q=>by
  simp
  exact⟨apart q e2',apart q e3',apart q e4'⟩
 refine H h5 t5 ab bl d k La ea Lb eb _ _ _ ((S1.trans S15).mono (by kd_mem)) hk5 hmem (D5.cell 6 (x:=frame (e27 w tk1 tk4 (.ref ab) (.ref (escRef k))) (el+1+1)) (by kd_p)) (D5.xK 4) (D5.xK 5) (S15.kq hab (zz hab)) hVa (S15.kq hbl (zz hbl)) (KidsAt.keepL S15 hKB (fun i b e=>?_)) (HandT.keep hT S5 (by tbr_iter (ai (bh f2 hdsz) (ai (bh f3 hdsz) (bh f4 hdsz)))))
 obtain⟨b',Ly,ey,q1,q2,_⟩:=hKB.2 i _ (hKB.row e)
 rw[q1] at e;cases e
 exact zz q2
noncomputable def il:Expr:=dI (aZ 4)
noncomputable def cz:Nat→List Nat
 | 0=>[38]
 | 1=>[60]
 | 2=>[62]
 | 3=>[34]
 | 4=>[13]
 | 5=>[10]
 | 6=>[9]
 | _=>[]
@[reducible] noncomputable def fq (L d c3:Addr):Env:={ scope:=cG (bF il) (dAt 23).2.2,locals:=d,globals:=3,cells:=[(sOwn,c3)],qual:=gk,func:=none,code:= .ref 196,frame:=some L,builtins:=0 }
theorem pw8:∀i,i<4→0<8^i∧8^i<2^64:=by decide
theorem ml {c3 i r tr kk:Nat} {vv:Value} {s:Shared} (hA:AOk A 19) (hT:TopIn w.params s.heap) (hi:i<4) (hla:La.length≤100) (hbig:Builtin.Int.intTooBig (((Builtin.Int.intBits ((8:Nat):Int):Nat):Int)*(i:Int))=false)
  (h3:s.heap.get? c3=some (cellO (.ref ow))) (ho:s.heap.get? ow=some (listO [.int o0 t0, .int o1 t1, .int o2 t2, .int o3 t3] eo))
  (hI:s.heap.get? it=some (aq (.ofNat i) (.ofNat (r+1)) ta tr 0)) (hacc:s.heap.get? acc=some (listO La ea)) (hd:s.heap.get? d=some (dictO [] ed)) (ki:kg w it=none) (ka:kg w acc=none) (kd:kg w d=none) (noa:ow≠acc)
  (H:∀(h':Heap) tk' tok kk' vv' ed',Keeps s.heap h' [it,acc,d]→h'.get? it=some (aq (.ofNat (i+1)) (.ofNat r) 0 0 0)→h'.get? acc=some (listO (La++[.str ⟨⟨cz ((o1 / (8^i:Nat)) % (8:Nat)).toNat⟩⟩ tok]) (ea+1))→h'.get? d=some (dictO (e26 w kk' vv') ed')→
   codeAny (mm w) A (.compLoop il 0 (.ref it) (.ref acc) (fq L d c3)) R ⟨h',s.gens,s.drawn,tk',s.os⟩):
  codeAny (mm w) A (.compLoop il 0 (.ref it) (.ref acc) (fq L d c3)) R s:=by
 have⟨zh3_ho,zh3_ho'⟩:=ap2 h3 ho
 have⟨zh3_hI,zh3_hI'⟩:=ap2 h3 hI
 have⟨zh3_hacc,zh3_hacc'⟩:=ap2 h3 hacc
 have⟨zh3_hd,zh3_hd'⟩:=ap2 h3 hd
 have⟨zho_hI,zho_hI'⟩:=ap2 ho hI
 have⟨zho_hd,zho_hd'⟩:=ap2 ho hd
 have⟨zhI_hacc,zhI_hacc'⟩:=ap2 hI hacc
 have⟨zhI_hd,zhI_hd'⟩:=ap2 hI hd
 have⟨zhacc_hd,zhacc_hd'⟩:=ap2 hacc hd
 have eA:La.length≤2^24:=by kst_all
 refine aj [(c3,_),(ow,_),(it,_),(acc,_),(d,_)] 2 hT (ag h3 (ag ho (ag hI (ag hacc (ag hd ah))))) (by kd_subs) (by tbr_iter (ai ki (ai ka kd))) (fun n t hn=>?_)
 refine gRx hA.hd 47 [3,0,3,3,3,3,3,3,3,3,5,5,1,2,2,2,0,2,2,5] ?_
 kst_p
 refine gcK (.call (.builtin "int.__pow__") ⟨[.int (.ofNat 8) (t+11), .int (.ofNat i) t],[]⟩) (fun h D=>?_)
 refine cJ (by kst_all) hbig (fun tok tk1=>?_)
 refine aD D ?_
 refine gRx hA.hd 1 [] ?_
 kst_p
 refine gcK (.call (.builtin "int.__floordiv__") ⟨[.int o1 t1, .int (.ofNat (8^i)) tok],[]⟩) (fun h D=>?_)
 have hpp:0<8^i∧8^i<2^64:=pw8 i ‹_›
 refine cX hpp.1 hpp.2 (fun aX tk2=>?_)
 refine aD D ?_
 refine gRx hA.hd 2 [] ?_
 kst_p
 refine gcK (.call (.builtin "int.__mod__") ⟨[.int (o1 / (8^i:Nat)) aX, .int (.ofNat 8) tk2],[]⟩) (fun h D=>?_)
 refine cM (by decide) (fun eW tk3=>?_)
 generalize hq:((o1 / (8^i:Nat)) % (8:Nat)).toNat=q at *
 have hq8:q<8:=by kst_all
 have gn:=D.cK 5 n (listO [.str ⟨⟨[38]⟩⟩ (t+2+0), .str ⟨⟨[60]⟩⟩ (t+2+1), .str ⟨⟨[62]⟩⟩ (t+2+2), .str ⟨⟨[34]⟩⟩ (t+2+3), .str ⟨⟨[13]⟩⟩ (t+2+4), .str ⟨⟨[10]⟩⟩ (t+2+5), .str ⟨⟨[9]⟩⟩ (t+2+6), .str ⟨⟨[]⟩⟩ (t+2+7)] 0)
 have hit:([.str ⟨⟨[38]⟩⟩ (t+2+0), .str ⟨⟨[60]⟩⟩ (t+2+1), .str ⟨⟨[62]⟩⟩ (t+2+2), .str ⟨⟨[34]⟩⟩ (t+2+3), .str ⟨⟨[13]⟩⟩ (t+2+4), .str ⟨⟨[10]⟩⟩ (t+2+5), .str ⟨⟨[9]⟩⟩ (t+2+6), .str ⟨⟨[]⟩⟩ (t+2+7)]:List Value)[q]? = some (.str ⟨⟨cz q⟩⟩ (t+2+q)):=by
  match q,hq8 with
  | 0,_=>rfl
  | 1,_=>rfl
  | 2,_=>rfl
  | 3,_=>rfl
  | 4,_=>rfl
  | 5,_=>rfl
  | 6,_=>rfl
  | 7,_=>rfl
 generalize ([.str ⟨⟨[38]⟩⟩ (t+2+0), .str ⟨⟨[60]⟩⟩ (t+2+1), .str ⟨⟨[62]⟩⟩ (t+2+2), .str ⟨⟨[34]⟩⟩ (t+2+3), .str ⟨⟨[13]⟩⟩ (t+2+4), .str ⟨⟨[10]⟩⟩ (t+2+5), .str ⟨⟨[9]⟩⟩ (t+2+6), .str ⟨⟨[]⟩⟩ (t+2+7)]:List Value)=Lo at gn hit
 have oQ:q<2^63:=by kst_all
 have⟨g2,w2⟩:=D.wK 2 it (aq (.ofNat (i+1)) (Int.ofNat (r+1) - 1) 0 0 0)
 rw[ay] at g2
 kd_adr
 have⟨g3,w3⟩:=D.wK 3 acc (listO La ea)
 have⟨g4,w4⟩:=D.wK 4 d (dictO (e26 w (t+1) (.int (.ofNat i) t)) (ed+1))
 have y1:=fresh_ne hacc hn
 refine resume D (Keeps.refl h) ax [(n,_),(it,_),(acc,_),(d,_)] 1 (ag gn (ag g2 (ag g3 (ag g4 ah)))) (by simp[Dis,fresh_ne hI hn,Ne.symm (fresh_ne hI hn),y1,Ne.symm y1,fresh_ne hd hn,Ne.symm (fresh_ne hd hn), *]) (by tbr_iter (ai w2 (ai w3 w4))) (fun n5 hn5=>?_)
 refine gPx hA.hd [Value.str { cps:={ toList:=cz q } } (t+2+q)] 8 [1,1,1,15,0,0,0,0,19,2,0,0] ?_
 intro zM zO
 refine gQx [La.length≤2^24,Lo[q]? = some (Value.str { cps:={ toList:=cz q } } (t+2+q)),q<2^63] ⟨by assumption,by assumption,by assumption,trivial⟩ ?_
 refine gaK (.compLoop il 0 (.ref it) (.ref acc) (fq L d c3)) (fun h6 D6=>?_)
 exact H h6 _ (t+2+q) _ _ _ D6.keeps (D6.xK 1) (D6.xK 2) (D6.cell 3 (x:=dictO (e26 w (t+1) (.int (.ofNat i) t)) (ed+1)) (by kd_p))
theorem gA {c3 i r tr:Nat} {s:Shared} (hA:AOk A 19) (hT:TopIn w.params s.heap) (hi:i<4) (hla:La.length≤100) (hbig:Builtin.Int.intTooBig (((Builtin.Int.intBits ((8:Nat):Int):Nat):Int)*(i:Int))=false)
  (h3:s.heap.get? c3=some (cellO (.ref ow))) (ho:s.heap.get? ow=some (listO [.int o0 t0, .int o1 t1, .int o2 t2, .int o3 t3] eo))
  (hI:s.heap.get? it=some (aq (.ofNat i) (.ofNat (r+1)) ta tr 0)) (hacc:s.heap.get? acc=some (listO La ea)) (hd:s.heap.get? d=some (dictO (e26 w kk vv) ed)) (ki:kg w it=none) (ka:kg w acc=none) (kd:kg w d=none) (noa:ow≠acc)
  (H:∀(h':Heap) tk' tok kk' vv' ed',Keeps s.heap h' [it,acc,d]→h'.get? it=some (aq (.ofNat (i+1)) (.ofNat r) 0 0 0)→h'.get? acc=some (listO (La++[.str ⟨⟨cz ((o1 / (8^i:Nat)) % (8:Nat)).toNat⟩⟩ tok]) (ea+1))→h'.get? d=some (dictO (e26 w kk' vv') ed')→
   codeAny (mm w) A (.compLoop il 0 (.ref it) (.ref acc) (fq L d c3)) R ⟨h',s.gens,s.drawn,tk',s.os⟩):
  codeAny (mm w) A (.compLoop il 0 (.ref it) (.ref acc) (fq L d c3)) R s:=by
 have⟨zh3_ho,zh3_ho'⟩:=ap2 h3 ho
 have⟨zh3_hI,zh3_hI'⟩:=ap2 h3 hI
 have⟨zh3_hacc,zh3_hacc'⟩:=ap2 h3 hacc
 have⟨zh3_hd,zh3_hd'⟩:=ap2 h3 hd
 have⟨zho_hI,zho_hI'⟩:=ap2 ho hI
 have⟨zho_hd,zho_hd'⟩:=ap2 ho hd
 have⟨zhI_hacc,zhI_hacc'⟩:=ap2 hI hacc
 have⟨zhI_hd,zhI_hd'⟩:=ap2 hI hd
 have⟨zhacc_hd,zhacc_hd'⟩:=ap2 hacc hd
 have eA:La.length≤2^24:=by kst_all
 refine aj [(c3,_),(ow,_),(it,_),(acc,_),(d,_)] 2 hT (ag h3 (ag ho (ag hI (ag hacc (ag hd ah))))) (by kd_subs) (by tbr_iter (ai ki (ai ka kd))) (fun n t hn=>?_)
 refine gRx hA.hd 47 [3,0,3,3,3,3,3,3,3,3,5,5,1,2,2,2,0,2,2,5] ?_
 kst_p
 refine gcK (.call (.builtin "int.__pow__") ⟨[.int (.ofNat 8) (t+11), .int (.ofNat i) t],[]⟩) (fun h D=>?_)
 refine cJ (by kst_all) hbig (fun tok tk1=>?_)
 refine aD D ?_
 refine gRx hA.hd 1 [] ?_
 kst_p
 refine gcK (.call (.builtin "int.__floordiv__") ⟨[.int o1 t1, .int (.ofNat (8^i)) tok],[]⟩) (fun h D=>?_)
 have hpp:0<8^i∧8^i<2^64:=pw8 i ‹_›
 refine cX hpp.1 hpp.2 (fun aX tk2=>?_)
 refine aD D ?_
 refine gRx hA.hd 2 [] ?_
 kst_p
 refine gcK (.call (.builtin "int.__mod__") ⟨[.int (o1 / (8^i:Nat)) aX, .int (.ofNat 8) tk2],[]⟩) (fun h D=>?_)
 refine cM (by decide) (fun eW tk3=>?_)
 generalize hq:((o1 / (8^i:Nat)) % (8:Nat)).toNat=q at *
 have hq8:q<8:=by kst_all
 have gn:=D.cK 5 n (listO [.str ⟨⟨[38]⟩⟩ (t+2+0), .str ⟨⟨[60]⟩⟩ (t+2+1), .str ⟨⟨[62]⟩⟩ (t+2+2), .str ⟨⟨[34]⟩⟩ (t+2+3), .str ⟨⟨[13]⟩⟩ (t+2+4), .str ⟨⟨[10]⟩⟩ (t+2+5), .str ⟨⟨[9]⟩⟩ (t+2+6), .str ⟨⟨[]⟩⟩ (t+2+7)] 0)
 have hit:([.str ⟨⟨[38]⟩⟩ (t+2+0), .str ⟨⟨[60]⟩⟩ (t+2+1), .str ⟨⟨[62]⟩⟩ (t+2+2), .str ⟨⟨[34]⟩⟩ (t+2+3), .str ⟨⟨[13]⟩⟩ (t+2+4), .str ⟨⟨[10]⟩⟩ (t+2+5), .str ⟨⟨[9]⟩⟩ (t+2+6), .str ⟨⟨[]⟩⟩ (t+2+7)]:List Value)[q]? = some (.str ⟨⟨cz q⟩⟩ (t+2+q)):=by
  match q,hq8 with
  | 0,_=>rfl
  | 1,_=>rfl
  | 2,_=>rfl
  | 3,_=>rfl
  | 4,_=>rfl
  | 5,_=>rfl
  | 6,_=>rfl
  | 7,_=>rfl
 generalize ([.str ⟨⟨[38]⟩⟩ (t+2+0), .str ⟨⟨[60]⟩⟩ (t+2+1), .str ⟨⟨[62]⟩⟩ (t+2+2), .str ⟨⟨[34]⟩⟩ (t+2+3), .str ⟨⟨[13]⟩⟩ (t+2+4), .str ⟨⟨[10]⟩⟩ (t+2+5), .str ⟨⟨[9]⟩⟩ (t+2+6), .str ⟨⟨[]⟩⟩ (t+2+7)]:List Value)=Lo at gn hit
 have oQ:q<2^63:=by kst_all
 have⟨g2,w2⟩:=D.wK 2 it (aq (.ofNat (i+1)) (Int.ofNat (r+1) - 1) 0 0 0)
 rw[ay] at g2
 kd_adr
 have⟨g3,w3⟩:=D.wK 3 acc (listO La ea)
 have⟨g4,w4⟩:=D.wK 4 d (dictO (e26 w kk (.int (.ofNat i) t)) ed)
 have y1:=fresh_ne hacc hn
 refine resume D (Keeps.refl h) ax [(n,_),(it,_),(acc,_),(d,_)] 1 (ag gn (ag g2 (ag g3 (ag g4 ah)))) (by simp[Dis,fresh_ne hI hn,Ne.symm (fresh_ne hI hn),y1,Ne.symm y1,fresh_ne hd hn,Ne.symm (fresh_ne hd hn), *]) (by tbr_iter (ai w2 (ai w3 w4))) (fun n5 hn5=>?_)
 refine gPx hA.hd [Value.str { cps:={ toList:=cz q } } (t+2+q)] 8 [1,1,1,15,0,0,0,0,19,2,0,0] ?_
 intro zM zO
 refine gQx [La.length≤2^24,Lo[q]? = some (Value.str { cps:={ toList:=cz q } } (t+2+q)),q<2^63] ⟨by assumption,by assumption,by assumption,trivial⟩ ?_
 refine gaK (.compLoop il 0 (.ref it) (.ref acc) (fq L d c3)) (fun h6 D6=>?_)
 exact H h6 _ (t+2+q) _ _ _ D6.keeps (D6.xK 1) (D6.xK 2) (D6.cell 3 (x:=dictO (e26 w kk (.int (.ofNat i) t)) ed) (by kd_p))
noncomputable def dj:Expr:=dI (aZ 5)
@[reducible] noncomputable def cE (L d c3:Addr):Env:={ scope:=cG (bF dj) (dAt 23).2.2,locals:=d,globals:=3,cells:=[(sOwn,c3)],qual:=gk,func:=none,code:= .ref 196,frame:=some L,builtins:=0 }
theorem ab_at {x:Nat} (h:x<2):(cpsOfBytes 0 0 "ab".toByteArray.data.toList)[x]? = some (97+x):=by
 match x,h with
 | 0,_=>kd_p
 | 1,_=>kd_p
theorem pw2:∀i,i<6→0<2^i∧2^i<2^64:=by decide
theorem iK {c3 i r tr kk:Nat} {vv:Value} {s:Shared} (hA:AOk A 19) (hT:TopIn w.params s.heap) (hi:i<6) (hla:La.length≤100) (hbig:Builtin.Int.intTooBig (((Builtin.Int.intBits ((2:Nat):Int):Nat):Int)*(i:Int))=false)
  (h3:s.heap.get? c3=some (cellO (.ref ow))) (ho:s.heap.get? ow=some (listO [.int o0 t0, .int o1 t1, .int o2 t2, .int o3 t3] eo))
  (hI:s.heap.get? it=some (aq (.ofNat i) (.ofNat (r+1)) ta tr 0)) (hacc:s.heap.get? acc=some (listO La ea)) (hd:s.heap.get? d=some (dictO [] ed)) (ki:kg w it=none) (ka:kg w acc=none) (kd:kg w d=none) (noa:ow≠acc)
  (H:∀(h':Heap) tk' tok kk' vv' ed',Keeps s.heap h' [it,acc,d]→h'.get? it=some (aq (.ofNat (i+1)) (.ofNat r) 0 0 0)→h'.get? acc=some (listO (La++[.str ⟨⟨[97+((o2 / (2^i:Nat)) % (2:Nat)).toNat]⟩⟩ tok]) (ea+1))→h'.get? d=some (dictO (e26 w kk' vv') ed')→
   codeAny (mm w) A (.compLoop dj 0 (.ref it) (.ref acc) (cE L d c3)) R ⟨h',s.gens,s.drawn,tk',s.os⟩):
  codeAny (mm w) A (.compLoop dj 0 (.ref it) (.ref acc) (cE L d c3)) R s:=by
 have⟨zh3_ho,zh3_ho'⟩:=ap2 h3 ho
 have⟨zh3_hI,zh3_hI'⟩:=ap2 h3 hI
 have⟨zh3_hacc,zh3_hacc'⟩:=ap2 h3 hacc
 have⟨zh3_hd,zh3_hd'⟩:=ap2 h3 hd
 have⟨zho_hI,zho_hI'⟩:=ap2 ho hI
 have⟨zho_hd,zho_hd'⟩:=ap2 ho hd
 have⟨zhI_hacc,zhI_hacc'⟩:=ap2 hI hacc
 have⟨zhI_hd,zhI_hd'⟩:=ap2 hI hd
 have⟨zhacc_hd,zhacc_hd'⟩:=ap2 hacc hd
 have eA:La.length≤2^24:=by kst_all
 refine aj [(c3,_),(ow,_),(it,_),(acc,_),(d,_)] 2 hT (ag h3 (ag ho (ag hI (ag hacc (ag hd ah))))) (by kd_subs) (by tbr_iter (ai ki (ai ka kd))) (fun n t hn=>?_)
 refine gRx hA.hd 38 [3,0,3,3,3,3,3,3,3,3,5,5,1,2,2,2,0,2,2,5] ?_
 kst_p
 refine gcK (.call (.builtin "int.__pow__") ⟨[.int (.ofNat 2) (t+4), .int (.ofNat i) t],[]⟩) (fun h D=>?_)
 refine cJ (by kst_all) hbig (fun tok tk1=>?_)
 refine aD D ?_
 refine gRx hA.hd 1 [] ?_
 kst_p
 refine gcK (.call (.builtin "int.__floordiv__") ⟨[.int o2 t2, .int (.ofNat (2^i)) tok],[]⟩) (fun h D=>?_)
 have hpp:0<2^i∧2^i<2^64:=pw2 i ‹_›
 refine cX hpp.1 hpp.2 (fun aX tk2=>?_)
 refine aD D ?_
 refine gRx hA.hd 2 [] ?_
 kst_p
 refine gcK (.call (.builtin "int.__mod__") ⟨[.int (o2 / (2^i:Nat)) aX, .int (.ofNat 2) tk2],[]⟩) (fun h D=>?_)
 refine cM (by decide) (fun eW tk3=>?_)
 generalize hq:((o2 / (2^i:Nat)) % (2:Nat)).toNat=q at *
 have hq8:q<2:=by kst_all
 have hit:=ab_at hq8
 have oQ:q<2^63:=by kst_all
 have hq97:97+q<128:=by kst_all
 refine aD D ?_
 refine gPx hA.hd [Value.int (Int.ofNat (97+q)) 0] 3 [24,0,0,0,19,3,0,0] ?_
 intro zM zO
 refine gQx [La.length≤2^24,(cpsOfBytes 0 0 "ab".toByteArray.data.toList)[q]? = some (97+q),q<2^63] ⟨by assumption,by assumption,by assumption,trivial⟩ ?_
 refine gaK (.compLoop dj 0 (.ref it) (.ref acc) (cE L d c3)) (fun h6 D6=>?_)
 have g2:=D6.cK 2 it (aq (.ofNat (i+1)) (Int.ofNat (r+1) - 1) 0 0 0)
 rw[ay] at g2
 exact H h6 _ tk3 _ _ _ D6.keeps g2 (D6.xK 3) (D6.cell 4 (x:=dictO (e26 w (t+1) (.int (.ofNat i) t)) (ed+1)) (by kd_p))
theorem cD {c3 i r tr:Nat} {s:Shared} (hA:AOk A 19) (hT:TopIn w.params s.heap) (hi:i<6) (hla:La.length≤100) (hbig:Builtin.Int.intTooBig (((Builtin.Int.intBits ((2:Nat):Int):Nat):Int)*(i:Int))=false)
  (h3:s.heap.get? c3=some (cellO (.ref ow))) (ho:s.heap.get? ow=some (listO [.int o0 t0, .int o1 t1, .int o2 t2, .int o3 t3] eo))
  (hI:s.heap.get? it=some (aq (.ofNat i) (.ofNat (r+1)) ta tr 0)) (hacc:s.heap.get? acc=some (listO La ea)) (hd:s.heap.get? d=some (dictO (e26 w kk vv) ed)) (ki:kg w it=none) (ka:kg w acc=none) (kd:kg w d=none) (noa:ow≠acc)
  (H:∀(h':Heap) tk' tok kk' vv' ed',Keeps s.heap h' [it,acc,d]→h'.get? it=some (aq (.ofNat (i+1)) (.ofNat r) 0 0 0)→h'.get? acc=some (listO (La++[.str ⟨⟨[97+((o2 / (2^i:Nat)) % (2:Nat)).toNat]⟩⟩ tok]) (ea+1))→h'.get? d=some (dictO (e26 w kk' vv') ed')→
   codeAny (mm w) A (.compLoop dj 0 (.ref it) (.ref acc) (cE L d c3)) R ⟨h',s.gens,s.drawn,tk',s.os⟩):
  codeAny (mm w) A (.compLoop dj 0 (.ref it) (.ref acc) (cE L d c3)) R s:=by
 have⟨zh3_ho,zh3_ho'⟩:=ap2 h3 ho
 have⟨zh3_hI,zh3_hI'⟩:=ap2 h3 hI
 have⟨zh3_hacc,zh3_hacc'⟩:=ap2 h3 hacc
 have⟨zh3_hd,zh3_hd'⟩:=ap2 h3 hd
 have⟨zho_hI,zho_hI'⟩:=ap2 ho hI
 have⟨zho_hd,zho_hd'⟩:=ap2 ho hd
 have⟨zhI_hacc,zhI_hacc'⟩:=ap2 hI hacc
 have⟨zhI_hd,zhI_hd'⟩:=ap2 hI hd
 have⟨zhacc_hd,zhacc_hd'⟩:=ap2 hacc hd
 have eA:La.length≤2^24:=by kst_all
 refine aj [(c3,_),(ow,_),(it,_),(acc,_),(d,_)] 2 hT (ag h3 (ag ho (ag hI (ag hacc (ag hd ah))))) (by kd_subs) (by tbr_iter (ai ki (ai ka kd))) (fun n t hn=>?_)
 refine gRx hA.hd 38 [3,0,3,3,3,3,3,3,3,3,5,5,1,2,2,2,0,2,2,5] ?_
 kst_p
 refine gcK (.call (.builtin "int.__pow__") ⟨[.int (.ofNat 2) (t+4), .int (.ofNat i) t],[]⟩) (fun h D=>?_)
 refine cJ (by kst_all) hbig (fun tok tk1=>?_)
 refine aD D ?_
 refine gRx hA.hd 1 [] ?_
 kst_p
 refine gcK (.call (.builtin "int.__floordiv__") ⟨[.int o2 t2, .int (.ofNat (2^i)) tok],[]⟩) (fun h D=>?_)
 have hpp:0<2^i∧2^i<2^64:=pw2 i ‹_›
 refine cX hpp.1 hpp.2 (fun aX tk2=>?_)
 refine aD D ?_
 refine gRx hA.hd 2 [] ?_
 kst_p
 refine gcK (.call (.builtin "int.__mod__") ⟨[.int (o2 / (2^i:Nat)) aX, .int (.ofNat 2) tk2],[]⟩) (fun h D=>?_)
 refine cM (by decide) (fun eW tk3=>?_)
 generalize hq:((o2 / (2^i:Nat)) % (2:Nat)).toNat=q at *
 have hq8:q<2:=by kst_all
 have hit:=ab_at hq8
 have oQ:q<2^63:=by kst_all
 have hq97:97+q<128:=by kst_all
 refine aD D ?_
 refine gPx hA.hd [Value.int (Int.ofNat (97+q)) 0] 3 [24,0,0,0,19,3,0,0] ?_
 intro zM zO
 refine gQx [La.length≤2^24,(cpsOfBytes 0 0 "ab".toByteArray.data.toList)[q]? = some (97+q),q<2^63] ⟨by assumption,by assumption,by assumption,trivial⟩ ?_
 refine gaK (.compLoop dj 0 (.ref it) (.ref acc) (cE L d c3)) (fun h6 D6=>?_)
 have g2:=D6.cK 2 it (aq (.ofNat (i+1)) (Int.ofNat (r+1) - 1) 0 0 0)
 rw[ay] at g2
 exact H h6 _ tk3 _ _ _ D6.keeps g2 (D6.xK 3) (D6.cell 4 (x:=dictO (e26 w kk (.int (.ofNat i) t)) ed) (by kd_p))
theorem odd_end {c3 i tr:Nat} {s:Shared} (hA:AOk A 19) (hT:TopIn w.params s.heap) (hI:s.heap.get? it=some (aq (.ofNat i) (.ofNat 0) ta tr 0)) (ki:kg w it=none)
  (H:∀(h':Heap) tk',Keeps s.heap h' [it]→R (.ok .next) ⟨h',s.gens,s.drawn,tk',s.os⟩):
  codeAny (mm w) A (.compLoop il 0 (.ref it) (.ref acc) (fq L d c3)) R s:=by
 refine aj [(it,_)] 0 hT (ag hI ah) (by kd_subs) (by tbr_iter ki) (fun n t hn=>?_)
 refine gRx hA.hd 14 [1,0,1,1,1,1,3] ?_
 kst_p
 refine gdK (.ok .next) (fun h D=>?_)
 exact H h _ D.keeps
@[reducible] noncomputable def e28 (w:World) (k1 k2 k3:Nat) (v1 v2 v3:Value):List DictEntry:=[ent w.params bp k1 v1,ent w.params sWriter k2 v2,ent w.params jw k3 v3]
theorem law_odd {s:Shared} {c3:Nat} (hA:AOk A 250) (hT:TopIn w.params s.heap)
  (h3:s.heap.get? c3=some (cellO (.ref ow))) (ho:s.heap.get? ow=some (listO [.int o0 t0, .int o1 t1, .int o2 t2, .int o3 t3] eo)) (hL:s.heap.get? L=some (frame (e27 w aY aP aW aO) e)) (kL:kg w L=none)
  (H:∀(h':Heap) tk' l q0 q1 q2 e' j',Keeps s.heap h' [L]→s.heap.get? l=none→kg w l=none→h'.get? l=some (listO [.str ⟨⟨cz ((o1 / (8^0:Nat)) % (8:Nat)).toNat⟩⟩ q0, .str ⟨⟨cz ((o1 / (8^1:Nat)) % (8:Nat)).toNat⟩⟩ q1, .str ⟨⟨cz ((o1 / (8^2:Nat)) % (8:Nat)).toNat⟩⟩ q2] e')→h'.get? L=some (frame (e28 w aY aP j' aW aO (.ref l)) (e+1))→Q .next ⟨h',s.gens,s.drawn,tk',s.os⟩):
  wpAny (mm w) A (execs [aZ 4] (bq L c1 c2 c3 c4 c5 c6 c7 c8)) Q E s:=by
 have⟨zh3_hL,zh3_hL'⟩:=ap2 h3 hL
 have⟨zho_hL,zho_hL'⟩:=ap2 ho hL
 have⟨zh3_ho,zh3_ho'⟩:=ap2 h3 ho
 refine aF (w:=w) (l:=[(c3,_),(ow,_),(L,_)]) 2 hT (ag h3 (ag ho (ag hL ah))) (by kd_subs) (by tbr_iter kL) (fun n t hn=>?_)
 refine gRx hA.hd 40 [0,0,0,0,4,4,0,4,4,4,4,0,4,4,4,4,5] ?_
 kst_p
 have f0:∀k,s.heap.get? (n+k)=none:=aC (Nat.le_of_eq hn)
 refine gcK (.compStart il 0 (.ref (n+1)) (.ref (n+2)) (fq L (n+3) c3)) (fun h D=>?_)
 have g0:=D.cK 0 c3 (cellO (.ref ow))
 have g1:=D.cK 1 ow (listO [.int o0 t0, .int o1 t1, .int o2 t2, .int o3 t3] eo)
 kd_adr
 have⟨g2,w2⟩:=D.wK 2 L (frame (e27 w aY aP aW aO) e)
 have⟨g6,w6⟩:=D.wK 4 (n+1) (aq (.ofNat 0) (.ofNat 3) 0 0 0)
 have⟨g7,w7⟩:=D.wK 5 (n+2) (listO [] 0)
 have⟨g8,w8⟩:=D.wK 6 (n+3) (dictO [] 0)
 refine bC (by kd_p) g6 ?_
 have kx:∀a∈([n+1,n+2,n+3]:List Addr),kg w a=none:=by tbr_iter (ai w6.kn (ai w7.kn w8.kn))
 have z1:=neF h3 (f0 1)
 have z2:=neF h3 (f0 2)
 have z3:=neF h3 (f0 3)
 have z4:=neF ho (f0 1)
 have z5:=neF ho (f0 2)
 have z6:=neF ho (f0 3)
 have z7:=neF hL (f0 1)
 have z8:=neF hL (f0 2)
 have z9:=neF hL (f0 3)
 refine ml (kk:=0) (vv:= .none) (i:=0) (r:=2) (hA.subN (by kd_p) 6 (by kd_p) (by kst_all)) D.kt (by kst_all) (by kd_mem) (by decide) g0 g1 g6 g7 g8 w6.kn w7.kn w8.kn z5 (fun h1x k1 q0 kk0 vv0 ed0 K1 i1 a1 d1=>?_)
 have KK1:Keeps h h1x [n+1,n+2,n+3]:=K1
 have T1:=KK1.top D.kt kx
 refine gA (i:=1) (r:=1) (hA.subN (by kd_p) 6 (by kd_p) (by kst_all)) T1 (by kst_all) (by kd_mem) (by decide) (KK1.kq g0 (by tbr_iter (ai z1 (ai z2 z3)))) (KK1.kq g1 (by tbr_iter (ai z4 (ai z5 z6)))) i1 a1 d1 w6.kn w7.kn w8.kn z5 (fun h2x k2 q1 kk1 vv1 ed1 K2 i2 a2 d2=>?_)
 have KK2:Keeps h h2x [n+1,n+2,n+3]:=(KK1.trans K2).mono (by kd_mem)
 have T2:=KK2.top D.kt kx
 refine gA (i:=2) (r:=0) (hA.subN (by kd_p) 6 (by kd_p) (by kst_all)) T2 (by kst_all) (by kd_mem) (by decide) (KK2.kq g0 (by tbr_iter (ai z1 (ai z2 z3)))) (KK2.kq g1 (by tbr_iter (ai z4 (ai z5 z6)))) i2 a2 d2 w6.kn w7.kn w8.kn z5 (fun h3x k3 q2 kk2 vv2 ed2 K3 i3 a3 d3=>?_)
 have KK3:Keeps h h3x [n+1,n+2,n+3]:=(KK2.trans K3).mono (by kd_mem)
 have T3:=KK3.top D.kt kx
 refine odd_end (i:=3) (hA.subN (by kd_p) 6 (by kd_p) (by kst_all)) T3 i3 w6.kn (fun hx kx2 K9=>?_)
 have KK:Keeps h hx [n+1,n+2,n+3]:=(KK3.trans K9).mono (by kd_mem)
 have a9:hx.get? (n+2)=some (listO [.str ⟨⟨cz ((o1 / (8^0:Nat)) % (8:Nat)).toNat⟩⟩ q0, .str ⟨⟨cz ((o1 / (8^1:Nat)) % (8:Nat)).toNat⟩⟩ q1, .str ⟨⟨cz ((o1 / (8^2:Nat)) % (8:Nat)).toNat⟩⟩ q2] 3):=K9.kp a3
 have d9:=K9.kp d3
 have L9:=KK.kq g2 (by tbr_iter (ai z7 (ai z8 z9)))
 refine resume D KK (an w6 (an w7 (an w8 ax))) [(L,_),(n+2,_),(n+3,_)] 0 (ag L9 (ag a9 (ag d9 ah))) (by simp[Dis,z8,z9,Ne.symm z8,Ne.symm z9]) (by tbr_iter (ai w2 (ai w7 w8))) (fun n9 hn9=>?_)
 refine gRx hA.hd 13 [1,1,3,3,3] ?_
 kst_p
 refine ggK s (.next) (fun h6 t6 D6=>?_)
 exact H h6 t6 (n+2) q0 q1 q2 _ kx2 D6.keeps (f0 2) w7.kn (D6.cell 1 (x:=listO [.str ⟨⟨cz ((o1 / (8^0:Nat)) % (8:Nat)).toNat⟩⟩ q0, .str ⟨⟨cz ((o1 / (8^1:Nat)) % (8:Nat)).toNat⟩⟩ q1, .str ⟨⟨cz ((o1 / (8^2:Nat)) % (8:Nat)).toNat⟩⟩ q2] 3) (by kd_p)) (D6.xK 0)
theorem l9 {c3 i tr:Nat} {s:Shared} (hA:AOk A 19) (hT:TopIn w.params s.heap) (hI:s.heap.get? it=some (aq (.ofNat i) (.ofNat 0) ta tr 0)) (ki:kg w it=none)
  (H:∀(h':Heap) tk',Keeps s.heap h' [it]→R (.ok .next) ⟨h',s.gens,s.drawn,tk',s.os⟩):
  codeAny (mm w) A (.compLoop dj 0 (.ref it) (.ref acc) (cE L d c3)) R s:=by
 refine aj [(it,_)] 0 hT (ag hI ah) (by kd_subs) (by tbr_iter ki) (fun n t hn=>?_)
 refine gRx hA.hd 14 [1,0,1,1,1,1,3] ?_
 kst_p
 refine gdK (.ok .next) (fun h D=>?_)
 exact H h _ D.keeps
@[reducible] noncomputable def e29 (w:World) (k1 k2 k3 k4:Nat) (v1 v2 v3 v4:Value):List DictEntry:=[ent w.params bp k1 v1,ent w.params sWriter k2 v2,ent w.params jw k3 v3,ent w.params eX k4 v4]
theorem my {s:Shared} {c3:Nat} (hA:AOk A 250) (hT:TopIn w.params s.heap)
  (h3:s.heap.get? c3=some (cellO (.ref ow))) (ho:s.heap.get? ow=some (listO [.int o0 t0, .int o1 t1, .int o2 t2, .int o3 t3] eo)) (hL:s.heap.get? L=some (frame (e28 w aY aP dG aW aO dK) e)) (kL:kg w L=none)
  (H:∀(h':Heap) tk' l q0 q1 q2 q3 q4 e' j',Keeps s.heap h' [L]→s.heap.get? l=none→kg w l=none→h'.get? l=some (listO [.str ⟨⟨[97+((o2 / (2^0:Nat)) % (2:Nat)).toNat]⟩⟩ q0, .str ⟨⟨[97+((o2 / (2^1:Nat)) % (2:Nat)).toNat]⟩⟩ q1, .str ⟨⟨[97+((o2 / (2^2:Nat)) % (2:Nat)).toNat]⟩⟩ q2, .str ⟨⟨[97+((o2 / (2^3:Nat)) % (2:Nat)).toNat]⟩⟩ q3, .str ⟨⟨[97+((o2 / (2^4:Nat)) % (2:Nat)).toNat]⟩⟩ q4] e')→h'.get? L=some (frame (e29 w aY aP dG j' aW aO dK (.ref l)) (e+1))→Q .next ⟨h',s.gens,s.drawn,tk',s.os⟩):
  wpAny (mm w) A (execs [aZ 5] (bq L c1 c2 c3 c4 c5 c6 c7 c8)) Q E s:=by
 have⟨zh3_hL,zh3_hL'⟩:=ap2 h3 hL
 have⟨zho_hL,zho_hL'⟩:=ap2 ho hL
 have⟨zh3_ho,zh3_ho'⟩:=ap2 h3 ho
 refine aF (w:=w) (l:=[(c3,_),(ow,_),(L,_)]) 2 hT (ag h3 (ag ho (ag hL ah))) (by kd_subs) (by tbr_iter kL) (fun n t hn=>?_)
 refine gRx hA.hd 40 [0,0,0,0,4,4,0,4,4,4,4,0,4,4,4,4,5] ?_
 kst_p
 have f0:∀k,s.heap.get? (n+k)=none:=aC (Nat.le_of_eq hn)
 refine gcK (.compStart dj 0 (.ref (n+1)) (.ref (n+2)) (cE L (n+3) c3)) (fun h D=>?_)
 have g0:=D.cK 0 c3 (cellO (.ref ow))
 have g1:=D.cK 1 ow (listO [.int o0 t0, .int o1 t1, .int o2 t2, .int o3 t3] eo)
 kd_adr
 have⟨g2,w2⟩:=D.wK 2 L (frame (e28 w aY aP dG aW aO dK) e)
 have⟨g6,w6⟩:=D.wK 4 (n+1) (aq (.ofNat 0) (.ofNat 5) 0 0 0)
 have⟨g7,w7⟩:=D.wK 5 (n+2) (listO [] 0)
 have⟨g8,w8⟩:=D.wK 6 (n+3) (dictO [] 0)
 refine bC (by kd_p) g6 ?_
 have kx:∀a∈([n+1,n+2,n+3]:List Addr),kg w a=none:=by tbr_iter (ai w6.kn (ai w7.kn w8.kn))
 have z1:=neF h3 (f0 1)
 have z2:=neF h3 (f0 2)
 have z3:=neF h3 (f0 3)
 have z4:=neF ho (f0 1)
 have z5:=neF ho (f0 2)
 have z6:=neF ho (f0 3)
 have z7:=neF hL (f0 1)
 have z8:=neF hL (f0 2)
 have z9:=neF hL (f0 3)
 refine iK (kk:=0) (vv:= .none) (i:=0) (r:=4) (hA.subN (by kd_p) 6 (by kd_p) (by kst_all)) D.kt (by kst_all) (by kd_mem) (by decide) g0 g1 g6 g7 g8 w6.kn w7.kn w8.kn z5 (fun h1x k1 q0 kk0 vv0 ed0 K1 i1 a1 d1=>?_)
 have KK1:Keeps h h1x [n+1,n+2,n+3]:=K1
 have T1:=KK1.top D.kt kx
 refine cD (i:=1) (r:=3) (hA.subN (by kd_p) 6 (by kd_p) (by kst_all)) T1 (by kst_all) (by kd_mem) (by decide) (KK1.kq g0 (by tbr_iter (ai z1 (ai z2 z3)))) (KK1.kq g1 (by tbr_iter (ai z4 (ai z5 z6)))) i1 a1 d1 w6.kn w7.kn w8.kn z5 (fun h2x k2 q1 kk1 vv1 ed1 K2 i2 a2 d2=>?_)
 have KK2:Keeps h h2x [n+1,n+2,n+3]:=(KK1.trans K2).mono (by kd_mem)
 have T2:=KK2.top D.kt kx
 refine cD (i:=2) (r:=2) (hA.subN (by kd_p) 6 (by kd_p) (by kst_all)) T2 (by kst_all) (by kd_mem) (by decide) (KK2.kq g0 (by tbr_iter (ai z1 (ai z2 z3)))) (KK2.kq g1 (by tbr_iter (ai z4 (ai z5 z6)))) i2 a2 d2 w6.kn w7.kn w8.kn z5 (fun h3x k3 q2 kk2 vv2 ed2 K3 i3 a3 d3=>?_)
 have KK3:Keeps h h3x [n+1,n+2,n+3]:=(KK2.trans K3).mono (by kd_mem)
 have T3:=KK3.top D.kt kx
 refine cD (i:=3) (r:=1) (hA.subN (by kd_p) 6 (by kd_p) (by kst_all)) T3 (by kst_all) (by kd_mem) (by decide) (KK3.kq g0 (by tbr_iter (ai z1 (ai z2 z3)))) (KK3.kq g1 (by tbr_iter (ai z4 (ai z5 z6)))) i3 a3 d3 w6.kn w7.kn w8.kn z5 (fun h4x k4 q3 kk3 vv3 ed3 K4 i4 a4 d4=>?_)
 have KK4:Keeps h h4x [n+1,n+2,n+3]:=(KK3.trans K4).mono (by kd_mem)
 have T4:=KK4.top D.kt kx
 refine cD (i:=4) (r:=0) (hA.subN (by kd_p) 6 (by kd_p) (by kst_all)) T4 (by kst_all) (by kd_mem) (by decide) (KK4.kq g0 (by tbr_iter (ai z1 (ai z2 z3)))) (KK4.kq g1 (by tbr_iter (ai z4 (ai z5 z6)))) i4 a4 d4 w6.kn w7.kn w8.kn z5 (fun h5x k5 q4 kk4 vv4 ed4 K5 i5 a5 d5=>?_)
 have KK5:Keeps h h5x [n+1,n+2,n+3]:=(KK4.trans K5).mono (by kd_mem)
 have T5:=KK5.top D.kt kx
 refine l9 (i:=5) (hA.subN (by kd_p) 6 (by kd_p) (by kst_all)) T5 i5 w6.kn (fun hx kx2 K9=>?_)
 have KK:Keeps h hx [n+1,n+2,n+3]:=(KK5.trans K9).mono (by kd_mem)
 have a9:hx.get? (n+2)=some (listO [.str ⟨⟨[97+((o2 / (2^0:Nat)) % (2:Nat)).toNat]⟩⟩ q0, .str ⟨⟨[97+((o2 / (2^1:Nat)) % (2:Nat)).toNat]⟩⟩ q1, .str ⟨⟨[97+((o2 / (2^2:Nat)) % (2:Nat)).toNat]⟩⟩ q2, .str ⟨⟨[97+((o2 / (2^3:Nat)) % (2:Nat)).toNat]⟩⟩ q3, .str ⟨⟨[97+((o2 / (2^4:Nat)) % (2:Nat)).toNat]⟩⟩ q4] 5):=K9.kp a5
 have d9:=K9.kp d5
 have L9:=KK.kq g2 (by tbr_iter (ai z7 (ai z8 z9)))
 refine resume D KK (an w6 (an w7 (an w8 ax))) [(L,_),(n+2,_),(n+3,_)] 0 (ag L9 (ag a9 (ag d9 ah))) (by simp[Dis,z8,z9,Ne.symm z8,Ne.symm z9]) (by tbr_iter (ai w2 (ai w7 w8))) (fun n9 hn9=>?_)
 refine gRx hA.hd 13 [1,1,3,3,3] ?_
 kst_p
 refine ggK s (.next) (fun h6 t6 D6=>?_)
 exact H h6 t6 (n+2) q0 q1 q2 q3 q4 _ kx2 D6.keeps (f0 2) w7.kn (D6.cell 1 (x:=listO [.str ⟨⟨[97+((o2 / (2^0:Nat)) % (2:Nat)).toNat]⟩⟩ q0, .str ⟨⟨[97+((o2 / (2^1:Nat)) % (2:Nat)).toNat]⟩⟩ q1, .str ⟨⟨[97+((o2 / (2^2:Nat)) % (2:Nat)).toNat]⟩⟩ q2, .str ⟨⟨[97+((o2 / (2^3:Nat)) % (2:Nat)).toNat]⟩⟩ q3, .str ⟨⟨[97+((o2 / (2^4:Nat)) % (2:Nat)).toNat]⟩⟩ q4] 5) (by kd_p)) (D6.xK 0)
@[reducible] noncomputable def e30 (w:World) (k1 k2 k3 k4 k5:Nat) (v1 v2 v3 v4 v5:Value):List DictEntry:=[ent w.params bp k1 v1,ent w.params sWriter k2 v2,ent w.params jw k3 v3,ent w.params eX k4 v4,ent w.params cg k5 v5]
theorem mv {s:Shared} {c3 ep r0 r1 r2 r3 r4:Nat} {x1 x2 y0 y1 y2 y3 y4:Str} {dK bI:Value} (hA:AOk A 250) (hT:TopIn w.params s.heap)
  (ho:s.heap.get? ao=some (listO [.str x0 q0, .str x1 q1, .str x2 q2] eo)) (hp:s.heap.get? ap=some (listO [.str y0 r0, .str y1 r1, .str y2 r2, .str y3 r3, .str y4 r4] ep)) (hL:s.heap.get? L=some (frame (e29 w aY aP dG bL aW aO (.ref ao) (.ref ap)) e)) (kL:kg w L=none)
  (H:∀(h':Heap) tk' l e' j',Keeps s.heap h' [L]→s.heap.get? l=none→kg w l=none→h'.get? l=some (listO [.str y0 r0, .str x0 q0, .str y1 r1, .str x1 q1, .str y2 r2, .str y3 r3, .str y4 r4] e')→h'.get? L=some (frame (e30 w aY aP dG bL j' aW aO (.ref ao) (.ref ap) (.ref l)) (e+1))→Q .next ⟨h',s.gens,s.drawn,tk',s.os⟩):
  wpAny (mm w) A (execs [aZ 6] (bq L c1 c2 c3 c4 c5 c6 c7 c8)) Q E s:=by
 have⟨zho_hL,zho_hL'⟩:=ap2 ho hL
 have⟨zhp_hL,zhp_hL'⟩:=ap2 hp hL
 refine aF (w:=w) (l:=[(ao,_),(ap,_),(L,_)]) 2 hT (ag ho (ag hp (ag hL ah))) (by kd_subs) (by tbr_iter kL) (fun n t hn=>?_)
 refine gRx hA.hd 92 [3,2,2,2,0,2,2,3,1,1,1,0,1,1,3,2,2,2,0,2,2,3,1,1,1,0,1,1,3,2,2,2,0,2,5,5,5,5,5,2,4,6,4,0,4,6,4,6,3,3] ?_
 kst_p
 have f0:∀k,s.heap.get? (n+k)=none:=aC (Nat.le_of_eq hn)
 refine ggK s (.next) (fun h6 t6 D6=>?_)
 kd_adr
 have⟨g6,w6⟩:=D6.wK 6 (n+3) (listO [.str y0 r0, .str x0 q0, .str y1 r1, .str x1 q1, .str y2 r2, .str y3 r3, .str y4 r4] 0)
 exact H h6 t6 (n+3) 0 (t+5) D6.keeps (f0 3) w6.kn g6 (D6.xK 2)
noncomputable def df:Expr:=match dI (aZ 7) with
 | .Tuple (e :: _) _ _=>e
 | _=>default
@[reducible] noncomputable def cB (L d c5:Addr):Env:={ scope:=cG (bF df) (dAt 23).2.2,locals:=d,globals:=3,cells:=[(nS,c5)],qual:=gk,func:=none,code:= .ref 196,frame:=some L,builtins:=0 }
@[reducible] noncomputable def pd (w:World) (k1:Nat) (v1:Value):List DictEntry:=[ent w.params sWord k1 v1]
theorem iF {i kk:Nat} {vv:Value} {s:Shared} (hA:AOk A 19) (hT:TopIn w.params s.heap) (hi:Lw[i]? = some (.str ⟨⟨x⟩⟩ tx)) (hla:La.length≤100) (hx:x∈wordsL) (hT2:HandT w.params s.heap hk td)
  (h5:s.heap.get? c5=some (cellO (.ref td))) (hw:s.heap.get? aw=some (listO Lw ew))
  (hI:s.heap.get? it=some (av aw i tk)) (hacc:s.heap.get? acc=some (listO La ea)) (hd:s.heap.get? d=some (dictO [] ed)) (ki:kg w it=none) (ka:kg w acc=none) (kd:kg w d=none) (nwa:aw≠acc) (ntd:td≠d)
  (H:∀(h':Heap) tk' tok kk' vv' ed',Keeps s.heap h' [it,acc,d]→h'.get? it=some (av aw (i+1) 0)→h'.get? acc=some (listO (La++[.str ⟨⟨esc hk x⟩⟩ tok]) (ea+1))→h'.get? d=some (dictO (pd w kk' vv') ed')→
   codeAny (mm w) A (.compLoop df 0 (.ref it) (.ref acc) (cB L d c5)) R ⟨h',s.gens,s.drawn,tk',s.os⟩):
  codeAny (mm w) A (.compLoop df 0 (.ref it) (.ref acc) (cB L d c5)) R s:=by
 kd_adr
 obtain⟨⟨es,et,htd,hSD,hes⟩,ktd⟩:=hT2
 have⟨zh5_hw,zh5_hw'⟩:=ap2 h5 hw
 have⟨zh5_hI,zh5_hI'⟩:=ap2 h5 hI
 have⟨zh5_hacc,zh5_hacc'⟩:=ap2 h5 hacc
 have⟨zh5_hd,zh5_hd'⟩:=ap2 h5 hd
 have⟨zh5_htd,zh5_htd'⟩:=ap2 h5 htd
 have⟨zhw_hI,zhw_hI'⟩:=ap2 hw hI
 have⟨zhw_hd,zhw_hd'⟩:=ap2 hw hd
 have⟨zhI_hacc,zhI_hacc'⟩:=ap2 hI hacc
 have⟨zhI_hd,zhI_hd'⟩:=ap2 hI hd
 have⟨zhacc_hd,zhacc_hd'⟩:=ap2 hacc hd
 have⟨zhtd_hw,zhtd_hw'⟩:=ap2 htd hw
 have⟨zhtd_hI,zhtd_hI'⟩:=ap2 htd hI
 have⟨zhtd_hacc,zhtd_hacc'⟩:=ap2 htd hacc
 have eA:La.length≤2^24:=by kst_all
 refine aj [(c5,_),(aw,_),(td,_),(it,_),(acc,_),(d,_)] 3 hT (ag h5 (ag hw (ag htd (ag hI (ag hacc (ag hd ah)))))) (by kd_subs) (by tbr_iter (ai ki (ai ka kd))) (fun n t hn=>?_)
 refine gPx hA.hd [Value.str { cps:={ toList:=x } } tx] 23 [4,17,3,1,0,6,6,1,3,3,3,3,6,6] ?_
 intro zM zO
 refine gQx [Lw[i]? = some (Value.str { cps:={ toList:=x } } tx)] ⟨by assumption,trivial⟩ ?_
 refine gcK (.call (.builtin "dict.get") ⟨[.ref td, .str ⟨⟨x⟩⟩ tx, .str ⟨⟨x⟩⟩ tx],[]⟩) (fun h D=>?_)
 refine da (D.cell 2 (x:=dictO es et) (by kd_p)) hSD ktd ?_
 obtain⟨tok,hlk⟩:∃tok,(lookE es ⟨⟨x⟩⟩).getD (.str ⟨⟨x⟩⟩ tx) = .str ⟨⟨esc hk x⟩⟩ tok:=by
  rcases hes x hx with⟨q,e⟩ | ⟨e,e2⟩
  ·exact⟨q,by rw[e];rfl⟩
  ·exact⟨tx,by rw[e,e2];rfl⟩
 rw[hlk]
 refine aD (t':=_) D ?_
 refine gPx hA.hd [] 2 [19,4,0,0] ?_
 intro zM zO
 refine gQx [La.length≤2^24] ⟨by assumption,trivial⟩ ?_
 refine gaK (.compLoop df 0 (.ref it) (.ref acc) (cB L d c5)) (fun h6 D6=>?_)
 exact H h6 _ tok _ _ _ D6.keeps (D6.xK 3) (D6.xK 4) (D6.cell 5 (x:=dictO (pd w t (.str ⟨⟨x⟩⟩ tx)) (ed+1)) (by kd_p))
theorem bB {i:Nat} {s:Shared} (hA:AOk A 19) (hT:TopIn w.params s.heap) (hi:Lw[i]? = some (.str ⟨⟨x⟩⟩ tx)) (hla:La.length≤100) (hx:x∈wordsL) (hT2:HandT w.params s.heap hk td)
  (h5:s.heap.get? c5=some (cellO (.ref td))) (hw:s.heap.get? aw=some (listO Lw ew))
  (hI:s.heap.get? it=some (av aw i tk)) (hacc:s.heap.get? acc=some (listO La ea)) (hd:s.heap.get? d=some (dictO (pd w kk vv) ed)) (ki:kg w it=none) (ka:kg w acc=none) (kd:kg w d=none) (nwa:aw≠acc) (ntd:td≠d)
  (H:∀(h':Heap) tk' tok kk' vv' ed',Keeps s.heap h' [it,acc,d]→h'.get? it=some (av aw (i+1) 0)→h'.get? acc=some (listO (La++[.str ⟨⟨esc hk x⟩⟩ tok]) (ea+1))→h'.get? d=some (dictO (pd w kk' vv') ed')→
   codeAny (mm w) A (.compLoop df 0 (.ref it) (.ref acc) (cB L d c5)) R ⟨h',s.gens,s.drawn,tk',s.os⟩):
  codeAny (mm w) A (.compLoop df 0 (.ref it) (.ref acc) (cB L d c5)) R s:=by
 kd_adr
 obtain⟨⟨es,et,htd,hSD,hes⟩,ktd⟩:=hT2
 have⟨zh5_hw,zh5_hw'⟩:=ap2 h5 hw
 have⟨zh5_hI,zh5_hI'⟩:=ap2 h5 hI
 have⟨zh5_hacc,zh5_hacc'⟩:=ap2 h5 hacc
 have⟨zh5_hd,zh5_hd'⟩:=ap2 h5 hd
 have⟨zh5_htd,zh5_htd'⟩:=ap2 h5 htd
 have⟨zhw_hI,zhw_hI'⟩:=ap2 hw hI
 have⟨zhw_hd,zhw_hd'⟩:=ap2 hw hd
 have⟨zhI_hacc,zhI_hacc'⟩:=ap2 hI hacc
 have⟨zhI_hd,zhI_hd'⟩:=ap2 hI hd
 have⟨zhacc_hd,zhacc_hd'⟩:=ap2 hacc hd
 have⟨zhtd_hw,zhtd_hw'⟩:=ap2 htd hw
 have⟨zhtd_hI,zhtd_hI'⟩:=ap2 htd hI
 have⟨zhtd_hacc,zhtd_hacc'⟩:=ap2 htd hacc
 have eA:La.length≤2^24:=by kst_all
 refine aj [(c5,_),(aw,_),(td,_),(it,_),(acc,_),(d,_)] 3 hT (ag h5 (ag hw (ag htd (ag hI (ag hacc (ag hd ah)))))) (by kd_subs) (by tbr_iter (ai ki (ai ka kd))) (fun n t hn=>?_)
 refine gPx hA.hd [Value.str { cps:={ toList:=x } } tx] 23 [4,17,3,1,0,6,6,1,3,3,3,3,6,6] ?_
 intro zM zO
 refine gQx [Lw[i]? = some (Value.str { cps:={ toList:=x } } tx)] ⟨by assumption,trivial⟩ ?_
 refine gcK (.call (.builtin "dict.get") ⟨[.ref td, .str ⟨⟨x⟩⟩ tx, .str ⟨⟨x⟩⟩ tx],[]⟩) (fun h D=>?_)
 refine da (D.cell 2 (x:=dictO es et) (by kd_p)) hSD ktd ?_
 obtain⟨tok,hlk⟩:∃tok,(lookE es ⟨⟨x⟩⟩).getD (.str ⟨⟨x⟩⟩ tx) = .str ⟨⟨esc hk x⟩⟩ tok:=by
  rcases hes x hx with⟨q,e⟩ | ⟨e,e2⟩
  ·exact⟨q,by rw[e];rfl⟩
  ·exact⟨tx,by rw[e,e2];rfl⟩
 rw[hlk]
 refine aD (t':=_) D ?_
 refine gPx hA.hd [] 2 [19,4,0,0] ?_
 intro zM zO
 refine gQx [La.length≤2^24] ⟨by assumption,trivial⟩ ?_
 refine gaK (.compLoop df 0 (.ref it) (.ref acc) (cB L d c5)) (fun h6 D6=>?_)
 exact H h6 _ tok _ _ _ D6.keeps (D6.xK 3) (D6.xK 4) (D6.cell 5 (x:=dictO (pd w kk (.str ⟨⟨x⟩⟩ tx)) ed) (by kd_p))
theorem jW {s:Shared} {x:Str} (hd:s.heap.get? d=some (dictO es e)) (hk:SD w.params es) (hs:kg w d=none)
  (H:∀tk',R (.ok (.ret ((lookE es x).getD dv))) { s with toks:=tk' }):codeAny (mm w) A (.call (.builtin "dict.get") ⟨[.ref d, .str x k,dv],[]⟩) R s:=da hd hk hs (H _)
theorem lU {i:Nat} {s:Shared} (hA:AOk A 19) (hT:TopIn w.params s.heap) (hw:s.heap.get? aw=some (listO Lw ew)) (hlen:Lw.length≤i) (hI:s.heap.get? it=some (av aw i tk)) (ki:kg w it=none)
  (H:∀(h':Heap) tk',Keeps s.heap h' [it]→R (.ok .next) ⟨h',s.gens,s.drawn,tk',s.os⟩):
  codeAny (mm w) A (.compLoop df 0 (.ref it) (.ref acc) (cB L d c5)) R s:=by
 refine aj [(aw,_),(it,_)] 1 hT (ag hw (ag hI ah)) (by tbr_iter (apart hw hI)) (by tbr_iter ki) (fun n t hn=>?_)
 refine gPx hA.hd [] 4 [2,18,1,0,0,4] ?_
 intro zM zO
 refine gQx [Lw.length≤i] ⟨by assumption,trivial⟩ ?_
 refine gdK (.ok .next) (fun h D=>?_)
 exact H h _ D.keeps
@[reducible] noncomputable def e32 (w:World) (k1 k2 k3 k4 k5 k6 k7:Nat) (v1 v2 v3 v4 v5 v6 v7:Value):List DictEntry:=[ent w.params bp k1 v1,ent w.params sWriter k2 v2,ent w.params jw k3 v3,ent w.params eX k4 v4,ent w.params cg k5 v5,ent w.params sEnd k6 v6,ent w.params ei k7 v7]
theorem mx {s:Shared} {c3 p1:Nat} {x0 x1 x2 x3 x4 x5 x6:List Nat} {u0 u1:Str} {dK cP:Value} (hA:AOk A 250) (hT:TopIn w.params s.heap)
  (h5:s.heap.get? c5=some (cellO (.ref td))) (hT2:HandT w.params s.heap hk td) (ho:s.heap.get? ao=some (listO [.str u0 p0, .str u1 p1, .str ⟨⟨x7⟩⟩ p2] eo)) (hw:s.heap.get? aw=some (listO [.str ⟨⟨x0⟩⟩ q0, .str ⟨⟨x1⟩⟩ q1, .str ⟨⟨x2⟩⟩ q2, .str ⟨⟨x3⟩⟩ q3, .str ⟨⟨x4⟩⟩ q4, .str ⟨⟨x5⟩⟩ q5, .str ⟨⟨x6⟩⟩ q6] ew)) (hL:s.heap.get? L=some (frame (e30 w aY aP dG bL ci aW aO (.ref ao) bI (.ref aw)) e)) (kL:kg w L=none) (hx0:x0∈wordsL) (hx1:x1∈wordsL) (hx2:x2∈wordsL) (hx3:x3∈wordsL) (hx4:x4∈wordsL) (hx5:x5∈wordsL) (hx6:x6∈wordsL) (hx7:x7∈wordsL)
  (H:∀(h':Heap) tk' l r0 r1 r2 r3 r4 r5 r6 q' e' j' j'',Keeps s.heap h' [L]→s.heap.get? l=none→kg w l=none→h'.get? l=some (listO [.str ⟨⟨esc hk x0⟩⟩ r0, .str ⟨⟨esc hk x1⟩⟩ r1, .str ⟨⟨esc hk x2⟩⟩ r2, .str ⟨⟨esc hk x3⟩⟩ r3, .str ⟨⟨esc hk x4⟩⟩ r4, .str ⟨⟨esc hk x5⟩⟩ r5, .str ⟨⟨esc hk x6⟩⟩ r6] e')→h'.get? L=some (frame (e32 w aY aP dG bL ci j'' j' aW aO (.ref ao) bI (.ref aw) (.str ⟨⟨esc hk x7⟩⟩ q') (.ref l)) (e+2))→Q .next ⟨h',s.gens,s.drawn,tk',s.os⟩):
  wpAny (mm w) A (execs [aZ 7] (bq L c1 c2 c3 c4 c5 c6 c7 c8)) Q E s:=by
 have hTK:=hT2
 kd_adr
 obtain⟨⟨es,et,htd,hSD,hes⟩,ktd⟩:=hT2
 have⟨zh5_hL,zh5_hL'⟩:=ap2 h5 hL
 have⟨zho_hL,zho_hL'⟩:=ap2 ho hL
 have⟨zhw_hL,zhw_hL'⟩:=ap2 hw hL
 have⟨zhtd_hL,zhtd_hL'⟩:=ap2 htd hL
 have⟨zh5_hw,zh5_hw'⟩:=ap2 h5 hw
 have⟨zh5_ho,zh5_ho'⟩:=ap2 h5 ho
 have⟨zh5_htd,zh5_htd'⟩:=ap2 h5 htd
 have⟨zhtd_ho,zhtd_ho'⟩:=ap2 htd ho
 have⟨zhtd_hw,zhtd_hw'⟩:=ap2 htd hw
 refine aF (w:=w) (l:=[(c5,_),(aw,_),(L,_)]) 2 hT (ag h5 (ag hw (ag hL ah))) (by kd_subs) (by tbr_iter kL) (fun n t hn=>?_)
 refine gRx hA.hd 16 [3,2,2,0,2,4] ?_
 kst_p
 have f0:∀k,s.heap.get? (n+k)=none:=aC (Nat.le_of_eq hn)
 refine gcK (.compStart df 0 (.ref n) (.ref (n+1)) (cB L (n+2) c5)) (fun h D=>?_)
 have KD:Keeps s.heap h [L]:=D.keeps
 have g0:=D.cK 0 c5 (cellO (.ref td))
 have g1:=D.cK 1 aw (listO [.str ⟨⟨x0⟩⟩ q0, .str ⟨⟨x1⟩⟩ q1, .str ⟨⟨x2⟩⟩ q2, .str ⟨⟨x3⟩⟩ q3, .str ⟨⟨x4⟩⟩ q4, .str ⟨⟨x5⟩⟩ q5, .str ⟨⟨x6⟩⟩ q6] ew)
 kd_adr
 have⟨g2,w2⟩:=D.wK 2 L (frame (e30 w aY aP dG bL ci aW aO (.ref ao) bI (.ref aw)) e)
 have⟨g6,w6⟩:=D.wK 3 n (av aw 0 0)
 have⟨g7,w7⟩:=D.wK 4 (n+1) (listO [] 0)
 have⟨g8,w8⟩:=D.wK 5 (n+2) (dictO [] 0)
 have hT0:HandT w.params h hk td:=hTK.keep KD (by tbr_iter zhtd_hL)
 refine aM (by kd_p) g6 ?_
 have kx:∀a∈([n,n+1,n+2]:List Addr),kg w a=none:=by tbr_iter (ai w6.kn (ai w7.kn w8.kn))
 have y1:=neF h5 (f0 0)
 have y2:=neF h5 (f0 1)
 have y3:=neF h5 (f0 2)
 have y4:=neF hw (f0 0)
 have y5:=neF hw (f0 1)
 have y6:=neF hw (f0 2)
 have y7:=neF hL (f0 0)
 have y8:=neF hL (f0 1)
 have y9:=neF hL (f0 2)
 have t1:=neF htd (f0 0)
 have t2:=neF htd (f0 1)
 have t3:=neF htd (f0 2)
 refine iF (kk:=0) (vv:= .none) (i:=0) (hA.subN (by kd_p) 6 (by kd_p) (by kst_all)) D.kt rfl (by kd_mem) hx0 hT0 g0 g1 g6 g7 g8 w6.kn w7.kn w8.kn y5 t3 (fun h1x k1 r0 kk0 vv0 ed0 K1 i1 a1 d1=>?_)
 have KK1:Keeps h h1x [n,n+1,n+2]:=K1
 have T1:=KK1.top D.kt kx
 refine bB (i:=1) (hA.subN (by kd_p) 6 (by kd_p) (by kst_all)) T1 rfl (by kd_mem) hx1 (hT0.keep KK1 (by tbr_iter (ai t1 (ai t2 t3)))) (KK1.kq g0 (by tbr_iter (ai y1 (ai y2 y3)))) (KK1.kq g1 (by tbr_iter (ai y4 (ai y5 y6)))) i1 a1 d1 w6.kn w7.kn w8.kn y5 t3 (fun h2x k2 r1 kk1 vv1 ed1 K2 i2 a2 d2=>?_)
 have KK2:Keeps h h2x [n,n+1,n+2]:=(KK1.trans K2).mono (by kd_mem)
 have T2:=KK2.top D.kt kx
 refine bB (i:=2) (hA.subN (by kd_p) 6 (by kd_p) (by kst_all)) T2 rfl (by kd_mem) hx2 (hT0.keep KK2 (by tbr_iter (ai t1 (ai t2 t3)))) (KK2.kq g0 (by tbr_iter (ai y1 (ai y2 y3)))) (KK2.kq g1 (by tbr_iter (ai y4 (ai y5 y6)))) i2 a2 d2 w6.kn w7.kn w8.kn y5 t3 (fun h3x k3 r2 kk2 vv2 ed2 K3 i3 a3 d3=>?_)
 have KK3:Keeps h h3x [n,n+1,n+2]:=(KK2.trans K3).mono (by kd_mem)
 have T3:=KK3.top D.kt kx
 refine bB (i:=3) (hA.subN (by kd_p) 6 (by kd_p) (by kst_all)) T3 rfl (by kd_mem) hx3 (hT0.keep KK3 (by tbr_iter (ai t1 (ai t2 t3)))) (KK3.kq g0 (by tbr_iter (ai y1 (ai y2 y3)))) (KK3.kq g1 (by tbr_iter (ai y4 (ai y5 y6)))) i3 a3 d3 w6.kn w7.kn w8.kn y5 t3 (fun h4x k4 r3 kk3 vv3 ed3 K4 i4 a4 d4=>?_)
 have KK4:Keeps h h4x [n,n+1,n+2]:=(KK3.trans K4).mono (by kd_mem)
 have T4:=KK4.top D.kt kx
 refine bB (i:=4) (hA.subN (by kd_p) 6 (by kd_p) (by kst_all)) T4 rfl (by kd_mem) hx4 (hT0.keep KK4 (by tbr_iter (ai t1 (ai t2 t3)))) (KK4.kq g0 (by tbr_iter (ai y1 (ai y2 y3)))) (KK4.kq g1 (by tbr_iter (ai y4 (ai y5 y6)))) i4 a4 d4 w6.kn w7.kn w8.kn y5 t3 (fun h5x k5 r4 kk4 vv4 ed4 K5 i5 a5 d5=>?_)
 have KK5:Keeps h h5x [n,n+1,n+2]:=(KK4.trans K5).mono (by kd_mem)
 have T5:=KK5.top D.kt kx
 refine bB (i:=5) (hA.subN (by kd_p) 6 (by kd_p) (by kst_all)) T5 rfl (by kd_mem) hx5 (hT0.keep KK5 (by tbr_iter (ai t1 (ai t2 t3)))) (KK5.kq g0 (by tbr_iter (ai y1 (ai y2 y3)))) (KK5.kq g1 (by tbr_iter (ai y4 (ai y5 y6)))) i5 a5 d5 w6.kn w7.kn w8.kn y5 t3 (fun h6x k6 r5 kk5 vv5 ed5 K6 i6 a6 d6=>?_)
 have KK6:Keeps h h6x [n,n+1,n+2]:=(KK5.trans K6).mono (by kd_mem)
 have T6:=KK6.top D.kt kx
 refine bB (i:=6) (hA.subN (by kd_p) 6 (by kd_p) (by kst_all)) T6 rfl (by kd_mem) hx6 (hT0.keep KK6 (by tbr_iter (ai t1 (ai t2 t3)))) (KK6.kq g0 (by tbr_iter (ai y1 (ai y2 y3)))) (KK6.kq g1 (by tbr_iter (ai y4 (ai y5 y6)))) i6 a6 d6 w6.kn w7.kn w8.kn y5 t3 (fun h7x k7 r6 kk6 vv6 ed6 K7 i7 a7 d7=>?_)
 have KK7:Keeps h h7x [n,n+1,n+2]:=(KK6.trans K7).mono (by kd_mem)
 have T7:=KK7.top D.kt kx
 refine lU (i:=7) (hA.subN (by kd_p) 6 (by kd_p) (by kst_all)) T7 (KK7.kq g1 (by tbr_iter (ai y4 (ai y5 y6)))) (by kd_mem) i7 w6.kn (fun hx kx2 K9=>?_)
 have KK:Keeps h hx [n,n+1,n+2]:=(KK7.trans K9).mono (by kd_mem)
 have a9:hx.get? (n+1)=some (listO [.str ⟨⟨esc hk x0⟩⟩ r0, .str ⟨⟨esc hk x1⟩⟩ r1, .str ⟨⟨esc hk x2⟩⟩ r2, .str ⟨⟨esc hk x3⟩⟩ r3, .str ⟨⟨esc hk x4⟩⟩ r4, .str ⟨⟨esc hk x5⟩⟩ r5, .str ⟨⟨esc hk x6⟩⟩ r6] 7):=K9.kp a7
 have d9:=K9.kp d7
 have L9:=KK.kq g2 (by tbr_iter (ai y7 (ai y8 y9)))
 have SX:Keeps s.heap hx [L]:=KD.fresh2 KK (by tbr_iter (ai (.inr (f0 0)) (ai (.inr (f0 1)) (.inr (f0 2)))))
 have ho9:hx.get? ao=some (listO [.str u0 p0, .str u1 p1, .str ⟨⟨x7⟩⟩ p2] eo):=SX.kq ho (by tbr_iter zho_hL)
 have h59:hx.get? c5=some (cellO (.ref td)):=SX.kq h5 (by tbr_iter zh5_hL)
 have td9:hx.get? td=some (dictO es et):=SX.kq htd (by tbr_iter zhtd_hL)
 have s1:=neF ho (f0 1)
 have s2:=neF ho (f0 2)
 refine resume D KK (an w6 (an w7 (an w8 ax))) [(ao,_),(c5,_),(td,_),(L,_),(n+1,_),(n+2,_)] 3 (ag ho9 (ag h59 (ag td9 (ag L9 (ag a9 (ag d9 ah)))))) (by simp[Dis,Ne.symm s1,Ne.symm s2,Ne.symm y2,Ne.symm y3,Ne.symm t2,Ne.symm t3,Ne.symm y8,Ne.symm y9, *]) (by tbr_iter (ai w2 (ai w7 w8))) (fun n9 hn9=>?_)
 refine gRx hA.hd 38 [6,6,6,2,3,3,3,3,4,1,1,1,0,1,1,4,1,1,1,0,1,1] ?_
 kst_p
 refine gcK (.call (.builtin "dict.get") ⟨[.ref td, .str ⟨⟨x7⟩⟩ p2, .str ⟨⟨x7⟩⟩ p2],[]⟩) (fun h9 D9=>?_)
 refine jW (D9.cell 2 (x:=dictO es et) (by kd_p)) hSD ktd (fun tk9=>?_)
 obtain⟨tok,hlk⟩:∃tok,(lookE es ⟨⟨x7⟩⟩).getD (.str ⟨⟨x7⟩⟩ p2) = .str ⟨⟨esc hk x7⟩⟩ tok:=by
  rcases hes x7 hx7 with⟨q,e⟩ | ⟨e,e2⟩
  ·exact⟨q,by rw[e];rfl⟩
  ·exact⟨p2,by rw[e,e2];rfl⟩
 rw[hlk]
 refine aD D9 ?_
 refine gRx hA.hd 60 [7,7,7,0,7,8,8,0,8,8,8,7,8,8,8,0,8,8,8,7,8,8,8,0,8,8,8,7,8,8,10,4,4,4,4] ?_
 kst_p
 refine ggK s (.next) (fun h6 t6 D6=>?_)
 exact H h6 t6 (n+1) r0 r1 r2 r3 r4 r5 r6 tok _ (tk9+1) tk9 D6.keeps (f0 1) w7.kn (D6.cell 4 (x:=listO [.str ⟨⟨esc hk x0⟩⟩ r0, .str ⟨⟨esc hk x1⟩⟩ r1, .str ⟨⟨esc hk x2⟩⟩ r2, .str ⟨⟨esc hk x3⟩⟩ r3, .str ⟨⟨esc hk x4⟩⟩ r4, .str ⟨⟨esc hk x5⟩⟩ r5, .str ⟨⟨esc hk x6⟩⟩ r6] 7) (by kd_p)) (D6.xK 3)
noncomputable def dz:Expr:=dI (aZ 8)
@[reducible] noncomputable def dl (L d cb:Addr):Env:={ scope:=cG (bF dz) (dAt 23).2.2,locals:=d,globals:=3,cells:=[(cQ,cb)],qual:=gk,func:=none,code:= .ref 196,frame:=some L,builtins:=0 }
theorem f5
 (n1:it≠acc) (n2:it≠d) (n3:acc≠d) (ki:kg w it=none) (ka:kg w acc=none) (kd:kg w d=none) (fb:bl≠acc) (fr:∀(i:Nat) (b:Addr),Lb[i]? = some (Value.ref b)→b≠acc) (hsm:∀i,(kss.getD i []).length≤50) (hkl:kss.length≤100):
 ∀(r:Nat) {A:Around} {R:Result→Shared→Prop} {s:Shared} {i ea:Nat} {ta tr:Tok} {La:List Value} {is:List Nat} {v1:Value} (hA:AOk A 19) (hT:TopIn w.params s.heap)
 (hcb:s.heap.get? cb=some (cellO (.ref bl))) (hbl:s.heap.get? bl=some (listO Lb eb)) (hB:KidsAt s.heap Lb kss)
 (hI:s.heap.get? it=some (aq (.ofNat i) (.ofNat r) ta tr ts)) (hacc:s.heap.get? acc=some (listO La ea)) (hd:s.heap.get? d=some (dictO (e81 w k1 v1) ed))
 (hir:i+r≤kss.length) (hil:is.length≤i) (hS:IntVs La is)
 (H:∀(h':Heap) tk' La' ea' v1',Keeps s.heap h' [it,acc,d]→h'.get? acc=some (listO La' ea')→IntVs La' (is++(List.range' i r).filter (fun j=>decide ((kss.getD j []).length=2)))→h'.get? d=some (dictO (e81 w k1 v1') ed)→R (.ok .next) ⟨h',s.gens,s.drawn,tk',s.os⟩),
  codeAny (mm w) A (.compLoop dz 0 (.ref it) (.ref acc) (dl L d cb)) R s:=by
 intro r
 induction r with
 | zero=>
  intro A R s i ea ta tr La is v1 hA hT hcb hbl hB hI hacc hd hir hil hS H
  refine aj _ 0 hT (ag hI (ag hd ah)) ?ne ?kn (fun n t _=>?_)
  case ne=>simp[Dis,n2]
  case kn=>kd_in
  refine gRx hA.hd 14 [1,0,1,1,1,1,4] ?_
  kst_p
  refine gdK (.ok .next) (fun h D=>?_)
  exact H h _ La ea v1 (D.keeps.mono (by kd_mem)) (D.keeps.kq hacc (by tbr_iter (ai n1.symm n3))) (by tbr_iter hS) (D.xK 1)
 | succ r ih=>
  intro A R s i ea ta tr La is v1 hA hT hcb hbl hB hI hacc hd hir hil hS H
  have hik:i<kss.length:=by kst_all
  have hks:kss[i]? = some (kss.getD i []):=by simp[hik]
  obtain⟨b1',Lx,e1,hi,hb,hV⟩:=hB.2 _ _ hks
  have hx50:=hsm i
  have hsplit:(List.range' i (r+1)).filter (fun j=>decide ((kss.getD j []).length=2))=(if (kss.getD i []).length=2 then [i] else [])++(List.range' (i+1) r).filter (fun j=>decide ((kss.getD j []).length=2)):=by
   rw[List.range'_succ,List.filter_cons]
   by_cases q:(kss.getD i []).length=2
   ·rw[if_pos q,if_pos (decide_eq_true q)];rfl
   ·rw[if_neg q,if_neg (by rw[decide_eq_true_eq];exact q)];rfl
  rw[hsplit] at H
  have hlx:Lx.length=(kss.getD i []).length:=hV.1
  generalize kss.getD i []=xs at *
  have hx:Lx.length≤2^24:=by kst_all
  have jR:i<2^63:=by kst_all
  have hla:La.length≤2^24:=by have:=hS.1;kst_all
  have i1:=apart hbl hI
  have i2:=fb
  have i3:=apart hbl hd
  have j1:=apart hcb hI
  have j2:=apart hcb hacc
  have j3:=apart hcb hd
  have l1:=apart hb hI
  have l2:=fr _ _ hi
  have l3:=apart hb hd
  by_cases hlt:xs.length=2
  ·have hq:xs.length=2:=by kst_all
   rw[if_pos hq] at H
   refine aj _ 3 hT (ag hcb (ag hbl (ag hb (ag hI (ag hacc (ag hd ah)))))) ?ne ?kn (fun n t _=>?_)
   case ne=>kd_subs
   case kn=>kd_in
   refine gPx hA.hd [Value.ref b1',Value.int (Int.ofNat xs.length) 0] 43 [4,0,4,4,4,4,4,4,4,4,6,6,0,0,1,6,2,2,2,15,1,0,0,26,2,0,1,12,0,1,0,6,19,4,0,0] ?_
   intro zM zO
   refine gQx [La.length≤2^24,xs.length=2,Lx.length=xs.length,xs.length<2^63,Lb[i]? = some (Value.ref b1'),i<2^63] ⟨by assumption,by assumption,by assumption,by kst_all,by assumption,by assumption,trivial⟩ ?_
   refine gaK (.compLoop dz 0 (.ref it) (.ref acc) (dl L d cb)) (fun h D=>?_)
   have c3:=D.cK 3 it (aq (Int.ofNat (i+1)) (Int.ofNat (r+1) - 1) 0 0 ts)
   rw[ay] at c3
   have c4:=D.cK 4 acc (listO (La++[.int (.ofNat i) t]) (ea+1))
   have c5:=D.cK 5 d (dictO (e81 w k1 (.int (.ofNat i) t)) ed)
   have hB2:KidsAt h Lb kss:=KidsAt.keepL D.keeps hB (by intro i' b' e';obtain⟨_,_,_,q1,q2,_⟩:=hB.2 i' _ (hB.row e');rw[q1] at e';cases e';simp;exact⟨apart q2 hI,fr _ _ q1,apart q2 hd⟩)
   refine ih (is:=(is++[i])) hA D.kt (D.keeps.kq hcb (by tbr_iter (ai j1 (ai j2 j3)))) (D.keeps.kq hbl (by tbr_iter (ai i1 (ai i2 i3)))) hB2 c3 c4 c5 (by kst_all) (by simp;kst_all) (hS.push _ _) (fun h' tk' La' ea' v1' K e1 e2 e3=>H h' tk' La' ea' v1' ((D.keeps.trans K).mono (by kd_mem)) e1 (by tbr_iter e2) e3)
  ·have hq:¬xs.length=2:=by kst_all
   rw[if_neg hq] at H
   refine aj _ 3 hT (ag hcb (ag hbl (ag hb (ag hI (ag hacc (ag hd ah)))))) ?ne ?kn (fun n t _=>?_)
   case ne=>kd_subs
   case kn=>kd_in
   refine gPx hA.hd [Value.ref b1',Value.int (Int.ofNat xs.length) 0] 40 [4,0,4,4,4,4,4,4,4,4,6,6,0,0,1,6,2,2,2,15,1,0,0,26,2,0,1,12,0,0,0] ?_
   intro zM zO
   refine gQx [¬xs.length=2,Lx.length=xs.length,xs.length<2^63,Lb[i]? = some (Value.ref b1'),i<2^63] ⟨by assumption,by assumption,by kst_all,by assumption,by assumption,trivial⟩ ?_
   refine gaK (.compLoop dz 0 (.ref it) (.ref acc) (dl L d cb)) (fun h D=>?_)
   have c3:=D.cK 3 it (aq (Int.ofNat (i+1)) (Int.ofNat (r+1) - 1) 0 0 ts)
   rw[ay] at c3
   have c4:=D.cK 4 acc (listO La ea)
   have c5:=D.cK 5 d (dictO (e81 w k1 (.int (.ofNat i) t)) ed)
   have hB2:KidsAt h Lb kss:=KidsAt.keepL D.keeps hB (by intro i' b' e';obtain⟨_,_,_,q1,q2,_⟩:=hB.2 i' _ (hB.row e');rw[q1] at e';cases e';simp;exact⟨apart q2 hI,fr _ _ q1,apart q2 hd⟩)
   refine ih (is:=is) hA D.kt (D.keeps.kq hcb (by tbr_iter (ai j1 (ai j2 j3)))) (D.keeps.kq hbl (by tbr_iter (ai i1 (ai i2 i3)))) hB2 c3 c4 c5 (by kst_all) (by kst_all) hS (fun h' tk' La' ea' v1' K e1 e2 e3=>H h' tk' La' ea' v1' ((D.keeps.trans K).mono (by kd_mem)) e1 (by tbr_iter e2) e3)
theorem i0 {ed:Nat}
 (n1:it≠acc) (n2:it≠d) (n3:acc≠d) (ki:kg w it=none) (ka:kg w acc=none) (kd:kg w d=none) (fb:bl≠acc) (fr:∀(i:Nat) (b:Addr),Lb[i]? = some (Value.ref b)→b≠acc) (hsm:∀i,(kss.getD i []).length≤50) (hkl:kss.length≤100)
 (r:Nat) {s:Shared} {i:Nat} {tr:Tok} (hA:AOk A 19) (hT:TopIn w.params s.heap)
 (hcb:s.heap.get? cb=some (cellO (.ref bl))) (hbl:s.heap.get? bl=some (listO Lb eb)) (hB:KidsAt s.heap Lb kss)
 (hI:s.heap.get? it=some (aq (.ofNat i) (.ofNat (r+1)) ta tr ts)) (hacc:s.heap.get? acc=some (listO La ea)) (hd:s.heap.get? d=some (dictO [] ed))
 (hir:i+(r+1)≤kss.length) (hil:is.length≤i) (hS:IntVs La is)
 (H:∀(h':Heap) tk' La' ea' k1 v1' ed',Keeps s.heap h' [it,acc,d]→h'.get? acc=some (listO La' ea')→IntVs La' (is++(List.range' i (r+1)).filter (fun j=>decide ((kss.getD j []).length=2)))→h'.get? d=some (dictO (e81 w k1 v1') ed')→R (.ok .next) ⟨h',s.gens,s.drawn,tk',s.os⟩):
  codeAny (mm w) A (.compLoop dz 0 (.ref it) (.ref acc) (dl L d cb)) R s:=by
  have hik:i<kss.length:=by kst_all
  have hks:kss[i]? = some (kss.getD i []):=by simp[hik]
  obtain⟨b1',Lx,e1,hi,hb,hV⟩:=hB.2 _ _ hks
  have hx50:=hsm i
  have hsplit:(List.range' i (r+1)).filter (fun j=>decide ((kss.getD j []).length=2))=(if (kss.getD i []).length=2 then [i] else [])++(List.range' (i+1) r).filter (fun j=>decide ((kss.getD j []).length=2)):=by
   rw[List.range'_succ,List.filter_cons]
   by_cases q:(kss.getD i []).length=2
   ·rw[if_pos q,if_pos (decide_eq_true q)];rfl
   ·rw[if_neg q,if_neg (by rw[decide_eq_true_eq];exact q)];rfl
  rw[hsplit] at H
  have hlx:Lx.length=(kss.getD i []).length:=hV.1
  generalize kss.getD i []=xs at *
  have hx:Lx.length≤2^24:=by kst_all
  have jR:i<2^63:=by kst_all
  have hla:La.length≤2^24:=by have:=hS.1;kst_all
  have i1:=apart hbl hI
  have i2:=fb
  have i3:=apart hbl hd
  have j1:=apart hcb hI
  have j2:=apart hcb hacc
  have j3:=apart hcb hd
  have l1:=apart hb hI
  have l2:=fr _ _ hi
  have l3:=apart hb hd
  by_cases hlt:xs.length=2
  ·have hq:xs.length=2:=by kst_all
   rw[if_pos hq] at H
   refine aj _ 3 hT (ag hcb (ag hbl (ag hb (ag hI (ag hacc (ag hd ah)))))) ?ne ?kn (fun n t _=>?_)
   case ne=>kd_subs
   case kn=>kd_in
   refine gPx hA.hd [Value.ref b1',Value.int (Int.ofNat xs.length) 0] 43 [4,0,4,4,4,4,4,4,4,4,6,6,0,0,1,6,2,2,2,15,1,0,0,26,2,0,1,12,0,1,0,6,19,4,0,0] ?_
   intro zM zO
   refine gQx [La.length≤2^24,xs.length=2,Lx.length=xs.length,xs.length<2^63,Lb[i]? = some (Value.ref b1'),i<2^63] ⟨by assumption,by assumption,by assumption,by kst_all,by assumption,by assumption,trivial⟩ ?_
   refine gaK (.compLoop dz 0 (.ref it) (.ref acc) (dl L d cb)) (fun h D=>?_)
   have c3:=D.cK 3 it (aq (Int.ofNat (i+1)) (Int.ofNat (r+1) - 1) 0 0 ts)
   rw[ay] at c3
   have c4:=D.cK 4 acc (listO (La++[.int (.ofNat i) t]) (ea+1))
   have c5:=D.cK 5 d (dictO (e81 w (t+1) (.int (.ofNat i) t)) (ed+1))
   have hB2:KidsAt h Lb kss:=KidsAt.keepL D.keeps hB (by intro i' b' e';obtain⟨_,_,_,q1,q2,_⟩:=hB.2 i' _ (hB.row e');rw[q1] at e';cases e';simp;exact⟨apart q2 hI,fr _ _ q1,apart q2 hd⟩)
   refine f5 n1 n2 n3 ki ka kd fb fr hsm hkl r (is:=(is++[i])) hA D.kt (D.keeps.kq hcb (by tbr_iter (ai j1 (ai j2 j3)))) (D.keeps.kq hbl (by tbr_iter (ai i1 (ai i2 i3)))) hB2 c3 c4 c5 (by kst_all) (by simp;kst_all) (hS.push _ _) (fun h' tk' La' ea' v1' K e1 e2 e3=>H h' tk' La' ea' _ _ _ ((D.keeps.trans K).mono (by kd_mem)) e1 (by tbr_iter e2) e3)
  ·have hq:¬xs.length=2:=by kst_all
   rw[if_neg hq] at H
   refine aj _ 3 hT (ag hcb (ag hbl (ag hb (ag hI (ag hacc (ag hd ah)))))) ?ne ?kn (fun n t _=>?_)
   case ne=>kd_subs
   case kn=>kd_in
   refine gPx hA.hd [Value.ref b1',Value.int (Int.ofNat xs.length) 0] 40 [4,0,4,4,4,4,4,4,4,4,6,6,0,0,1,6,2,2,2,15,1,0,0,26,2,0,1,12,0,0,0] ?_
   intro zM zO
   refine gQx [¬xs.length=2,Lx.length=xs.length,xs.length<2^63,Lb[i]? = some (Value.ref b1'),i<2^63] ⟨by assumption,by assumption,by kst_all,by assumption,by assumption,trivial⟩ ?_
   refine gaK (.compLoop dz 0 (.ref it) (.ref acc) (dl L d cb)) (fun h D=>?_)
   have c3:=D.cK 3 it (aq (Int.ofNat (i+1)) (Int.ofNat (r+1) - 1) 0 0 ts)
   rw[ay] at c3
   have c4:=D.cK 4 acc (listO La ea)
   have c5:=D.cK 5 d (dictO (e81 w (t+1) (.int (.ofNat i) t)) (ed+1))
   have hB2:KidsAt h Lb kss:=KidsAt.keepL D.keeps hB (by intro i' b' e';obtain⟨_,_,_,q1,q2,_⟩:=hB.2 i' _ (hB.row e');rw[q1] at e';cases e';simp;exact⟨apart q2 hI,fr _ _ q1,apart q2 hd⟩)
   refine f5 n1 n2 n3 ki ka kd fb fr hsm hkl r (is:=is) hA D.kt (D.keeps.kq hcb (by tbr_iter (ai j1 (ai j2 j3)))) (D.keeps.kq hbl (by tbr_iter (ai i1 (ai i2 i3)))) hB2 c3 c4 c5 (by kst_all) (by kst_all) hS (fun h' tk' La' ea' v1' K e1 e2 e3=>H h' tk' La' ea' _ _ _ ((D.keeps.trans K).mono (by kd_mem)) e1 (by tbr_iter e2) e3)
noncomputable def cp:Expr:=dI (aZ 9)
@[reducible] noncomputable def bN (L d c3 c6:Addr):Env:={ scope:=cG (bF cp) (dAt 23).2.2,locals:=d,globals:=3,cells:=[(sOwn,c3),(nZ,c6)],qual:=gk,func:=none,code:= .ref 196,frame:=some L,builtins:=0 }
@[reducible] noncomputable def e33 (w:World) (k1:Nat) (v1:Value):List DictEntry:=[ent w.params sFork k1 v1]
theorem dT {c3:Nat}
 (n1:it≠acc) (n2:it≠d) (n3:acc≠d) (ki:kg w it=none) (ka:kg w acc=none) (kd:kg w d=none) (nea:ae≠acc) (noa:ow≠acc) (noe:ow≠ae) (hVe:IntVs Le ev) (hel:ev.length≤7) (hsm:∀x∈ev,x<7) (hq:((o3 / (5:Nat)) % (3:Nat)).toNat=q):
 ∀(rs:List Nat) {A:Around} {R:Result→Shared→Prop} {s:Shared} {k ea tk:Nat} {La:List Value} {is:List Nat} {v1:Value} (hA:AOk A 19) (hT:TopIn w.params s.heap)
 (h3:s.heap.get? c3=some (cellO (.ref ow))) (h6:s.heap.get? c6=some (cellO (.ref ae))) (ho:s.heap.get? ow=some (listO [.int o0 t0, .int o1 t1, .int o2 t2, .int o3 t3] eo)) (he:s.heap.get? ae=some (listO Le ee))
 (hI:s.heap.get? it=some (av ae k tk)) (hacc:s.heap.get? acc=some (listO La ea)) (hd:s.heap.get? d=some (dictO (e33 w k1 v1) ed))
 (hrs:ev.drop k=rs) (hil:is.length≤k) (hS:IntVs La is)
 (H:∀(h':Heap) tk' La' ea' v1',Keeps s.heap h' [it,acc,d]→h'.get? acc=some (listO La' ea')→IntVs La' (is++rs.filter (fun f=>decide (ev.length<3) || decide (f≠ev.getD q 0)))→h'.get? d=some (dictO (e33 w k1 v1') ed)→R (.ok .next) ⟨h',s.gens,s.drawn,tk',s.os⟩),
  codeAny (mm w) A (.compLoop cp 0 (.ref it) (.ref acc) (bN L d c3 c6)) R s:=by
 intro rs
 induction rs with
 | nil=>
  intro A R s k ea tk La is v1 hA hT h3 h6 ho he hI hacc hd hrs hil hS H
  have hlen:=hVe.fin hrs
  have⟨zhe_hI,zhe_hI'⟩:=ap2 he hI
  have⟨zhe_hd,zhe_hd'⟩:=ap2 he hd
  refine aj [(ae,_),(it,_),(d,_)] 1 hT (ag he (ag hI (ag hd ah))) (by kd_subs) (by tbr_iter (ai ki kd)) (fun n t _=>?_)
  refine gPx hA.hd [] 4 [2,18,1,0,0,5] ?_
  intro zM zO
  refine gQx [Le.length≤k] ⟨by assumption,trivial⟩ ?_
  refine gdK (.ok .next) (fun h D=>?_)
  exact H h _ La ea v1 (D.keeps.mono (by kd_mem)) (D.keeps.kq hacc (by tbr_iter (ai n1.symm n3))) (by tbr_iter hS) (D.xK 2)
 | cons x rs ih=>
  intro A R s k ea tk La is v1 hA hT h3 h6 ho he hI hacc hd hrs hil hS H
  obtain⟨⟨tx,hi⟩,hk'⟩:=hVe.at hrs
  have hkl:k<7:=by
   have h:(ev.drop k).length=(x :: rs).length:=by rw[hrs]
   simp at h;kst_all
  have hx7:x<7:=hsm x (by
   have h:x∈ev.drop k:=by rw[hrs];simp
   exact List.mem_of_mem_drop h)
  have hla:La.length≤2^24:=by have:=hS.1;kst_all
  have hk63:k<2^63∧x<2^63:=by kst_all
  have hlen:=hVe.1
  have⟨zh3_ho,zh3_ho'⟩:=ap2 h3 ho
  have⟨zh3_he,zh3_he'⟩:=ap2 h3 he
  have⟨zh3_hI,zh3_hI'⟩:=ap2 h3 hI
  have⟨zh3_hacc,zh3_hacc'⟩:=ap2 h3 hacc
  have⟨zh3_hd,zh3_hd'⟩:=ap2 h3 hd
  have⟨zh6_ho,zh6_ho'⟩:=ap2 h6 ho
  have⟨zh6_he,zh6_he'⟩:=ap2 h6 he
  have⟨zh6_hI,zh6_hI'⟩:=ap2 h6 hI
  have⟨zh6_hacc,zh6_hacc'⟩:=ap2 h6 hacc
  have⟨zh6_hd,zh6_hd'⟩:=ap2 h6 hd
  have⟨zho_hI,zho_hI'⟩:=ap2 ho hI
  have⟨zho_hd,zho_hd'⟩:=ap2 ho hd
  have⟨zhe_hI,zhe_hI'⟩:=ap2 he hI
  have⟨zhe_hd,zhe_hd'⟩:=ap2 he hd
  have he63:ev.length<2^63:=by kst_all
  by_cases hlt:ev.length<3
  ·refine aj [(c3,_),(c6,_),(ow,_),(ae,_),(it,_),(acc,_),(d,_)] 4 hT (ag h3 (ag h6 (ag ho (ag he (ag hI (ag hacc (ag hd ah))))))) (by kd_subs) (by tbr_iter (ai ki (ai ka kd))) (fun n t hn=>?_)
   refine gPx hA.hd [Value.int (Int.ofNat x) tx,Value.int (Int.ofNat ev.length) 0] 25 [5,17,4,3,0,7,7,0,0,2,26,3,0,1,8,0,1,0,7,19,5,0,0] ?_
   intro zM zO
   refine gQx [La.length≤2^24,ev.length<3,Le.length=ev.length,ev.length<2^63,Le[k]? = some (Value.int (Int.ofNat x) tx)] ⟨by assumption,by assumption,by assumption,by assumption,by assumption,trivial⟩ ?_
   refine gaK (.compLoop cp 0 (.ref it) (.ref acc) (bN L d c3 c6)) (fun h9 D9=>?_)
   have c4:=D9.cK 4 it (av ae (k+1) 0)
   have c5:=D9.cK 5 acc (listO (La++[.int (.ofNat x) tx]) (ea+1))
   have b0:=D9.cK 0 c3 (cellO (.ref ow))
   have b1':=D9.cK 1 c6 (cellO (.ref ae))
   have b2':=D9.cK 2 ow (listO [.int o0 t0, .int o1 t1, .int o2 t2, .int o3 t3] eo)
   have b3':=D9.cK 3 ae (listO Le ee)
   have c7:=D9.cK 6 d (dictO (e33 w k1 (.int (.ofNat x) tx)) ed)
   have hst:(x :: rs).filter (fun f=>decide (ev.length<3) || decide (f≠ev.getD q 0))=x :: rs.filter (fun f=>decide (ev.length<3) || decide (f≠ev.getD q 0)):=by rw[List.filter_cons];rw[if_pos];simp[hlt]
   rw[hst] at H
   exact ih (is:=(is++[x])) hA D9.kt b0 b1' b2' b3' c4 c5 c7 hk' (by simp;kst_all) (hS.push _ _) (fun h' tk' La' ea' v1' K e1 e2 e3=>H h' tk' La' ea' v1' ((D9.keeps.trans K).mono (by kd_mem)) e1 (by tbr_iter e2) e3)
  ·have hq3:q<3:=by kst_all
   have hqe:q<ev.length:=by kst_all
   have hge:ev[q]? = some (ev.getD q 0):=by simp[hqe]
   refine aj [(c3,_),(c6,_),(ow,_),(ae,_),(it,_),(acc,_),(d,_)] 4 hT (ag h3 (ag h6 (ag ho (ag he (ag hI (ag hacc (ag hd ah))))))) (by kd_subs) (by tbr_iter (ai ki (ai ka kd))) (fun n t hn=>?_)
   refine gPx hA.hd [Value.int (Int.ofNat x) tx,Value.int (Int.ofNat ev.length) 0] 40 [5,17,4,3,0,7,7,0,0,2,26,3,0,1,8,0,0,0,7,2,1,3,3,3,0,3,3] ?_
   intro zM zO
   refine gQx [¬ev.length<3,Le.length=ev.length,ev.length<2^63,Le[k]? = some (Value.int (Int.ofNat x) tx)] ⟨by assumption,by assumption,by assumption,by assumption,trivial⟩ ?_
   refine gcK (.call (.builtin "int.__floordiv__") ⟨[.int o3 t3, .int (.ofNat 5) (t+5)],[]⟩) (fun h D=>?_)
   refine cX (by decide) (by decide) (fun cU tk1=>?_)
   refine aD D ?_
   refine gRx hA.hd 2 [] ?_
   kst_p
   refine gcK (.call (.builtin "int.__mod__") ⟨[.int (o3 / (5:Nat)) cU, .int (.ofNat 3) tk1],[]⟩) (fun h D=>?_)
   refine cM (by decide) (fun aX tk2=>?_)
   rw[hq]
   have oQ:q<2^63:=by kst_all
   obtain⟨tf,hf⟩:=hVe.2 _ _ hge
   by_cases hne:x=ev.getD q 0
   ·refine aD D ?_
    refine gPx hA.hd [Value.int (Int.ofNat (ev.getD q 0)) tf] 8 [4,4,4,15,3,0,0,13,0,0,0] ?_
    intro zM zO
    refine gQx [¬x≠ev.getD q 0,Le[q]? = some (Value.int (Int.ofNat (ev.getD q 0)) tf),q<2^63] ⟨by kst_all,by assumption,by assumption,trivial⟩ ?_
    refine gaK (.compLoop cp 0 (.ref it) (.ref acc) (bN L d c3 c6)) (fun h9 D9=>?_)
    have c4:=D9.cK 4 it (av ae (k+1) 0)
    have c5:=D9.cK 5 acc (listO La ea)
    have b0:=D9.cK 0 c3 (cellO (.ref ow))
    have b1':=D9.cK 1 c6 (cellO (.ref ae))
    have b2':=D9.cK 2 ow (listO [.int o0 t0, .int o1 t1, .int o2 t2, .int o3 t3] eo)
    have b3':=D9.cK 3 ae (listO Le ee)
    have c7:=D9.cK 6 d (dictO (e33 w k1 (.int (.ofNat x) tx)) ed)
    have hst:(x :: rs).filter (fun f=>decide (ev.length<3) || decide (f≠ev.getD q 0))=rs.filter (fun f=>decide (ev.length<3) || decide (f≠ev.getD q 0)):=by rw[List.filter_cons];rw[if_neg];rw[decide_eq_false hlt,decide_eq_false (fun z=>z hne)];simp
    rw[hst] at H
    exact ih (is:=is) hA D9.kt b0 b1' b2' b3' c4 c5 c7 hk' (by kst_all) hS (fun h' tk' La' ea' v1' K e1 e2 e3=>H h' tk' La' ea' v1' ((D9.keeps.trans K).mono (by kd_mem)) e1 (by tbr_iter e2) e3)
   ·refine aD D ?_
    refine gPx hA.hd [Value.int (Int.ofNat (ev.getD q 0)) tf] 11 [4,4,4,15,3,0,0,13,0,1,0,7,19,5,0,0] ?_
    intro zM zO
    refine gQx [La.length≤2^24,x≠ev.getD q 0,Le[q]? = some (Value.int (Int.ofNat (ev.getD q 0)) tf),q<2^63] ⟨by assumption,by assumption,by assumption,by assumption,trivial⟩ ?_
    refine gaK (.compLoop cp 0 (.ref it) (.ref acc) (bN L d c3 c6)) (fun h9 D9=>?_)
    have c4:=D9.cK 4 it (av ae (k+1) 0)
    have c5:=D9.cK 5 acc (listO (La++[.int (.ofNat x) tx]) (ea+1))
    have b0:=D9.cK 0 c3 (cellO (.ref ow))
    have b1':=D9.cK 1 c6 (cellO (.ref ae))
    have b2':=D9.cK 2 ow (listO [.int o0 t0, .int o1 t1, .int o2 t2, .int o3 t3] eo)
    have b3':=D9.cK 3 ae (listO Le ee)
    have c7:=D9.cK 6 d (dictO (e33 w k1 (.int (.ofNat x) tx)) ed)
    have hst:(x :: rs).filter (fun f=>decide (ev.length<3) || decide (f≠ev.getD q 0))=x :: rs.filter (fun f=>decide (ev.length<3) || decide (f≠ev.getD q 0)):=by rw[List.filter_cons];rw[if_pos];rw[decide_eq_true hne];simp
    rw[hst] at H
    exact ih (is:=(is++[x])) hA D9.kt b0 b1' b2' b3' c4 c5 c7 hk' (by simp;kst_all) (hS.push _ _) (fun h' tk' La' ea' v1' K e1 e2 e3=>H h' tk' La' ea' v1' ((D9.keeps.trans K).mono (by kd_mem)) e1 (by tbr_iter e2) e3)
theorem iX {c3:Nat}
 (n1:it≠acc) (n2:it≠d) (n3:acc≠d) (ki:kg w it=none) (ka:kg w acc=none) (kd:kg w d=none) (nea:ae≠acc) (noa:ow≠acc) (noe:ow≠ae) (hVe:IntVs Le ev) (hel:ev.length≤7) (hsm:∀x∈ev,x<7) (hq:((o3 / (5:Nat)) % (3:Nat)).toNat=q)
 (x:Nat) (rs:List Nat) {s:Shared} (hA:AOk A 19) (hT:TopIn w.params s.heap)
 (h3:s.heap.get? c3=some (cellO (.ref ow))) (h6:s.heap.get? c6=some (cellO (.ref ae))) (ho:s.heap.get? ow=some (listO [.int o0 t0, .int o1 t1, .int o2 t2, .int o3 t3] eo)) (he:s.heap.get? ae=some (listO Le ee))
 (hI:s.heap.get? it=some (av ae k tk)) (hacc:s.heap.get? acc=some (listO La ea)) (hd:s.heap.get? d=some (dictO [] ed))
 (hrs:ev.drop k=x :: rs) (hil:is.length≤k) (hS:IntVs La is)
 (H:∀(h':Heap) tk' La' ea' k1 v1' ed',Keeps s.heap h' [it,acc,d]→h'.get? acc=some (listO La' ea')→IntVs La' (is++(x :: rs).filter (fun f=>decide (ev.length<3) || decide (f≠ev.getD q 0)))→h'.get? d=some (dictO (e33 w k1 v1') ed')→R (.ok .next) ⟨h',s.gens,s.drawn,tk',s.os⟩):
  codeAny (mm w) A (.compLoop cp 0 (.ref it) (.ref acc) (bN L d c3 c6)) R s:=by
  obtain⟨⟨tx,hi⟩,hk'⟩:=hVe.at hrs
  have hkl:k<7:=by
   have h:(ev.drop k).length=(x :: rs).length:=by rw[hrs]
   simp at h;kst_all
  have hx7:x<7:=hsm x (by
   have h:x∈ev.drop k:=by rw[hrs];simp
   exact List.mem_of_mem_drop h)
  have hla:La.length≤2^24:=by have:=hS.1;kst_all
  have hk63:k<2^63∧x<2^63:=by kst_all
  have hlen:=hVe.1
  have⟨zh3_ho,zh3_ho'⟩:=ap2 h3 ho
  have⟨zh3_he,zh3_he'⟩:=ap2 h3 he
  have⟨zh3_hI,zh3_hI'⟩:=ap2 h3 hI
  have⟨zh3_hacc,zh3_hacc'⟩:=ap2 h3 hacc
  have⟨zh3_hd,zh3_hd'⟩:=ap2 h3 hd
  have⟨zh6_ho,zh6_ho'⟩:=ap2 h6 ho
  have⟨zh6_he,zh6_he'⟩:=ap2 h6 he
  have⟨zh6_hI,zh6_hI'⟩:=ap2 h6 hI
  have⟨zh6_hacc,zh6_hacc'⟩:=ap2 h6 hacc
  have⟨zh6_hd,zh6_hd'⟩:=ap2 h6 hd
  have⟨zho_hI,zho_hI'⟩:=ap2 ho hI
  have⟨zho_hd,zho_hd'⟩:=ap2 ho hd
  have⟨zhe_hI,zhe_hI'⟩:=ap2 he hI
  have⟨zhe_hd,zhe_hd'⟩:=ap2 he hd
  have he63:ev.length<2^63:=by kst_all
  by_cases hlt:ev.length<3
  ·refine aj [(c3,_),(c6,_),(ow,_),(ae,_),(it,_),(acc,_),(d,_)] 4 hT (ag h3 (ag h6 (ag ho (ag he (ag hI (ag hacc (ag hd ah))))))) (by kd_subs) (by tbr_iter (ai ki (ai ka kd))) (fun n t hn=>?_)
   refine gPx hA.hd [Value.int (Int.ofNat x) tx,Value.int (Int.ofNat ev.length) 0] 25 [5,17,4,3,0,7,7,0,0,2,26,3,0,1,8,0,1,0,7,19,5,0,0] ?_
   intro zM zO
   refine gQx [La.length≤2^24,ev.length<3,Le.length=ev.length,ev.length<2^63,Le[k]? = some (Value.int (Int.ofNat x) tx)] ⟨by assumption,by assumption,by assumption,by assumption,by assumption,trivial⟩ ?_
   refine gaK (.compLoop cp 0 (.ref it) (.ref acc) (bN L d c3 c6)) (fun h9 D9=>?_)
   have c4:=D9.cK 4 it (av ae (k+1) 0)
   have c5:=D9.cK 5 acc (listO (La++[.int (.ofNat x) tx]) (ea+1))
   have b0:=D9.cK 0 c3 (cellO (.ref ow))
   have b1':=D9.cK 1 c6 (cellO (.ref ae))
   have b2':=D9.cK 2 ow (listO [.int o0 t0, .int o1 t1, .int o2 t2, .int o3 t3] eo)
   have b3':=D9.cK 3 ae (listO Le ee)
   have c7:=D9.cK 6 d (dictO (e33 w t (.int (.ofNat x) tx)) (ed+1))
   have hst:(x :: rs).filter (fun f=>decide (ev.length<3) || decide (f≠ev.getD q 0))=x :: rs.filter (fun f=>decide (ev.length<3) || decide (f≠ev.getD q 0)):=by rw[List.filter_cons];rw[if_pos];simp[hlt]
   rw[hst] at H
   exact dT n1 n2 n3 ki ka kd nea noa noe hVe hel hsm hq rs (is:=(is++[x])) hA D9.kt b0 b1' b2' b3' c4 c5 c7 hk' (by simp;kst_all) (hS.push _ _) (fun h' tk' La' ea' v1' K e1 e2 e3=>H h' tk' La' ea' _ _ _ ((D9.keeps.trans K).mono (by kd_mem)) e1 (by tbr_iter e2) e3)
  ·have hq3:q<3:=by kst_all
   have hqe:q<ev.length:=by kst_all
   have hge:ev[q]? = some (ev.getD q 0):=by simp[hqe]
   refine aj [(c3,_),(c6,_),(ow,_),(ae,_),(it,_),(acc,_),(d,_)] 4 hT (ag h3 (ag h6 (ag ho (ag he (ag hI (ag hacc (ag hd ah))))))) (by kd_subs) (by tbr_iter (ai ki (ai ka kd))) (fun n t hn=>?_)
   refine gPx hA.hd [Value.int (Int.ofNat x) tx,Value.int (Int.ofNat ev.length) 0] 40 [5,17,4,3,0,7,7,0,0,2,26,3,0,1,8,0,0,0,7,2,1,3,3,3,0,3,3] ?_
   intro zM zO
   refine gQx [¬ev.length<3,Le.length=ev.length,ev.length<2^63,Le[k]? = some (Value.int (Int.ofNat x) tx)] ⟨by assumption,by assumption,by assumption,by assumption,trivial⟩ ?_
   refine gcK (.call (.builtin "int.__floordiv__") ⟨[.int o3 t3, .int (.ofNat 5) (t+5)],[]⟩) (fun h D=>?_)
   refine cX (by decide) (by decide) (fun cU tk1=>?_)
   refine aD D ?_
   refine gRx hA.hd 2 [] ?_
   kst_p
   refine gcK (.call (.builtin "int.__mod__") ⟨[.int (o3 / (5:Nat)) cU, .int (.ofNat 3) tk1],[]⟩) (fun h D=>?_)
   refine cM (by decide) (fun aX tk2=>?_)
   rw[hq]
   have oQ:q<2^63:=by kst_all
   obtain⟨tf,hf⟩:=hVe.2 _ _ hge
   by_cases hne:x=ev.getD q 0
   ·refine aD D ?_
    refine gPx hA.hd [Value.int (Int.ofNat (ev.getD q 0)) tf] 8 [4,4,4,15,3,0,0,13,0,0,0] ?_
    intro zM zO
    refine gQx [¬x≠ev.getD q 0,Le[q]? = some (Value.int (Int.ofNat (ev.getD q 0)) tf),q<2^63] ⟨by kst_all,by assumption,by assumption,trivial⟩ ?_
    refine gaK (.compLoop cp 0 (.ref it) (.ref acc) (bN L d c3 c6)) (fun h9 D9=>?_)
    have c4:=D9.cK 4 it (av ae (k+1) 0)
    have c5:=D9.cK 5 acc (listO La ea)
    have b0:=D9.cK 0 c3 (cellO (.ref ow))
    have b1':=D9.cK 1 c6 (cellO (.ref ae))
    have b2':=D9.cK 2 ow (listO [.int o0 t0, .int o1 t1, .int o2 t2, .int o3 t3] eo)
    have b3':=D9.cK 3 ae (listO Le ee)
    have c7:=D9.cK 6 d (dictO (e33 w t (.int (.ofNat x) tx)) (ed+1))
    have hst:(x :: rs).filter (fun f=>decide (ev.length<3) || decide (f≠ev.getD q 0))=rs.filter (fun f=>decide (ev.length<3) || decide (f≠ev.getD q 0)):=by rw[List.filter_cons];rw[if_neg];rw[decide_eq_false hlt,decide_eq_false (fun z=>z hne)];simp
    rw[hst] at H
    exact dT n1 n2 n3 ki ka kd nea noa noe hVe hel hsm hq rs (is:=is) hA D9.kt b0 b1' b2' b3' c4 c5 c7 hk' (by kst_all) hS (fun h' tk' La' ea' v1' K e1 e2 e3=>H h' tk' La' ea' _ _ _ ((D9.keeps.trans K).mono (by kd_mem)) e1 (by tbr_iter e2) e3)
   ·refine aD D ?_
    refine gPx hA.hd [Value.int (Int.ofNat (ev.getD q 0)) tf] 11 [4,4,4,15,3,0,0,13,0,1,0,7,19,5,0,0] ?_
    intro zM zO
    refine gQx [La.length≤2^24,x≠ev.getD q 0,Le[q]? = some (Value.int (Int.ofNat (ev.getD q 0)) tf),q<2^63] ⟨by assumption,by assumption,by assumption,by assumption,trivial⟩ ?_
    refine gaK (.compLoop cp 0 (.ref it) (.ref acc) (bN L d c3 c6)) (fun h9 D9=>?_)
    have c4:=D9.cK 4 it (av ae (k+1) 0)
    have c5:=D9.cK 5 acc (listO (La++[.int (.ofNat x) tx]) (ea+1))
    have b0:=D9.cK 0 c3 (cellO (.ref ow))
    have b1':=D9.cK 1 c6 (cellO (.ref ae))
    have b2':=D9.cK 2 ow (listO [.int o0 t0, .int o1 t1, .int o2 t2, .int o3 t3] eo)
    have b3':=D9.cK 3 ae (listO Le ee)
    have c7:=D9.cK 6 d (dictO (e33 w t (.int (.ofNat x) tx)) (ed+1))
    have hst:(x :: rs).filter (fun f=>decide (ev.length<3) || decide (f≠ev.getD q 0))=x :: rs.filter (fun f=>decide (ev.length<3) || decide (f≠ev.getD q 0)):=by rw[List.filter_cons];rw[if_pos];rw[decide_eq_true hne];simp
    rw[hst] at H
    exact dT n1 n2 n3 ki ka kd nea noa noe hVe hel hsm hq rs (is:=(is++[x])) hA D9.kt b0 b1' b2' b3' c4 c5 c7 hk' (by simp;kst_all) (hS.push _ _) (fun h' tk' La' ea' v1' K e1 e2 e3=>H h' tk' La' ea' _ _ _ ((D9.keeps.trans K).mono (by kd_mem)) e1 (by tbr_iter e2) e3)
theorem mN {c3:Nat} {s:Shared} (hA:AOk A 19) (hT:TopIn w.params s.heap) (he:s.heap.get? ae=some (listO Le ee)) (hI:s.heap.get? it=some (av ae k tk)) (hlen:Le.length≤k) (ki:kg w it=none)
 (H:∀(h':Heap) tk',Keeps s.heap h' [it]→R (.ok .next) ⟨h',s.gens,s.drawn,tk',s.os⟩):
  codeAny (mm w) A (.compLoop cp 0 (.ref it) (.ref acc) (bN L d c3 c6)) R s:=by
 refine aj [(ae,_),(it,_)] 1 hT (ag he (ag hI ah)) (by tbr_iter (apart he hI)) (by tbr_iter ki) (fun n t hn=>?_)
 refine gPx hA.hd [] 4 [2,18,1,0,0,4] ?_
 intro zM zO
 refine gQx [Le.length≤k] ⟨by assumption,trivial⟩ ?_
 refine gdK (.ok .next) (fun h D=>?_)
 exact H h _ D.keeps
noncomputable def cV:Str:=⟨#[110,111,110,101]⟩
theorem mB {s:Shared} {c3:Nat} (hA:AOk A 250) (hT:TopIn w.params s.heap)
  (h4:s.heap.get? c4=some (cellO (.ref bl))) (h6:s.heap.get? c6=some bd) (hbl:s.heap.get? bl=some (listO Lb eb)) (hB:KidsAt s.heap Lb kss) (hk7:kss.length=7) (hsm:∀i,(kss.getD i []).length≤50) (k6:kg w c6=none) (n46:c4≠c6)
  (H:∀(h':Heap) tk' l Le' e',Keeps s.heap h' [c6]→s.heap.get? l=none→kg w l=none→h'.get? l=some (listO Le' e')→IntVs Le' ((List.range' 0 7).filter (fun j=>decide ((kss.getD j []).length=2)))→h'.get? c6=some (cellO (.ref l))→Q .next ⟨h',s.gens,s.drawn,tk',s.os⟩):
  wpAny (mm w) A (execs [aZ 8] (bq L c1 c2 c3 c4 c5 c6 c7 c8)) Q E s:=by
 have⟨zh4_hbl,zh4_hbl'⟩:=ap2 h4 hbl
 have⟨zh6_hbl,zh6_hbl'⟩:=ap2 h6 hbl
 refine aF (w:=w) (l:=[(c4,_),(bl,_),(c6,_)]) 2 hT (ag h4 (ag hbl (ag h6 ah))) (by kd_subs) (by tbr_iter k6) (fun n t hn=>?_)
 refine gRx hA.hd 39 [0,0,0,0,4,4,0,4,4,4,4,0,4,4,4,4,5] ?_
 kst_p
 have f0:∀k,s.heap.get? (n+k)=none:=aC (Nat.le_of_eq hn)
 refine gcK (.compStart dz 0 (.ref (n+1)) (.ref (n+2)) (dl L (n+3) c4)) (fun h D=>?_)
 have KD:Keeps s.heap h [c6]:=D.keeps
 have d4:=D.cK 0 c4 (cellO (.ref bl))
 have d5:=D.cK 1 bl (listO Lb eb)
 kd_adr
 have⟨d6,w6⟩:=D.wK 2 c6 bd
 have⟨d7,w7⟩:=D.wK 4 (n+1) (aq (.ofNat 0) (.ofNat 7) 0 0 0)
 have⟨d8,w8⟩:=D.wK 5 (n+2) (listO [] 0)
 have⟨d9,w9⟩:=D.wK 6 (n+3) (dictO [] 0)
 have hB2:KidsAt h Lb kss:=KidsAt.keepL KD hB (fun i b e=>by
  obtain⟨b',Ly,ey,q1,q2,_⟩:=hB.2 i _ (hB.row e)
  rw[q1] at e;cases e;simp;exact apart q2 h6)
 refine bC (by kd_p) d7 ?_
 refine i0 (ed:=0) (by kst_all) (by kst_all) (by kst_all) w7.kn w8.kn w9.kn (neF hbl (f0 2)) (fun i b e=>by
  obtain⟨b',Ly,ey,q1,q2,_⟩:=hB.2 i _ (hB.row e)
  rw[q1] at e;cases e;exact neF q2 (f0 2)) hsm (by kst_all) 6 (hA.subN (by kd_p) 6 (by kd_p) (by kst_all)) D.kt d4 d5 hB2 d7 d8 d9 (by kst_all) (by kd_mem) IntVs.nil (fun h' tk' La' ea' k1' v1' ed' K e1 e2 e3=>?_)
 have x6:=K.kq d6 (by tbr_iter (ai (neF h6 (f0 1)) (ai (neF h6 (f0 2)) (neF h6 (f0 3)))))
 have z2:=neF h6 (f0 2)
 have z3:=neF h6 (f0 3)
 refine resume D K (an w7 (an w8 (an w9 ax))) [(c6,_),(n+2,_),(n+3,_)] 0 (ag x6 (ag e1 (ag e3 ah))) (by simp[Dis,z2,z3,Ne.symm z2,Ne.symm z3]) (by tbr_iter (ai w6 (ai w8 w9))) (fun n9 hn9=>?_)
 refine gRx hA.hd 10 [3,3,3,1,1] ?_
 kst_p
 refine ggK s (.next) (fun h6' t6 D6=>?_)
 exact H h6' t6 (n+2) La' ea' D6.keeps (f0 2) w8.kn (D6.xK 1) (by tbr_iter e2) (D6.xK 0)
@[reducible] noncomputable def e34 (w:World) (k1 k2 k3 k4 k5 k6 k7 k8:Nat) (v1 v2 v3 v4 v5 v6 v7 v8:Value):List DictEntry:=[ent w.params bp k1 v1,ent w.params sWriter k2 v2,ent w.params jw k3 v3,ent w.params eX k4 v4,ent w.params cg k5 v5,ent w.params sEnd k6 v6,ent w.params ei k7 v7,ent w.params jx k8 v8]
theorem mA {s:Shared} {c3:Nat} (hA:AOk A 250) (hT:TopIn w.params s.heap)
  (h3:s.heap.get? c3=some (cellO (.ref ow))) (h6:s.heap.get? c6=some (cellO (.ref ae))) (ho:s.heap.get? ow=some (listO [.int o0 t0, .int o1 t1, .int o2 t2, .int o3 t3] eo)) (he:s.heap.get? ae=some (listO Le ee)) (hVe:IntVs Le ev) (hel:ev.length≤7) (hsm:∀x∈ev,x<7) (hq:((o3 / (5:Nat)) % (3:Nat)).toNat=q) (noe:ow≠ae)
  (hL:s.heap.get? L=some (frame (e32 w aY aP dG bL ci iQ bS aW aO dK bI cP iz bO) e)) (kL:kg w L=none)
  (H:∀(h':Heap) tk' l Lf e' j',Keeps s.heap h' [L]→s.heap.get? l=none→kg w l=none→h'.get? l=some (listO Lf e')→IntVs Lf (ev.filter (fun f=>decide (ev.length<3) || decide (f≠ev.getD q 0)))→h'.get? L=some (frame (e34 w aY aP dG bL ci iQ bS j' aW aO dK bI cP iz bO (.ref l)) (e+1))→Q .next ⟨h',s.gens,s.drawn,tk',s.os⟩):
  wpAny (mm w) A (execs [aZ 9] (bq L c1 c2 c3 c4 c5 c6 c7 c8)) Q E s:=by
 have⟨zh3_hL,zh3_hL'⟩:=ap2 h3 hL
 have⟨zh6_hL,zh6_hL'⟩:=ap2 h6 hL
 have⟨zho_hL,zho_hL'⟩:=ap2 ho hL
 have⟨zhe_hL,zhe_hL'⟩:=ap2 he hL
 have⟨zh3_ho,zh3_ho'⟩:=ap2 h3 ho
 have⟨zh3_he,zh3_he'⟩:=ap2 h3 he
 have⟨zh6_ho,zh6_ho'⟩:=ap2 h6 ho
 have⟨zh6_he,zh6_he'⟩:=ap2 h6 he
 refine aF (w:=w) (l:=[(c6,_),(ae,_),(L,_)]) 2 hT (ag h6 (ag he (ag hL ah))) (by kd_subs) (by tbr_iter kL) (fun n t hn=>?_)
 refine gRx hA.hd 16 [1,2,2,0,2,4] ?_
 kst_p
 have f0:∀k,s.heap.get? (n+k)=none:=aC (Nat.le_of_eq hn)
 refine gcK (.compStart cp 0 (.ref n) (.ref (n+1)) (bN L (n+2) c3 c6)) (fun h D=>?_)
 have KD:Keeps s.heap h [L]:=D.keeps
 have d3:h.get? c3=some (cellO (.ref ow)):=KD.kq h3 (by tbr_iter zh3_hL)
 have d4:=D.cK 0 c6 (cellO (.ref ae))
 have do':h.get? ow=some (listO [.int o0 t0, .int o1 t1, .int o2 t2, .int o3 t3] eo):=KD.kq ho (by tbr_iter zho_hL)
 have de:=D.cK 1 ae (listO Le ee)
 kd_adr
 have⟨dL,wL⟩:=D.wK 2 L (frame (e32 w aY aP dG bL ci iQ bS aW aO dK bI cP iz bO) e)
 have⟨d7,w7⟩:=D.wK 3 n (av ae 0 0)
 have⟨d8,w8⟩:=D.wK 4 (n+1) (listO [] 0)
 have⟨d9,w9⟩:=D.wK 5 (n+2) (dictO [] 0)
 have m1:=neF hL (f0 0)
 have m2:=neF hL (f0 1)
 have m3:=neF hL (f0 2)
 refine aM (by kd_p) d7 ?_
 cases ev with
 | nil=>
  have hl0:Le.length≤0:=hVe.fin rfl
  refine mN (hA.subN (by kd_p) 6 (by kd_p) (by kst_all)) D.kt de d7 hl0 w7.kn (fun h' tk' K=>?_)
  have x7:=K.kq dL (by tbr_iter m1)
  have x8:=K.kp d8
  have x9:=K.kp d9
  refine resume D K (an w7 ax) [(L,_),(n+1,_),(n+2,_)] 0 (ag x7 (ag x8 (ag x9 ah))) (by simp[Dis,m2,m3,Ne.symm m2,Ne.symm m3]) (by tbr_iter (ai wL (ai w8 w9))) (fun n9 hn9=>?_)
  refine gRx hA.hd 9 [1,1,3] ?_
  kst_p
  refine ggK s (.next) (fun h6' t6 D6=>?_)
  exact H h6' t6 (n+1) [] 0 tk' D6.keeps (f0 1) w8.kn (D6.xK 1) IntVs.nil (D6.xK 0)
 | cons x rs=>
  refine iX (by kst_all) (by kst_all) (by kst_all) w7.kn w8.kn w9.kn (neF he (f0 1)) (neF ho (f0 1)) noe hVe hel hsm hq x rs (hA.subN (by kd_p) 6 (by kd_p) (by kst_all)) D.kt d3 d4 do' de d7 d8 d9 rfl (by kd_mem) IntVs.nil (fun h' tk' La' ea' k1 v1' ed' K e1 e2 e3=>?_)
  have x7:=K.kq dL (by tbr_iter (ai m1 (ai m2 m3)))
  refine resume D K (an w7 (an w8 (an w9 ax))) [(L,_),(n+1,_),(n+2,_)] 0 (ag x7 (ag e1 (ag e3 ah))) (by simp[Dis,m2,m3,Ne.symm m2,Ne.symm m3]) (by tbr_iter (ai wL (ai w8 w9))) (fun n9 hn9=>?_)
  refine gRx hA.hd 13 [1,1,3,3,3] ?_
  kst_p
  refine ggK s (.next) (fun h6' t6 D6=>?_)
  exact H h6' t6 (n+1) La' ea' tk' D6.keeps (f0 1) w8.kn (D6.xK 1) (by tbr_iter e2) (D6.xK 0)
theorem mC {s:Shared} {c3 p1:Nat} {u0 u1 x1 x2 x3 x4:Str} {dK cP:Value} (hA:AOk A 250) (hT:TopIn w.params s.heap)
  (ho:s.heap.get? ao=some (listO [.str u0 p0, .str u1 p1, .str ⟨⟨x7⟩⟩ p2] eo)) (hw:s.heap.get? aw=some (listO [.str x0 q0, .str x1 q1, .str x2 q2, .str x3 q3, .str x4 q4, .str x5 q5, .str x6 q6] ew)) (hL:s.heap.get? L=some (frame (e34 w aY aP dG bL ci iQ bS fU aW aO (.ref ao) bI (.ref aw) iz bO dn) e)) (kL:kg w L=none) (hx:x7=[]∨∃c,x7=[c])
  (H:∀(h':Heap) tk' d1 d2 l a1 a2 b1x b2x v1 v2 k1 k2 k3 vT,Keeps s.heap h' [L]→((x7=[]∧vT = .none)∨(x7≠[]∧vT = .str ⟨⟨x7⟩⟩ p2))→h'.get? d1=some (dictO (e15 w a1 a2 (.str x0 q0) vT) 2)→h'.get? d2=some (dictO (e16 w b1x b2x (.str cV v1) (.str bQ v2)) 2)→h'.get? l=some (listO [] 0)→s.heap.get? d1=none→s.heap.get? d2=none→s.heap.get? l=none→kg w d1=none→kg w d2=none→kg w l=none→d1≠d2→h'.get? L=some (frame [ent w.params bp aY (aW),ent w.params sWriter aP (aO),ent w.params jw dG (.ref ao),ent w.params eX bL (bI),ent w.params cg ci (.ref aw),ent w.params sEnd iQ (iz),ent w.params ei bS (bO),ent w.params jx fU (dn),ent w.params sSums k1 (.ref l),ent w.params hJ k2 (.ref d2),ent w.params fM k3 (.ref d1)] (e+3))→Q .next ⟨h',s.gens,s.drawn,tk',s.os⟩):
  wpAny (mm w) A (execs [aZ 10] (bq L c1 c2 c3 c4 c5 c6 c7 c8)) Q E s:=by
 have⟨zho_hL,zho_hL'⟩:=ap2 ho hL
 have⟨zhw_hL,zhw_hL'⟩:=ap2 hw hL
 refine aF (w:=w) (l:=[(ao,_),(aw,_),(L,_)]) 2 hT (ag ho (ag hw (ag hL ah))) (by kd_subs) (by tbr_iter kL) (fun n t hn=>?_)
 rcases hx with rfl | ⟨c,rfl⟩
 ·refine gRx hA.hd 174 [3,2,2,2,0,2,2,3,1,1,1,0,1,1,0,0,0,4,4,4,4,0,4,4,4,4,0,5,5,5,5,0,5,5,5,5,7,7,7,0,7,8,8,0,8,8,8,7,8,8,8,0,8,8,8,7,8,8,8,0,8,8,8,7,8,8,8,0,8,8,8,7,8,8,10,3,3,3,3,3,3] ?_
  kst_p
  have f0:∀k,s.heap.get? (n+k)=none:=aC (Nat.le_of_eq hn)
  refine ggK s (.next) (fun h6 t6 D6=>?_)
  kd_adr
  have⟨r3,w3⟩:=D6.wK 3 n (dictO (e15 w t (t+2) (.str x0 q0) (.none)) 2)
  have⟨r4,w4⟩:=D6.wK 4 (n+1) (dictO (e16 w (t+8) (t+10) (.str cV (t+9)) (.str bQ (t+11))) 2)
  have⟨r5,w5⟩:=D6.wK 5 (n+2) (listO [] 0)
  exact H h6 t6 n (n+1) (n+2) t (t+2) (t+8) (t+10) (t+9) (t+11) (t+14) (t+15) (t+16) (.none) D6.keeps (.inl ⟨rfl,rfl⟩) r3 r4 r5 (f0 0) (f0 1) (f0 2) w3.kn w4.kn w5.kn (Nat.ne_of_lt (Nat.lt_succ_self n)) (D6.xK 2)
 ·refine gRx hA.hd 174 [3,2,2,2,0,2,2,3,1,1,1,0,1,1,0,0,0,4,4,4,4,0,4,4,4,4,0,5,5,5,5,0,5,5,5,5,7,7,7,0,7,8,8,0,8,8,8,7,8,8,8,0,8,8,8,7,8,8,8,0,8,8,8,7,8,8,8,0,8,8,8,7,8,8,10,3,3,3,3,3,3] ?_
  kst_p
  have f0:∀k,s.heap.get? (n+k)=none:=aC (Nat.le_of_eq hn)
  refine ggK s (.next) (fun h6 t6 D6=>?_)
  kd_adr
  have⟨r3,w3⟩:=D6.wK 3 n (dictO (e15 w t (t+2) (.str x0 q0) (.str ⟨⟨[c]⟩⟩ p2)) 2)
  have⟨r4,w4⟩:=D6.wK 4 (n+1) (dictO (e16 w (t+8) (t+10) (.str cV (t+9)) (.str bQ (t+11))) 2)
  have⟨r5,w5⟩:=D6.wK 5 (n+2) (listO [] 0)
  exact H h6 t6 n (n+1) (n+2) t (t+2) (t+8) (t+10) (t+9) (t+11) (t+14) (t+15) (t+16) (.str ⟨⟨[c]⟩⟩ p2) D6.keeps (.inr ⟨by simp,rfl⟩) r3 r4 r5 (f0 0) (f0 1) (f0 2) w3.kn w4.kn w5.kn (Nat.ne_of_lt (Nat.lt_succ_self n)) (D6.xK 2)
@[reducible] noncomputable def cN (it:Addr) (i:Int) (old:Value):Obj:=⟨.type "enumerate",none, .fields #[.none, .bool false, .ref it, .int i 0, .none,old], #[]⟩
theorem iq {s:Shared} {L:List Value} {Q:Value→Shared→Prop} (hl:s.heap.get? l=some (listO L e))
  (H:∀tk' h',Keeps s.heap h' []→h'.get? s.heap.objs.size=some (av l 0 0)→h'.get? (s.heap.objs.size+1)=some (cN s.heap.objs.size 0 .none)→h'.objs.size=s.heap.objs.size+2→Q (.ref (s.heap.objs.size+1)) ⟨h',s.gens,s.drawn,tk',s.os⟩):wpAny (model prog w) A (PySem.call (.type "enumerate") [.ref l]) Q E s:=by
 refine callType_new F.called_enumerate (by decide) (F.typeCall_enumerate_1 _) (F.newCall_enumerate_1 _) (fun obj=>F.args_object_init_2 obj _) F.entry_enumerate_new
  (meets_enumerate_newL l L.toArray e none #[]) ⟨hl,?_⟩
 have hz:(s.heap.push (av l 0 0)).objs.size=s.heap.objs.size+1:=Heap.size_push ..
 show _∧_
 have hz':(s.heap.push { cls:= .type "list_iterator",data:= .fields #[.ref l, .int 0 0] }).objs.size=s.heap.objs.size+1:=hz
 rw[hz']
 have he:((s.heap.push (av l 0 0)).push (cN s.heap.objs.size 0 .none)).get? (s.heap.objs.size+1)=some (cN s.heap.objs.size 0 .none):=by
  have:=Heap.get?_push_size (s.heap.push (av l 0 0)) (o:=cN s.heap.objs.size 0 .none) rfl
  rw[hz] at this;exact this
 have hi:((s.heap.push (av l 0 0)).push (cN s.heap.objs.size 0 .none)).get? s.heap.objs.size=some (av l 0 0):=Heap.get?_push_of_some _ (Heap.get?_push_size _ rfl)
 exact⟨⟨_,he,rfl⟩,H s.toks _ ((Keeps.pushH _ _).trans (Keeps.pushH _ _)) hi he (by rw[Heap.size_push];exact congrArg (· + 1) hz')⟩
noncomputable def au (k:Nat):Stmt:=(cq (dAt 23) 11).2.1.getD k default
noncomputable def aQ:Expr:=dI (au 0)
@[reducible] noncomputable def bP (L d c7:Addr):Env:={ scope:=cG (bF aQ) (dAt 23).2.2,locals:=d,globals:=3,cells:=[(nU,c7)],qual:=gk,func:=none,code:= .ref 196,frame:=some L,builtins:=0 }
theorem dA {s:Shared} {e:Expr} {en:Nat} {i:Int} {acc:Value} (he:iR e=true) (hI:s.heap.get? en=some (cN it i old))
  (h:codeAny (mm w) A (.compLoop e 0 (.ref en) acc env) R s):codeAny (mm w) A (.compStart e 0 (.ref en) acc env) R s:=by
 unfold iR at he
 split at he
 ·have he:=eq_of_beq he
  subst he
  exact codeAny_compStart_list h (wpAny_pyIter_enum hI h)
 ·cases he
theorem gI {s:Shared} {elt target iter c:Expr} {scope:Scope} {it acc:Value} {e:Expr} (he:e = .ListComp elt [⟨target,iter,[c],0⟩] scope pos)
  (h:wpAny (model prog w) A (pyNext it) (fun r s₁=>match r with
   | none=>R (.ok .next) s₁
   | some v=>wpAny (model prog w) A (letOwnedTupleGo target it v) (fun _ s₁=>wpAny (model prog w) A (assign target env v) (fun _ s₂=>
     wpAny (model prog w) A (isTrue c env (eval c env)) (fun ok s₃=>
      if ok=true then wpAny (model prog w) A (eval elt env) (fun x s₄=>
       wpAny (model prog w) A (PySem.call (.builtin "list.append") [acc,x]) (fun _ s₅=>codeAny (model prog w) A (.compLoop e 0 it acc env) R s₅) (notedBy (model prog w) A env fun e s'=>R (.error e) s') s₄) (notedBy (model prog w) A env fun e s'=>R (.error e) s') s₃
      else codeAny (model prog w) A (.compLoop e 0 it acc env) R s₃) (notedBy (model prog w) A env fun e s'=>R (.error e) s') s₂) (notedBy (model prog w) A env fun e s'=>R (.error e) s') s₁) (notedBy (model prog w) A env fun e s'=>R (.error e) s') s₁) (notedBy (model prog w) A env fun e s'=>R (.error e) s') s):
  codeAny (model prog w) A (.compLoop e 0 it acc env) R s:=by
 subst he
 refine codeAny_of_tree ?_
 show wpAny _ A ((compTurn (.ListComp elt [⟨target,iter,[c],0⟩] scope pos) 0 it acc env).onRaise (fun x=>do noteFrame x env;theTreesLotGoes x)) _ _ s
 refine wpAny_noted ?_
 rw[compTurn_list]
 refine wpAny_bind (wpAny_standAt (wpAny_bind (wpAny_mono h (fun r s₁ h₁=>?_) fun _ _ h'=>h')))
 cases r with
 | none=>exact wpAny_pure h₁
 | some v=>
  refine wpAny_bind (wpAny_mono h₁ (fun _ s₂ h₁=>?_) fun _ _ h'=>h')
  refine wpAny_bind (wpAny_mono h₁ (fun _ s₂ h₂=>wpAny_bind (wpAny_tests_one (wpAny_mono h₂ (fun ok s₃ h₃=>?_) fun _ _ h'=>h'))) fun _ _ h'=>h')
  cases ok with
  | false=>exact wpAny_pure ⟨rfl,h₃⟩
  | true=>exact wpAny_bind (wpAny_bind (wpAny_mono h₃ (fun x s₄ h₄=>wpAny_bind (wpAny_mono h₄ (fun _ s₅ h₅=>wpAny_pure (wpAny_pure ⟨rfl,h₅⟩)) fun _ _ h'=>h')) fun _ _ h'=>h'))
noncomputable def lcElt:Expr→Expr
 | .ListComp e _ _ _=>e
 | _=>default
noncomputable def lcIf:Expr→Expr
 | .ListComp _ (⟨_,_,i :: _,_⟩ :: _) _ _=>i
 | _=>default
noncomputable def lcIter:Expr→Expr
 | .ListComp _ (⟨_,i,_,_⟩ :: _) _ _=>i
 | _=>default
noncomputable def lcSc:Expr→Scope
 | .ListComp _ _ sc _=>sc
 | _=>default
noncomputable def lcTg:Expr→Expr
 | .ListComp _ (⟨t,_,_,_⟩ :: _) _ _=>t
 | _=>default
theorem kG:∃ps,aQ = .ListComp (lcElt aQ) [⟨lcTg aQ,lcIter aQ,[lcIf aQ],0⟩] (lcSc aQ) ps:=⟨_,rfl⟩
theorem kH:∃elts x1 p,lcTg aQ = .Tuple elts x1 p:=⟨_,_,_,rfl⟩
theorem oz {s:Shared} {tg:Expr} {i:Int} {item:Value} {Q:Unit→Shared→Prop} (hT:∃elts x1 p,tg = .Tuple elts x1 p) (he:IsEnumOut s.heap e it i item a)
  (hQ:∀h',IsEnum h' e it i item→Heap.SameBut e s.heap h'→Q () ⟨h',s.gens,s.drawn,s.toks,s.os⟩):wpAny (model prog w) A (letOwnedTupleGo tg (.ref e) (.ref a)) Q E s:=by
 kd_adr
 obtain⟨elts,x1,p,rfl⟩:=hT
 exact wpAny_letOwnedTupleGo_enum he hQ
theorem fv {s:Shared} {L:List Value} (hA:AOk A 3) (hT:TopIn w.params s.heap) (hl:s.heap.get? l=some (listO L e)) (kl:kg w l=none) (hlen:L.length≤2^24)
  (H:∀(h':Heap) tk',Keeps s.heap h' [l]→h'.get? l=some (listO (L++[v]) (e+1))→R (.ok (.ret .none)) ⟨h',s.gens,s.drawn,tk',s.os⟩):
  codeAny (mm w) A (.call (.builtin "list.append") ⟨[.ref l,v],[]⟩) R s:=by
 refine aI F.slot_list_append ⟨_,hl,rfl⟩ F.entry_list_append (F.args_list_append_2 _ _) ((PySem.list_append l L.toArray e v (by simpa [sizeLine] using hlen)).inModel _ _) ⟨hl,?_⟩
 refine H _ s.toks (Keeps.update _) ?_
 rw[Heap.get?_update_self _ hl rfl]
 simp[Obj.mapSeq]
@[reducible] noncomputable def e35 (w:World) (k1 k2:Nat) (v1 v2:Value):List DictEntry:=[ent w.params di k1 v1,ent w.params sFork k2 v2]
theorem dZ {en i x o k1 k2:Nat} {v1 v2:Value} {s:Shared} (hA:AOk A 40) (hT:TopIn w.params s.heap) (hx:Lf[i]? = some (.int (.ofNat x) tx)) (hla:La.length≤100) (hi:i<4) (ho:o<16) (hx7:x<7)
  (h7:s.heap.get? c7=some (cellO (.int (.ofNat o) to))) (hf:s.heap.get? af=some (listO Lf ef)) (hI:s.heap.get? it=some (av af i 0)) (hE:s.heap.get? en=some (cN it i old)) (hacc:s.heap.get? acc=some (listO La ea)) (hd:s.heap.get? d=some (dictO [] ed)) (nfa:af≠acc) (ki:kg w it=none) (ke:kg w en=none) (ka:kg w acc=none) (kd:kg w d=none)
  (H:∀(h':Heap) tk' k1' k2' v1' v2' ed' ea' old',Keeps s.heap h' [it,en,acc,d]→h'.get? it=some (av af (i+1) 0)→h'.get? en=some (cN it ((i:Int)+1) old')→h'.get? acc=some (listO (La++(if o>>>i&&&1=0 then [] else [.int (.ofNat x) tx])) ea')→h'.get? d=some (dictO (e35 w k1' k2' v1' v2') ed')→
   codeAny (mm w) A (.compLoop aQ 0 (.ref en) (.ref acc) (bP L d c7)) R ⟨h',s.gens,s.drawn,tk',s.os⟩):
  codeAny (mm w) A (.compLoop aQ 0 (.ref en) (.ref acc) (bP L d c7)) R s:=by
 have⟨zh7_hf,zh7_hf'⟩:=ap2 h7 hf
 have⟨zh7_hI,zh7_hI'⟩:=ap2 h7 hI
 have⟨zh7_hE,zh7_hE'⟩:=ap2 h7 hE
 have⟨zh7_hacc,zh7_hacc'⟩:=ap2 h7 hacc
 have⟨zh7_hd,zh7_hd'⟩:=ap2 h7 hd
 have⟨zhf_hI,zhf_hI'⟩:=ap2 hf hI
 have⟨zhf_hE,zhf_hE'⟩:=ap2 hf hE
 have⟨zhf_hd,zhf_hd'⟩:=ap2 hf hd
 have⟨zhI_hE,zhI_hE'⟩:=ap2 hI hE
 have⟨zhI_hacc,zhI_hacc'⟩:=ap2 hI hacc
 have⟨zhI_hd,zhI_hd'⟩:=ap2 hI hd
 have⟨zhE_hacc,zhE_hacc'⟩:=ap2 hE hacc
 have⟨zhE_hd,zhE_hd'⟩:=ap2 hE hd
 have⟨zhacc_hd,zhacc_hd'⟩:=ap2 hacc hd
 have hs1:i<2^63:=by kst_all
 kd_adr
 obtain⟨ps,eT⟩:=kG
 refine gI eT ?_
 refine bU ?_
 intro zQ zE
 refine nextR (w:=w) (l:=[(af,_),(it,_),(en,_)]) 1 hT (ag hf (ag hI (ag hE ah))) (by kd_subs) (by tbr_iter (ai ki ke)) (fun n t hn=>?_)
 refine gPx hA.hd [Value.int (Int.ofNat x) tx] 26 [3,0,3,3,2,17,1,0,0,3,3,3,3,3,3,3,3,3,3,3,3,3,3] ?_
 intro zM zO
 refine gQx [Lf[i]? = some (Value.int (Int.ofNat x) tx)] ⟨by assumption,trivial⟩ ?_
 refine ggK s (.ret (.ref n)) (fun h1 t1 D1=>?_)
 have K1:Keeps s.heap h1 [it,en]:=D1.keeps
 have T1:TopIn w.params h1:=D1.kt
 have I1:=D1.cK 1 it (av af (i+1) 0)
 have E1:=D1.cK 2 en ⟨.type "enumerate",none, .fields #[.int (n:Nat) 0, .bool false, .ref it, .int ((i:Int)+1) 0, .none, .int (.ofNat x) tx], #[]⟩
 have P1:=D1.cK 3 n (dc [.int (.ofNat i) t, .int (.ofNat x) tx] 0)
 clear D1
 have fr:=aC (Nat.le_of_eq hn)
 have nn:∀{b:Addr} {ob:Obj},s.heap.get? b=some ob→b≠n:=fun e=>neF e (fr 0)
 refine oz kH E1 (fun h2 E2 B2=>?_)
 have K2:Keeps h1 h2 [en]:=Keeps.but B2
 have T2:TopIn w.params h2:=K2.top T1 (by tbr_iter ke)
 have K12:Keeps s.heap h2 [it,en]:=(K1.trans K2).mono (by kd_mem)
 have P2:h2.get? n=some (dc [.int (.ofNat i) t, .int (.ofNat x) tx] 0):=K2.kq P1 (by tbr_iter ((nn hE).symm))
 have I2:h2.get? it=some (av af (i+1) 0):=K2.kq I1 (by tbr_iter zhI_hE)
 have d2:h2.get? d=some (dictO [] ed):=K12.kq hd (by tbr_iter (ai zhI_hd' zhE_hd'))
 have ndn:=nn hd
 refine bZ (w:=w) (l:=[(n,_),(d,_)]) 1 T2 (ag P2 (ag d2 ah)) (by simp[Dis,ndn,Ne.symm ndn]) (by tbr_iter kd) (fun n2 t2 hn2=>?_)
 refine gRx hA.hd 60 [1,1,1,0,1,3,3,0,3,3,3,1,3,3,3,0,3,3,3,1,3,3,3,0,3,3,3,1,3,3,5,2,2,2,2] ?_
 kst_p
 refine ggK s (.next) (fun h3 t3 D3=>?_)
 have K3:Keeps h2 h3 [d]:=D3.keeps
 have T3:TopIn w.params h3:=D3.kt
 have d3:=D3.cK 1 d (dictO (e35 w t2 (t2+1) (.int (.ofNat i) t) (.int (.ofNat x) tx)) (ed+2))
 clear D3
 have K13:Keeps s.heap h3 [it,en,d]:=(K12.trans K3).mono (by kd_mem)
 have c3:h3.get? c7=some (cellO (.int (.ofNat o) to)):=K13.kq h7 (by tbr_iter (ai zh7_hI (ai zh7_hE zh7_hd)))
 have I3:h3.get? it=some (av af (i+1) 0):=K3.kq I2 (by tbr_iter zhI_hd)
 have E3:=K3.kq E2 (by tbr_iter zhE_hd)
 have a3:h3.get? acc=some (listO La ea):=K13.kq hacc (by tbr_iter (ai zhI_hacc' (ai zhE_hacc' zhacc_hd)))
 refine isTrue_plain ?_ (by kd_p)
 have hsm:o<2^64∧i<2^64∧o>>>i<2^64:=by
  have:o>>>i≤o:=Nat.shiftRight_le o i
  omega
 refine aE (w:=w) (l:=[(c7,_),(d,_)]) 2 T3 (ag c3 (ag d3 ah)) (by kd_subs) (by kd_mem) (fun n3 t3' hn3=>?_)
 refine gPx hA.hd [] 12 [1,2,1,0,0,0,0] ?_
 intro zM zO
 refine gQx [] trivial ?_
 refine ggK s (.ret (.int (.ofNat (o>>>i&&&1)) (t3'+2))) (fun h4 t4 D4=>?_)
 have K4:Keeps h3 h4 []:=D4.keeps
 have T4:TopIn w.params h4:=D4.kt
 clear D4
 have hne:(Int.ofNat (o>>>i&&&1) != 0) = !decide (o>>>i&&&1=0):=gz _
 refine PyProof.Rows.truthy_int ?_
 rw[hne]
 have K14:Keeps s.heap h4 [it,en,d]:=(K13.trans K4).mono (by kd_mem)
 have d4:=K4.kp d3
 have a4:=K4.kp a3
 have I4:=K4.kp I3
 have E4:=K4.kp E3
 by_cases hb:o>>>i&&&1=0
 ·rw[decide_eq_true hb]
  show codeAny _ _ _ _ _
  rw[if_pos hb,List.append_nil] at H
  exact H h4 t4 _ _ _ _ _ ea _ (K14.mono (by kd_mem)) I4 E4 a4 d4
 ·rw[decide_eq_false hb]
  show wpAny _ _ (eval _ _) _ _ _
  rw[if_neg hb] at H
  refine aE (w:=w) (l:=[(d,_)]) 1 T4 (ag d4 ah) (by kd_subs) (by kd_mem) (fun n5 t5 hn5=>?_)
  refine gRx hA.hd 2 [1] ?_
  kst_p
  refine ggK s (.ret (.int (.ofNat x) tx)) (fun h6 t6 D6=>?_)
  have K6:Keeps h4 h6 []:=D6.keeps
  have T6:TopIn w.params h6:=D6.kt
  clear D6
  have d6:=K6.kp d4
  have a6:=K6.kp a4
  have I6:=K6.kp I4
  have E6:=K6.kp E4
  refine wpAny_call ?_
  refine fv (s:=⟨h6,s.gens,s.drawn,t6,s.os⟩) (hA.mono (by kst_all)) T6 a6 ka (by kst_all) (fun h8 t8 K8 a8=>?_)
  exact H h8 t8 _ _ _ _ _ (ea+1) _ (((K14.trans K6).trans K8).mono (by kd_mem)) (K8.kq I6 (by tbr_iter zhI_hacc)) (K8.kq E6 (by tbr_iter zhE_hacc)) a8 (K8.kq d6 (by tbr_iter zhacc_hd'))
theorem gV {en i x o:Nat} {v2:Value} {s:Shared} (hA:AOk A 40) (hT:TopIn w.params s.heap) (hx:Lf[i]? = some (.int (.ofNat x) tx)) (hla:La.length≤100) (hi:i<4) (ho:o<16) (hx7:x<7)
  (h7:s.heap.get? c7=some (cellO (.int (.ofNat o) to))) (hf:s.heap.get? af=some (listO Lf ef)) (hI:s.heap.get? it=some (av af i 0)) (hE:s.heap.get? en=some (cN it i old)) (hacc:s.heap.get? acc=some (listO La ea)) (hd:s.heap.get? d=some (dictO (e35 w k1 k2 v1 v2) ed)) (nfa:af≠acc) (ki:kg w it=none) (ke:kg w en=none) (ka:kg w acc=none) (kd:kg w d=none)
  (H:∀(h':Heap) tk' k1' k2' v1' v2' ed' ea' old',Keeps s.heap h' [it,en,acc,d]→h'.get? it=some (av af (i+1) 0)→h'.get? en=some (cN it ((i:Int)+1) old')→h'.get? acc=some (listO (La++(if o>>>i&&&1=0 then [] else [.int (.ofNat x) tx])) ea')→h'.get? d=some (dictO (e35 w k1' k2' v1' v2') ed')→
   codeAny (mm w) A (.compLoop aQ 0 (.ref en) (.ref acc) (bP L d c7)) R ⟨h',s.gens,s.drawn,tk',s.os⟩):
  codeAny (mm w) A (.compLoop aQ 0 (.ref en) (.ref acc) (bP L d c7)) R s:=by
 have⟨zh7_hf,zh7_hf'⟩:=ap2 h7 hf
 have⟨zh7_hI,zh7_hI'⟩:=ap2 h7 hI
 have⟨zh7_hE,zh7_hE'⟩:=ap2 h7 hE
 have⟨zh7_hacc,zh7_hacc'⟩:=ap2 h7 hacc
 have⟨zh7_hd,zh7_hd'⟩:=ap2 h7 hd
 have⟨zhf_hI,zhf_hI'⟩:=ap2 hf hI
 have⟨zhf_hE,zhf_hE'⟩:=ap2 hf hE
 have⟨zhf_hd,zhf_hd'⟩:=ap2 hf hd
 have⟨zhI_hE,zhI_hE'⟩:=ap2 hI hE
 have⟨zhI_hacc,zhI_hacc'⟩:=ap2 hI hacc
 have⟨zhI_hd,zhI_hd'⟩:=ap2 hI hd
 have⟨zhE_hacc,zhE_hacc'⟩:=ap2 hE hacc
 have⟨zhE_hd,zhE_hd'⟩:=ap2 hE hd
 have⟨zhacc_hd,zhacc_hd'⟩:=ap2 hacc hd
 have hs1:i<2^63:=by kst_all
 kd_adr
 obtain⟨ps,eT⟩:=kG
 refine gI eT ?_
 refine bU ?_
 intro zQ zE
 refine nextR (w:=w) (l:=[(af,_),(it,_),(en,_)]) 1 hT (ag hf (ag hI (ag hE ah))) (by kd_subs) (by tbr_iter (ai ki ke)) (fun n t hn=>?_)
 refine gPx hA.hd [Value.int (Int.ofNat x) tx] 26 [3,0,3,3,2,17,1,0,0,3,3,3,3,3,3,3,3,3,3,3,3,3,3] ?_
 intro zM zO
 refine gQx [Lf[i]? = some (Value.int (Int.ofNat x) tx)] ⟨by assumption,trivial⟩ ?_
 refine ggK s (.ret (.ref n)) (fun h1 t1 D1=>?_)
 have K1:Keeps s.heap h1 [it,en]:=D1.keeps
 have T1:TopIn w.params h1:=D1.kt
 have I1:=D1.cK 1 it (av af (i+1) 0)
 have E1:=D1.cK 2 en ⟨.type "enumerate",none, .fields #[.int (n:Nat) 0, .bool false, .ref it, .int ((i:Int)+1) 0, .none, .int (.ofNat x) tx], #[]⟩
 have P1:=D1.cK 3 n (dc [.int (.ofNat i) t, .int (.ofNat x) tx] 0)
 clear D1
 have fr:=aC (Nat.le_of_eq hn)
 have nn:∀{b:Addr} {ob:Obj},s.heap.get? b=some ob→b≠n:=fun e=>neF e (fr 0)
 refine oz kH E1 (fun h2 E2 B2=>?_)
 have K2:Keeps h1 h2 [en]:=Keeps.but B2
 have T2:TopIn w.params h2:=K2.top T1 (by tbr_iter ke)
 have K12:Keeps s.heap h2 [it,en]:=(K1.trans K2).mono (by kd_mem)
 have P2:h2.get? n=some (dc [.int (.ofNat i) t, .int (.ofNat x) tx] 0):=K2.kq P1 (by tbr_iter ((nn hE).symm))
 have I2:h2.get? it=some (av af (i+1) 0):=K2.kq I1 (by tbr_iter zhI_hE)
 have d2:h2.get? d=some (dictO (e35 w k1 k2 v1 v2) ed):=K12.kq hd (by tbr_iter (ai zhI_hd' zhE_hd'))
 have ndn:=nn hd
 refine bZ (w:=w) (l:=[(n,_),(d,_)]) 1 T2 (ag P2 (ag d2 ah)) (by simp[Dis,ndn,Ne.symm ndn]) (by tbr_iter kd) (fun n2 t2 hn2=>?_)
 refine gRx hA.hd 60 [1,1,1,0,1,3,3,0,3,3,3,1,3,3,3,0,3,3,3,1,3,3,3,0,3,3,3,1,3,3,5,2,2,2,2] ?_
 kst_p
 refine ggK s (.next) (fun h3 t3 D3=>?_)
 have K3:Keeps h2 h3 [d]:=D3.keeps
 have T3:TopIn w.params h3:=D3.kt
 have d3:=D3.cK 1 d (dictO (e35 w k1 k2 (.int (.ofNat i) t) (.int (.ofNat x) tx)) ed)
 clear D3
 have K13:Keeps s.heap h3 [it,en,d]:=(K12.trans K3).mono (by kd_mem)
 have c3:h3.get? c7=some (cellO (.int (.ofNat o) to)):=K13.kq h7 (by tbr_iter (ai zh7_hI (ai zh7_hE zh7_hd)))
 have I3:h3.get? it=some (av af (i+1) 0):=K3.kq I2 (by tbr_iter zhI_hd)
 have E3:=K3.kq E2 (by tbr_iter zhE_hd)
 have a3:h3.get? acc=some (listO La ea):=K13.kq hacc (by tbr_iter (ai zhI_hacc' (ai zhE_hacc' zhacc_hd)))
 refine isTrue_plain ?_ (by kd_p)
 have hsm:o<2^64∧i<2^64∧o>>>i<2^64:=by
  have:o>>>i≤o:=Nat.shiftRight_le o i
  omega
 refine aE (w:=w) (l:=[(c7,_),(d,_)]) 2 T3 (ag c3 (ag d3 ah)) (by kd_subs) (by kd_mem) (fun n3 t3' hn3=>?_)
 refine gPx hA.hd [] 12 [1,2,1,0,0,0,0] ?_
 intro zM zO
 refine gQx [] trivial ?_
 refine ggK s (.ret (.int (.ofNat (o>>>i&&&1)) (t3'+2))) (fun h4 t4 D4=>?_)
 have K4:Keeps h3 h4 []:=D4.keeps
 have T4:TopIn w.params h4:=D4.kt
 clear D4
 have hne:(Int.ofNat (o>>>i&&&1) != 0) = !decide (o>>>i&&&1=0):=gz _
 refine PyProof.Rows.truthy_int ?_
 rw[hne]
 have K14:Keeps s.heap h4 [it,en,d]:=(K13.trans K4).mono (by kd_mem)
 have d4:=K4.kp d3
 have a4:=K4.kp a3
 have I4:=K4.kp I3
 have E4:=K4.kp E3
 by_cases hb:o>>>i&&&1=0
 ·rw[decide_eq_true hb]
  show codeAny _ _ _ _ _
  rw[if_pos hb,List.append_nil] at H
  exact H h4 t4 _ _ _ _ _ ea _ (K14.mono (by kd_mem)) I4 E4 a4 d4
 ·rw[decide_eq_false hb]
  show wpAny _ _ (eval _ _) _ _ _
  rw[if_neg hb] at H
  refine aE (w:=w) (l:=[(d,_)]) 1 T4 (ag d4 ah) (by kd_subs) (by kd_mem) (fun n5 t5 hn5=>?_)
  refine gRx hA.hd 2 [1] ?_
  kst_p
  refine ggK s (.ret (.int (.ofNat x) tx)) (fun h6 t6 D6=>?_)
  have K6:Keeps h4 h6 []:=D6.keeps
  have T6:TopIn w.params h6:=D6.kt
  clear D6
  have d6:=K6.kp d4
  have a6:=K6.kp a4
  have I6:=K6.kp I4
  have E6:=K6.kp E4
  refine wpAny_call ?_
  refine fv (s:=⟨h6,s.gens,s.drawn,t6,s.os⟩) (hA.mono (by kst_all)) T6 a6 ka (by kst_all) (fun h8 t8 K8 a8=>?_)
  exact H h8 t8 _ _ _ _ _ (ea+1) _ (((K14.trans K6).trans K8).mono (by kd_mem)) (K8.kq I6 (by tbr_iter zhI_hacc)) (K8.kq E6 (by tbr_iter zhE_hacc)) a8 (K8.kq d6 (by tbr_iter zhacc_hd'))
theorem dM {en i:Nat} {s:Shared} (hA:AOk A 19) (hT:TopIn w.params s.heap) (hf:s.heap.get? af=some (listO Lf ef)) (hlen:Lf.length≤i) (hI:s.heap.get? it=some (av af i 0)) (hE:s.heap.get? en=some (cN it i old)) (ki:kg w it=none) (ke:kg w en=none)
  (H:∀(h':Heap) tk',Keeps s.heap h' [it,en]→R (.ok .next) ⟨h',s.gens,s.drawn,tk',s.os⟩):
  codeAny (mm w) A (.compLoop aQ 0 (.ref en) (.ref acc) (bP L d c7)) R s:=by
 have⟨zhf_hI,zhf_hI'⟩:=ap2 hf hI
 have⟨zhf_hE,zhf_hE'⟩:=ap2 hf hE
 have⟨zhI_hE,zhI_hE'⟩:=ap2 hI hE
 refine aj [(af,_),(it,_),(en,_)] 1 hT (ag hf (ag hI (ag hE ah))) (by kd_subs) (by tbr_iter (ai ki ke)) (fun n t hn=>?_)
 refine gPx hA.hd [] 10 [3,0,3,3,2,18,1,0,0,5] ?_
 intro zM zO
 refine gQx [Lf.length≤i] ⟨by assumption,trivial⟩ ?_
 refine gdK (.ok .next) (fun h D=>?_)
 exact H h _ D.keeps
theorem mu {s:Shared} {c3 o:Nat} {dn:Value} {tl:List DictEntry} (hA:AOk A 200) (hT:TopIn w.params s.heap) (oS:o<16)
  (h7:s.heap.get? c7=some (cellO (.int (.ofNat o) to))) (h8:s.heap.get? c8=some ⟨.type "cell",none, .cell o8, #[]⟩) (hf:s.heap.get? af=some (listO [] ef)) (hL:s.heap.get? L=some (frame ((e34 w aY aP dG bL ci iQ bS fU aW aO dK bI cP iz bO (.ref af))++tl) e)) (k8:kg w c8=none) (n78:c7≠c8)
  (H:∀(h':Heap) tk' l e',Keeps s.heap h' [c8]→s.heap.get? l=none→kg w l=none→h'.get? l=some (listO ([]:List Value) e')→h'.get? c8=some (cellO (.ref l))→Q .next ⟨h',s.gens,s.drawn,tk',s.os⟩):
  wpAny (mm w) A (execs [au 0] (bq L c1 c2 c3 c4 c5 c6 c7 c8)) Q E s:=by
 have⟨zh7_hf,zh7_hf'⟩:=ap2 h7 hf
 have⟨zh7_hL,zh7_hL'⟩:=ap2 h7 hL
 have⟨zh8_hf,zh8_hf'⟩:=ap2 h8 hf
 have⟨zh8_hL,zh8_hL'⟩:=ap2 h8 hL
 have⟨zhf_hL,zhf_hL'⟩:=ap2 hf hL
 refine aF (w:=w) (l:=[(c7,_),(af,_),(L,_),(c8,_)]) 3 hT (ag h7 (ag hf (ag hL (ag h8 ah)))) (by kd_subs) (by tbr_iter k8) (fun n t hn=>?_)
 refine gRx hA.hd 7 [0,0,3] ?_
 kst_p
 have f0:∀k,s.heap.get? (n+k)=none:=aC (Nat.le_of_eq hn)
 refine GoalX.callw (f:= .type "enumerate") (pos:=[.ref af]) (kw:=[]) (by kd_p) (fun h D=>?_)
 have hsz:h.objs.size=n:=D.size _ (by kd_p)
 have g0:=D.cK 0 c7 (cellO (.int (.ofNat o) to))
 have g1:=D.cK 1 af (listO [] ef)
 kd_adr
 have⟨g3,w3⟩:=D.wK 3 c8 ⟨.type "cell",none, .cell o8, #[]⟩
 have TD:TopIn w.params h:=D.kt
 refine iq g1 (fun tk1 h1 K1 q1 q2 hs1=>?_)
 rw[hsz] at q1 q2 hs1 ⊢
 have w4:Wr w _ _ n:=D.fresh (Nat.le_of_eq hsz)
 have w5:Wr w _ _ (n+1):=D.fresh (by rw[hsz];exact Nat.le_succ n)
 have y1:c7≠n:=neF h7 (f0 0)
 have y2:=neF h7 (f0 1)
 have y3:af≠n:=neF hf (f0 0)
 have y4:=neF hf (f0 1)
 have y5:c8≠n:=neF h8 (f0 0)
 have y6:=neF h8 (f0 1)
 refine resume D K1 ax [(c7,_),(af,_),(n,_),(n+1,_),(c8,_)] 2 (ag (K1.kp g0) (ag (K1.kp g1) (ag q1 (ag q2 (ag (K1.kp g3) ah))))) (by simp[Dis,Ne.symm y5,Ne.symm y6, *]) (by tbr_iter (ai w4 (ai w5 w3))) (fun n2 hn2=>?_)
 refine gRx hA.hd 12 [4,4,0,4,4] ?_
 kst_p
 have f2:∀k,s.heap.get? (n2+k)=none:=aC (by rw[←hn2,hs1];kst_all)
 have hnn:n+1<n2:=by rw[←hn2,hs1];kst_all
 refine gcK (.compStart aQ 0 (.ref (n+1)) (.ref n2) (bP L (n2+1) c7)) (fun h2 D2=>?_)
 have g0:=D2.cK 0 c7 (cellO (.int (.ofNat o) to))
 have g1:=D2.cK 1 af (listO [] ef)
 kd_adr
 have⟨r2,w6⟩:=D2.wK 2 n (av af 0 0)
 have⟨r3,w7⟩:=D2.wK 3 (n+1) (cN n 0 .none)
 have⟨r4,w8⟩:=D2.wK 4 c8 ⟨.type "cell",none, .cell o8, #[]⟩
 have⟨r5,w9⟩:=D2.wK 5 n2 (listO [] 0)
 have⟨r6,w10⟩:=D2.wK 6 (n2+1) (dictO [] 0)
 have y7:c8≠n2:=neF h8 (f2 0)
 have y8:=neF h8 (f2 1)
 have y9:af≠n2:=neF hf (f2 0)
 have y10:=neF hf (f2 1)
 have y11:c7≠n2:=neF h7 (f2 0)
 have y12:=neF h7 (f2 1)
 have kx:∀a∈([n,n+1,n2,n2+1]:List Addr),kg w a=none:=by tbr_iter (ai w6.kn (ai w7.kn (ai w9.kn w10.kn)))
 refine dA (by kd_p) r3 ?_
 have KK0:Keeps h2 h2 [n,n+1,n2,n2+1]:=(Keeps.refl h2).mono (by kd_mem)
 have T0:=D2.kt
 refine dM (i:=0) (hA.subN (by kd_p) 6 (by kd_p) (by kst_all)) T0 (KK0.kq g1 (by tbr_iter (ai y3 (ai y4 (ai y9 y10))))) (by kd_mem) r2 r3 w6.kn w7.kn (fun hx kx2 K9=>?_)
 have KK:Keeps h2 hx [n,n+1,n2,n2+1]:=(KK0.trans K9).mono (by kd_mem)
 have u1:¬(n2=n):=by kst_all
 have u2:¬(n2=n+1):=by kst_all
 have u3:¬(n2+1=n):=by kst_all
 have x1:=K9.keep n2 _ r5 (by tbr_iter (ai u1 u2))
 have x2:=K9.keep (n2+1) _ r6 (by tbr_iter (ai u3 u1))
 have r8:=KK.kq r4 (by tbr_iter (ai y5 (ai y6 (ai y7 y8))))
 refine resume D2 KK (an w6 (an w7 (an w9 (an w10 ax)))) [(c8,_),(n2,_),(n2+1,_)] 0 (ag r8 (ag x1 (ag x2 ah))) (by simp[Dis,y7,y8,Ne.symm y7,Ne.symm y8]) (by tbr_iter (ai w8 (ai w9 w10))) (fun n9 hn9=>?_)
 refine gRx hA.hd 7 [3,3,1,1] ?_
 kst_p
 refine ggK s (.next) (fun h6 t6 D6=>?_)
 exact H h6 t6 n2 _ D6.keeps (f2 0) w9.kn (D6.cell 1 (x:=listO ([]:List Value) 0) (by kd_p)) (D6.xK 0)
theorem mt {s:Shared} {c3 o:Nat} {dn:Value} {tl:List DictEntry} (hA:AOk A 200) (hT:TopIn w.params s.heap) (oS:o<16) (hf7:f<7)
  (h7:s.heap.get? c7=some (cellO (.int (.ofNat o) to))) (h8:s.heap.get? c8=some ⟨.type "cell",none, .cell o8, #[]⟩) (hf:s.heap.get? af=some (listO [.int (.ofNat f) tf] ef)) (hL:s.heap.get? L=some (frame ((e34 w aY aP dG bL ci iQ bS fU aW aO dK bI cP iz bO (.ref af))++tl) e)) (k8:kg w c8=none) (n78:c7≠c8)
  (H:∀(h':Heap) tk' l e',Keeps s.heap h' [c8]→s.heap.get? l=none→kg w l=none→h'.get? l=some (listO (([]:List Value)++(if o>>>0&&&1=0 then [] else [.int (.ofNat f) tf])) e')→h'.get? c8=some (cellO (.ref l))→Q .next ⟨h',s.gens,s.drawn,tk',s.os⟩):
  wpAny (mm w) A (execs [au 0] (bq L c1 c2 c3 c4 c5 c6 c7 c8)) Q E s:=by
 have⟨zh7_hf,zh7_hf'⟩:=ap2 h7 hf
 have⟨zh7_hL,zh7_hL'⟩:=ap2 h7 hL
 have⟨zh8_hf,zh8_hf'⟩:=ap2 h8 hf
 have⟨zh8_hL,zh8_hL'⟩:=ap2 h8 hL
 have⟨zhf_hL,zhf_hL'⟩:=ap2 hf hL
 refine aF (w:=w) (l:=[(c7,_),(af,_),(L,_),(c8,_)]) 3 hT (ag h7 (ag hf (ag hL (ag h8 ah)))) (by kd_subs) (by tbr_iter k8) (fun n t hn=>?_)
 refine gRx hA.hd 7 [0,0,3] ?_
 kst_p
 have f0:∀k,s.heap.get? (n+k)=none:=aC (Nat.le_of_eq hn)
 refine GoalX.callw (f:= .type "enumerate") (pos:=[.ref af]) (kw:=[]) (by kd_p) (fun h D=>?_)
 have hsz:h.objs.size=n:=D.size _ (by kd_p)
 have g0:=D.cK 0 c7 (cellO (.int (.ofNat o) to))
 have g1:=D.cK 1 af (listO [.int (.ofNat f) tf] ef)
 kd_adr
 have⟨g3,w3⟩:=D.wK 3 c8 ⟨.type "cell",none, .cell o8, #[]⟩
 have TD:TopIn w.params h:=D.kt
 refine iq g1 (fun tk1 h1 K1 q1 q2 hs1=>?_)
 rw[hsz] at q1 q2 hs1 ⊢
 have w4:Wr w _ _ n:=D.fresh (Nat.le_of_eq hsz)
 have w5:Wr w _ _ (n+1):=D.fresh (by rw[hsz];exact Nat.le_succ n)
 have y1:c7≠n:=neF h7 (f0 0)
 have y2:=neF h7 (f0 1)
 have y3:af≠n:=neF hf (f0 0)
 have y4:=neF hf (f0 1)
 have y5:c8≠n:=neF h8 (f0 0)
 have y6:=neF h8 (f0 1)
 refine resume D K1 ax [(c7,_),(af,_),(n,_),(n+1,_),(c8,_)] 2 (ag (K1.kp g0) (ag (K1.kp g1) (ag q1 (ag q2 (ag (K1.kp g3) ah))))) (by simp[Dis,Ne.symm y5,Ne.symm y6, *]) (by tbr_iter (ai w4 (ai w5 w3))) (fun n2 hn2=>?_)
 refine gRx hA.hd 12 [4,4,0,4,4] ?_
 kst_p
 have f2:∀k,s.heap.get? (n2+k)=none:=aC (by rw[←hn2,hs1];kst_all)
 have hnn:n+1<n2:=by rw[←hn2,hs1];kst_all
 refine gcK (.compStart aQ 0 (.ref (n+1)) (.ref n2) (bP L (n2+1) c7)) (fun h2 D2=>?_)
 have g0:=D2.cK 0 c7 (cellO (.int (.ofNat o) to))
 have g1:=D2.cK 1 af (listO [.int (.ofNat f) tf] ef)
 kd_adr
 have⟨r2,w6⟩:=D2.wK 2 n (av af 0 0)
 have⟨r3,w7⟩:=D2.wK 3 (n+1) (cN n 0 .none)
 have⟨r4,w8⟩:=D2.wK 4 c8 ⟨.type "cell",none, .cell o8, #[]⟩
 have⟨r5,w9⟩:=D2.wK 5 n2 (listO [] 0)
 have⟨r6,w10⟩:=D2.wK 6 (n2+1) (dictO [] 0)
 have y7:c8≠n2:=neF h8 (f2 0)
 have y8:=neF h8 (f2 1)
 have y9:af≠n2:=neF hf (f2 0)
 have y10:=neF hf (f2 1)
 have y11:c7≠n2:=neF h7 (f2 0)
 have y12:=neF h7 (f2 1)
 have kx:∀a∈([n,n+1,n2,n2+1]:List Addr),kg w a=none:=by tbr_iter (ai w6.kn (ai w7.kn (ai w9.kn w10.kn)))
 refine dA (by kd_p) r3 ?_
 refine dZ (k1:=0) (k2:=0) (v1:= .none) (v2:= .none) (i:=0) (hA.subN (by kd_p) 6 (by kd_p) (by kst_all)) D2.kt rfl (by kd_mem) (by kst_all) oS hf7 g0 g1 r2 r3 r5 r6 y9 w6.kn w7.kn w9.kn w10.kn (fun h1x k1 k10 k20 v10 v20 ed0 ea0 old0 K1 i1 e1 a1 d1=>?_)
 have KK1:Keeps h2 h1x [n,n+1,n2,n2+1]:=K1
 have T1:=KK1.top D2.kt kx
 refine dM (i:=1) (hA.subN (by kd_p) 6 (by kd_p) (by kst_all)) T1 (KK1.kq g1 (by tbr_iter (ai y3 (ai y4 (ai y9 y10))))) (by kd_mem) i1 e1 w6.kn w7.kn (fun hx kx2 K9=>?_)
 have KK:Keeps h2 hx [n,n+1,n2,n2+1]:=(KK1.trans K9).mono (by kd_mem)
 have u1:¬(n2=n):=by kst_all
 have u2:¬(n2=n+1):=by kst_all
 have u3:¬(n2+1=n):=by kst_all
 have x1:=K9.keep n2 _ a1 (by tbr_iter (ai u1 u2))
 have x2:=K9.keep (n2+1) _ d1 (by tbr_iter (ai u3 u1))
 have r8:=KK.kq r4 (by tbr_iter (ai y5 (ai y6 (ai y7 y8))))
 refine resume D2 KK (an w6 (an w7 (an w9 (an w10 ax)))) [(c8,_),(n2,_),(n2+1,_)] 0 (ag r8 (ag x1 (ag x2 ah))) (by simp[Dis,y7,y8,Ne.symm y7,Ne.symm y8]) (by tbr_iter (ai w8 (ai w9 w10))) (fun n9 hn9=>?_)
 refine gRx hA.hd 15 [3,3,3,3,3,3,1,1] ?_
 kst_p
 refine ggK s (.next) (fun h6 t6 D6=>?_)
 exact H h6 t6 n2 _ D6.keeps (f2 0) w9.kn (D6.cell 1 (x:=listO (([]:List Value)++(if o>>>0&&&1=0 then [] else [.int (.ofNat f) tf])) ea0) (by kd_p)) (D6.xK 0)
theorem mq {s:Shared} {c3 o g tg:Nat} {dn:Value} {tl:List DictEntry} (hA:AOk A 200) (hT:TopIn w.params s.heap) (oS:o<16) (hf7:f<7) (hg7:g<7)
  (h7:s.heap.get? c7=some (cellO (.int (.ofNat o) to))) (h8:s.heap.get? c8=some ⟨.type "cell",none, .cell o8, #[]⟩) (hf:s.heap.get? af=some (listO [.int (.ofNat f) tf, .int (.ofNat g) tg] ef)) (hL:s.heap.get? L=some (frame ((e34 w aY aP dG bL ci iQ bS fU aW aO dK bI cP iz bO (.ref af))++tl) e)) (k8:kg w c8=none) (n78:c7≠c8)
  (H:∀(h':Heap) tk' l e',Keeps s.heap h' [c8]→s.heap.get? l=none→kg w l=none→h'.get? l=some (listO ((([]:List Value)++(if o>>>0&&&1=0 then [] else [.int (.ofNat f) tf]))++(if o>>>1&&&1=0 then [] else [.int (.ofNat g) tg])) e')→h'.get? c8=some (cellO (.ref l))→Q .next ⟨h',s.gens,s.drawn,tk',s.os⟩):
  wpAny (mm w) A (execs [au 0] (bq L c1 c2 c3 c4 c5 c6 c7 c8)) Q E s:=by
 have⟨zh7_hf,zh7_hf'⟩:=ap2 h7 hf
 have⟨zh7_hL,zh7_hL'⟩:=ap2 h7 hL
 have⟨zh8_hf,zh8_hf'⟩:=ap2 h8 hf
 have⟨zh8_hL,zh8_hL'⟩:=ap2 h8 hL
 have⟨zhf_hL,zhf_hL'⟩:=ap2 hf hL
 refine aF (w:=w) (l:=[(c7,_),(af,_),(L,_),(c8,_)]) 3 hT (ag h7 (ag hf (ag hL (ag h8 ah)))) (by kd_subs) (by tbr_iter k8) (fun n t hn=>?_)
 refine gRx hA.hd 7 [0,0,3] ?_
 kst_p
 have f0:∀k,s.heap.get? (n+k)=none:=aC (Nat.le_of_eq hn)
 refine GoalX.callw (f:= .type "enumerate") (pos:=[.ref af]) (kw:=[]) (by kd_p) (fun h D=>?_)
 have hsz:h.objs.size=n:=D.size _ (by kd_p)
 have g0:=D.cK 0 c7 (cellO (.int (.ofNat o) to))
 have g1:=D.cK 1 af (listO [.int (.ofNat f) tf, .int (.ofNat g) tg] ef)
 kd_adr
 have⟨g3,w3⟩:=D.wK 3 c8 ⟨.type "cell",none, .cell o8, #[]⟩
 have TD:TopIn w.params h:=D.kt
 refine iq g1 (fun tk1 h1 K1 q1 q2 hs1=>?_)
 rw[hsz] at q1 q2 hs1 ⊢
 have w4:Wr w _ _ n:=D.fresh (Nat.le_of_eq hsz)
 have w5:Wr w _ _ (n+1):=D.fresh (by rw[hsz];exact Nat.le_succ n)
 have y1:c7≠n:=neF h7 (f0 0)
 have y2:=neF h7 (f0 1)
 have y3:af≠n:=neF hf (f0 0)
 have y4:=neF hf (f0 1)
 have y5:c8≠n:=neF h8 (f0 0)
 have y6:=neF h8 (f0 1)
 refine resume D K1 ax [(c7,_),(af,_),(n,_),(n+1,_),(c8,_)] 2 (ag (K1.kp g0) (ag (K1.kp g1) (ag q1 (ag q2 (ag (K1.kp g3) ah))))) (by simp[Dis,Ne.symm y5,Ne.symm y6, *]) (by tbr_iter (ai w4 (ai w5 w3))) (fun n2 hn2=>?_)
 refine gRx hA.hd 12 [4,4,0,4,4] ?_
 kst_p
 have f2:∀k,s.heap.get? (n2+k)=none:=aC (by rw[←hn2,hs1];kst_all)
 have hnn:n+1<n2:=by rw[←hn2,hs1];kst_all
 refine gcK (.compStart aQ 0 (.ref (n+1)) (.ref n2) (bP L (n2+1) c7)) (fun h2 D2=>?_)
 have g0:=D2.cK 0 c7 (cellO (.int (.ofNat o) to))
 have g1:=D2.cK 1 af (listO [.int (.ofNat f) tf, .int (.ofNat g) tg] ef)
 kd_adr
 have⟨r2,w6⟩:=D2.wK 2 n (av af 0 0)
 have⟨r3,w7⟩:=D2.wK 3 (n+1) (cN n 0 .none)
 have⟨r4,w8⟩:=D2.wK 4 c8 ⟨.type "cell",none, .cell o8, #[]⟩
 have⟨r5,w9⟩:=D2.wK 5 n2 (listO [] 0)
 have⟨r6,w10⟩:=D2.wK 6 (n2+1) (dictO [] 0)
 have y7:c8≠n2:=neF h8 (f2 0)
 have y8:=neF h8 (f2 1)
 have y9:af≠n2:=neF hf (f2 0)
 have y10:=neF hf (f2 1)
 have y11:c7≠n2:=neF h7 (f2 0)
 have y12:=neF h7 (f2 1)
 have kx:∀a∈([n,n+1,n2,n2+1]:List Addr),kg w a=none:=by tbr_iter (ai w6.kn (ai w7.kn (ai w9.kn w10.kn)))
 refine dA (by kd_p) r3 ?_
 refine dZ (k1:=0) (k2:=0) (v1:= .none) (v2:= .none) (i:=0) (hA.subN (by kd_p) 6 (by kd_p) (by kst_all)) D2.kt rfl (by kd_mem) (by kst_all) oS hf7 g0 g1 r2 r3 r5 r6 y9 w6.kn w7.kn w9.kn w10.kn (fun h1x k1 k10 k20 v10 v20 ed0 ea0 old0 K1 i1 e1 a1 d1=>?_)
 have KK1:Keeps h2 h1x [n,n+1,n2,n2+1]:=K1
 have T1:=KK1.top D2.kt kx
 refine gV (i:=1) (hA.subN (by kd_p) 6 (by kd_p) (by kst_all)) T1 rfl (by simp;split<;>simp) (by kst_all) oS hg7 (KK1.kq g0 (by tbr_iter (ai y1 (ai y2 (ai y11 y12))))) (KK1.kq g1 (by tbr_iter (ai y3 (ai y4 (ai y9 y10))))) i1 e1 a1 d1 y9 w6.kn w7.kn w9.kn w10.kn (fun h2x k2 k11 k21 v11 v21 ed1 ea1 old1 K2 i2 e2 a2 d2=>?_)
 have KK2:Keeps h2 h2x [n,n+1,n2,n2+1]:=(KK1.trans K2).mono (by kd_mem)
 have T2:=KK2.top D2.kt kx
 refine dM (i:=2) (hA.subN (by kd_p) 6 (by kd_p) (by kst_all)) T2 (KK2.kq g1 (by tbr_iter (ai y3 (ai y4 (ai y9 y10))))) (by kd_mem) i2 e2 w6.kn w7.kn (fun hx kx2 K9=>?_)
 have KK:Keeps h2 hx [n,n+1,n2,n2+1]:=(KK2.trans K9).mono (by kd_mem)
 have u1:¬(n2=n):=by kst_all
 have u2:¬(n2=n+1):=by kst_all
 have u3:¬(n2+1=n):=by kst_all
 have x1:=K9.keep n2 _ a2 (by tbr_iter (ai u1 u2))
 have x2:=K9.keep (n2+1) _ d2 (by tbr_iter (ai u3 u1))
 have r8:=KK.kq r4 (by tbr_iter (ai y5 (ai y6 (ai y7 y8))))
 refine resume D2 KK (an w6 (an w7 (an w9 (an w10 ax)))) [(c8,_),(n2,_),(n2+1,_)] 0 (ag r8 (ag x1 (ag x2 ah))) (by simp[Dis,y7,y8,Ne.symm y7,Ne.symm y8]) (by tbr_iter (ai w8 (ai w9 w10))) (fun n9 hn9=>?_)
 refine gRx hA.hd 15 [3,3,3,3,3,3,1,1] ?_
 kst_p
 refine ggK s (.next) (fun h6 t6 D6=>?_)
 exact H h6 t6 n2 _ D6.keeps (f2 0) w9.kn (D6.cell 1 (x:=listO ((([]:List Value)++(if o>>>0&&&1=0 then [] else [.int (.ofNat f) tf]))++(if o>>>1&&&1=0 then [] else [.int (.ofNat g) tg])) ea1) (by kd_p)) (D6.xK 0)
theorem IntVs.reverse {L:List Value} {xs:List Nat} (H:IntVs L xs):IntVs L.reverse xs.reverse:=by
 refine⟨by simp[H.1],fun i x e=>?_⟩
 have hi:i<xs.length:=by
  have:=(List.getElem?_eq_some_iff.mp e).1
  simpa using this
 rw[List.getElem?_reverse hi] at e
 rw[List.getElem?_reverse (by rw[H.1];exact hi),H.1]
 exact H.2 _ _ e
noncomputable def cW:Expr:=dI (au 1)
@[reducible] noncomputable def bV (L d c4 c8:Addr):Env:={ scope:=cG (bF cW) (dAt 23).2.2,locals:=d,globals:=3,cells:=[(kP,c8),(cQ,c4)],qual:=gk,func:=none,code:= .ref 196,frame:=some L,builtins:=0 }
theorem jO {i r tr k1 e1:Nat} {v1:Value} {s:Shared} (hA:AOk A 40) (hT:TopIn w.params s.heap) (hi7:i<7) (hla:La.length≤100) (hVt:IntVs Lt tu) (hbi:Lb[i]? = some (.ref b)) (hVx:IntVs Lx xs) (hxl:xs.length≤50)
  (h4:s.heap.get? c4=some (cellO (.ref bl))) (h8:s.heap.get? c8=some (cellO (.ref at'))) (ht:s.heap.get? at'=some (listO Lt et)) (hbl:s.heap.get? bl=some (listO Lb eb)) (hb:s.heap.get? b=some (listO Lx e1))
  (hI:s.heap.get? it=some (aq (.ofNat i) (.ofNat (r+1)) ta tr ts)) (hacc:s.heap.get? acc=some (listO La ea)) (hd:s.heap.get? d=some (dictO [] ed)) (ki:kg w it=none) (ka:kg w acc=none) (kd:kg w d=none) (nta:at'≠acc) (nba:bl≠acc) (nxa:b≠acc) (hm0:s.heap.get? am=some om) (nbm:b≠am)
  (H:∀(h':Heap) tk' b' Ly ey k1' v1' ed',Keeps s.heap h' [it,acc,d]→h'.get? it=some (aq (.ofNat (i+1)) (.ofNat r) 0 0 ts)→h'.get? acc=some (listO (La++[.ref b']) (ea+1))→h'.get? b'=some (listO Ly ey)→IntVs Ly (if i∈tu then xs.reverse else xs)→b'≠acc→b'≠am→h'.get? d=some (dictO (e81 w k1' v1') ed')→
   codeAny (mm w) A (.compLoop cW 0 (.ref it) (.ref acc) (bV L d c4 c8)) R ⟨h',s.gens,s.drawn,tk',s.os⟩):
  codeAny (mm w) A (.compLoop cW 0 (.ref it) (.ref acc) (bV L d c4 c8)) R s:=by
 have⟨zh4_ht,zh4_ht'⟩:=ap2 h4 ht
 have⟨zh4_hbl,zh4_hbl'⟩:=ap2 h4 hbl
 have⟨zh4_hb,zh4_hb'⟩:=ap2 h4 hb
 have⟨zh4_hI,zh4_hI'⟩:=ap2 h4 hI
 have⟨zh4_hacc,zh4_hacc'⟩:=ap2 h4 hacc
 have⟨zh4_hd,zh4_hd'⟩:=ap2 h4 hd
 have⟨zh8_ht,zh8_ht'⟩:=ap2 h8 ht
 have⟨zh8_hbl,zh8_hbl'⟩:=ap2 h8 hbl
 have⟨zh8_hb,zh8_hb'⟩:=ap2 h8 hb
 have⟨zh8_hI,zh8_hI'⟩:=ap2 h8 hI
 have⟨zh8_hacc,zh8_hacc'⟩:=ap2 h8 hacc
 have⟨zh8_hd,zh8_hd'⟩:=ap2 h8 hd
 have⟨zht_hI,zht_hI'⟩:=ap2 ht hI
 have⟨zht_hd,zht_hd'⟩:=ap2 ht hd
 have⟨zhbl_hI,zhbl_hI'⟩:=ap2 hbl hI
 have⟨zhbl_hd,zhbl_hd'⟩:=ap2 hbl hd
 have⟨zhb_hI,zhb_hI'⟩:=ap2 hb hI
 have⟨zhb_hd,zhb_hd'⟩:=ap2 hb hd
 have⟨zhI_hacc,zhI_hacc'⟩:=ap2 hI hacc
 have⟨zhI_hd,zhI_hd'⟩:=ap2 hI hd
 have⟨zhacc_hd,zhacc_hd'⟩:=ap2 hacc hd
 have jR:i<2^63:=by kst_all
 have eA:La.length≤2^24:=by kst_all
 by_cases hin:i∈tu
 ·have hm:db Lt i:=⟨tu,hVt.1,hVt.2,hin⟩
  refine aj [(c4,_),(c8,_),(at',_),(bl,_),(b,_),(it,_),(acc,_),(d,_)] 5 hT (ag h4 (ag h8 (ag ht (ag hbl (ag hb (ag hI (ag hacc (ag hd ah)))))))) (by kd_subs) (by tbr_iter (ai ki (ai ka kd))) (fun n t hn=>?_)
  refine gPx hA.hd [Value.ref b] 49 [6,0,6,6,6,6,6,6,6,6,8,8,8,2,3,3,25,2,1,0,1,8,4,4,4,15,3,0,0,0,5,5,5] ?_
  intro zM zO
  refine gQx [Lb[i]? = some (Value.ref b),i<2^63,db Lt i] ⟨by assumption,by assumption,by assumption,trivial⟩ ?_
  refine gcK (.call (.builtin "list.__getitem__") ⟨[.ref b, .ref n],[]⟩) (fun h D=>?_)
  have KD:Keeps s.heap h [it,acc,d]:=D.keeps
  have gb:h.get? b=some (listO Lx e1):=KD.kq hb (by tbr_iter (ai zhb_hI (ai nxa zhb_hd)))
  have gs:=D.cK 8 n ⟨.type "slice",none, .fields #[.none, .none, .int (-1) (t+3)], #[]⟩
  have⟨g4,w4⟩:=D.wK 5 it (aq (Int.ofNat (i+1)) (Int.ofNat (r+1) - 1) 0 0 ts)
  rw[ay] at g4
  kd_adr
  have⟨g5,w5⟩:=D.wK 6 acc (listO La ea)
  have⟨g6,w6⟩:=D.wK 7 d (dictO (e81 w (t+1) (.int (.ofNat i) t)) (ed+1))
  refine bJ gb ⟨_,gs,rfl,rfl⟩ .none .none (.int (-1) _) (by kd_mem) (by rw[hVx.1];kst_all) (fun tk1=>?_)
  rw[krv_pick]
  have K1:Keeps h (h.push (listO (Lx.toArray.toList.reverse.toArray).toList 0)) []:=Keeps.pushH _ _
  have n1e:(h.push (listO (Lx.toArray.toList.reverse.toArray).toList 0)).get? h.objs.size=some (listO (Lx.toArray.toList.reverse.toArray).toList 0):=Heap.get?_push_size _ rfl
  have hVr:IntVs (Lx.toArray.toList.reverse.toArray).toList xs.reverse:=by simpa using hVx.reverse
  generalize (Lx.toArray.toList.reverse.toArray).toList=Lr at *
  generalize hx:h.objs.size=x1 at *
  have wx:Wr w _ _ x1:=D.fresh (Nat.le_of_eq hx)
  have q4:=bh g4 (Nat.le_of_eq hx)
  have q5:=bh g5 (Nat.le_of_eq hx)
  have q6:=bh g6 (Nat.le_of_eq hx)
  have fx1:s.heap.get? x1=none:=wx.ex.resolve_left (by tbr_iter (ai q4 (ai q5 q6)))
  refine resume D K1 ax [(x1,_),(it,_),(acc,_),(d,_)] 1 (ag n1e (ag (K1.kp g4) (ag (K1.kp g5) (ag (K1.kp g6) ah)))) (by kd_subs) (by tbr_iter (ai w4 (ai w5 w6))) (fun n2 hn2=>?_)
  refine gPx hA.hd [] 4 [0,19,2,0,0] ?_
  intro zM zO
  refine gQx [La.length≤2^24] ⟨by assumption,trivial⟩ ?_
  refine gaK (.compLoop cW 0 (.ref it) (.ref acc) (bV L d c4 c8)) (fun h6 D6=>?_)
  exact H h6 _ x1 Lr 0 _ _ _ D6.keeps (D6.xK 1) (D6.xK 2) (D6.xK 0) (by rw[if_pos hin];exact hVr) q5 (neF hm0 fx1).symm (D6.cell 3 (x:=dictO (e81 w (t+1) (.int (.ofNat i) t)) (ed+1)) (by kd_p))
 ·have hm:bx Lt i:=⟨tu,hVt.1,hVt.2,hin⟩
  refine aj [(c4,_),(c8,_),(at',_),(bl,_),(it,_),(acc,_),(d,_)] 4 hT (ag h4 (ag h8 (ag ht (ag hbl (ag hI (ag hacc (ag hd ah))))))) (by kd_subs) (by tbr_iter (ai ki (ai ka kd))) (fun n t hn=>?_)
  refine gPx hA.hd [Value.ref b] 39 [5,0,5,5,5,5,5,5,5,5,7,7,7,2,3,3,25,2,0,0,1,7,4,4,4,15,3,0,0,19,5,0,0] ?_
  intro zM zO
  refine gQx [La.length≤2^24,Lb[i]? = some (Value.ref b),i<2^63,bx Lt i] ⟨by assumption,by assumption,by assumption,by assumption,trivial⟩ ?_
  refine gaK (.compLoop cW 0 (.ref it) (.ref acc) (bV L d c4 c8)) (fun h6 D6=>?_)
  have c3:=D6.cK 4 it (aq (Int.ofNat (i+1)) (Int.ofNat (r+1) - 1) 0 0 ts)
  rw[ay] at c3
  have K6:Keeps s.heap h6 [it,acc,d]:=D6.keeps
  exact H h6 _ b Lx e1 _ _ _ K6 c3 (D6.xK 5) (K6.kq hb (by tbr_iter (ai zhb_hI (ai nxa zhb_hd)))) (by rw[if_neg hin];exact hVx) nxa nbm (D6.cell 6 (x:=dictO (e81 w (t+1) (.int (.ofNat i) t)) (ed+1)) (by kd_p))
theorem jN {i r tr e1:Nat} {s:Shared} (hA:AOk A 40) (hT:TopIn w.params s.heap) (hi7:i<7) (hla:La.length≤100) (hVt:IntVs Lt tu) (hbi:Lb[i]? = some (.ref b)) (hVx:IntVs Lx xs) (hxl:xs.length≤50)
  (h4:s.heap.get? c4=some (cellO (.ref bl))) (h8:s.heap.get? c8=some (cellO (.ref at'))) (ht:s.heap.get? at'=some (listO Lt et)) (hbl:s.heap.get? bl=some (listO Lb eb)) (hb:s.heap.get? b=some (listO Lx e1))
  (hI:s.heap.get? it=some (aq (.ofNat i) (.ofNat (r+1)) ta tr ts)) (hacc:s.heap.get? acc=some (listO La ea)) (hd:s.heap.get? d=some (dictO (e81 w k1 v1) ed)) (ki:kg w it=none) (ka:kg w acc=none) (kd:kg w d=none) (nta:at'≠acc) (nba:bl≠acc) (nxa:b≠acc) (hm0:s.heap.get? am=some om) (nbm:b≠am)
  (H:∀(h':Heap) tk' b' Ly ey k1' v1' ed',Keeps s.heap h' [it,acc,d]→h'.get? it=some (aq (.ofNat (i+1)) (.ofNat r) 0 0 ts)→h'.get? acc=some (listO (La++[.ref b']) (ea+1))→h'.get? b'=some (listO Ly ey)→IntVs Ly (if i∈tu then xs.reverse else xs)→b'≠acc→b'≠am→h'.get? d=some (dictO (e81 w k1' v1') ed')→
   codeAny (mm w) A (.compLoop cW 0 (.ref it) (.ref acc) (bV L d c4 c8)) R ⟨h',s.gens,s.drawn,tk',s.os⟩):
  codeAny (mm w) A (.compLoop cW 0 (.ref it) (.ref acc) (bV L d c4 c8)) R s:=by
 have⟨zh4_ht,zh4_ht'⟩:=ap2 h4 ht
 have⟨zh4_hbl,zh4_hbl'⟩:=ap2 h4 hbl
 have⟨zh4_hb,zh4_hb'⟩:=ap2 h4 hb
 have⟨zh4_hI,zh4_hI'⟩:=ap2 h4 hI
 have⟨zh4_hacc,zh4_hacc'⟩:=ap2 h4 hacc
 have⟨zh4_hd,zh4_hd'⟩:=ap2 h4 hd
 have⟨zh8_ht,zh8_ht'⟩:=ap2 h8 ht
 have⟨zh8_hbl,zh8_hbl'⟩:=ap2 h8 hbl
 have⟨zh8_hb,zh8_hb'⟩:=ap2 h8 hb
 have⟨zh8_hI,zh8_hI'⟩:=ap2 h8 hI
 have⟨zh8_hacc,zh8_hacc'⟩:=ap2 h8 hacc
 have⟨zh8_hd,zh8_hd'⟩:=ap2 h8 hd
 have⟨zht_hI,zht_hI'⟩:=ap2 ht hI
 have⟨zht_hd,zht_hd'⟩:=ap2 ht hd
 have⟨zhbl_hI,zhbl_hI'⟩:=ap2 hbl hI
 have⟨zhbl_hd,zhbl_hd'⟩:=ap2 hbl hd
 have⟨zhb_hI,zhb_hI'⟩:=ap2 hb hI
 have⟨zhb_hd,zhb_hd'⟩:=ap2 hb hd
 have⟨zhI_hacc,zhI_hacc'⟩:=ap2 hI hacc
 have⟨zhI_hd,zhI_hd'⟩:=ap2 hI hd
 have⟨zhacc_hd,zhacc_hd'⟩:=ap2 hacc hd
 have jR:i<2^63:=by kst_all
 have eA:La.length≤2^24:=by kst_all
 by_cases hin:i∈tu
 ·have hm:db Lt i:=⟨tu,hVt.1,hVt.2,hin⟩
  refine aj [(c4,_),(c8,_),(at',_),(bl,_),(b,_),(it,_),(acc,_),(d,_)] 5 hT (ag h4 (ag h8 (ag ht (ag hbl (ag hb (ag hI (ag hacc (ag hd ah)))))))) (by kd_subs) (by tbr_iter (ai ki (ai ka kd))) (fun n t hn=>?_)
  refine gPx hA.hd [Value.ref b] 49 [6,0,6,6,6,6,6,6,6,6,8,8,8,2,3,3,25,2,1,0,1,8,4,4,4,15,3,0,0,0,5,5,5] ?_
  intro zM zO
  refine gQx [Lb[i]? = some (Value.ref b),i<2^63,db Lt i] ⟨by assumption,by assumption,by assumption,trivial⟩ ?_
  refine gcK (.call (.builtin "list.__getitem__") ⟨[.ref b, .ref n],[]⟩) (fun h D=>?_)
  have KD:Keeps s.heap h [it,acc,d]:=D.keeps
  have gb:h.get? b=some (listO Lx e1):=KD.kq hb (by tbr_iter (ai zhb_hI (ai nxa zhb_hd)))
  have gs:=D.cK 8 n ⟨.type "slice",none, .fields #[.none, .none, .int (-1) (t+3)], #[]⟩
  have⟨g4,w4⟩:=D.wK 5 it (aq (Int.ofNat (i+1)) (Int.ofNat (r+1) - 1) 0 0 ts)
  rw[ay] at g4
  kd_adr
  have⟨g5,w5⟩:=D.wK 6 acc (listO La ea)
  have⟨g6,w6⟩:=D.wK 7 d (dictO (e81 w k1 (.int (.ofNat i) t)) ed)
  refine bJ gb ⟨_,gs,rfl,rfl⟩ .none .none (.int (-1) _) (by kd_mem) (by rw[hVx.1];kst_all) (fun tk1=>?_)
  rw[krv_pick]
  have K1:Keeps h (h.push (listO (Lx.toArray.toList.reverse.toArray).toList 0)) []:=Keeps.pushH _ _
  have n1e:(h.push (listO (Lx.toArray.toList.reverse.toArray).toList 0)).get? h.objs.size=some (listO (Lx.toArray.toList.reverse.toArray).toList 0):=Heap.get?_push_size _ rfl
  have hVr:IntVs (Lx.toArray.toList.reverse.toArray).toList xs.reverse:=by simpa using hVx.reverse
  generalize (Lx.toArray.toList.reverse.toArray).toList=Lr at *
  generalize hx:h.objs.size=x1 at *
  have wx:Wr w _ _ x1:=D.fresh (Nat.le_of_eq hx)
  have q4:=bh g4 (Nat.le_of_eq hx)
  have q5:=bh g5 (Nat.le_of_eq hx)
  have q6:=bh g6 (Nat.le_of_eq hx)
  have fx1:s.heap.get? x1=none:=wx.ex.resolve_left (by tbr_iter (ai q4 (ai q5 q6)))
  refine resume D K1 ax [(x1,_),(it,_),(acc,_),(d,_)] 1 (ag n1e (ag (K1.kp g4) (ag (K1.kp g5) (ag (K1.kp g6) ah)))) (by kd_subs) (by tbr_iter (ai w4 (ai w5 w6))) (fun n2 hn2=>?_)
  refine gPx hA.hd [] 4 [0,19,2,0,0] ?_
  intro zM zO
  refine gQx [La.length≤2^24] ⟨by assumption,trivial⟩ ?_
  refine gaK (.compLoop cW 0 (.ref it) (.ref acc) (bV L d c4 c8)) (fun h6 D6=>?_)
  exact H h6 _ x1 Lr 0 _ _ _ D6.keeps (D6.xK 1) (D6.xK 2) (D6.xK 0) (by rw[if_pos hin];exact hVr) q5 (neF hm0 fx1).symm (D6.cell 3 (x:=dictO (e81 w k1 (.int (.ofNat i) t)) ed) (by kd_p))
 ·have hm:bx Lt i:=⟨tu,hVt.1,hVt.2,hin⟩
  refine aj [(c4,_),(c8,_),(at',_),(bl,_),(it,_),(acc,_),(d,_)] 4 hT (ag h4 (ag h8 (ag ht (ag hbl (ag hI (ag hacc (ag hd ah))))))) (by kd_subs) (by tbr_iter (ai ki (ai ka kd))) (fun n t hn=>?_)
  refine gPx hA.hd [Value.ref b] 39 [5,0,5,5,5,5,5,5,5,5,7,7,7,2,3,3,25,2,0,0,1,7,4,4,4,15,3,0,0,19,5,0,0] ?_
  intro zM zO
  refine gQx [La.length≤2^24,Lb[i]? = some (Value.ref b),i<2^63,bx Lt i] ⟨by assumption,by assumption,by assumption,by assumption,trivial⟩ ?_
  refine gaK (.compLoop cW 0 (.ref it) (.ref acc) (bV L d c4 c8)) (fun h6 D6=>?_)
  have c3:=D6.cK 4 it (aq (Int.ofNat (i+1)) (Int.ofNat (r+1) - 1) 0 0 ts)
  rw[ay] at c3
  have K6:Keeps s.heap h6 [it,acc,d]:=D6.keeps
  exact H h6 _ b Lx e1 _ _ _ K6 c3 (D6.xK 5) (K6.kq hb (by tbr_iter (ai zhb_hI (ai nxa zhb_hd)))) (by rw[if_neg hin];exact hVx) nxa nbm (D6.cell 6 (x:=dictO (e81 w k1 (.int (.ofNat i) t)) ed) (by kd_p))
noncomputable def eu (kss:List (List Nat)) (tu:List Nat) (i:Nat):List Nat:=if i∈tu then (kss.getD i []).reverse else kss.getD i []
theorem KidsAt.push {h:Heap} {L:List Value} {xs:List (List Nat)} (H:KidsAt h L xs) (hb:h.get? b=some (listO Ly ey)) (hV:IntVs Ly x):KidsAt h (L++[.ref b]) (xs++[x]):=by
 refine⟨by simp[H.1],fun i y e=>?_⟩
 rw[List.getElem?_append] at e ⊢
 rw[←H.1] at e
 split at e
 ·rename_i hi;rw[if_pos hi];exact H.2 i y e
 ·rename_i hi
  rw[if_neg hi]
  have:i - L.length=0:=by
   cases q:i - L.length with
   | zero=>rfl
   | succ j=>rw[q] at e;simp at e
  rw[this] at e ⊢
  simp at e;subst e
  exact⟨b,Ly,ey,rfl,hb,hV⟩
theorem oH {i tr:Nat} {s:Shared} (hA:AOk A 19) (hT:TopIn w.params s.heap) (hI:s.heap.get? it=some (aq (.ofNat i) (.ofNat 0) ta tr ts)) (ki:kg w it=none)
  (H:∀(h':Heap) tk',Keeps s.heap h' [it]→R (.ok .next) ⟨h',s.gens,s.drawn,tk',s.os⟩):
  codeAny (mm w) A (.compLoop cW 0 (.ref it) (.ref acc) (bV L d c4 c8)) R s:=by
 refine aj [(it,_)] 0 hT (ag hI ah) (by kd_subs) (by tbr_iter ki) (fun n t hn=>?_)
 refine gRx hA.hd 14 [1,0,1,1,1,1,3] ?_
 kst_p
 refine gdK (.ok .next) (fun h D=>?_)
 exact H h _ D.keeps
theorem mE (hVt:IntVs Lt tu) (hsm:∀i,(kss.getD i []).length≤50) (hk7:kss.length=7) (ki:kg w it=none) (ka:kg w acc=none) (kd:kg w d=none) (nta:at'≠acc) (nba:bl≠acc) (hrow:∀(i:Nat) (b:Addr),Lb[i]? = some (Value.ref b)→b≠acc) (hrm:∀(i:Nat) (b:Addr),Lb[i]? = some (Value.ref b)→b≠am) (nma:am∉([it,acc,d]:List Addr)):
 ∀(r:Nat) {A:Around} {R:Result→Shared→Prop} {s:Shared} {i ea ta tr ed k1:Nat} {La:List Value} {v1:Value} (hA:AOk A 40) (hT:TopIn w.params s.heap)
 (h4:s.heap.get? c4=some (cellO (.ref bl))) (h8:s.heap.get? c8=some (cellO (.ref at'))) (ht:s.heap.get? at'=some (listO Lt et)) (hbl:s.heap.get? bl=some (listO Lb eb)) (hB:KidsAt s.heap Lb kss)
 (hI:s.heap.get? it=some (aq (.ofNat i) (.ofNat r) ta tr ts)) (hacc:s.heap.get? acc=some (listO La ea)) (hd:s.heap.get? d=some (dictO (e81 w k1 v1) ed))
 (hK:KidsAt s.heap La ((List.range i).map (eu kss tu))) (hra:∀(j:Nat) (c:Addr),La[j]? = some (Value.ref c)→c≠acc) (hm0:s.heap.get? am=some om) (mI:∀(j:Nat) (c:Addr),La[j]? = some (Value.ref c)→c≠am) (hir:i+r=7)
 (H:∀(h':Heap) tk' La' ea' k1 v1' ed',Keeps s.heap h' [it,acc,d]→h'.get? acc=some (listO La' ea')→KidsAt h' La' ((List.range 7).map (eu kss tu))→(∀(j:Nat) (c:Addr),La'[j]? = some (Value.ref c)→c≠am)→h'.get? d=some (dictO (e81 w k1 v1') ed')→R (.ok .next) ⟨h',s.gens,s.drawn,tk',s.os⟩),
  codeAny (mm w) A (.compLoop cW 0 (.ref it) (.ref acc) (bV L d c4 c8)) R s:=by
 intro r
 induction r with
 | zero=>
  intro A R s i ea ta tr ed k1 La v1 hA hT h4 h8 ht hbl hB hI hacc hd hK hra hm0 mI hir H
  have hi7:i=7:=by kst_all
  subst hi7
  refine oH (hA.mono (by kst_all)) hT hI ki (fun h' tk' K=>?_)
  refine H h' tk' La ea k1 v1 ed (K.mono (by kd_mem)) (K.kq hacc (by tbr_iter ((apart hI hacc).symm))) (KidsAt.keepL K hK (fun j c e=>by
   obtain⟨c',Lz,ez,q1,q2,_⟩:=hK.2 j _ (hK.row e)
   rw[q1] at e;cases e;simp;exact apart q2 hI)) mI (K.kq hd (by tbr_iter ((apart hI hd).symm)))
 | succ r ih=>
  intro A R s i ea ta tr ed k1 La v1 hA hT h4 h8 ht hbl hB hI hacc hd hK hra hm0 mI hir H
  have hik:i<kss.length:=by kst_all
  have hks:kss[i]? = some (kss.getD i []):=by simp[hik]
  kd_adr
  obtain⟨b,Lx,e1,hbi,hb,hVx⟩:=hB.2 _ _ hks
  refine jN (i:=i) (r:=r) (hA.mono (by kst_all)) hT (by kst_all) (by have:=hK.1;simp at this;kst_all) hVt hbi hVx (hsm i) h4 h8 ht hbl hb hI hacc hd ki ka kd nta nba (hrow _ _ hbi) hm0 (hrm _ _ hbi) (fun h' tk' b' Ly ey k1' v1' ed' K e1' e2 e3 e4 e5 e5m e6=>?_)
  have kX:∀{a:Addr} {L0:List Value} {e0:Nat},s.heap.get? a=some (listO L0 e0)→a≠acc→h'.get? a=some (listO L0 e0):=fun q1 q2=>K.kq q1 (by tbr_iter (ai (apart q1 hI) (ai q2 (apart q1 hd))))
  have h4':=K.kq h4 (by tbr_iter (ai (apart h4 hI) (ai (apart h4 hacc) (apart h4 hd))))
  have h8':=K.kq h8 (by tbr_iter (ai (apart h8 hI) (ai (apart h8 hacc) (apart h8 hd))))
  have hB':KidsAt h' Lb kss:=KidsAt.keepL K hB (fun j c e=>by
   obtain⟨c',Lz,ez,q1,q2,_⟩:=hB.2 j _ (hB.row e)
   rw[q1] at e;cases e;simp;exact⟨apart q2 hI,hrow _ _ q1,apart q2 hd⟩)
  have hK':KidsAt h' La ((List.range i).map (eu kss tu)):=KidsAt.keepL K hK (fun j c e=>by
   obtain⟨c',Lz,ez,q1,q2,_⟩:=hK.2 j _ (hK.row e)
   rw[q1] at e;cases e;simp;exact⟨apart q2 hI,hra _ _ q1,apart q2 hd⟩)
  have hK2:KidsAt h' (La++[.ref b']) ((List.range (i+1)).map (eu kss tu)):=by
   rw[List.range_succ,List.map_append]
   exact hK'.push e3 e4
  refine ih hA (K.top hT (by tbr_iter (ai ki (ai ka kd)))) h4' h8' (kX ht nta) (kX hbl nba) hB' e1' e2 e6 hK2 (fun j c e=>by
   rcases ce e with⟨_,e⟩ | ⟨_,e⟩
   ·exact hra _ _ e
   ·cases e;exact e5) (K.kq hm0 nma) (fun j c e=>by
   rcases ce e with⟨_,e⟩ | ⟨_,e⟩
   ·exact mI _ _ e
   ·cases e;exact e5m) (by kst_all) (fun h9 tk9 La9 ea9 k9 v9 ed9 K9 x1 x2 x2m x3=>H h9 tk9 La9 ea9 _ _ _ ((K.trans K9).mono (by kd_mem)) x1 x2 x2m x3)
theorem jP (hVt:IntVs Lt tu) (hsm:∀i,(kss.getD i []).length≤50) (hk7:kss.length=7) (ki:kg w it=none) (ka:kg w acc=none) (kd:kg w d=none) (nta:at'≠acc) (nba:bl≠acc) (hrow:∀(i:Nat) (b:Addr),Lb[i]? = some (Value.ref b)→b≠acc) (hrm:∀(i:Nat) (b:Addr),Lb[i]? = some (Value.ref b)→b≠am) (nma:am∉([it,acc,d]:List Addr))
 (r:Nat) {s:Shared} {i tr:Nat} (hA:AOk A 40) (hT:TopIn w.params s.heap)
 (h4:s.heap.get? c4=some (cellO (.ref bl))) (h8:s.heap.get? c8=some (cellO (.ref at'))) (ht:s.heap.get? at'=some (listO Lt et)) (hbl:s.heap.get? bl=some (listO Lb eb)) (hB:KidsAt s.heap Lb kss)
 (hI:s.heap.get? it=some (aq (.ofNat i) (.ofNat (r+1)) ta tr ts)) (hacc:s.heap.get? acc=some (listO La ea)) (hd:s.heap.get? d=some (dictO [] ed))
 (hK:KidsAt s.heap La ((List.range i).map (eu kss tu))) (hra:∀(j:Nat) (c:Addr),La[j]? = some (Value.ref c)→c≠acc) (hm0:s.heap.get? am=some om) (mI:∀(j:Nat) (c:Addr),La[j]? = some (Value.ref c)→c≠am) (hir:i+(r+1)=7)
 (H:∀(h':Heap) tk' La' ea' k1 v1' ed',Keeps s.heap h' [it,acc,d]→h'.get? acc=some (listO La' ea')→KidsAt h' La' ((List.range 7).map (eu kss tu))→(∀(j:Nat) (c:Addr),La'[j]? = some (Value.ref c)→c≠am)→h'.get? d=some (dictO (e81 w k1 v1') ed')→R (.ok .next) ⟨h',s.gens,s.drawn,tk',s.os⟩):
  codeAny (mm w) A (.compLoop cW 0 (.ref it) (.ref acc) (bV L d c4 c8)) R s:=by
  have hik:i<kss.length:=by kst_all
  have hks:kss[i]? = some (kss.getD i []):=by simp[hik]
  kd_adr
  obtain⟨b,Lx,e1,hbi,hb,hVx⟩:=hB.2 _ _ hks
  refine jO (k1:=0) (v1:= .none) (i:=i) (r:=r) (hA.mono (by kst_all)) hT (by kst_all) (by have:=hK.1;simp at this;kst_all) hVt hbi hVx (hsm i) h4 h8 ht hbl hb hI hacc hd ki ka kd nta nba (hrow _ _ hbi) hm0 (hrm _ _ hbi) (fun h' tk' b' Ly ey k1' v1' ed' K e1' e2 e3 e4 e5 e5m e6=>?_)
  have kX:∀{a:Addr} {L0:List Value} {e0:Nat},s.heap.get? a=some (listO L0 e0)→a≠acc→h'.get? a=some (listO L0 e0):=fun q1 q2=>K.kq q1 (by tbr_iter (ai (apart q1 hI) (ai q2 (apart q1 hd))))
  have h4':=K.kq h4 (by tbr_iter (ai (apart h4 hI) (ai (apart h4 hacc) (apart h4 hd))))
  have h8':=K.kq h8 (by tbr_iter (ai (apart h8 hI) (ai (apart h8 hacc) (apart h8 hd))))
  have hB':KidsAt h' Lb kss:=KidsAt.keepL K hB (fun j c e=>by
   obtain⟨c',Lz,ez,q1,q2,_⟩:=hB.2 j _ (hB.row e)
   rw[q1] at e;cases e;simp;exact⟨apart q2 hI,hrow _ _ q1,apart q2 hd⟩)
  have hK':KidsAt h' La ((List.range i).map (eu kss tu)):=KidsAt.keepL K hK (fun j c e=>by
   obtain⟨c',Lz,ez,q1,q2,_⟩:=hK.2 j _ (hK.row e)
   rw[q1] at e;cases e;simp;exact⟨apart q2 hI,hra _ _ q1,apart q2 hd⟩)
  have hK2:KidsAt h' (La++[.ref b']) ((List.range (i+1)).map (eu kss tu)):=by
   rw[List.range_succ,List.map_append]
   exact hK'.push e3 e4
  refine mE hVt hsm hk7 ki ka kd nta nba hrow hrm nma r hA (K.top hT (by tbr_iter (ai ki (ai ka kd)))) h4' h8' (kX ht nta) (kX hbl nba) hB' e1' e2 e6 hK2 (fun j c e=>by
   rcases ce e with⟨_,e⟩ | ⟨_,e⟩
   ·exact hra _ _ e
   ·cases e;exact e5) (K.kq hm0 nma) (fun j c e=>by
   rcases ce e with⟨_,e⟩ | ⟨_,e⟩
   ·exact mI _ _ e
   ·cases e;exact e5m) (by kst_all) (fun h9 tk9 La9 ea9 k9 v9 ed9 K9 x1 x2 x2m x3=>H h9 tk9 La9 ea9 _ _ _ ((K.trans K9).mono (by kd_mem)) x1 x2 x2m x3)
@[reducible] noncomputable def lF (P:Params) (g:Nat→Nat) (en:List Nat) (tl:List DictEntry):List DictEntry:=ent P bp (g 20) (.ref (g 9)) :: ent P sWriter (g 21) (.ref (escRef (g 10))) :: ent P jw (g 22) (.ref (g 11)) :: ent P eX (g 23) (.ref (g 18)) :: ent P cg (g 24) (.ref (g 12)) :: ent P sEnd (g 25) (.str ⟨⟨en⟩⟩ (g 13)) :: ent P ei (g 26) (.ref (g 14)) :: ent P jx (g 27) (.ref (g 19)) :: ent P sSums (g 28) (.ref (g 15)) :: ent P hJ (g 29) (.ref (g 16)) :: ent P fM (g 30) (.ref (g 17)) :: tl
@[reducible] noncomputable def gE (g:Nat→Nat):Env:=bq (g 0) (g 1) (g 2) (g 3) (g 4) (g 5) (g 6) (g 7) (g 8)
noncomputable def tE (P:Params) (f:Nat→Nat) (F:Nat→Value) (u:List DictEntry):List DictEntry:=ent P cC (f 0) (F 0) :: ent P sOctets (f 1) (F 1) :: ent P fK (f 2) (F 2) :: ent P du (f 3) (F 3) :: ent P nT (f 4) (F 4) :: ent P aV (f 5) (F 5) :: u
noncomputable def TlG (P:Params) (o:Option (List DictEntry)) (n:Nat) (tl:List DictEntry):Prop:=(o=none∧tl=[])∨∃u f F,o=some u∧tl=(tE P f F u).drop n
theorem loop_b2 {en:List Nat} {s:Shared}   {o:Option (List DictEntry)} (htl:TlG w.params o 0 tl) (hA:AOk A 200) (hT:TopIn w.params s.heap) (hVt:IntVs Lt tu) (hsm:∀i,(kss.getD i []).length≤50) (hk7:kss.length=7)
  (h4:s.heap.get? (g 4)=some (cellO (.ref bl))) (h8:s.heap.get? (g 8)=some (cellO (.ref at'))) (ht:s.heap.get? at'=some (listO Lt et)) (hbl:s.heap.get? bl=some (listO Lb eb)) (hB:KidsAt s.heap Lb kss) (hm0:s.heap.get? am=some om) (hrm:∀(i:Nat) (b:Addr),Lb[i]? = some (Value.ref b)→b≠am) (nLm:am≠(g 0)) (hL:s.heap.get? (g 0)=some (frame (lF w.params g en tl) e)) (kL:kg w (g 0)=none)
  (H:∀(h':Heap) tk' l La' ea' (j':Nat) tl' e',Keeps s.heap h' [(g 0)]→s.heap.get? l=none→kg w l=none→h'.get? l=some (listO La' ea')→KidsAt h' La' ((List.range 7).map (eu kss tu))→(∀(j:Nat) (c:Addr),La'[j]? = some (Value.ref c)→c≠am)→TlG w.params o 1 tl'→h'.get? (g 0)=some (frame (lF w.params g en (ent w.params cC j' (.ref l) :: tl')) e')→Q .next ⟨h',s.gens,s.drawn,tk',s.os⟩):
  wpAny (mm w) A (execs [au 1] (gE g)) Q E s:=by
 have⟨zh4_hL,zh4_hL'⟩:=ap2 h4 hL
 have⟨zh8_hL,zh8_hL'⟩:=ap2 h8 hL
 have⟨zht_hL,zht_hL'⟩:=ap2 ht hL
 have⟨zhbl_hL,zhbl_hL'⟩:=ap2 hbl hL
 have⟨zh4_ht,zh4_ht'⟩:=ap2 h4 ht
 have⟨zh4_hbl,zh4_hbl'⟩:=ap2 h4 hbl
 have⟨zh8_ht,zh8_ht'⟩:=ap2 h8 ht
 have⟨zh8_hbl,zh8_hbl'⟩:=ap2 h8 hbl
 refine aF (w:=w) (l:=[((g 0),_)]) 0 hT (ag hL ah) (by kd_subs) (by tbr_iter kL) (fun n t hn=>?_)
 refine gRx hA.hd 40 [0,0,0,0,2,2,0,2,2,2,2,0,2,2,2,2,3] ?_
 kst_p
 have f0:∀k,s.heap.get? (n+k)=none:=aC (Nat.le_of_eq hn)
 refine gcK (.compStart cW 0 (.ref (n+1)) (.ref (n+2)) (bV (g 0) (n+3) (g 4) (g 8))) (fun h D=>?_)
 have KD:Keeps s.heap h [(g 0)]:=D.keeps
 kd_adr
 have⟨gL,wL⟩:=D.wK 0 (g 0) (frame (lF w.params g en tl) e)
 have⟨d7,w7⟩:=D.wK 2 (n+1) (aq (.ofNat 0) (.ofNat 7) 0 0 0)
 have⟨d8,w8⟩:=D.wK 3 (n+2) (listO [] 0)
 have⟨d9,w9⟩:=D.wK 4 (n+3) (dictO [] 0)
 have hB2:KidsAt h Lb kss:=KidsAt.keepL KD hB (fun i b e=>by
  obtain⟨b',Ly,ey,q1,q2,_⟩:=hB.2 i _ (hB.row e)
  rw[q1] at e;cases e;simp;exact apart q2 hL)
 refine bC (by kd_p) d7 ?_
 refine jP hVt hsm hk7 w7.kn w8.kn w9.kn (neF ht (f0 2)) (neF hbl (f0 2)) (fun i b e=>by
  obtain⟨b',Ly,ey,q1,q2,_⟩:=hB.2 i _ (hB.row e)
  rw[q1] at e;cases e;exact neF q2 (f0 2)) hrm (by tbr_iter (ai (neF hm0 (f0 1)) (ai (neF hm0 (f0 2)) (neF hm0 (f0 3))))) 6 (i:=0) (hA.subN (by kd_p) 6 (by kd_p) (by kst_all)) D.kt (KD.kq h4 (by tbr_iter zh4_hL)) (KD.kq h8 (by tbr_iter zh8_hL)) (KD.kq ht (by tbr_iter zht_hL)) (KD.kq hbl (by tbr_iter zhbl_hL)) hB2 d7 d8 d9 ⟨rfl,fun i x e=>by simp at e⟩ (fun i b e=>by simp at e) (KD.kq hm0 (by tbr_iter nLm)) (fun i b e=>by simp at e) (by kst_all) (fun h9 tk9 La9 ea9 k9 v9 ed9 K9 x1 x2 x2m x3=>?_)
 have m1:=neF hL (f0 1)
 have m2:=neF hL (f0 2)
 have m3:=neF hL (f0 3)
 have gL9:=K9.kq gL (by tbr_iter (ai m1 (ai m2 m3)))
 have S9:Keeps s.heap h9 [(g 0)]:=KD.fresh2 K9 (by tbr_iter (ai (.inr (f0 1)) (ai (.inr (f0 2)) (.inr (f0 3)))))
 have T9:=K9.top D.kt (by tbr_iter (ai w7.kn (ai w8.kn w9.kn)))
 have HK:∀{h6':Heap},Keeps h9 h6' [(g 0),n+3]→KidsAt h6' La9 ((List.range 7).map (eu kss tu)):=fun K6=>KidsAt.keepL K6 x2 (fun i b e=>by
  obtain⟨b',Ly,ey,q1,q2,_⟩:=x2.2 i _ (x2.row e)
  rw[q1] at e;cases e;simp;exact⟨apart q2 gL9,apart q2 x3⟩)
 rcases htl with⟨rfl,rfl⟩ | ⟨u,f,F,rfl,rfl⟩
 all_goals
  refine rebase [(g 0),n+3] [(n+2,_),((g 0),_),(n+3,_)] 1 T9 (ag x1 (ag gL9 (ag x3 ah))) (by simp[Dis,m2,m3,Ne.symm m2,Ne.symm m3]) (by tbr_iter (ai kL w9.kn)) (by kd_mem) (fun n9 hn9=>?_)
  refine gRx hA.hd 13 [2,2,3,3,3] ?_
  kst_p
  refine ggK s (.next) (fun h6' t6 D6=>?_)
  have K6:Keeps h9 h6' [(g 0),n+3]:=D6.keeps
 ·exact H h6' t6 (n+2) La9 ea9 tk9 [] (e+1) (S9.fresh2 K6 (by tbr_iter (.inr (f0 3)))) (f0 2) w8.kn (D6.xK 0) (HK K6) x2m (.inl ⟨rfl,rfl⟩) (D6.xK 1)
 ·exact H h6' t6 (n+2) La9 ea9 (f 0) _ e (S9.fresh2 K6 (by tbr_iter (.inr (f0 3)))) (f0 2) w8.kn (D6.xK 0) (HK K6) x2m (.inr ⟨u,f,F,rfl,rfl⟩) (D6.xK 1)
theorem wkF (hL:h.get? L=some (frame es e)):∀a∈[L],∀o,h.get? a=some o→Wk o:=fun a m o q=>by
 simp only[List.mem_cons,List.not_mem_nil,or_false] at m
 subst m;rw[hL] at q;cases q;simp[Wk]
theorem Elem.keepF {row:Addr} {tag:Value} (K:Keeps h h' [L]) (E:Elem P h el tag ad vL row) (hL:h.get? L=some (frame es e)):Elem P h' el tag ad vL row:=E.keepC K (wkF hL)
theorem TabE.keepF (K:Keeps h h' [L]) (E:TabE h) (hL:h.get? L=some (frame es e)):TabE h':=E.keepC K (wkF hL)
theorem TabT.keepC (K:Keeps h h' ex) (E:TabT h) (hx:∀a∈ex,∀o,h.get? a=some o→Wk o):TabT h':=by
 kd_adr
 obtain⟨c1,c2,k2,v2,r2,t1,t2⟩:=E
 exact⟨c1,c2,k2,v2,r2,bt K hx t1 (by simp[Wk]),bt K hx t2 (by simp[Wk])⟩
theorem TabT.keepF (K:Keeps h h' [L]) (E:TabT h) (hL:h.get? L=some (frame es e)):TabT h':=E.keepC K (wkF hL)
theorem Tape.keepC {wr:Addr} (K:Keeps h h' ex) (E:Tape P h tape wr oc) (hx:∀a∈ex,∀o,h.get? a=some o→Wk o):Tape P h' tape wr oc:=by
 kd_adr
 obtain⟨dd,wf,cw,co,ct,c2,k1,k2,k3,kc,fd,vc,rc,E⟩:=E
 exact⟨dd,wf,cw,co,ct,c2,k1,k2,k3,kc,fd,vc,rc,bt K hx E.tape (by simp[Wk]),bt K hx E.dd (by simp[Wk]),bt K hx E.wf (by simp[Wk]),bt K hx E.cw (by simp[Wk]),bt K hx E.co (by simp[Wk]),bt K hx E.c2 (by simp[Wk])⟩
theorem Tape.keepF {wr:Addr} (K:Keeps h h' [L]) (E:Tape P h tape wr oc) (hL:h.get? L=some (frame es e)):Tape P h' tape wr oc:=E.keepC K (wkF hL)
noncomputable def TE0 (h:Heap):Prop:=h.get? 149=some (bT [])∨TabE h
noncomputable def TT0 (h:Heap):Prop:=h.get? 163=some (bT [])∨TabT h
theorem TE0.at (T:TE0 h):∃l,h.get? 149=some (bT l):=T.elim (fun e=>⟨_,e⟩) fun ⟨_,_,_,_,_,e,_⟩=>⟨_,e⟩
theorem TT0.at (T:TT0 h):∃l,h.get? 163=some (bT l):=T.elim (fun e=>⟨_,e⟩) fun ⟨_,_,_,_,_,e,_⟩=>⟨_,e⟩
theorem TE0.keepF {h h':Heap} {L e:Addr} {es:List DictEntry} (K:Keeps h h' [L]) (E:TE0 h) (hL:h.get? L=some (frame es e)):TE0 h':=E.imp (fun q=>K.kq q (by tbr_iter (apart q hL))) (fun q=>q.keepF K hL)
theorem TT0.keepF {h h':Heap} {L e:Addr} {es:List DictEntry} (K:Keeps h h' [L]) (E:TT0 h) (hL:h.get? L=some (frame es e)):TT0 h':=E.imp (fun q=>K.kq q (by tbr_iter (apart q hL))) (fun q=>q.keepF K hL)
theorem tapeA {s:Shared} {ar:Nat} (hA:AOk A 5) (hT:TopIn w.params s.heap) (ht:TT0 s.heap)
 (H:∀(h':Heap) tk' tape,Keeps s.heap h' [163]→TabT h'→s.heap.objs.size≤tape→Tape w.params h' tape ar ao→R (.ok (.ret (.ref tape))) ⟨h',s.gens,s.drawn,tk',s.os⟩):
  codeAny (mm w) A (.call (.ref 168) ⟨[.ref ar, .ref ao],[]⟩) R s:=
 ht.elim (fun ht=>tape0 hA hT ht H) fun ht=>tapeF hA hT ht fun h' tk' tp K=>H h' tk' tp (K.mono (by kd_mem))
theorem elemA {s:Shared} {xT:Str} {kT:Nat} (hA:AOk A 5) (hT:TopIn w.params s.heap)
  (hd:s.heap.get? ad=some (dictO es e)) (hk:SD w.params es) (ha:kg w ad=none) (ht:TE0 s.heap)
  (hx:lookE es sText=some (.str xT kT)) (hl:lookE es sTail=none)
  (H:∀(h':Heap) tk' el row,Keeps s.heap h' [149]→TabE h'→s.heap.objs.size≤el→s.heap.objs.size≤row→Elem w.params h' el (.str tag tt) ad .none row→h'.get? row=some (listO [.str xT kT] 0)→R (.ok (.ret (.ref el))) ⟨h',s.gens,s.drawn,tk',s.os⟩):
  codeAny (mm w) A (.call (.ref 154) ⟨[.str tag tt, .ref ad],[]⟩) R s:=
 ht.elim (fun ht=>elem0 hA hT hd hk ha ht hx hl H) fun ht=>elemF hA hT hd hk ha ht hx (by rw[hl];rfl) (.inl rfl) fun h' tk' el row K=>H h' tk' el row (K.mono (by kd_mem))
section
variable {g:Nat→Nat} {en:List Nat} {w:World} {A:Around} {s:Shared} {E:Value→Shared→Prop} {Q:Flow→Shared→Prop} {e j1 j2 j3 j4:Nat} {v1 v2 v3 v4:Value} {o:Option (List DictEntry)} {tl:List DictEntry}
theorem loop_b3 (htl:TlG w.params o 1 tl) (hA:AOk A 200) (hT:TopIn w.params s.heap) (hL:s.heap.get? (g 0)=some (frame (lF w.params g en (ent w.params cC j1 v1 :: tl)) e)) (kL:kg w (g 0)=none)
  (H:∀(h':Heap) tk' l (j':Nat) tl' e',Keeps s.heap h' [g 0]→s.heap.get? l=none→kg w l=none→h'.get? l=some (listO [] 0)→TlG w.params o 2 tl'→h'.get? (g 0)=some (frame (lF w.params g en (ent w.params cC j1 v1 :: ent w.params sOctets j' (.ref l) :: tl')) e')→Q .next ⟨h',s.gens,s.drawn,tk',s.os⟩):
  wpAny (mm w) A (execs [au 2] (gE g)) Q E s:=by
 rcases htl with⟨rfl,rfl⟩ | ⟨u,f,F,rfl,rfl⟩
 all_goals
  refine aF (w:=w) (l:=[(g 0,_)]) 0 hT (ag hL ah) (by kd_subs) (by tbr_iter kL) (fun n t hn=>?_)
  have f0:=aS (Nat.le_of_eq hn)
  have k0:=bE hT (Nat.le_of_eq hn)
  refine gRx hA.hd 10 [1,1] ?_
  kst_p
  refine ggK s (.next) (fun h6 t6 D6=>?_)
 ·exact H h6 t6 n t [] (e+1) D6.keeps f0 k0 (D6.xK 1) (.inl ⟨rfl,rfl⟩) (D6.xK 0)
 ·exact H h6 t6 n (f 1) _ e D6.keeps f0 k0 (D6.xK 1) (.inr ⟨u,f,F,rfl,rfl⟩) (D6.xK 0)
theorem loop_b4 (htl:TlG w.params o 2 tl) (hA:AOk A 200) (hT:TopIn w.params s.heap) (ht:TT0 s.heap) (hL:s.heap.get? (g 0)=some (frame (lF w.params g en (ent w.params cC j1 v1 :: ent w.params sOctets j2 (.ref oc) :: tl)) e)) (kL:kg w (g 0)=none)
  (H:∀(h':Heap) tk' tp (j':Nat) tl' e',Keeps s.heap h' [g 0,163]→TabT h'→s.heap.objs.size≤tp→Tape w.params h' tp (escRef (g 10)) oc→TlG w.params o 3 tl'→h'.get? (g 0)=some (frame (lF w.params g en (ent w.params cC j1 v1 :: ent w.params sOctets j2 (.ref oc) :: ent w.params fK j' (.ref tp) :: tl')) e')→Q .next ⟨h',s.gens,s.drawn,tk',s.os⟩):
  wpAny (mm w) A (execs [au 3] (gE g)) Q E s:=by
 refine aF (w:=w) (l:=[(g 0,_)]) 1 hT (ag hL ah) (by kd_subs) (by kd_mem) (fun n t hn=>?_)
 refine gRx hA.hd 9 [0,1,1,0] ?_
 kst_p
 refine gcK (.call (.ref 168) ⟨[.ref (escRef (g 10)), .ref oc],[]⟩) (fun h D=>?_)
 have K0:Keeps s.heap h []:=D.keeps
 obtain⟨l0,t0⟩:=ht.at
 refine tapeA (hA.subN (by kd_p) 6 (by kd_p) (by kst_all)) D.kt (ht.imp (fun q=>K0.kp q) (fun q=>q.keepC K0 (by kd_mem))) (fun h1 t1 tp K1 hT1 hsz hTp=>?_)
 have T1:TopIn w.params h1:=K1.top D.kt (by simp;kd_p)
 have K01:Keeps s.heap h1 [163]:=K0.trans K1
 have g1:=K01.kq hL (by tbr_iter (apart hL t0))
 have fin:∀{h6:Heap},Keeps h1 h6 [g 0]→Keeps s.heap h6 [g 0,163]∧TabT h6∧Tape w.params h6 tp (escRef (g 10)) oc:=fun K6=>⟨(K01.trans K6).mono (by kd_mem),hT1.keepF K6 g1,hTp.keepF K6 g1⟩
 have sz:=Nat.le_trans K0.size hsz
 rcases htl with⟨rfl,rfl⟩ | ⟨u,f,F,rfl,rfl⟩
 all_goals
  refine rebase [g 0] [(g 0,_)] 0 T1 (ag g1 ah) (by kd_subs) (by tbr_iter kL) (by kd_mem) (fun n1 hn1=>?_)
  refine gRx hA.hd 8 [1,1] ?_
  kst_p
  refine ggK s (.next) (fun h6 t6 D6=>?_)
  have⟨a1,a2,a3⟩:=fin D6.keeps
 ·exact H h6 t6 tp t1 [] (e+1) a1 a2 sz a3 (.inl ⟨rfl,rfl⟩) (D6.xK 0)
 ·exact H h6 t6 tp (f 2) _ e a1 a2 sz a3 (.inr ⟨u,f,F,rfl,rfl⟩) (D6.xK 0)
theorem loop_b5 (htl:TlG w.params o 3 tl) (hA:AOk A 200) (hT:TopIn w.params s.heap) (hL:s.heap.get? (g 0)=some (frame (lF w.params g en (ent w.params cC j1 v1 :: ent w.params sOctets j2 v2 :: ent w.params fK j3 (.ref tp) :: tl)) e)) (kL:kg w (g 0)=none)
  (H:∀(h':Heap) tk' cn d k1 k2 to (j':Nat) tl' e',Keeps s.heap h' [g 0]→s.heap.objs.size≤cn→s.heap.objs.size≤d→h'.get? cn=some (instO 131 d)→h'.get? d=some (tellD w.params k1 k2 tp 0 to)→TlG w.params o 4 tl'→h'.get? (g 0)=some (frame (lF w.params g en (ent w.params cC j1 v1 :: ent w.params sOctets j2 v2 :: ent w.params fK j3 (.ref tp) :: ent w.params du j' (.ref cn) :: tl')) e')→Q .next ⟨h',s.gens,s.drawn,tk',s.os⟩):
  wpAny (mm w) A (execs [au 4] (gE g)) Q E s:=by
 refine aF (w:=w) (l:=[(g 0,_)]) 1 hT (ag hL ah) (by kd_subs) (by kd_mem) (fun n t hn=>?_)
 refine gRx hA.hd 8 [0,1,0,0] ?_
 kst_p
 refine gcK (.call (.ref 131) ⟨[.ref tp],[]⟩) (fun h D=>?_)
 refine nE (hA.subN (by kd_p) 6 (by kd_p) (by kst_all)) D.kt (fun h1 t1 cn d k1 k2 to K1 hs1 hs2 hcn hdd=>?_)
 have K01:Keeps s.heap h1 []:=D.keeps.trans K1
 have T1:TopIn w.params h1:=K1.top0 D.kt
 have g1:=K01.kp hL
 have s1:=Nat.le_trans D.keeps.size hs1
 have s2:=Nat.le_trans D.keeps.size hs2
 have fin:∀{h6:Heap},Keeps h1 h6 [g 0]→Keeps s.heap h6 [g 0]∧h6.get? cn=some (instO 131 d)∧h6.get? d=some (tellD w.params k1 k2 tp 0 to):=fun K6=>⟨(K01.trans K6).mono (by kd_mem),K6.kq hcn (by tbr_iter (apart hcn g1)),K6.kq hdd (by tbr_iter (apart hdd g1))⟩
 rcases htl with⟨rfl,rfl⟩ | ⟨u,f,F,rfl,rfl⟩
 all_goals
  refine rebase [g 0] [(g 0,_)] 0 T1 (ag g1 ah) (by kd_subs) (by tbr_iter kL) (by kd_mem) (fun n1 hn1=>?_)
  refine gRx hA.hd 8 [1,1] ?_
  kst_p
  refine ggK s (.next) (fun h6 t6 D6=>?_)
  have⟨a1,a2,a3⟩:=fin D6.keeps
 ·exact H h6 t6 cn d k1 k2 to t1 [] (e+1) a1 s1 s2 a2 a3 (.inl ⟨rfl,rfl⟩) (D6.xK 0)
 ·exact H h6 t6 cn d k1 k2 to (f 3) _ e a1 s1 s2 a2 a3 (.inr ⟨u,f,F,rfl,rfl⟩) (D6.xK 0)
theorem loop_b6 {w1 w2:Nat} (htl:TlG w.params o 4 tl) (hA:AOk A 200) (hT:TopIn w.params s.heap) (ht:TE0 s.heap) (hcm:s.heap.get? (g 16)=some (dictO (e16 w u1 u2 (.str cV w1) (.str bQ w2)) ec)) (hfi:s.heap.get? (g 17)=some (dictO (e15 w a1 a2 (.str xT kT) vL) ef)) (kcm:kg w (g 16)=none) (kfi:kg w (g 17)=none) (hv0:vL = .none∨∃x k,vL = .str x k) (hL:s.heap.get? (g 0)=some (frame (lF w.params g en (ent w.params cC j1 v1 :: ent w.params sOctets j2 v2 :: ent w.params fK j3 v3 :: ent w.params du j4 v4 :: tl)) e)) (kL:kg w (g 0)=none)
  (H:∀(h':Heap) tk' el ad row tt e' (j':Nat) tl' e2,Keeps s.heap h' [g 0,149]→TabE h'→s.heap.objs.size≤el→s.heap.objs.size≤ad→s.heap.objs.size≤row→Elem w.params h' el (.str ⟨⟨[97]⟩⟩ tt) ad vL row→h'.get? ad=some (dictO (e15 w a1 a2 (.str xT kT) vL) e')→h'.get? row=some (listO [.str xT kT] 0)→ad≠(g 17)→TlG w.params o 5 tl'→h'.get? (g 0)=some (frame (lF w.params g en (ent w.params cC j1 v1 :: ent w.params sOctets j2 v2 :: ent w.params fK j3 v3 :: ent w.params du j4 v4 :: ent w.params nT j' (.ref el) :: tl')) e2)→Q .next ⟨h',s.gens,s.drawn,tk',s.os⟩):
  wpAny (mm w) A (execs [au 5] (gE g)) Q E s:=by
 refine aF (w:=w) (l:=[(g 0,_)]) 1 hT (ag hL ah) (by kd_subs) (by kd_mem) (fun n t hn=>?_)
 refine gRx hA.hd 10 [0,0,1,0] ?_
 kst_p
 refine gcK (.call (.ref 154) ⟨[.str ⟨⟨[116,111,112]⟩⟩ t, .ref (g 16)],[]⟩) (fun h D=>?_)
 have K0:Keeps s.heap h []:=D.keeps
 obtain⟨l0,t0⟩:=ht.at
 refine elemA (hA.subN (by kd_p) 6 (by kd_p) (by kst_all)) D.kt (K0.kp hcm) (SD.cons (by kd_p) (SD.cons (by kd_p) SD.nil)) kcm (ht.imp (fun q=>K0.kp q) (fun q=>q.keepC K0 (by kd_mem))) (xT:=cV) (kT:=w1) (by kd_p) (by kd_p) (fun h1 t1 el0 row0 K1 hT1 hs1 hs2 hE hr=>?_)
 have T1:TopIn w.params h1:=K1.top D.kt (by simp;kd_p)
 have K01:Keeps s.heap h1 [149]:=K0.trans K1
 have g1:=K01.kq hL (by tbr_iter (apart hL t0))
 have gfi1:=K01.kq hfi (by tbr_iter (apart hfi t0))
 refine rebase [] [(g 0,_)] 1 T1 (ag g1 ah) (by kd_subs) (by kd_mem) (by kd_mem) (fun n1 hn1=>?_)
 refine gRx hA.hd 6 [1,0] ?_
 kst_p
 refine gcK (.call (.ref 30) ⟨[.ref el0, .str ⟨⟨[97]⟩⟩ t1, .ref (g 17)],[]⟩) (fun h2 D2=>?_)
 have K2:Keeps h1 h2 []:=D2.keeps
 have g2:=K2.kp g1
 have gfi2:=K2.kp gfi1
 have hr2:=K2.kp hr
 have krow:kg w row0=none:=bE D.kt hs2
 refine sub_a (hA.subN (by kd_p) 6 (by kd_p) (by kst_all)) D2.kt gfi2 (hE.keepC K2 (by kd_mem)) hr2 (hT1.keepC K2 (by kd_mem)) kfi krow (by kd_mem) hv0 (fun h3 t3 el ad row e3 K3 hT3 s1 s2 s3 hE3 hd3 hr3 hr4=>?_)
 have T3:TopIn w.params h3:=K3.top D2.kt (by tbr_iter krow)
 have g3:=K3.kq g2 (by tbr_iter (apart g2 hr2))
 have fr0:s.heap.get? row0=none:=aS (Nat.le_trans K0.size hs2)
 have sz2:s.heap.objs.size≤h2.objs.size:=Nat.le_trans K01.size K2.size
 have K03:Keeps s.heap h3 [149]:=Keeps.fresh2 ((K01.trans K2).mono (by kd_mem)) K3 (by tbr_iter (.inr fr0))
 have fin:∀{h6:Heap},Keeps h3 h6 [g 0]→Keeps s.heap h6 [g 0,149]∧TabE h6∧Elem w.params h6 el (.str ⟨⟨[97]⟩⟩ t1) ad vL row∧h6.get? ad=some (dictO (e15 w a1 a2 (.str xT kT) vL) e3)∧h6.get? row=some (listO [.str xT kT] 0):=fun K6=>⟨(K03.trans K6).mono (by kd_mem),hT3.keepF K6 g3,hE3.keepF K6 g3,K6.kq hd3 (by tbr_iter (apart hd3 g3)),K6.kq hr3 (by tbr_iter (apart hr3 g3))⟩
 have y1:=Nat.le_trans sz2 s1
 have y2:=Nat.le_trans sz2 s2
 have y3:=Nat.le_trans sz2 s3
 have y4:=bh gfi2 s2
 rcases htl with⟨rfl,rfl⟩ | ⟨u,f,F,rfl,rfl⟩
 all_goals
  refine rebase [g 0] [(g 0,_)] 0 T3 (ag g3 ah) (by kd_subs) (by tbr_iter kL) (by kd_mem) (fun n3 hn3=>?_)
  refine gRx hA.hd 8 [1,1] ?_
  kst_p
  refine ggK s (.next) (fun h6 t6 D6=>?_)
  have⟨b1,b2,b3,b4,b5⟩:=fin D6.keeps
 ·exact H h6 t6 el ad row t1 e3 t3 [] (e+1) b1 b2 y1 y2 y3 b3 b4 b5 y4 (.inl ⟨rfl,rfl⟩) (D6.xK 0)
 ·exact H h6 t6 el ad row t1 e3 (f 4) _ e b1 b2 y1 y2 y3 b3 b4 b5 y4 (.inr ⟨u,f,F,rfl,rfl⟩) (D6.xK 0)
end
open AutoSeq1 (wpAny_loadPart') in
open MeetsSeq MeetsSeq2 MeetsSeq3 SeqRoads2 in
theorem lM (w:World) (l b:Addr) (items items2:Array Value) (n n2:Nat) (dd dd2:Option Addr) (sl sl2:Array (Option Value)) (e:Nat→Bool):
  MeetsIn pw w (Builtin.«tuple.__ne__» ⟨[.ref l, .ref b],[]⟩)
   (fun A R s=>s.heap.get? l=some { cls:= .type "tuple",dict:=dd,data:= .seq items n,slots:=sl }∧s.heap.get? b=some { cls:= .type "tuple",dict:=dd2,data:= .seq items2 n2,slots:=sl2 }∧
    (∀j (h1:j<items.size) (h2:j<items2.size),EqW w A.in1 s items[j] items2[j] (e j))∧
    R (.ok (.ret (.bool (!((List.range (min items.size items2.size)).all e && items.size == items2.size))))) s):=
 .of_wp fun A R s h=>by
  obtain⟨hp,g,d,tk,os⟩:=s;obtain⟨hl,hb,he,h⟩:=h
  have f2:=AutoSeq1.sub_tuple_tuple
  have hZ:(items.toList.zip items2.toList).length=min items.size items2.size:=by simp
  wp_walk using wpAny_loadPart' hl,wpAny_loadPart' hb,wpAny_forIn_list _ (fun rest b s'=>b.1=none∧s'=⟨hp,g,d,tk,os⟩∧∃i,rest=(items.toList.zip items2.toList).drop i∧
   R (.ok (.ret (.bool (!(((List.range (min items.size items2.size)).drop i).all e && items.size == items2.size))))) ⟨hp,g,d,tk,os⟩) _
  case turn=>
   rintro ⟨y,x⟩ rest b s' ⟨hb',rfl,i,hz,hR⟩
   have hlt:i<(items.toList.zip items2.toList).length:=by
    rcases Nat.lt_or_ge i (items.toList.zip items2.toList).length with h' | h'
    ·exact h'
    ·rw[List.drop_of_length_le h'] at hz;cases hz
   have hm:i<min items.size items2.size:=hZ▸hlt
   have h1:i<items.size:=Nat.lt_of_lt_of_le hm (Nat.min_le_left _ _)
   have h2:i<items2.size:=Nat.lt_of_lt_of_le hm (Nat.min_le_right _ _)
   rw[List.drop_eq_getElem_cons hlt] at hz
   injection hz with hyx hrest
   have hy:y=items[i]:=by have:=congrArg Prod.fst hyx;simpa using this
   have hx:x=items2[i]:=by have:=congrArg Prod.snd hyx;simpa using this
   subst hy hx
   have hd:(List.range (min items.size items2.size)).drop i=i :: (List.range (min items.size items2.size)).drop (i+1):=by simp[List.drop_eq_getElem_cons,hm]
   rw[hd,List.all_cons] at hR
   refine wpAny_bind (he i h1 h2 _ _ ?_)
   cases hy:e i with
   | true=>
    rw[hy] at hR
    wp_walk
    exact⟨rfl,rfl,i+1,hrest,by simpa using hR⟩
   | false=>
    rw[hy] at hR
    wp_walk
    exact⟨_,rfl,by simpa using hR⟩
  case fin=>
   rintro ⟨b1,b2⟩ s' ⟨hb',rfl,i,hz,hR⟩
   simp only at hb'
   subst hb'
   have hge:min items.size items2.size≤i:=by
    rcases Nat.lt_or_ge i (items.toList.zip items2.toList).length with h' | h'
    ·rw[List.drop_eq_getElem_cons h'] at hz;cases hz
    ·exact hZ▸h'
   rw[List.drop_of_length_le (by tbr_iter hge)] at hR
   wp_walk
   exact⟨_,rfl,by simpa [Builtin.Tuple.tupleCompareSizes,bne] using hR⟩
  case h=>
   exact⟨rfl,rfl,0,rfl,by simpa using h⟩
theorem ia {s:Shared} {x1 x2:Value} {e1 e2:Nat} {Q:Value→Shared→Prop} (ha:s.heap.get? a=some (dc [x1,x2] e1)) (hb:s.heap.get? b=some (dc [y1,y2] e2))
  (h1:EqW w A.in1 s x1 y1 true) (h2:EqW w A.in1 s x2 y2 true) (hu:A.units<cLine) (h:Q (.bool false) s):wpAny (mm w) A (richCompare .NotEq (.ref a) (.ref b)) Q E s:=by
 refine wpAny_richCompare_same_room (T:= "tuple") (id:= "tuple.__ne__") ⟨_,ha,rfl⟩ ⟨_,hb,rfl⟩ F.slot_tuple_ne ?_ hu
 refine wpAny_call (aI F.slot_tuple_ne ⟨_,ha,rfl⟩ F.entry_tuple_ne (F.args_tuple_ne_2 _ _) (lM w a b #[x1,x2] #[y1,y2] e1 e2 none none #[] #[] (fun _=>true)) ⟨ha,hb,?_,?_⟩)
 ·intro j h3 h4
  match j,h3,h4 with
  | 0,_,_=>exact h1
  | 1,_,_=>exact h2
  | j+2,h3,_=>exact absurd (show j+2<2 from h3) (by kst_all)
 ·exact⟨(fun x=>nomatch x),h⟩
noncomputable def ifT:Stmt→Expr
 | .If t _ _ _=>t
 | _=>default
noncomputable def ifBd:Stmt→List Stmt
 | .If _ b _ _=>b
 | _=>[]
noncomputable def unX:Expr→Expr
 | .UnaryOp _ x _=>x
 | _=>default
theorem loop7E:∃p1 p2 p3 p4 p5,au 6 = .If (.BoolOp .Or [.UnaryOp .Not (unX (dW (ifT (au 6)) 0)) p1, .Compare (mV (dW (ifT (au 6)) 1)) [.NotEq] [jX (dW (ifT (au 6)) 1)] p2, .Compare (mV (dW (ifT (au 6)) 2)) [.Is] [jX (dW (ifT (au 6)) 2)] p3] p4) (ifBd (au 6)) [] p5:=⟨_,_,_,_,_,rfl⟩
@[reducible] noncomputable def lG (P:Params) (g:Nat→Nat) (en:List Nat) (gf:Nat→Nat) (tl:List DictEntry):List DictEntry:=lF P g en (ent P cC (gf 0) (.ref (gf 5)) :: ent P sOctets (gf 1) (.ref (gf 6)) :: ent P fK (gf 2) (.ref (gf 7)) :: ent P du (gf 3) (.ref (gf 8)) :: ent P nT (gf 4) (.ref (gf 9)) :: tl)
theorem loop_b7 {en:List Nat} {s:Shared} {row v1:Nat} (hA:AOk A 200) (hT:TopIn w.params s.heap)
  (hlen:kss.length=7∧ws.length=7) (hsm:∀i,(kss.getD i []).length≤50) (hD:Dp kss 7 0=true)
  (hE:Elem w.params s.heap (gf 9) (.str ⟨⟨[97]⟩⟩ tt) ad vL row) (hr:s.heap.get? row=some (listO [.str ⟨⟨ws.getD 0 []⟩⟩ kT] 0)) (ht:TabE s.heap) (hk:s.heap.get? (gf 5)=some (listO Lk ek)) (hK:KidsAt s.heap Lk kss) (hw:s.heap.get? (g 12)=some (listO Lw ew)) (hW:StrVs Lw ws)
  (hcm:s.heap.get? (g 16)=some (dictO (e16 w u1 u2 (.str cV v1) (.str bQ v2)) ec)) (hfi:s.heap.get? (g 17)=some (dictO (e15 w a1 a2 (.str ⟨⟨ws.getD 0 []⟩⟩ kT) vL) ef)) (had:s.heap.get? ad=some (dictO (e15 w a1 a2 (.str ⟨⟨ws.getD 0 []⟩⟩ kT) vL) ea)) (kcm:kg w (g 16)=none) (kfi:kg w (g 17)=none) (kad:kg w ad=none) (kr:kg w row=none) (hra:row≠(gf 5)) (hrw:row≠(g 12)) (naf:ad≠(g 17))
  (hL:s.heap.get? (g 0)=some (frame (lG w.params g en gf tl) e)) (kL:kg w (g 0)=none)
  (H:∀(h':Heap) tk' L' er',Keeps s.heap h' [row]→h'.get? row=some (listO (.str ⟨⟨ws.getD 0 []⟩⟩ kT :: L') er')→L'.length=(kss.getD 0 []).length→(∀(i x:Nat),(kss.getD 0 [])[i]? = some x→∃c,L'[i]? = some (Value.ref c)∧ElT w.params h' kss ws 6 c x)→Elem w.params h' (gf 9) (.str ⟨⟨[97]⟩⟩ tt) ad vL row→Q .next ⟨h',s.gens,s.drawn,tk',s.os⟩):
  wpAny (mm w) A (execs [au 6] (gE g)) Q E s:=by
 kd_adr
 obtain⟨p1,p2,p3,p4,p5,eB⟩:=loop7E
 refine bU ?_
 intro zQ zE
 refine aH (congrArg (fun x=>[x]) eB) ?_
 refine wpAny_execs_cons (wpAny_If ?_)
 refine isTrue_or (isTrue_not (isTrue_plain ?_ (by kd_p)))
 refine aE (w:=w) (l:=[((g 0),_)]) 1 hT (ag hL ah) (by kd_subs) (by kd_mem) (fun n t hn=>?_)
 refine gRx hA.hd 13 [0,1,1,1,1,0] ?_
 kst_p
 refine gcK (.call (.ref 161) ⟨[.ref (gf 9), .int (.ofNat 0) t, .ref (gf 5), .ref (g 12), .ref (g 16)],[]⟩) (fun h1 D1=>?_)
 have K1:Keeps s.heap h1 []:=D1.keeps
 have T1:TopIn w.params h1:=D1.kt
 have k:=fun {a o} (q:s.heap.get? a=some o)=>K1.keep a o q (by kd_mem)
 clear D1
 refine oD hlen hsm 7 (hA.subN (by kd_p) 6 (by kd_p) (by kst_all)) T1 (hE.keepC K1 (by kd_mem)) (k hr) (ht.keepC K1 (by kd_mem)) (k hk) (hK.keep K1) (k hw) hW (k hcm) kr kcm hra hrw hD (fun h2 t2 L' er' K2 hr2 hlen2 gC=>?_)
 have T2:TopIn w.params h2:=K2.top T1 (by tbr_iter kr)
 have nLr:(g 0)≠row:=apart hL hr
 have K02:Keeps s.heap h2 [row]:=(K1.trans K2).mono (by kd_mem)
 have wr:∀a∈[row],∀o,s.heap.get? a=some o→Wk o:=fun a m o q=>by
  simp only[List.mem_cons,List.not_mem_nil,or_false] at m
  subst m;rw[hr] at q;cases q;simp[Wk]
 refine rebase [] [] 0 T2 ah (by kd_subs) (by kd_mem) (by kd_mem) (fun n2 hn2=>?_)
 refine gRx hA.hd 1 [] ?_
 kst_p
 refine ggK s (.ret (.bool true)) (fun h3 t3 D3=>?_)
 have K3:Keeps h2 h3 []:=D3.keeps
 have T3:TopIn w.params h3:=D3.kt
 clear D3
 refine wpAny_truthy_bool ?_
 show wpAny _ _ (PySem.isTrue _ _ _) _ _ _
 refine isTrue_or (wpAny_isTrue_Compare1 ?_)
 have K03:Keeps s.heap h3 [row]:=(K02.trans K3).mono (by kd_mem)
 have E3:Elem w.params h3 (gf 9) (.str ⟨⟨[97]⟩⟩ tt) ad vL row:=hE.keepC K03 wr
 kd_adr
 obtain⟨dd,ap,itf,cl,ct,c2x,q1,q2,q3,q4,q5,q6,kc,fd,vc,rc,X3⟩:=id E3
 have L3:h3.get? (g 0)=some (frame (lG w.params g en gf tl) e):=K03.kq hL (by tbr_iter nLr)
 refine aE (w:=w) (l:=[((g 0),_),((gf 9),_),(dd,_)]) 3 T3 (ag L3 (ag X3.el (ag X3.dd ah))) (by kd_subs) (by kd_mem) (fun n4 t4 hn4=>?_)
 refine gRx hA.hd 30 [1,2,0,2,2,2,2,3,1,2,0,2,2,2,2,3] ?_
 kst_p
 refine ggK s (.ret (.ref n4)) (fun h5 t5 D5=>?_)
 have K5:Keeps h3 h5 []:=D5.keeps
 have T5:TopIn w.params h5:=D5.kt
 have tu5:=D5.cK 3 n4 (dc [.str ⟨⟨[97]⟩⟩ tt, .ref ad] 0)
 clear D5
 have L5:=K5.kp L3
 refine aE (w:=w) (l:=[((g 0),_)]) 1 T5 (ag L5 ah) (by kd_subs) (by kd_mem) (fun n6 t6 hn6=>?_)
 refine gRx hA.hd 5 [1] ?_
 kst_p
 refine ggK s (.ret (.ref n6)) (fun h7 t7 D7=>?_)
 have K7:Keeps h5 h7 []:=D7.keeps
 have T7:TopIn w.params h7:=D7.kt
 have tu7:=D7.cK 1 n6 (dc [.str ⟨⟨[97]⟩⟩ t6, .ref (g 17)] 0)
 clear D7
 have tu5':=K7.kp tu5
 have K07:Keeps s.heap h7 [row]:=((K03.trans K5).trans K7).mono (by kd_mem)
 have ad7:=K07.kq had (by tbr_iter (apart had hr))
 have fi7:=K07.kq hfi (by tbr_iter (apart hfi hr))
 have hu:=hA.un
 show wpAny _ _ (richCompare .NotEq (.ref n4) (.ref n6)) _ _ _
 refine ia tu5' tu7 (EqW.of (by have:=EqAt.str_str (A:=A.in1) (s:=⟨h7,s.gens,s.drawn,t7,s.os⟩) ⟨⟨[97]⟩⟩ tt ⟨⟨[97]⟩⟩ t6;rwa [beq_self_eq_true] at this)) (EqW.refs naf (fun E Q hq=>dw ad7 fi7 kad kfi ?sd ?pa (by show A.units+1<_;kst_all) hq)) (by kst_all) ?_
 case sd=>exact SD.cons (by kd_p) (SD.cons (by kd_p) SD.nil)
 case pa=>
  refine⟨rfl,fun j hj=>?_⟩
  match j,hj with
  | 0,_=>exact⟨sText,_,_,0,_,_,by kd_p,rfl,by kd_p,rfl,EqW.of (EqAt.same _)⟩
  | 1,_=>exact⟨sTail,_,_,1,_,_,by kd_p,rfl,by kd_p,rfl,EqW.of (EqAt.same _)⟩
  | j+2,hj=>exact absurd (show j+2<2 from hj) (by kst_all)
 refine wpAny_truthy_bool ?_
 show wpAny _ _ (PySem.isTrue _ _ _) _ _ _
 refine isTrue_or (wpAny_isTrue_Compare1 ?_)
 have E7:Elem w.params h7 (gf 9) (.str ⟨⟨[97]⟩⟩ tt) ad vL row:=hE.keepC K07 wr
 kd_adr
 obtain⟨dd,ap,itf,cl,ct,c2x,q1,q2,q3,q4,q5,q6,kc,fd,vc,rc,X7⟩:=id E7
 have L7:h7.get? (g 0)=some (frame (lG w.params g en gf tl) e):=K07.kq hL (by tbr_iter nLr)
 refine aE (w:=w) (l:=[((g 0),_),((gf 9),_),(dd,_)]) 3 T7 (ag L7 (ag X7.el (ag X7.dd ah))) (by kd_subs) (by kd_mem) (fun n8 t8 hn8=>?_)
 refine gRx hA.hd 14 [1,2,0,2,2,2,2,3] ?_
 kst_p
 refine ggK s (.ret (.ref ad)) (fun h9 t9 D9=>?_)
 have K9:Keeps h7 h9 []:=D9.keeps
 have T9:TopIn w.params h9:=D9.kt
 clear D9
 have L9:=K9.kp L7
 refine aE (w:=w) (l:=[((g 0),_)]) 1 T9 (ag L9 ah) (by kd_subs) (by kd_mem) (fun n10 t10 hn10=>?_)
 refine gRx hA.hd 2 [1] ?_
 kst_p
 refine ggK s (.ret (.ref (g 17))) (fun h11 t11 D11=>?_)
 have K11:Keeps h9 h11 []:=D11.keeps
 clear D11
 have K0_11:Keeps s.heap h11 [row]:=((K07.trans K9).trans K11).mono (by kd_mem)
 refine wpAny_is_ref_other naf (K0_11.kq had (by tbr_iter (apart had hr))) (K0_11.kq hfi (by tbr_iter (apart hfi hr))) (by kd_mem) ?_
 refine wpAny_truthy_bool ?_
 show wpAny _ _ (PySem.isTrue _ _ _) _ _ _
 refine isTrue_or_nil ?_
 show wpAny _ _ (execs [] _) _ _ _
 refine wpAny_execs_nil (wpAny_execs_nil ?_)
 have K2_11:Keeps h2 h11 []:=((((K3.trans K5).trans K7).trans K9).trans K11).mono (by kd_mem)
 exact H h11 t11 L' er' ((K02.trans K2_11).mono (by kd_mem)) (K2_11.kp hr2) hlen2 (fun i x q=>let ⟨c,a1,a2⟩:=gC i x q;⟨c,a1,ElTb.toT _ _ _ (ElTb.keep K2_11 (by kd_mem) _ _ _ a2)⟩) (hE.keepC ((K02.trans K2_11).mono (by kd_mem)) wr)
theorem loop_b8 {en:List Nat} {s:Shared} {cw row tr:Nat} (hA:AOk A 200) (hT:TopIn w.params s.heap) (hk5:hk<5)
  (hc:s.heap.get? (gf 8)=some (instO 131 d)) (hX:TapeX w.params s.heap tape (escRef hk) oc dd wf cw co ct c2x k3 k4 k5 kc fd vc rc) (hnd:dd≠d) (hd:s.heap.get? d=some (tellD w.params k1 k2 tape 0 to)) (hoc:s.heap.get? oc=some (listO [] eo)) (hdN:kg w d=none) (hoN:kg w oc=none)
  (hE:Elem w.params s.heap (gf 9) (.str tag tt) ad vL row) (hrow:s.heap.get? row=some (listO (.str ⟨⟨ws.getD 0 []⟩⟩ tr :: Lr) er)) (hlr:Lr.length=(kss.getD 0 []).length) (hkc:∀(i x:Nat),(kss.getD 0 [])[i]? = some x→∃c,Lr[i]? = some (Value.ref c)∧ElT w.params s.heap kss ws 6 c x)
  (hlen:(partsF kss ws 6 0).length≤1000) (hw:∀x∈partsF kss ws 6 0,x∈wordsL) (hy:(vL = .none∧y=[])∨∃c kv,vL = .str ⟨⟨[c]⟩⟩ kv∧y=[c]∧y∈wordsL)
  (hL:s.heap.get? (g 0)=some (frame (lG w.params g en gf tl) e)) (kL:kg w (g 0)=none)
  (H:∀(h':Heap) tk' to' Lo' eo',Keeps s.heap h' [d,oc]→h'.get? d=some (tellD w.params k1 k2 tape (0+((partsF kss ws 6 0).map (esc hk)).flatten.length+(esc hk y).length) to')→h'.get? oc=some (listO ([]++Lo') eo')→IntVs Lo' (((partsF kss ws 6 0).map (esc hk)).flatten++esc hk y)→Q .next ⟨h',s.gens,s.drawn,tk',s.os⟩):
  wpAny (mm w) A (execs [au 7] (gE g)) Q E s:=by
 have⟨zhc_hL,zhc_hL'⟩:=ap2 hc hL
 have⟨zhd_hL,zhd_hL'⟩:=ap2 hd hL
 have⟨zhc_hd,zhc_hd'⟩:=ap2 hc hd
 refine aF (w:=w) (l:=[((g 0),_),((gf 8),_),(d,_)]) 3 hT (ag hL (ag hc (ag hd ah))) (by kd_subs) (by kd_mem) (fun n t hn=>?_)
 refine gRx hA.hd 37 [0,1,2,0,0,0,0,2,0,0,0,0,0,0,2,2,0,3,0,0,0,0,0,1,0] ?_
 kst_p
 refine gcK (.call (.ref 37) ⟨[.ref n, .ref (gf 9)],[]⟩) (fun h1 D1=>?_)
 have K1:Keeps s.heap h1 []:=D1.keeps
 have T1:TopIn w.params h1:=D1.kt
 have m1:=D1.cK 3 n ⟨.type "method",none, .fields #[.ref 107, .ref (gf 8)], #[]⟩
 have k:=fun {a o} (q:s.heap.get? a=some o)=>K1.keep a o q (by kd_mem)
 clear D1
 have TT:TellAt w.params h1 hk n (gf 8) d tape oc dd wf cw co ct c2x k3 k4 k5 kc fd vc rc:=⟨m1,k hc,⟨k hX.tape,k hX.dd,k hX.wf,k hX.cw,k hX.co,k hX.c2⟩,hnd,⟨_,_,_,_,k hd⟩,⟨_,_,k hoc⟩,hdN,hoN⟩
 refine law_ser (f:=6) hk5 (hA.subN (by kd_p) 6 (by kd_p) (by kst_all)) T1 TT (k hd) (k hoc) (hE.keepC K1 (by kd_mem)) (k hrow) hlr (fun i x q=>let ⟨c,a1,a2⟩:=hkc i x q;⟨c,a1,ElT.keep K1 _ _ _ a2⟩) hlen hw hy (by kd_mem) (by kst_all) (fun h2 t2 to' Lo' eo' K2 hd2 ho2 hV2=>?_)
 have T2:TopIn w.params h2:=K2.top T1 (by tbr_iter (ai hdN hoN))
 refine rebase [] [] 0 T2 ah (by kd_subs) (by kd_mem) (by kd_mem) (fun n2 hn2=>?_)
 refine gRx hA.hd 1 [] ?_
 kst_p
 refine ggK s (.next) (fun h3 t3 D3=>?_)
 have K3:Keeps h2 h3 []:=D3.keeps
 exact H h3 t3 to' Lo' eo' (((K1.trans K2).trans K3).mono (by kd_mem)) (K3.kp hd2) (K3.kp ho2) hV2
@[reducible] noncomputable def baO (arr:Array UInt8):Obj:=⟨.type "bytearray",none, .bytearray arr, #[]⟩
noncomputable def bG (xs:List Nat):Array UInt8:=(xs.map fun c=>c.toUInt8).toArray
theorem AOk.in1 {A:Around} {k k':Nat} (h:AOk A k) (e:k'+1≤k):AOk A.in1 k':=by
 refine⟨h.hd,?_,?_⟩
 ·show A.depth+k'<_
  have:=h.dp;kst_all
 ·show A.units+1+20*k'<_
  have:=h.un;kst_all
theorem ko {I S:Nat} {L:List Value} (hV:IntVs L xs) (hr:∀x∈xs,x<256) (hz:xs.length≤100000) (hIS:I≠S) (ki:kg w I=none) (ks:kg w S=none):
  ∀(rs:List Nat) {A:Around} {R:Result→Shared→Prop} {s:Shared} {i tk:Nat} (hA:AOk A 8) (hT:TopIn w.params s.heap) (hl:s.heap.get? l=some (listO L e)) (hI:s.heap.get? I=some (av l i tk)) (hS:s.heap.get? S=some (baO (bG (xs.take i)))) (hrs:xs.drop i=rs)
  (H:∀(h':Heap) tk' tok,Keeps s.heap h' [I,S]→R (.ok (.ret (.bytes (bG xs) tok))) ⟨h',s.gens,s.drawn,tk',s.os⟩),
  codeAny (mm w) A (.builtin "bytes.__new__.loop" ⟨[.type "bytes", .ref I, .ref S],[]⟩) R s:=by
 intro rs
 induction rs with
 | nil=>
  intro A R s i tk hA0 hT hl hI hS hrs H
  have hlen:=hV.fin hrs
  have n1:=apart hl hI
  refine codeAny_builtin F.bm_entry_loop ?_
  rw[Around.under_plainId F.bm_plain_loop _]
  show wpAny _ A.in1 (pyNext (.ref I) >>= _) _ _ s
  have hA:AOk A.in1 6:=hA0.in1 (by kst_all)
  refine wpAny_bind (nextR (w:=w) (l:=[(l,_),(I,_)]) 1 hT (ag hl (ag hI ah)) (by simp[Dis,n1]) (by tbr_iter ki) (fun n t hn=>?_))
  refine gPx hA.hd [] 3 [2,18,1,0,0,4] ?_
  intro zM zO
  refine gQx [L.length≤i] ⟨by assumption,trivial⟩ ?_
  refine ggK s (.next) (fun h1 t1 D1=>?_)
  have K1:Keeps s.heap h1 [I]:=D1.keeps
  clear D1
  have hS1:h1.get? S=some (baO (bG (xs.take i))):=K1.kq hS (by tbr_iter (Ne.symm hIS))
  have hti:xs.take i=xs:=by
   have:xs.length≤i:=by rw[←hV.1];exact hlen
   exact List.take_of_length_le this
  rw[hti] at hS1
  refine wpAny_bind ?_
  unfold Builtin.Bytes.payload Builtin.Bytes.payload?
  refine wpAny_bind (wpAny_bind (wpAny_load hS1 ?_))
  refine wpAny_pure (wpAny_pure ?_)
  refine wpAny_bind (wpAny_mkBytes ?_ (by rw[show sizeLine=2^24 from rfl];simp[bG];kst_all))
  show wpAny _ _ (if (Value.type "bytes" == Value.type "bytes")=true then _ else _) _ _ _
  refine bm_if_true (by decide) ?_
  first
   | exact wpAny_pure (H h1 _ _ (K1.mono (by kd_mem)))
   | exact wpAny_bind (wpAny_pure (wpAny_pure (H h1 _ _ (K1.mono (by kd_mem)))))
 | cons x rs ih=>
  intro A R s i tk hA0 hT hl hI hS hrs H
  kd_adr
  obtain⟨⟨tx,hx⟩,hk'⟩:=hV.at hrs
  have hxm:x∈xs:=by
   have h:x∈xs.drop i:=by rw[hrs];simp
   exact List.mem_of_mem_drop h
  have hx256:=hr x hxm
  have hil:i<xs.length:=by
   have h:(xs.drop i).length=(x :: rs).length:=by rw[hrs]
   simp at h;kst_all
  have n1:=apart hl hI
  have n2:=apart hl hS
  refine codeAny_builtin F.bm_entry_loop ?_
  rw[Around.under_plainId F.bm_plain_loop _]
  show wpAny _ A.in1 (pyNext (.ref I) >>= _) _ _ s
  have hA:AOk A.in1 6:=hA0.in1 (by kst_all)
  refine wpAny_bind (nextR (w:=w) (l:=[(l,_),(I,_)]) 1 hT (ag hl (ag hI ah)) (by simp[Dis,n1]) (by tbr_iter ki) (fun n t hn=>?_))
  refine gPx hA.hd [Value.int (Int.ofNat x) tx] 2 [2,17,1,0,0] ?_
  intro zM zO
  refine gQx [L[i]? = some (Value.int (Int.ofNat x) tx)] ⟨by assumption,trivial⟩ ?_
  refine ggK s (.ret (.int (.ofNat x) tx)) (fun h1 t1 D1=>?_)
  have K1:Keeps s.heap h1 [I]:=D1.keeps
  have T1:TopIn w.params h1:=D1.kt
  have I1:=D1.cK 1 I (av l (i+1) 0)
  clear D1
  have hS1:h1.get? S=some (baO (bG (xs.take i))):=K1.kq hS (by tbr_iter (Ne.symm hIS))
  refine wpAny_bind (wpAny_holding (wpAny_of_eq (rfl:asIndex (.int (.ofNat x) tx)=pure (.ofNat x)) ?_))
  refine wpAny_bind (wpAny_letGo ?_)
  refine bm_if_false (by simp only[Bool.or_eq_false_iff,decide_eq_false_iff_not,Int.ofNat_eq_natCast];kst_all) ?_
  refine wpAny_bind ?_
  show wpAny _ _ (updateBytearray S (·.push (Int.ofNat x).toNat.toUInt8)) _ _ _
  unfold updateBytearray
  refine wpAny_bind (wpAny_load hS1 ?_)
  show wpAny _ _ (update S (Obj.mapBytearray (·.push (Int.ofNat x).toNat.toUInt8)) >>= fun _=>lookBehind S) _ _ _
  refine wpAny_bind (wpAny_update hS1 ?_)
  have K2:=Keeps.update (h:=h1) (a:=S) (Obj.mapBytearray (·.push (Int.ofNat x).toNat.toUInt8))
  have hS2:(h1.update S (Obj.mapBytearray (·.push (Int.ofNat x).toNat.toUInt8))).get? S=some (baO (bG (xs.take (i+1)))):=by
   rw[Heap.get?_update_self _ hS1 rfl]
   have e1:xs.take (i+1)=xs.take i++[x]:=by
    rw[List.take_add_one]
    have:xs[i]? = some x:=by
     rw[←List.head?_drop,hrs];rfl
    rw[this];rfl
   rw[e1]
   simp[Obj.mapBytearray,bG,baO]
  refine wpAny_lookBehind hS2 ?_ ?_
  ·show (if (bG (xs.take (i+1))).size>sizeLine then some "bytearray:memory" else none)=none
   rw[if_neg]
   rw[show sizeLine=2^24 from rfl]
   simp[bG]
   omega
  ·refine wpAny_pure ⟨plainId_quiet F.bm_plain_loop _,?_⟩
   have K12:=(K1.trans K2)
   exact ih hA0 (K2.top T1 (by tbr_iter ks)) (K2.kq (K1.keep _ _ hl (by tbr_iter n1)) (by tbr_iter n2)) (K2.kq I1 (by tbr_iter hIS)) hS2 hk' (fun h3 tk3 tok K3=>H h3 tk3 tok ((K12.trans K3).mono (by kd_mem)))
theorem nj {s:Shared} {L:List Value} (hA:AOk A 10) (hT:TopIn w.params s.heap) (hl:s.heap.get? l=some (listO L e)) (hV:IntVs L xs) (hr:∀x∈xs,x<256) (hz:xs.length≤100000)
  (H:∀(h':Heap) tk' tok,Keeps s.heap h' []→R (.ok (.ret (.bytes (bG xs) tok))) ⟨h',s.gens,s.drawn,tk',s.os⟩):
  codeAny (mm w) A (.call (.builtin "bytes.__new__") ⟨[.type "bytes", .ref l],[]⟩) R s:=by
 have hlen:L.length≤2^24:=by rw[hV.1];kst_all
 refine az [(l,_)] hT (ag hl ah) (fun n t hn=>?_)
 refine gRx hA.hd 18 [1,1,1,1,1,1,1,0,1,2,1,1] ?_
 kst_p
 refine gaK (.builtin "bytes.__new__.loop" ⟨[.type "bytes", .ref n, .ref (n+1)],[]⟩) (fun h D=>?_)
 have f0:∀k,s.heap.get? (n+k)=none:=aC (Nat.le_of_eq hn)
 have g0:=D.cK 0 l (listO L e)
 kd_adr
 have⟨g1,w1⟩:=D.wK 1 n (av l 0 0)
 have⟨g2,w2⟩:=D.wK 2 (n+1) (baO #[])
 have K0:Keeps s.heap h []:=D.keeps
 refine ko hV hr hz (by kst_all) w1.kn w2.kn xs (i:=0) (hA.mono (by kst_all)) D.kt g0 g1 g2 rfl (fun h' tk' tok K=>?_)
 exact H h' tk' tok (K0.fresh K (by tbr_iter (ai (f0 0) (f0 1))))
theorem pp {s:Shared} {Q:Value→Shared→Prop} {L:List Value} (hA:AOk A 12) (hT:TopIn w.params s.heap) (hl:s.heap.get? l=some (listO L e)) (hV:IntVs L xs) (hr:∀x∈xs,x<256) (hz:xs.length≤100000)
  (H:∀(h':Heap) tk' tok,Keeps s.heap h' []→Q (.bytes (bG xs) tok) ⟨h',s.gens,s.drawn,tk',s.os⟩):wpAny (mm w) A (PySem.call (.type "bytes") [.ref l]) Q E s:=by
 refine callType_codes (Q₁:=fun obj s₁=>s₁.TypeIs obj "bytes" ∧Q obj s₁) F.bm_called (F.bm_typeCall _) F.entry_object_init ?_ fun obj s₁ h₁=>?_
 ·refine nj (hA.in1 (by kst_all)) hT hl hV hr hz (fun h' tk' tok K=>⟨PySem.W.typeIs_bytes _ _ _,H h' tk' tok K⟩)
 ·exact⟨h₁.1,F.args_object_init_2 obj _,object_init_meets F.bm_called.init.lookup F.bm_called.made (by decide) pw w A.in1 _ s₁ ⟨h₁.1,rfl,h₁.2⟩⟩
theorem AOk.subW {o:Bool→Out} (h:AOk A k) (hh:∀b,bn (o b).κ=none) (c:Nat) (e:∀b,(Nat.ble (dep (o b).κ) c && Nat.ble (uni (o b).κ) (20*c))=true) (hc:c+k'≤k):AOk (ar A (o b0).κ) k':=by
 have z:=h.subN (b0:=b0) hh c e hc
 exact⟨(bj h.hd (o b0).κ).trans (hh b0),z.dp,z.un⟩
theorem jg {s:Shared} {a b:Array UInt8} {t:Tok} (he:a=b) (H:∀tk',R (.ok (.ret (.bool false))) ⟨s.heap,s.gens,s.drawn,tk',s.os⟩):codeAny (mm w) A (.call (.builtin "bytes.__ne__") ⟨[.bytes a t, .bytes b u],[]⟩) R s:=by
 subst he
 refine aG PySem.W.FB.slot_bytes_ne (PySem.W.typeIs_bytes _ _ _) PySem.W.FB.entry_bytes_ne (PySem.W.FB.args_bytes_ne_2 _ _) (gives_bytes_ne a a t u) ?_
 have:(a.toList != a.toList)=false:=by simp
 rw[this]
 exact H s.toks
theorem iE {s:Shared} {t:Nat} (ha:Ascii x) (hl:x.length≤1000)
  (H:∀tok tk',R (.ok (.ret (.bytes (bG x) tok))) ⟨s.heap,s.gens,s.drawn,tk',s.os⟩):codeAny (mm w) A (.call (.builtin "str.encode") ⟨[.str ⟨⟨x⟩⟩ t],[]⟩) R s:=dO ha hl (H _ _)
theorem loop_b9 {s:Shared} {en:List Nat} (hA:AOk A 200) (hT:TopIn w.params s.heap) (LC:bo w kss sp 7)
  (hoc:s.heap.get? (gf 6)=some (listO Lo eo)) (hVo:IntVs Lo xs) (hk:s.heap.get? (gf 5)=some (listO Lk ek)) (hK:KidsAt s.heap Lk kss) (hs:s.heap.get? (g 14)=some (listO Ls ea)) (hW:StrVs Ls sp) (hD:Dp kss 7 0=true)
  (hlen:(laidF kss sp 7 0++en).length≤1000) (hasc:Ascii (laidF kss sp 7 0++en)) (heq:xs=laidF kss sp 7 0++en)
  (hL:s.heap.get? (g 0)=some (frame (lG w.params g en gf tl) e)) (kL:kg w (g 0)=none)
  (H:∀(h':Heap) tk',Keeps s.heap h' []→Q .next ⟨h',s.gens,s.drawn,tk',s.os⟩):
  wpAny (mm w) A (execs [au 8] (gE g)) Q E s:=by
 have iV:(laidF kss sp 7 0).length≤1000:=by simp at hlen;kst_all
 have hxl:xs.length≤100000:=by rw[heq];kst_all
 have hx256:∀x∈xs,x<256:=fun x hx=>by rw[heq] at hx;have:=hasc x hx;kst_all
 refine aF (w:=w) (l:=[((g 0),_)]) 1 hT (ag hL ah) (by kd_subs) (by kd_mem) (fun n t hn=>?_)
 refine gRx hA.hd 7 [0,0,1] ?_
 kst_p
 refine GoalX.callw (f:= .type "bytes") (pos:=[.ref (gf 6)]) (kw:=[]) (by kd_p) (fun h1 D1=>?_)
 have K1:Keeps s.heap h1 []:=D1.keeps
 refine pp (hA.subW (by kd_p) 6 (by kd_p) (by kst_all)) D1.kt (K1.kp hoc) hVo hx256 hxl (fun h2 t2 aX K2=>?_)
 have K02:Keeps s.heap h2 []:=(K1.trans K2).mono (by kd_mem)
 refine resume D1 K2 ax [((g 0),_)] 1 (ag (K02.kp hL) ah) (by kd_subs) (by kd_mem) (fun n2 hn2=>?_)
 refine gRx hA.hd 10 [0,1,1,0] ?_
 kst_p
 refine gcK (.call (.ref 173) ⟨[.int (.ofNat 0) t2, .ref (gf 5), .ref (g 14)],[]⟩) (fun h3 D3=>?_)
 have K03:Keeps s.heap h3 []:=D3.keeps
 refine LC (hA.subN (by kd_p) 6 (by kd_p) (by kst_all)) D3.kt (K03.kp hk) (hK.keep K03) (K03.kp hs) hW hD iV (fun h4 t4 jr K4=>?_)
 have K04:Keeps s.heap h4 []:=(K03.trans K4).mono (by kd_mem)
 refine resume D3 K4 ax [((g 0),_)] 1 (ag (K04.kp hL) ah) (by kd_subs) (by kd_mem) (fun n4 hn4=>?_)
 refine gRx hA.hd 5 [1] ?_
 kst_p
 refine gcK (.call (.builtin "str.__add__") ⟨[.str ⟨⟨laidF kss sp 7 0⟩⟩ jr, .str ⟨⟨en⟩⟩ (g 13)],[]⟩) (fun h5 D5=>?_)
 refine dD hlen (fun fG tk5=>?_)
 refine aD D5 ?_
 refine gRx hA.hd 3 [] ?_
 kst_p
 refine gcK (.call (.builtin "str.encode") ⟨[.str ⟨⟨laidF kss sp 7 0++en⟩⟩ fG],[]⟩) (fun h6 D6=>?_)
 refine iE hasc hlen (fun nA tk6=>?_)
 refine aD D6 ?_
 refine gRx hA.hd 3 [] ?_
 kst_p
 refine gcK (.call (.builtin "bytes.__ne__") ⟨[.bytes (bG xs) aX, .bytes (bG (laidF kss sp 7 0++en)) nA],[]⟩) (fun h7 D7=>?_)
 refine jg (by rw[heq]) (fun tk7=>?_)
 refine aD D7 ?_
 refine gRx hA.hd 0 [] ?_
 kst_p
 refine ggK s (.next) (fun h8 t8 D8=>?_)
 exact H h8 t8 D8.keeps
theorem ox {en:List Nat} {s:Shared} {es o:Nat} (hA:AOk A 200) (hT:TopIn w.params s.heap)
  (hoc:s.heap.get? (gf 6)=some (listO Lo eo)) (hVo:IntVs Lo (o :: rs)) (hb:∀x∈o :: rs,x<2^32) (hm:s.heap.get? (g 15)=some (listO Lm es)) (hml:Lm.length≤100) (km:kg w (g 15)=none) (nom:(gf 6)≠(g 15))
  (hL:s.heap.get? (g 0)=some (frame (lG w.params g en gf tl) e)) (kL:kg w (g 0)=none)
  (H:∀(h':Heap) tk' tok,Keeps s.heap h' [(g 15)]→h'.get? (g 15)=some (listO (Lm++[.int (.ofNat (bA (b9 4294967295 (o :: rs)) 32 0 0)) tok]) (es+1))→Q .next ⟨h',s.gens,s.drawn,tk',s.os⟩):
  wpAny (mm w) A (execs [au 9] (gE g)) Q E s:=by
 have⟨zhm_hL,zhm_hL'⟩:=ap2 hm hL
 have hml24:Lm.length≤2^24:=by kst_all
 refine aF (w:=w) (l:=[((g 0),_),((g 15),_)]) 1 hT (ag hL (ag hm ah)) (by kd_subs) (by tbr_iter km) (fun n t hn=>?_)
 refine gRx hA.hd 15 [1,2,2,2,2,0,1,0] ?_
 kst_p
 refine gcK (.call (.ref 180) ⟨[.ref (gf 6)],[]⟩) (fun h1 D1=>?_)
 have K1:Keeps s.heap h1 [(g 15)]:=D1.keeps
 have g0:=D1.cK 0 (g 0) (frame (lG w.params g en gf tl) e)
 kd_adr
 have⟨g1,w1⟩:=D1.wK 1 (g 15) (listO Lm es)
 refine law_sum (hA.subN (by kd_p) 6 (by kd_p) (by kst_all)) D1.kt (K1.kq hoc (by tbr_iter nom)) hVo hb (fun h2 t2 aX K2=>?_)
 refine resume D1 K2 ax [((g 0),_),((g 15),_)] 1 (ag (K2.kp g0) (ag (K2.kp g1) ah)) (by kd_subs) (by tbr_iter w1) (fun n2 hn2=>?_)
 refine gPx hA.hd [] 4 [19,1,0,0] ?_
 intro zM zO
 refine gQx [Lm.length≤2^24] ⟨by assumption,trivial⟩ ?_
 refine ggK s (.next) (fun h8 t8 D8=>?_)
 exact H h8 t8 aX D8.keeps (D8.xK 1)
theorem esc_len (hk:k<5) (hx:x∈wordsL):(esc k x).length≤6:=by
 have h:(List.range 5).all (fun k=>wordsL.all fun x=>decide ((esc k x).length≤6))=true:=by decide +kernel
 have:=List.all_eq_true.mp (List.all_eq_true.mp h k (by first | kd_facts | simp[hk])) x hx
 simpa using this
theorem fJ {s:Shared} {a:Int} {t:Tok} {Q:Value→Shared→Prop} (ha:a.natAbs.log2<1920) (H:∀tx tok tk',tx=Str.ofString (toString a)→Q (.str tx tok) ⟨s.heap,s.gens,s.drawn,tk',s.os⟩):wpAny (model prog w) A (PySem.call (.type "str") [.int a t]) Q E s:=
 P.str_of_int ha (H _ _ _ rfl)
theorem lT {s:Shared} {x y:Str} {t:Tok} (he:x=y) (H:∀tk',R (.ok (.ret (.bool false))) ⟨s.heap,s.gens,s.drawn,tk',s.os⟩):codeAny (mm w) A (.call (.builtin "str.__ne__") ⟨[.str x t, .str y u],[]⟩) R s:=by
 subst he
 refine aG F.slot_str_ne (typeIs_str _ _ _) F.entry_str_ne (F.args_str_ne_2 _ _) (gives_str_ne x x t u) ?_
 have:(x.cps.toList != x.cps.toList)=false:=by simp
 rw[this]
 exact H s.toks
noncomputable def qTellT:Str:=⟨#[95,84,101,108,108,97,98,108,101,46,116,101,108,108,46,60,108,111,99,97,108,115,62,46]⟩
theorem ov {en:List Nat} {s:Shared} {cw eod esp p1:Nat} {x0 y1 xs:List Nat} {u1 u2 s0 s2 s3 s4 s5 s6:Str} (hA:AOk A 200) (hT:TopIn w.params s.heap) (hk5:hk<5) (hx0:x0∈wordsL)
  (hc:s.heap.get? (gf 8)=some (instO 131 d)) (hX:TapeX w.params s.heap tape (escRef hk) (gf 6) dd wf cw co ct c2x k3 k4 k5 kc fd vc rc) (hnd:dd≠d) (hd:s.heap.get? d=some (tellD w.params k1 k2 tape off to)) (hoc:s.heap.get? (gf 6)=some (listO Lo eo)) (hdN:kg w d=none) (hoN:kg w (gf 6)=none) (hLo:Lo.length=off) (hoff:off≤20000)
  (ho:s.heap.get? (g 11)=some (listO [.str ⟨⟨x0⟩⟩ p0, .str u1 p1, .str u2 p2] eod)) (hsp:s.heap.get? (g 14)=some (listO [.str s0 q0, .str ⟨⟨esc hk x0⟩⟩ q1, .str s2 q2, .str s3 q3, .str s4 q4, .str s5 q5, .str s6 q6] esp)) (nao:(g 11)≠(gf 6)) (nas:(g 14)≠(gf 6))
  (hL:s.heap.get? (g 0)=some (frame (lG w.params g en gf tl) e)) (kL:kg w (g 0)=none)
  (H:∀(h':Heap) tk',Keeps s.heap h' [d,(gf 6)]→Q .next ⟨h',s.gens,s.drawn,tk',s.os⟩):
  wpAny (mm w) A (execs [au 10] (gE g)) Q E s:=by
 have⟨zhc_hL,zhc_hL'⟩:=ap2 hc hL
 have⟨zhd_hL,zhd_hL'⟩:=ap2 hd hL
 have⟨zho_hL,zho_hL'⟩:=ap2 ho hL
 have⟨zhsp_hL,zhsp_hL'⟩:=ap2 hsp hL
 have⟨zhc_hd,zhc_hd'⟩:=ap2 hc hd
 have⟨zhd_ho,zhd_ho'⟩:=ap2 hd ho
 have⟨zhd_hsp,zhd_hsp'⟩:=ap2 hd hsp
 have⟨zhd_hL,zhd_hL'⟩:=ap2 hd hL
 have⟨zhoc_hc,zhoc_hc'⟩:=ap2 hoc hc
 have⟨zhoc_hd,zhoc_hd'⟩:=ap2 hoc hd
 have⟨zhoc_hL,zhoc_hL'⟩:=ap2 hoc hL
 refine aF (w:=w) (l:=[((g 11),_),((g 14),_),((g 0),_),((gf 8),_),(d,_),((gf 6),_)]) 4 hT (ag ho (ag hsp (ag hL (ag hc (ag hd (ag hoc ah)))))) (by kd_subs) (by tbr_iter (ai hdN hoN)) (fun n t hn=>?_)
 refine gRx hA.hd 34 [3,4,0,0,0,4,0,0,0,4,0,0,0,0,4,5,3,1,1,1,0,1,1,0] ?_
 kst_p
 refine gcK (.call (.ref 107) ⟨[.ref (gf 8), .str ⟨⟨x0⟩⟩ p0],[]⟩) (fun h1 D1=>?_)
 have K1:Keeps s.heap h1 [d,(gf 6)]:=D1.keeps
 have g0:=D1.cK 0 (g 11) (listO [.str ⟨⟨x0⟩⟩ p0, .str u1 p1, .str u2 p2] eod)
 have g1:=D1.cK 1 (g 14) (listO [.str s0 q0, .str ⟨⟨esc hk x0⟩⟩ q1, .str s2 q2, .str s3 q3, .str s4 q4, .str s5 q5, .str s6 q6] esp)
 have g2:=D1.cK 2 (g 0) (frame (lG w.params g en gf tl) e)
 have g3:=D1.cK 3 (gf 8) (instO 131 d)
 kd_adr
 have⟨g4,w4⟩:=D1.wK 4 d (tellD w.params k1 k2 tape off to)
 have⟨g5,w5⟩:=D1.wK 5 (gf 6) (listO Lo eo)
 have kk:=fun {a o} (q:s.heap.get? a=some o) (q1:(o.cls != (tellD w.params k1 k2 tape off to).cls)=true) (q2:(o.cls != (listO Lo eo).cls)=true)=>K1.keep a o q (by tbr_iter (ai (apart q hd q1) (apart q hoc q2)))
 have X1:TapeX w.params h1 tape (escRef hk) (gf 6) dd wf cw co ct c2x k3 k4 k5 kc fd vc rc:=⟨kk hX.tape (by kd_p) (by kd_p),K1.kq hX.dd (by tbr_iter (ai hnd (apart hX.dd hoc))),kk hX.wf (by kd_p) (by kd_p),kk hX.cw (by kd_p) (by kd_p),kk hX.co (by kd_p) (by kd_p),kk hX.c2 (by kd_p) (by kd_p)⟩
 refine fj hk5 hx0 (hA.subN (by kd_p) 6 (by kd_p) (by kst_all)) D1.kt g3 g4 hdN hnd X1 g5 hoN (by kst_all) (by kst_all) (fun h2 t2 aX to2 L2 e2 K2 d2 o2 V2=>?_)
 have m0:=K2.kq g0 (by tbr_iter (ai zhd_ho' nao))
 have m1:=K2.kq g1 (by tbr_iter (ai zhd_hsp' nas))
 have m2:=K2.kq g2 (by tbr_iter (ai zhd_hL' zhoc_hL'))
 have m3:=K2.kq g3 (by tbr_iter (ai zhc_hd zhoc_hc'))
 have elen:Lo.length+L2.length=off+(esc hk x0).length:=by rw[hLo,V2.1]
 have hll:(Lo++L2).length=off+(esc hk x0).length:=by rw[List.length_append];exact elen
 refine resume D1 K2 (an w4 (an w5 ax)) [((g 11),_),((g 14),_),((g 0),_),((gf 8),_),(d,_),((gf 6),_)] 4 (ag m0 (ag m1 (ag m2 (ag m3 (ag d2 (ag o2 ah)))))) (by kd_subs) (by tbr_iter (ai w4 w5)) (fun n2 hn2=>?_)
 have hes:(esc hk x0).length<2^63∧off+(esc hk x0).length<2^63:=by have:=esc_len hk5 hx0;kst_all
 refine gPx hA.hd [Value.int (Int.ofNat (esc hk x0).length) 0] 54 [0,0,3,2,2,2,0,2,2,26,0,0,0,13,0,0,0,0,0,3,4,0,0,0,4,0,0,0,4,0,0,0,0,4,5,0,0,0,0,7,7] ?_
 intro zM zO
 refine gQx [¬(esc hk x0).length≠(esc hk x0).length,(esc hk x0).length=(esc hk x0).length,(esc hk x0).length<2^63] ⟨by kst_all,by rfl,by kst_all,trivial⟩ ?_
 refine GoalX.enter (c:= .func (mAt 12 2).2.1 (fenv (mAt 12 2) qTellT 114 113 n2)) (by kd_p) (fun h D=>noLimit D.kt) (ir hA 4 (by kd_p) (by kst_all)) ?_
 refine gRx hA.hd 25 [7,4,0,0,0,0,4,0,0,0,4,4,0,5] ?_
 kst_p
 refine GoalX.callw (f:= .type "str") (pos:=[.int (.ofNat (off+(esc hk x0).length)) to2]) (kw:=[]) (by kd_p) (fun h3 D3=>?_)
 have h1920:(Int.ofNat (off+(esc hk x0).length)).natAbs.log2<1920:=by
  have h0:(Int.ofNat (off+(esc hk x0).length)).natAbs=off+(esc hk x0).length:=rfl
  rw[h0]
  by_cases q:off+(esc hk x0).length=0
  ·rw[q];decide
  ·exact (Nat.log2_lt q).mpr (Nat.lt_of_lt_of_le hes.2 (Nat.pow_le_pow_right (by decide) (by decide)))
 refine fJ h1920 (fun tx eW tk3 htx=>?_)
 refine aD D3 ?_
 refine gPx hA.hd [Value.int (Int.ofNat (off+(esc hk x0).length)) 0] 13 [0,0,0,0,3,26,5,0,0] ?_
 intro zM zO
 refine gQx [(Lo++L2).length=off+(esc hk x0).length,off+(esc hk x0).length<2^63] ⟨by assumption,by kst_all,trivial⟩ ?_
 refine GoalX.callw (f:= .type "str") (pos:=[.int (.ofNat (off+(esc hk x0).length)) (tk3+1)]) (kw:=[]) (by kd_p) (fun h4 D4=>?_)
 refine fJ h1920 (fun ty jr tk4 hty=>?_)
 refine aD D4 ?_
 refine gRx hA.hd 3 [] ?_
 kst_p
 refine gcK (.call (.builtin "str.__ne__") ⟨[.str tx eW, .str ty jr],[]⟩) (fun h7 D7=>?_)
 refine lT (htx.trans hty.symm) (fun tk7=>?_)
 refine aD D7 ?_
 refine gRx hA.hd 0 [] ?_
 kst_p
 refine ggK s (.next) (fun h8 t8 D8=>?_)
 exact H h8 t8 D8.keeps
theorem jI {s:Shared} {es:Nat} {en:List Nat} {Lm:List Value}  (hA:AOk A 200) (hT:TopIn w.params s.heap) (LC:bo w kss sp 7)
  (h4:s.heap.get? (g 4)=some (cellO (.ref bl))) (h8:s.heap.get? (g 8)=some (cellO (.ref at'))) (ht:s.heap.get? at'=some (listO [] et)) (hb:s.heap.get? bl=some (listO Lb eb)) (hK:KidsAt s.heap Lb kss) (hs:s.heap.get? (g 14)=some (listO Ls ea)) (hW:StrVs Ls sp) (hm:s.heap.get? (g 15)=some (listO [.int (.ofNat s0) u0] es)) (hD:Dp kss 7 0=true)
  (hlen:(laidF kss sp 7 0++en).length≤1000) (hasc:Ascii (laidF kss sp 7 0++en)) (hs0:s0<2^32) (hL:s.heap.get? (g 0)=some (frame (lG w.params g en gf []) e)) (kL:kg w (g 0)=none)
  (H:∀(h':Heap) tk' j' t',Keeps s.heap h' [(g 0)]→h'.get? (g 0)=some (frame (lG w.params g en gf (ent w.params aV j' (.int (.ofNat (s0^^^4294967295^^^al 4294967295 (laidF kss sp 7 0++en))) t') :: [])) (e+1))→Q .next ⟨h',s.gens,s.drawn,tk',s.os⟩):
  wpAny (mm w) A (execs [au 11] (gE g)) Q E s:=by
 have iV:(laidF kss sp 7 0).length≤1000:=by simp at hlen;kst_all
 have⟨zh4_hL,zh4_hL'⟩:=ap2 h4 hL
 have⟨zh8_hL,zh8_hL'⟩:=ap2 h8 hL
 have⟨zht_hL,zht_hL'⟩:=ap2 ht hL
 have⟨zhm_hL,zhm_hL'⟩:=ap2 hm hL
 have⟨zh4_ht,zh4_ht'⟩:=ap2 h4 ht
 have⟨zh4_hm,zh4_hm'⟩:=ap2 h4 hm
 have⟨zh8_ht,zh8_ht'⟩:=ap2 h8 ht
 have⟨zh8_hm,zh8_hm'⟩:=ap2 h8 hm
 have hs64:s0<2^64∧4294967295<2^64:=by kst_all
 refine aF (w:=w) (l:=[((g 8),_),(at',_),((g 15),_),((g 4),_),((g 0),_)]) 4 hT (ag h8 (ag ht (ag hm (ag h4 (ag hL ah))))) (by kd_subs) (by tbr_iter kL) (fun n t hn=>?_)
 refine gPx hA.hd [] 45 [1,2,2,0,2,0,2,2,5,3,3,3,0,3,3,6,0,0,0,0,0,4,5,0] ?_
 intro zM zO
 refine gQx [] trivial ?_
 refine gcK (.call (.ref 173) ⟨[.int (.ofNat 0) (t+6), .ref bl, .ref (g 14)],[]⟩) (fun h3 D3=>?_)
 have K03:Keeps s.heap h3 [(g 0)]:=D3.keeps
 kd_adr
 have⟨g4,w4⟩:=D3.wK 4 (g 0) (frame (lG w.params g en gf []) e)
 have hB2:KidsAt h3 Lb kss:=KidsAt.keepL K03 hK (fun i b e=>by
  obtain⟨b',Ly,ey,q1,q2,_⟩:=hK.2 i _ (hK.row e)
  rw[q1] at e;cases e;simp;exact apart q2 hL)
 refine LC (hA.subN (by kd_p) 6 (by kd_p) (by kst_all)) D3.kt (K03.kq hb (by tbr_iter (apart hb hL))) hB2 (K03.kq hs (by tbr_iter (apart hs hL))) hW hD iV (fun h4' t4 jr K4=>?_)
 refine resume D3 K4 ax [((g 0),_)] 0 (ag (K4.kp g4) ah) (by kd_subs) (by tbr_iter w4) (fun n4 hn4=>?_)
 refine gRx hA.hd 5 [1] ?_
 kst_p
 refine gcK (.call (.builtin "str.__add__") ⟨[.str ⟨⟨laidF kss sp 7 0⟩⟩ jr, .str ⟨⟨en⟩⟩ (g 13)],[]⟩) (fun h5 D5=>?_)
 refine dD hlen (fun fG tk5=>?_)
 refine aD D5 ?_
 refine gRx hA.hd 2 [0] ?_
 kst_p
 refine gcK (.call (.ref 187) ⟨[.int (.ofNat 4294967295) (t+5), .str ⟨⟨laidF kss sp 7 0++en⟩⟩ fG],[]⟩) (fun h6 D6=>?_)
 kd_adr
 have⟨g6,w6⟩:=D6.wK 0 (g 0) (frame (lG w.params g en gf []) e)
 refine bK (hA.subN (by kd_p) 6 (by kd_p) (by kst_all)) D6.kt (by decide) hasc (fun h7 t7 tok7 K7=>?_)
 have oL:s0^^^4294967295<2^64∧al 4294967295 (laidF kss sp 7 0++en)<2^64:=by
  have h1:s0^^^4294967295<2^32:=Nat.xor_lt_two_pow hs0 (by decide)
  have h2:=bw (laidF kss sp 7 0++en) (p:=4294967295) (by decide)
  omega
 refine resume D6 K7 ax [((g 0),_)] 0 (ag (K7.kp g6) ah) (by kd_subs) (by tbr_iter w6) (fun n7 hn7=>?_)
 refine gPx hA.hd [] 10 [6,0,0,0,1,1] ?_
 intro zM zO
 refine gQx [] trivial ?_
 refine ggK s (.next) (fun h8' t8 D8=>?_)
 exact H h8' t8 (t7+1) t7 D8.keeps (D8.xK 0)
theorem je {above:List Nat} {kss ws:List (List Nat)} {cs:List Nat}:∀(f nd p:Nat) (way:List Nat),p<2^32→(bu above kss ws cs f nd p way).1<2^32
 | 0,_,_,_,h=>h
 | f+1,nd,p,way,h=>by
  unfold bu
  split
  ·exact h
  ·exact je f _ _ _ (cR _ h)
theorem dU:changeF above kss ws cs<2^32:=by
 unfold changeF
 dsimp only
 split
 ·exact je _ _ _ _ (Nat.xor_lt_two_pow (bw _ (by decide)) (bw _ (by decide)))
 ·decide
theorem jH {s:Shared} {es b tb:Nat} {en:List Nat} (hA:AOk A 220) (hT:TopIn w.params s.heap) (LC:bo w kss sp 7)
  (h4:s.heap.get? (g 4)=some (cellO (.ref bl))) (h7:s.heap.get? (g 7)=some (cellO (.int (.ofNat 1) to))) (h8:s.heap.get? (g 8)=some (cellO (.ref at'))) (ht:s.heap.get? at'=some (listO [.int (.ofNat a) ta] et)) (ha:s.heap.get? (g 9)=some (listO La eaa)) (hVa:IntVs La above) (hb:s.heap.get? bl=some (listO Lb eb)) (hK:KidsAt s.heap Lb kss) (hs:s.heap.get? (g 14)=some (listO Ls ea)) (hW:StrVs Ls sp) (hm:s.heap.get? (g 15)=some (listO [.int (.ofNat s0) u0, .int (.ofNat s1) u1] es))
  (bX:above.length=7∧kss.length=7) (hup:∀i,0<i→i<7→above.getD i 0<i) (hks:∀i,(kss.getD i []).length≤50) (hDp:∀i,i<7→(kss.getD i []).all (fun x=>Dp kss 7 x && decide (x<7))=true) (hlen:∀x,x<7→(laidF kss sp 7 x).length≤400) (hasc:∀x,x<7→Ascii (laidF kss sp 7 x))
  (hne:at'≠(g 9)) (hrow:∀(i:Nat) (b:Addr),Lb[i]? = some (Value.ref b)→at'≠b∧(g 9)≠b) (hm7:a<7) (hib:Lb[a]? = some (.ref ab)) (hab:s.heap.get? ab=some (listO [.int (.ofNat x1) t1, .int (.ofNat x2) t2] ebx)) (hkm:kss.getD a []=[x1,x2]) (henl:en.length≤100)
  (hs0:s0<2^32) (hs1:s1<2^32) (hL:s.heap.get? (g 0)=some (frame (lG w.params g en gf (ent w.params aV cH (dY) :: [])) e)) (kL:kg w (g 0)=none)
  (H:∀(h':Heap) tk' (j':Nat) t' t'',Keeps s.heap h' [(g 0)]→h'.get? (g 0)=some (frame (lG w.params g en gf (ent w.params aV cH (.int (.ofNat ((al (changeF above kss sp [a]) (List.replicate en.length 0)^^^s0)^^^s1)) t') :: ent w.params ch j' (.int (.ofNat 1) t'') :: [])) (e+1))→Q .next ⟨h',s.gens,s.drawn,tk',s.os⟩):
  wpAny (mm w) A (execs [au 11] (gE g)) Q E s:=by
 have⟨zh4_hL,zh4_hL'⟩:=ap2 h4 hL
 have⟨zh7_hL,zh7_hL'⟩:=ap2 h7 hL
 have⟨zh8_hL,zh8_hL'⟩:=ap2 h8 hL
 have⟨zht_hL,zht_hL'⟩:=ap2 ht hL
 have⟨zhm_hL,zhm_hL'⟩:=ap2 hm hL
 have⟨zha_hL,zha_hL'⟩:=ap2 ha hL
 have⟨zhb_hL,zhb_hL'⟩:=ap2 hb hL
 have⟨zhs_hL,zhs_hL'⟩:=ap2 hs hL
 have⟨zhab_hL,zhab_hL'⟩:=ap2 hab hL
 have⟨zh4_ht,zh4_ht'⟩:=ap2 h4 ht
 have⟨zh4_hm,zh4_hm'⟩:=ap2 h4 hm
 have⟨zh7_ht,zh7_ht'⟩:=ap2 h7 ht
 have⟨zh7_hm,zh7_hm'⟩:=ap2 h7 hm
 have⟨zh8_ht,zh8_ht'⟩:=ap2 h8 ht
 have⟨zh8_hm,zh8_hm'⟩:=ap2 h8 hm
 refine aF (w:=w) (l:=[((g 8),_),(at',_),((g 4),_),((g 0),_)]) 3 hT (ag h8 (ag ht (ag h4 (ag hL ah)))) (by kd_subs) (by tbr_iter kL) (fun n t hn=>?_)
 refine gRx hA.hd 32 [1,2,2,0,2,0,2,2,0,0,1,4,3,4,0] ?_
 kst_p
 refine gcK (.call (.ref 192) ⟨[.ref at', .ref (g 9), .ref bl, .ref (g 14)],[]⟩) (fun h1 D1=>?_)
 have K1:Keeps s.heap h1 [(g 0)]:=D1.keeps
 kd_adr
 have⟨g3,w3⟩:=D1.wK 3 (g 0) (frame (lG w.params g en gf (ent w.params aV cH (dY) :: [])) e)
 have hB1:KidsAt h1 Lb kss:=KidsAt.keepL K1 hK (fun i b e=>by
  obtain⟨b',Ly,ey,q1,q2,_⟩:=hK.2 i _ (hK.row e)
  rw[q1] at e;cases e;simp;exact apart q2 hL)
 refine fs (b:=0) (tb:=0) LC (hA.subN (by kd_p) 6 (by kd_p) (by kst_all)) D1.kt (K1.kq ht (by tbr_iter zht_hL)) (K1.kq ha (by tbr_iter zha_hL)) hVa (K1.kq hb (by tbr_iter zhb_hL)) hB1 (K1.kq hs (by tbr_iter zhs_hL)) hW bX hup hks hDp hlen hasc hne hrow hm7 hib (K1.kq hab (by tbr_iter zhab_hL)) hkm (fun h2 tk2 aX K2=>?_)
 have hcl:changeF above kss sp [a]<2^32:=dU
 refine resume D1 K2 ax [((g 0),_)] 0 (ag (K2.kp g3) ah) (by kd_subs) (by tbr_iter w3) (fun n2 hn2=>?_)
 refine gPx hA.hd [Value.int (Int.ofNat en.length) 0] 25 [0,0,0,0,0,1,26,0,0,0,0] ?_
 intro zM zO
 refine gQx [en.length=en.length,en.length<2^63] ⟨by rfl,by kst_all,trivial⟩ ?_
 refine gcK (.call (.builtin "str.__mul__") ⟨[.str ⟨⟨[0]⟩⟩ (tk2+1), .int (.ofNat en.length) (tk2+3)],[]⟩) (fun h3 D3=>?_)
 refine eh (by kst_all) (fun eW tk3=>?_)
 refine aD D3 ?_
 generalize changeF above kss sp [a]=cv at *
 refine gRx hA.hd 2 [0] ?_
 kst_p
 refine gcK (.call (.ref 187) ⟨[.int (.ofNat cv) aX, .str ⟨⟨List.replicate en.length 0⟩⟩ eW],[]⟩) (fun h4' D4=>?_)
 kd_adr
 have⟨g4,w4⟩:=D4.wK 0 (g 0) (frame (lG w.params g en gf (ent w.params aV cH (dY) :: [])) e)
 have K4:Keeps s.heap h4' [(g 0)]:=D4.keeps
 refine bK (hA.subN (by kd_p) 6 (by kd_p) (by kst_all)) D4.kt hcl (cO _) (fun h5 tk5 fG K5=>?_)
 have K05:Keeps s.heap h5 [(g 0)]:=(K4.trans K5).mono (by kd_mem)
 have hx0:al cv (List.replicate en.length 0)<2^32:=bw _ hcl
 generalize al cv (List.replicate en.length 0)=pv at *
 have y0:pv<2^32:=hx0
 have y1:(pv^^^s0)<2^32:=Nat.xor_lt_two_pow y0 hs0
 have y2:((pv^^^s0)^^^s1)<2^32:=Nat.xor_lt_two_pow y1 hs1
 have oL:pv<2^64∧s0<2^64∧(pv^^^s0)<2^64∧s1<2^64:=by kst_all
 refine resume D4 K5 ax [((g 7),_),((g 15),_),((g 0),_)] 2 (ag (K05.kq h7 (by tbr_iter zh7_hL)) (ag (K05.kq hm (by tbr_iter zhm_hL)) (ag (K5.kp g4) ah))) (by kd_subs) (by tbr_iter w4) (fun n5 hn5=>?_)
 refine gPx hA.hd [] 193 [3,3,0,0,1,0,0,0,4,4,0,4,4,4,4,0,4,4,4,4,5,0,5,0,5,5,5,5,5,5,5,5,3,3,3,3,1,0,3,0,3,3,2,2,2,0,2,2,6,0,0,0,3,3,5,0,5,5,5,5,5,5,5,5,3,3,3,3,1,0,3,0,3,3,2,2,2,0,2,2,6,0,0,0,3,3,5,0,5,5,5,5,7] ?_
 intro zM zO
 refine gQx [] trivial ?_
 refine ggK s (.next) (fun h8' t8 D8=>?_)
 exact H h8' t8 (tk5+6) (tk5+13) (tk5+10) D8.keeps (D8.xK 2)
theorem jG {s:Shared} {es b tb:Nat} {en:List Nat} (hA:AOk A 220) (hT:TopIn w.params s.heap) (LC:bo w kss sp 7)
  (h4:s.heap.get? (g 4)=some (cellO (.ref bl))) (h7:s.heap.get? (g 7)=some (cellO (.int (.ofNat 2) to))) (h8:s.heap.get? (g 8)=some (cellO (.ref at'))) (ht:s.heap.get? at'=some (listO [.int (.ofNat a) ta] et)) (ha:s.heap.get? (g 9)=some (listO La eaa)) (hVa:IntVs La above) (hb:s.heap.get? bl=some (listO Lb eb)) (hK:KidsAt s.heap Lb kss) (hs:s.heap.get? (g 14)=some (listO Ls ea)) (hW:StrVs Ls sp) (hm:s.heap.get? (g 15)=some (listO [.int (.ofNat s0) u0, .int (.ofNat s1) u1, .int (.ofNat s2) u2] es))
  (bX:above.length=7∧kss.length=7) (hup:∀i,0<i→i<7→above.getD i 0<i) (hks:∀i,(kss.getD i []).length≤50) (hDp:∀i,i<7→(kss.getD i []).all (fun x=>Dp kss 7 x && decide (x<7))=true) (hlen:∀x,x<7→(laidF kss sp 7 x).length≤400) (hasc:∀x,x<7→Ascii (laidF kss sp 7 x))
  (hne:at'≠(g 9)) (hrow:∀(i:Nat) (b:Addr),Lb[i]? = some (Value.ref b)→at'≠b∧(g 9)≠b) (hm7:a<7) (hib:Lb[a]? = some (.ref ab)) (hab:s.heap.get? ab=some (listO [.int (.ofNat x1) t1, .int (.ofNat x2) t2] ebx)) (hkm:kss.getD a []=[x1,x2]) (henl:en.length≤100)
  (hs0:s0<2^32) (hs1:s1<2^32) (hs2:s2<2^32) (hL:s.heap.get? (g 0)=some (frame (lG w.params g en gf (ent w.params aV cH (dY) :: ent w.params ch dx (eU) :: [])) e)) (kL:kg w (g 0)=none)
  (H:∀(h':Heap) tk' (j':Nat) t' t'',Keeps s.heap h' [(g 0)]→h'.get? (g 0)=some (frame (lG w.params g en gf (ent w.params aV cH (.int (.ofNat (((al (changeF above kss sp [a]) (List.replicate en.length 0)^^^s0)^^^0)^^^s2)) t') :: ent w.params ch dx (.int (.ofNat 2) t'') :: [])) e)→Q .next ⟨h',s.gens,s.drawn,tk',s.os⟩):
  wpAny (mm w) A (execs [au 11] (gE g)) Q E s:=by
 have⟨zh4_hL,zh4_hL'⟩:=ap2 h4 hL
 have⟨zh7_hL,zh7_hL'⟩:=ap2 h7 hL
 have⟨zh8_hL,zh8_hL'⟩:=ap2 h8 hL
 have⟨zht_hL,zht_hL'⟩:=ap2 ht hL
 have⟨zhm_hL,zhm_hL'⟩:=ap2 hm hL
 have⟨zha_hL,zha_hL'⟩:=ap2 ha hL
 have⟨zhb_hL,zhb_hL'⟩:=ap2 hb hL
 have⟨zhs_hL,zhs_hL'⟩:=ap2 hs hL
 have⟨zhab_hL,zhab_hL'⟩:=ap2 hab hL
 have⟨zh4_ht,zh4_ht'⟩:=ap2 h4 ht
 have⟨zh4_hm,zh4_hm'⟩:=ap2 h4 hm
 have⟨zh7_ht,zh7_ht'⟩:=ap2 h7 ht
 have⟨zh7_hm,zh7_hm'⟩:=ap2 h7 hm
 have⟨zh8_ht,zh8_ht'⟩:=ap2 h8 ht
 have⟨zh8_hm,zh8_hm'⟩:=ap2 h8 hm
 refine aF (w:=w) (l:=[((g 8),_),(at',_),((g 4),_),((g 0),_)]) 3 hT (ag h8 (ag ht (ag h4 (ag hL ah)))) (by kd_subs) (by tbr_iter kL) (fun n t hn=>?_)
 refine gRx hA.hd 32 [1,2,2,0,2,0,2,2,0,0,1,4,3,4,0] ?_
 kst_p
 refine gcK (.call (.ref 192) ⟨[.ref at', .ref (g 9), .ref bl, .ref (g 14)],[]⟩) (fun h1 D1=>?_)
 have K1:Keeps s.heap h1 [(g 0)]:=D1.keeps
 kd_adr
 have⟨g3,w3⟩:=D1.wK 3 (g 0) (frame (lG w.params g en gf (ent w.params aV cH (dY) :: ent w.params ch dx (eU) :: [])) e)
 have hB1:KidsAt h1 Lb kss:=KidsAt.keepL K1 hK (fun i b e=>by
  obtain⟨b',Ly,ey,q1,q2,_⟩:=hK.2 i _ (hK.row e)
  rw[q1] at e;cases e;simp;exact apart q2 hL)
 refine fs (b:=0) (tb:=0) LC (hA.subN (by kd_p) 6 (by kd_p) (by kst_all)) D1.kt (K1.kq ht (by tbr_iter zht_hL)) (K1.kq ha (by tbr_iter zha_hL)) hVa (K1.kq hb (by tbr_iter zhb_hL)) hB1 (K1.kq hs (by tbr_iter zhs_hL)) hW bX hup hks hDp hlen hasc hne hrow hm7 hib (K1.kq hab (by tbr_iter zhab_hL)) hkm (fun h2 tk2 aX K2=>?_)
 have hcl:changeF above kss sp [a]<2^32:=dU
 refine resume D1 K2 ax [((g 0),_)] 0 (ag (K2.kp g3) ah) (by kd_subs) (by tbr_iter w3) (fun n2 hn2=>?_)
 refine gPx hA.hd [Value.int (Int.ofNat en.length) 0] 25 [0,0,0,0,0,1,26,0,0,0,0] ?_
 intro zM zO
 refine gQx [en.length=en.length,en.length<2^63] ⟨by rfl,by kst_all,trivial⟩ ?_
 refine gcK (.call (.builtin "str.__mul__") ⟨[.str ⟨⟨[0]⟩⟩ (tk2+1), .int (.ofNat en.length) (tk2+3)],[]⟩) (fun h3 D3=>?_)
 refine eh (by kst_all) (fun eW tk3=>?_)
 refine aD D3 ?_
 generalize changeF above kss sp [a]=cv at *
 refine gRx hA.hd 2 [0] ?_
 kst_p
 refine gcK (.call (.ref 187) ⟨[.int (.ofNat cv) aX, .str ⟨⟨List.replicate en.length 0⟩⟩ eW],[]⟩) (fun h4' D4=>?_)
 kd_adr
 have⟨g4,w4⟩:=D4.wK 0 (g 0) (frame (lG w.params g en gf (ent w.params aV cH (dY) :: ent w.params ch dx (eU) :: [])) e)
 have K4:Keeps s.heap h4' [(g 0)]:=D4.keeps
 refine bK (hA.subN (by kd_p) 6 (by kd_p) (by kst_all)) D4.kt hcl (cO _) (fun h5 tk5 fG K5=>?_)
 have K05:Keeps s.heap h5 [(g 0)]:=(K4.trans K5).mono (by kd_mem)
 have hx0:al cv (List.replicate en.length 0)<2^32:=bw _ hcl
 generalize al cv (List.replicate en.length 0)=pv at *
 have y0:pv<2^32:=hx0
 have y1:(pv^^^s0)<2^32:=Nat.xor_lt_two_pow y0 hs0
 have y2:((pv^^^s0)^^^0)<2^32:=Nat.xor_lt_two_pow y1 (by decide)
 have y3:(((pv^^^s0)^^^0)^^^s2)<2^32:=Nat.xor_lt_two_pow y2 hs2
 have oL:pv<2^64∧s0<2^64∧(pv^^^s0)<2^64∧0<2^64∧((pv^^^s0)^^^0)<2^64∧s2<2^64:=by kst_all
 refine resume D4 K5 ax [((g 7),_),((g 15),_),((g 0),_)] 2 (ag (K05.kq h7 (by tbr_iter zh7_hL)) (ag (K05.kq hm (by tbr_iter zhm_hL)) (ag (K5.kp g4) ah))) (by kd_subs) (by tbr_iter w4) (fun n5 hn5=>?_)
 refine gPx hA.hd [] 243 [3,3,0,0,1,0,0,0,4,4,0,4,4,4,4,0,4,4,4,4,5,0,5,0,5,5,5,5,5,5,5,5,3,3,3,3,1,0,3,0,3,3,2,2,2,0,2,2,6,0,0,0,3,3,5,0,5,5,5,5,5,5,5,5,3,3,3,3,1,0,3,0,6,0,0,0,3,3,5,0,5,5,5,5,5,5,5,5,3,3,3,3,1,0,3,0,3,3,2,2,2,0,2,2,6,0,0,0,3,3,5,0,5,5,5,5,7] ?_
 intro zM zO
 refine gQx [] trivial ?_
 refine ggK s (.next) (fun h8' t8 D8=>?_)
 exact H h8' t8 (tk5+6) (tk5+19) (tk5+16) D8.keeps (D8.xK 2)
theorem jF {s:Shared} {es u3:Nat} {en:List Nat} (hA:AOk A 220) (hT:TopIn w.params s.heap) (LC:bo w kss sp 7)
  (h4:s.heap.get? (g 4)=some (cellO (.ref bl))) (h7:s.heap.get? (g 7)=some (cellO (.int (.ofNat 3) to))) (h8:s.heap.get? (g 8)=some (cellO (.ref at'))) (ht:s.heap.get? at'=some (listO [.int (.ofNat a) ta, .int (.ofNat b) tb] et)) (ha:s.heap.get? (g 9)=some (listO La eaa)) (hVa:IntVs La above) (hb:s.heap.get? bl=some (listO Lb eb)) (hK:KidsAt s.heap Lb kss) (hs:s.heap.get? (g 14)=some (listO Ls ea)) (hW:StrVs Ls sp) (hm:s.heap.get? (g 15)=some (listO [.int (.ofNat s0) u0, .int (.ofNat s1) u1, .int (.ofNat s2) u2, .int (.ofNat s3) u3] es))
  (bX:above.length=7∧kss.length=7) (hup:∀i,0<i→i<7→above.getD i 0<i) (hks:∀i,(kss.getD i []).length≤50) (hDp:∀i,i<7→(kss.getD i []).all (fun x=>Dp kss 7 x && decide (x<7))=true) (hlen:∀x,x<7→(laidF kss sp 7 x).length≤400) (hasc:∀x,x<7→Ascii (laidF kss sp 7 x))
  (hne:at'≠(g 9)) (hrow:∀(i:Nat) (b:Addr),Lb[i]? = some (Value.ref b)→at'≠b∧(g 9)≠b) (mJ:a<b) (hm7:b<7) (hib:Lb[b]? = some (.ref ab)) (hab:s.heap.get? ab=some (listO [.int (.ofNat x1) t1, .int (.ofNat x2) t2] ebx)) (hkm:kss.getD b []=[x1,x2]) (henl:en.length≤100)
  (hs0:s0<2^32) (hs1:s1<2^32) (hs2:s2<2^32) (hs3:s3<2^32) (hL:s.heap.get? (g 0)=some (frame (lG w.params g en gf (ent w.params aV cH (dY) :: ent w.params ch dx (eU) :: [])) e)) (kL:kg w (g 0)=none)
  (H:∀(h':Heap) tk' (j':Nat) t' t'',Keeps s.heap h' [(g 0)]→h'.get? (g 0)=some (frame (lG w.params g en gf (ent w.params aV cH (.int (.ofNat ((((al (changeF above kss sp [a,b]) (List.replicate en.length 0)^^^s0)^^^s1)^^^s2)^^^s3)) t') :: ent w.params ch dx (.int (.ofNat 3) t'') :: [])) e)→Q .next ⟨h',s.gens,s.drawn,tk',s.os⟩):
  wpAny (mm w) A (execs [au 11] (gE g)) Q E s:=by
 have⟨zh4_hL,zh4_hL'⟩:=ap2 h4 hL
 have⟨zh7_hL,zh7_hL'⟩:=ap2 h7 hL
 have⟨zh8_hL,zh8_hL'⟩:=ap2 h8 hL
 have⟨zht_hL,zht_hL'⟩:=ap2 ht hL
 have⟨zhm_hL,zhm_hL'⟩:=ap2 hm hL
 have⟨zha_hL,zha_hL'⟩:=ap2 ha hL
 have⟨zhb_hL,zhb_hL'⟩:=ap2 hb hL
 have⟨zhs_hL,zhs_hL'⟩:=ap2 hs hL
 have⟨zhab_hL,zhab_hL'⟩:=ap2 hab hL
 have⟨zh4_ht,zh4_ht'⟩:=ap2 h4 ht
 have⟨zh4_hm,zh4_hm'⟩:=ap2 h4 hm
 have⟨zh7_ht,zh7_ht'⟩:=ap2 h7 ht
 have⟨zh7_hm,zh7_hm'⟩:=ap2 h7 hm
 have⟨zh8_ht,zh8_ht'⟩:=ap2 h8 ht
 have⟨zh8_hm,zh8_hm'⟩:=ap2 h8 hm
 refine aF (w:=w) (l:=[((g 8),_),(at',_),((g 4),_),((g 0),_)]) 3 hT (ag h8 (ag ht (ag h4 (ag hL ah)))) (by kd_subs) (by tbr_iter kL) (fun n t hn=>?_)
 refine gRx hA.hd 32 [1,2,2,0,2,0,2,2,0,0,1,4,3,4,0] ?_
 kst_p
 refine gcK (.call (.ref 192) ⟨[.ref at', .ref (g 9), .ref bl, .ref (g 14)],[]⟩) (fun h1 D1=>?_)
 have K1:Keeps s.heap h1 [(g 0)]:=D1.keeps
 kd_adr
 have⟨g3,w3⟩:=D1.wK 3 (g 0) (frame (lG w.params g en gf (ent w.params aV cH (dY) :: ent w.params ch dx (eU) :: [])) e)
 have hB1:KidsAt h1 Lb kss:=KidsAt.keepL K1 hK (fun i b e=>by
  obtain⟨b',Ly,ey,q1,q2,_⟩:=hK.2 i _ (hK.row e)
  rw[q1] at e;cases e;simp;exact apart q2 hL)
 refine iO LC (hA.subN (by kd_p) 6 (by kd_p) (by kst_all)) D1.kt (K1.kq ht (by tbr_iter zht_hL)) (K1.kq ha (by tbr_iter zha_hL)) hVa (K1.kq hb (by tbr_iter zhb_hL)) hB1 (K1.kq hs (by tbr_iter zhs_hL)) hW bX hup hks hDp hlen hasc hne hrow mJ hm7 hib (K1.kq hab (by tbr_iter zhab_hL)) hkm (fun h2 tk2 aX K2=>?_)
 have hcl:changeF above kss sp [a,b]<2^32:=dU
 refine resume D1 K2 ax [((g 0),_)] 0 (ag (K2.kp g3) ah) (by kd_subs) (by tbr_iter w3) (fun n2 hn2=>?_)
 refine gPx hA.hd [Value.int (Int.ofNat en.length) 0] 25 [0,0,0,0,0,1,26,0,0,0,0] ?_
 intro zM zO
 refine gQx [en.length=en.length,en.length<2^63] ⟨by rfl,by kst_all,trivial⟩ ?_
 refine gcK (.call (.builtin "str.__mul__") ⟨[.str ⟨⟨[0]⟩⟩ (tk2+1), .int (.ofNat en.length) (tk2+3)],[]⟩) (fun h3 D3=>?_)
 refine eh (by kst_all) (fun eW tk3=>?_)
 refine aD D3 ?_
 generalize changeF above kss sp [a,b]=cv at *
 refine gRx hA.hd 2 [0] ?_
 kst_p
 refine gcK (.call (.ref 187) ⟨[.int (.ofNat cv) aX, .str ⟨⟨List.replicate en.length 0⟩⟩ eW],[]⟩) (fun h4' D4=>?_)
 kd_adr
 have⟨g4,w4⟩:=D4.wK 0 (g 0) (frame (lG w.params g en gf (ent w.params aV cH (dY) :: ent w.params ch dx (eU) :: [])) e)
 have K4:Keeps s.heap h4' [(g 0)]:=D4.keeps
 refine bK (hA.subN (by kd_p) 6 (by kd_p) (by kst_all)) D4.kt hcl (cO _) (fun h5 tk5 fG K5=>?_)
 have K05:Keeps s.heap h5 [(g 0)]:=(K4.trans K5).mono (by kd_mem)
 have hx0:al cv (List.replicate en.length 0)<2^32:=bw _ hcl
 generalize al cv (List.replicate en.length 0)=pv at *
 have y0:pv<2^32:=hx0
 have y1:(pv^^^s0)<2^32:=Nat.xor_lt_two_pow y0 hs0
 have y2:((pv^^^s0)^^^s1)<2^32:=Nat.xor_lt_two_pow y1 hs1
 have y3:(((pv^^^s0)^^^s1)^^^s2)<2^32:=Nat.xor_lt_two_pow y2 hs2
 have y4:((((pv^^^s0)^^^s1)^^^s2)^^^s3)<2^32:=Nat.xor_lt_two_pow y3 hs3
 have oL:pv<2^64∧s0<2^64∧(pv^^^s0)<2^64∧s1<2^64∧((pv^^^s0)^^^s1)<2^64∧s2<2^64∧(((pv^^^s0)^^^s1)^^^s2)<2^64∧s3<2^64:=by kst_all
 refine resume D4 K5 ax [((g 7),_),((g 15),_),((g 0),_)] 2 (ag (K05.kq h7 (by tbr_iter zh7_hL)) (ag (K05.kq hm (by tbr_iter zhm_hL)) (ag (K5.kp g4) ah))) (by kd_subs) (by tbr_iter w4) (fun n5 hn5=>?_)
 refine gPx hA.hd [] 317 [3,3,0,0,1,0,0,0,4,4,0,4,4,4,4,0,4,4,4,4,5,0,5,0,5,5,5,5,5,5,5,5,3,3,3,3,1,0,3,0,3,3,2,2,2,0,2,2,6,0,0,0,3,3,5,0,5,5,5,5,5,5,5,5,3,3,3,3,1,0,3,0,3,3,2,2,2,0,2,2,6,0,0,0,3,3,5,0,5,5,5,5,5,5,5,5,3,3,3,3,1,0,3,0,3,3,2,2,2,0,2,2,6,0,0,0,3,3,5,0,5,5,5,5,5,5,5,5,3,3,3,3,1,0,3,0,3,3,2,2,2,0,2,2,6,0,0,0,3,3,5,0,5,5,5,5,7] ?_
 intro zM zO
 refine gQx [] trivial ?_
 refine ggK s (.next) (fun h8' t8 D8=>?_)
 exact H h8' t8 (tk5+6) (tk5+23) (tk5+20) D8.keeps (D8.xK 2)
noncomputable def gW:Expr:=mV (dW (ifT (au 12)) 1)
@[reducible] noncomputable def kK (L d:Addr):Env:={ scope:=cG (bF gW) (dAt 23).2.2,locals:=d,globals:=3,cells:=[],qual:=gk,func:=none,code:= .ref 196,frame:=some L,builtins:=0 }
@[reducible] noncomputable def gv (t:Addr) (i:Nat):Obj:=⟨.type "tuple_iterator",none, .fields #[.ref t, .int (i:Int) 0], #[]⟩
theorem jd {s:Shared} {e:Expr} {t i:Nat} {acc:Value} (he:iR e=true) (hI:s.heap.get? it=some (gv t i))
  (h:codeAny (mm w) A (.compLoop e 0 (.ref it) acc env) R s):codeAny (mm w) A (.compStart e 0 (.ref it) acc env) R s:=by
 unfold iR at he
 split at he
 ·have he:=eq_of_beq he
  subst he
  exact codeAny_compStart_list h (wpAny_pyIter_tupleiter ⟨_,hI,rfl,rfl⟩ h)
 ·cases he
theorem js {h₀:Heap} {tu wr row v1:Nat} {s:Shared} (hA:AOk A 40) (hT:TopIn w.params s.heap)
  (htu:s.heap.get? tu=some (dc [.ref el, .ref tape, .ref cm] 0)) (hI:s.heap.get? it=some (gv tu 0)) (hacc:s.heap.get? acc=some (listO [] 0)) (hd:s.heap.get? d=some (dictO [] 0)) (ki:kg w it=none) (ka:kg w acc=none) (kd:kg w d=none)
  (fI:∀a o,h₀.get? a=some o→a≠it∧a≠acc∧a≠d) (hE0:Elem w.params h₀ el (.str ⟨⟨[97]⟩⟩ tt) ad vL row) (hTp0:Tape w.params h₀ tape wr oc) (hcm0:h₀.get? cm=some (dictO (e16 w u1 u2 (.str cV v1) (.str bQ v2)) ec)) (hK0:Keeps h₀ s.heap [])
  (H:∀(h':Heap) tk' kk ed',Keeps s.heap h' [it,acc,d]→h'.get? acc=some (listO [.bool true, .bool false, .bool false] 3)→h'.get? d=some (dictO (mT w kk (.ref cm)) ed')→R (.ok .next) ⟨h',s.gens,s.drawn,tk',s.os⟩):
  codeAny (mm w) A (.compLoop gW 0 (.ref it) (.ref acc) (kK L d)) R s:=by
 have⟨zhI_hacc,zhI_hacc'⟩:=ap2 hI hacc
 have⟨zhI_hd,zhI_hd'⟩:=ap2 hI hd
 have⟨zhacc_hd,zhacc_hd'⟩:=ap2 hacc hd
 have⟨zhtu_hI,zhtu_hI'⟩:=ap2 htu hI
 have⟨zhtu_hacc,zhtu_hacc'⟩:=ap2 htu hacc
 have⟨zhtu_hd,zhtu_hd'⟩:=ap2 htu hd
 refine aj [(tu,_),(it,_),(acc,_),(d,_)] 1 hT (ag htu (ag hI (ag hacc (ag hd ah)))) (by kd_subs) (by tbr_iter (ai ki (ai ka kd))) (fun n t hn=>?_)
 refine gRx hA.hd 24 [2,0,2,2,2,1,2,2,4,4,0,4,0] ?_
 kst_p
 refine gcK (.call (.ref 21) ⟨[.ref el],[]⟩) (fun h1 D1=>?_)
 have g0:=D1.cK 0 tu (dc [.ref el, .ref tape, .ref cm] 0)
 kd_adr
 have⟨g1,w1⟩:=D1.wK 1 it (gv tu 1)
 have⟨g2,w2⟩:=D1.wK 2 acc (listO [] 0)
 have⟨g3,w3⟩:=D1.wK 3 d (dictO (mT w t (.ref el)) 1)
 have K1:Keeps s.heap h1 [it,acc,d]:=D1.keeps
 have K01:Keeps h₀ h1 []:=⟨fun a o e _=>K1.keep a o (hK0.keep a o e (by kd_mem)) (by tbr_iter (fI a o e)),Nat.le_trans hK0.size K1.size⟩
 have E1:=hE0.keepC K01 (by kd_mem)
 obtain⟨dd,ap,itf,cl,ct,c2x,q1,q2,q3,q4,q5,q6,kc,fd,vc,rc,X1⟩:=id E1
 refine is_el (hA.subN (by kd_p) 6 (by kd_p) (by kst_all)) D1.kt X1.el X1.dd (fun h2 t2 K2=>?_)
 refine resume D1 K2 ax [(tu,_),(it,_),(acc,_),(d,_)] 1 (ag (K2.kp g0) (ag (K2.kp g1) (ag (K2.kp g2) (ag (K2.kp g3) ah)))) (by kd_subs) (by tbr_iter (ai w1 (ai w2 w3))) (fun n2 hn2=>?_)
 refine gRx hA.hd 33 [0,3,3,3,3,2,0,2,2,2,1,2,2,4,4,0,4,0] ?_
 kst_p
 refine gcK (.call (.ref 21) ⟨[.ref tape],[]⟩) (fun h3 D3=>?_)
 have g0:=D3.cK 0 tu (dc [.ref el, .ref tape, .ref cm] 0)
 kd_adr
 have⟨g1,w1⟩:=D3.wK 1 it (gv tu 2)
 have⟨g2,w2⟩:=D3.wK 2 acc (listO [.bool true] 1)
 have⟨g3,w3⟩:=D3.wK 3 d (dictO (mT w t (.ref tape)) 1)
 have K3:Keeps s.heap h3 [it,acc,d]:=D3.keeps
 have K03:Keeps h₀ h3 []:=⟨fun a o e _=>K3.keep a o (hK0.keep a o e (by kd_mem)) (by tbr_iter (fI a o e)),Nat.le_trans hK0.size K3.size⟩
 obtain⟨dd,wf,cw,co,ct,c2x,k1,k2,k3,kc,fd,vc,rc,Y3⟩:=Tape.keepC K03 hTp0 (by kd_mem)
 refine is_tape (hA.subN (by kd_p) 6 (by kd_p) (by kst_all)) D3.kt Y3.tape Y3.dd (fun h4 t4 K4=>?_)
 refine resume D3 K4 ax [(tu,_),(it,_),(acc,_),(d,_)] 1 (ag (K4.kp g0) (ag (K4.kp g1) (ag (K4.kp g2) (ag (K4.kp g3) ah)))) (by kd_subs) (by tbr_iter (ai w1 (ai w2 w3))) (fun n4 hn4=>?_)
 refine gRx hA.hd 33 [0,3,3,3,3,2,0,2,2,2,1,2,2,4,4,0,4,0] ?_
 kst_p
 refine gcK (.call (.ref 21) ⟨[.ref cm],[]⟩) (fun h5 D5=>?_)
 have g0:=D5.cK 0 tu (dc [.ref el, .ref tape, .ref cm] 0)
 kd_adr
 have⟨g1,w1⟩:=D5.wK 1 it (gv tu 3)
 have⟨g2,w2⟩:=D5.wK 2 acc (listO [.bool true, .bool false] 2)
 have⟨g3,w3⟩:=D5.wK 3 d (dictO (mT w t (.ref cm)) 1)
 have K5:Keeps s.heap h5 [it,acc,d]:=D5.keeps
 have K05:Keeps h₀ h5 []:=⟨fun a o e _=>K5.keep a o (hK0.keep a o e (by kd_mem)) (by tbr_iter (fI a o e)),Nat.le_trans hK0.size K5.size⟩
 refine is_dict (hA.subN (by kd_p) 6 (by kd_p) (by kst_all)) D5.kt (K05.kp hcm0) (fun h6 t6 K6=>?_)
 refine resume D5 K6 ax [(tu,_),(it,_),(acc,_),(d,_)] 1 (ag (K6.kp g0) (ag (K6.kp g1) (ag (K6.kp g2) (ag (K6.kp g3) ah)))) (by kd_subs) (by tbr_iter (ai w1 (ai w2 w3))) (fun n6 hn6=>?_)
 refine gRx hA.hd 25 [0,3,3,3,3,2,0,2,2,2,1,2,2,6] ?_
 kst_p
 refine gdK (.ok .next) (fun h9 D9=>?_)
 exact H h9 _ t 1 D9.keeps (D9.xK 2) (D9.xK 3)
theorem loop13E:∃p1 p2 p3,au 12 = .If (.BoolOp .Or [dW (ifT (au 12)) 0, .Compare gW [.NotEq] [jX (dW (ifT (au 12)) 1)] p1] p2) (ifBd (au 12)) [] p3:=⟨_,_,_,rfl⟩
theorem ou {en:List Nat} {s:Shared} {wr row v1:Nat} (hA:AOk A 100) (hT:TopIn w.params s.heap) (hpv:pv=0)
  (hE:Elem w.params s.heap (gf 9) (.str ⟨⟨[97]⟩⟩ tt) ad vL row) (hTp:Tape w.params s.heap (gf 7) wr oc) (hcm:s.heap.get? (g 16)=some (dictO (e16 w u1 u2 (.str cV v1) (.str bQ v2)) ec))
  (hL:s.heap.get? (g 0)=some (frame (lG w.params g en gf (ent w.params aV cH (.int (.ofNat pv) tp) :: tl)) e)) (kL:kg w (g 0)=none)
  (H:∀(h':Heap) tk',Keeps s.heap h' []→Q .next ⟨h',s.gens,s.drawn,tk',s.os⟩):
  wpAny (mm w) A (execs [au 12] (gE g)) Q E s:=by
 kd_adr
 subst hpv
 obtain⟨p1,p2,p3,eB⟩:=loop13E
 refine bU ?_
 intro zQ zE
 refine aH (congrArg (fun x=>[x]) eB) ?_
 refine wpAny_execs_cons (wpAny_If ?_)
 refine isTrue_or (isTrue_plain ?_ (by kd_p))
 refine aE (w:=w) (l:=[((g 0),_)]) 1 hT (ag hL ah) (by kd_subs) (by kd_mem) (fun n t hn=>?_)
 refine gRx hA.hd 2 [1] ?_
 kst_p
 refine ggK s (.ret (.int (.ofNat 0) tp)) (fun h1 t1 D1=>?_)
 have K1:Keeps s.heap h1 []:=D1.keeps
 have T1:TopIn w.params h1:=D1.kt
 clear D1
 refine PyProof.Rows.truthy_int ?_
 show wpAny _ _ (PySem.isTrue _ _ _) _ _ _
 refine isTrue_or (wpAny_isTrue_Compare1 ?_)
 refine aE (w:=w) (l:=[((g 0),_)]) 1 T1 (ag (K1.kp hL) ah) (by kd_subs) (by kd_mem) (fun n2 t2 hn2=>?_)
 refine gRx hA.hd 20 [1,1,1,2,2,0,2,3] ?_
 kst_p
 have f0:∀k,h1.get? (n2+k)=none:=aC (Nat.le_of_eq hn2)
 refine gcK (.compStart gW 0 (.ref (n2+1)) (.ref (n2+2)) (kK (g 0) (n2+3))) (fun h3 D3=>?_)
 have K3:Keeps h1 h3 []:=D3.keeps
 have gL:=D3.cK 0 (g 0) (frame (lG w.params g en gf (ent w.params aV cH (.int (.ofNat 0) tp) :: tl)) e)
 kd_adr
 have⟨g0,w0⟩:=D3.wK 1 n2 (dc [.ref (gf 9), .ref (gf 7), .ref (g 16)] 0)
 have⟨g1,w1⟩:=D3.wK 2 (n2+1) (gv n2 0)
 have⟨g2,w2⟩:=D3.wK 3 (n2+2) (listO [] 0)
 have⟨g3,w3⟩:=D3.wK 4 (n2+3) (dictO [] 0)
 refine jd (by kd_p) g1 ?_
 refine js (h₀:=h1) (hA.subN (by kd_p) 6 (by kd_p) (by kst_all)) D3.kt g0 g1 g2 g3 w1.kn w2.kn w3.kn (fun a o q=>⟨neF q (f0 1),neF q (f0 2),neF q (f0 3)⟩) (hE.keepC K1 (by kd_mem)) (Tape.keepC K1 hTp (by kd_mem)) (K1.kp hcm) K3 (fun h4' t4 kk ed' K4 x1 x2=>?_)
 have gL4:=K4.kq gL (by tbr_iter (ai (apart gL g1) (ai (apart gL g2) (apart gL g3))))
 have m2:=apart gL4 x1
 have m3:=apart gL4 x2
 refine resume D3 K4 (an w1 (an w2 (an w3 ax))) [((g 0),_),(n2+2,_),(n2+3,_)] 1 (ag gL4 (ag x1 (ag x2 ah))) (by simp[Dis,m2,m3,Ne.symm m2,Ne.symm m3]) (by tbr_iter (ai w2 w3)) (fun n4 hn4=>?_)
 refine gRx hA.hd 5 [3,3,3] ?_
 kst_p
 refine ggK s (.ret (.ref (n2+2))) (fun h5 t5 D5=>?_)
 have K5:Keeps h1 h5 []:=D5.keeps
 have T5:TopIn w.params h5:=D5.kt
 have l5:=D5.cK 1 (n2+2) (listO [.bool true, .bool false, .bool false] 3)
 clear D5
 refine aE (w:=w) (l:=[]) 0 T5 ah (by kd_subs) (by kd_mem) (fun n6 t6 hn6=>?_)
 refine gRx hA.hd 2 [] ?_
 kst_p
 refine ggK s (.ret (.ref n6)) (fun h7 t7 D7=>?_)
 have K7:Keeps h5 h7 []:=D7.keeps
 have l7:=D7.cK 0 n6 (listO [.bool true, .bool false, .bool false] 0)
 clear D7
 have l5':=K7.kp l5
 have hu:=hA.un
 show wpAny _ _ (richCompare .NotEq (.ref (n2+2)) (.ref n6)) _ _ _
 refine RcNeAt.lists (items:= #[.bool true, .bool false, .bool false]) (items2:= #[.bool true, .bool false, .bool false]) (e:=fun _=>true) ⟨_,l5',rfl,_,rfl⟩ ⟨_,l7,rfl,_,rfl⟩ rfl (by kst_all) (fun j h1 h2=>EqAt.same _) _ _ _ _ ?_
 refine wpAny_truthy_bool ?_
 show wpAny _ _ (PySem.isTrue _ _ _) _ _ _
 refine isTrue_or_nil ?_
 show wpAny _ _ (execs [] _) _ _ _
 refine wpAny_execs_nil (wpAny_execs_nil ?_)
 exact H h7 t7 (((K1.trans K5).trans K7).mono (by kd_mem))
noncomputable def lb:Stmt→Expr
 | .Return (some e) _=>e
 | _=>default
theorem retLE:∃p1 p2 p3 p4,aZ 12 = .Return (some (.BoolOp .And [.Compare (mV (dW (lb (aZ 12)) 0)) [.Eq] [jX (dW (lb (aZ 12)) 0)] p1, .Compare (mV (dW (lb (aZ 12)) 1)) [.Eq] [jX (dW (lb (aZ 12)) 1)] p2] p3)) p4:=⟨_,_,_,_,rfl⟩
theorem wpAny_And2 {s:Shared} {x y:Expr} {Q:Value→Shared→Prop}
  (h:wpAny (model prog w) A (eval x env) (fun v s₁=>v = .bool true∧wpAny (model prog w) A (eval y env) Q E s₁) E s):
  wpAny (model prog w) A (eval (.BoolOp .And [x,y] pos) env) Q E s:=by
 show wpAny (model prog w) A (do
  let v ←eval x env
  standAt pos
  let t ←holding [v] (truthy v)
  match BoolOp.And,t with
  | .And,false | .Or,true=>pure v
  | _,_=>boolOp pos .And [eval y env]) Q E s
 refine wpAny_bind (wpAny_mono h (fun v s₁ h₁=>wpAny_bind (wpAny_standAt (wpAny_bind (wpAny_holding ?_)))) fun _ _ x=>x)
 kd_adr
 obtain⟨rfl,h₁⟩:=h₁
 exact wpAny_truthy_bool h₁
theorem law_ret {en:List Nat} {s:Shared} {v1 p1:Nat} {x1 x2 x3 x4:Str} (hA:AOk A 100) (hT:TopIn w.params s.heap)
  (hx:(x7=[]∧vL = .none)∨(∃c,x7=[c]∧vL = .str ⟨⟨[c]⟩⟩ p2)) (ho:s.heap.get? (g 11)=some (listO [.str w0 p0, .str w1 p1, .str ⟨⟨x7⟩⟩ p2] eo)) (hw:s.heap.get? (g 12)=some (listO [.str x0 q0, .str x1 q1, .str x2 q2, .str x3 q3, .str x4 q4, .str x5 q5, .str x6 q6] ew)) (hcm:s.heap.get? (g 16)=some (dictO (e16 w u1 u2 (.str cV v1) (.str bQ v2)) ec)) (hfi:s.heap.get? (g 17)=some (dictO (e15 w a1 a2 (.str x0 q0) vL) ef)) (kcm:kg w (g 16)=none) (kfi:kg w (g 17)=none)
  (hL:s.heap.get? (g 0)=some (frame (lF w.params g en tl) e)) (kL:kg w (g 0)=none)
  (H:∀(h':Heap) tk',Keeps s.heap h' []→Q (.ret (.bool true)) ⟨h',s.gens,s.drawn,tk',s.os⟩):
  wpAny (mm w) A (execs [aZ 12] (gE g)) Q E s:=by
 have hu:=hA.un
 kd_adr
 obtain⟨p1',p2',p3',p4',eB⟩:=retLE
 refine bU ?_
 intro zQ zE
 refine aH (congrArg (fun x=>[x]) eB) ?_
 refine wpAny_execs_cons (wpAny_Return_some (wpAny_And2 (wpAny_Compare1 ?_)))
 refine aE (w:=w) (l:=[((g 0),_)]) 1 hT (ag hL ah) (by kd_subs) (by kd_mem) (fun n t hn=>?_)
 refine gRx hA.hd 2 [1] ?_
 kst_p
 refine ggK s (.ret (.ref (g 16))) (fun h1 t1 D1=>?_)
 have K1:Keeps s.heap h1 []:=D1.keeps
 have T1:TopIn w.params h1:=D1.kt
 clear D1
 refine aE (w:=w) (l:=[]) 0 T1 ah (by kd_subs) (by kd_mem) (fun n2 t2 hn2=>?_)
 refine gRx hA.hd 32 [0,1,1,1,1,0,1,1,1,1] ?_
 kst_p
 refine ggK s (.ret (.ref n2)) (fun h3 t3 D3=>?_)
 have K3:Keeps h1 h3 []:=D3.keeps
 have T3:TopIn w.params h3:=D3.kt
 have⟨y3,w3⟩:=D3.wK 0 n2 (dictO (e16 w t2 (t2+2) (.str cV (t2+1)) (.str bQ (t2+3))) 2)
 have kn2:=w3.kn
 clear D3
 have K03:Keeps s.heap h3 []:=(K1.trans K3).mono (by kd_mem)
 have cm3:=K03.kp hcm
 show wpAny _ _ (richCompare .Eq (.ref (g 16)) (.ref n2)) _ _ _
 refine dw cm3 y3 kcm kn2 ?sd ?pa (by kst_all) ?_
 case sd=>exact SD.cons (by kd_p) (SD.cons (by kd_p) SD.nil)
 case pa=>
  refine⟨rfl,fun j hj=>?_⟩
  match j,hj with
  | 0,_=>exact⟨sText,_,_,0,_,_,by kd_p,rfl,by kd_p,rfl,EqW.of (by have:=EqAt.str_str (A:=A.in1) (s:=⟨h3,s.gens,s.drawn,t3,s.os⟩) cV v1 cV (t2+1);rwa [beq_self_eq_true] at this)⟩
  | 1,_=>exact⟨iI,_,_,1,_,_,by kd_p,rfl,by kd_p,rfl,EqW.of (by have:=EqAt.str_str (A:=A.in1) (s:=⟨h3,s.gens,s.drawn,t3,s.os⟩) bQ v2 bQ (t2+3);rwa [beq_self_eq_true] at this)⟩
  | j+2,hj=>exact absurd (show j+2<2 from hj) (by kst_all)
 refine⟨rfl,wpAny_Compare1 ?_⟩
 have L3:=K03.kp hL
 refine aE (w:=w) (l:=[((g 0),_)]) 1 T3 (ag L3 ah) (by kd_subs) (by kd_mem) (fun n5 t5 hn5=>?_)
 refine gRx hA.hd 2 [1] ?_
 kst_p
 refine ggK s (.ret (.ref (g 17))) (fun h7 t7' D7=>?_)
 have K7:Keeps h3 h7 []:=D7.keeps
 have T7:TopIn w.params h7:=D7.kt
 clear D7
 have K07:Keeps s.heap h7 []:=(K03.trans K7).mono (by kd_mem)
 have fi7:=K07.kp hfi
 have nao:=apart ho hL
 have naw:=apart hw hL
 refine aE (w:=w) (l:=[((g 0),_),((g 11),_),((g 12),_)]) 3 T7 (ag (K07.kp hL) (ag (K07.kp ho) (ag (K07.kp hw) ah))) (by kd_subs) (by kd_mem) (fun n7 t7 hn7=>?_)
 rcases hx with⟨rfl,rfl⟩ | ⟨c,rfl,rfl⟩
 ·refine gRx hA.hd 63 [1,3,3,3,0,3,3,1,2,2,2,0,2,2,0,0,0,4,4,4,4,0,4,4,4,4] ?_
  kst_p
  refine ggK s (.ret (.ref n7)) (fun h8 t8 D8=>?_)
  have K8:Keeps h7 h8 []:=D8.keeps
  have⟨y8,w8⟩:=D8.wK 3 n7 (dictO (e15 w t7 (t7+2) (.str x0 q0) (.none)) 2)
  have kn7:=w8.kn
  clear D8
  have fi8:h8.get? (g 17)=some (dictO (e15 w a1 a2 (.str x0 q0) (.none)) ef):=K8.kp fi7
  show wpAny _ _ (richCompare .Eq (.ref (g 17)) (.ref n7)) _ _ _
  refine dw fi8 y8 kfi kn7 ?sd2 ?pa2 (by kst_all) ?_
  case sd2=>exact SD.cons (by kd_p) (SD.cons (by kd_p) SD.nil)
  case pa2=>
   refine⟨rfl,fun j hj=>?_⟩
   match j,hj with
   | 0,_=>exact⟨sText,_,_,0,_,_,by kd_p,rfl,by kd_p,rfl,EqW.of (EqAt.same _)⟩
   | 1,_=>exact⟨sTail,_,_,1,_,_,by kd_p,rfl,by kd_p,rfl,EqW.of (EqAt.same _)⟩
   | j+2,hj=>exact absurd (show j+2<2 from hj) (by kst_all)
  exact H h8 t8 ((K07.trans K8).mono (by kd_mem))
 ·refine gRx hA.hd 63 [1,3,3,3,0,3,3,1,2,2,2,0,2,2,0,0,0,4,4,4,4,0,4,4,4,4] ?_
  kst_p
  refine ggK s (.ret (.ref n7)) (fun h8 t8 D8=>?_)
  have K8:Keeps h7 h8 []:=D8.keeps
  have⟨y8,w8⟩:=D8.wK 3 n7 (dictO (e15 w t7 (t7+2) (.str x0 q0) (.str ⟨⟨[c]⟩⟩ p2)) 2)
  have kn7:=w8.kn
  clear D8
  have fi8:h8.get? (g 17)=some (dictO (e15 w a1 a2 (.str x0 q0) (.str ⟨⟨[c]⟩⟩ p2)) ef):=K8.kp fi7
  show wpAny _ _ (richCompare .Eq (.ref (g 17)) (.ref n7)) _ _ _
  refine dw fi8 y8 kfi kn7 ?sd2 ?pa2 (by kst_all) ?_
  case sd2=>exact SD.cons (by kd_p) (SD.cons (by kd_p) SD.nil)
  case pa2=>
   refine⟨rfl,fun j hj=>?_⟩
   match j,hj with
   | 0,_=>exact⟨sText,_,_,0,_,_,by kd_p,rfl,by kd_p,rfl,EqW.of (EqAt.same _)⟩
   | 1,_=>exact⟨sTail,_,_,1,_,_,by kd_p,rfl,by kd_p,rfl,EqW.of (EqAt.same _)⟩
   | j+2,hj=>exact absurd (show j+2<2 from hj) (by kst_all)
  exact H h8 t8 ((K07.trans K8).mono (by kd_mem))
noncomputable def nth {α:Type}:List α→Nat→Option α
 | [],_=>none
 | x :: _,0=>some x
 | _ :: l,k+1=>nth l k
theorem lh {α:Type}:∀{l:List α} {k:Nat} {x:α},nth l k=some x→x∈l
 | _ :: _,0,_,e=>Option.some.inj e ▸ .head _
 | _ :: l,k+1,_,e=> .tail _ (lh (l:=l) (k:=k) e)
@[reducible] noncomputable def Ow (h:Heap) (l:List (Addr×Obj)):Prop:=∀p∈l,h.get? p.1=some p.2
theorem Ow.at {l:List (Addr×Obj)} (F:Ow h l) (k:Nat) (e:nth l k=some (a,o)):h.get? a=some o:=F _ (lh e)
noncomputable def fpK:Value→Bool
 | .str x _=>x == sFp
 | _=>false
noncomputable def fpD:Data→Bool
 | .dict es _=>match es.toList with
  | e :: _=>fpK e.key
  | []=>false
 | _=>false
noncomputable def wkB (o:Obj):Bool:=o.cls == .type "frame" || (o.cls == .type "list" || (o.cls == .type "list_iterator" || (o.cls == .type "range_iterator" || (o.cls == .none || fpD o.data))))
noncomputable def WkX (h:Heap) (ex:List Addr):Prop:=∀a∈ex,∀o,h.get? a=some o→wkB o=true
theorem X1 (e:h.get? a=some o) (w:wkB o=true):WkX h [a]:=allA (wkA e w)
theorem X2 (e:h.get? a=some o) (e':h.get? b=some o') (w:wkB o=true) (w':wkB o'=true):WkX h [a,b]:=allA (ai (wkA e w) (wkA e' w'))
theorem bb (K:Keeps h h' ex) (hx:WkX h ex) (e:h.get? b=some o) (n:wkB o=false):h'.get? b=some o:=K.keep b o e fun m=>by rw[hx b m o e] at n;cases n
theorem Elem.keepD {row:Addr} {tag:Value} (E:Elem P h el tag ad vL row) (K:Keeps h h' ex) (hx:WkX h ex):Elem P h' el tag ad vL row:=by
 kd_adr
 obtain⟨dd,ap,itf,cl,ct,c2,k1,k2,k3,k4,k5,k6,kc,fd,vc,rc,E⟩:=E
 exact⟨dd,ap,itf,cl,ct,c2,k1,k2,k3,k4,k5,k6,kc,fd,vc,rc,bb K hx E.el (by kd_p),bb K hx E.dd (by kd_p),bb K hx E.ap (by kd_p),bb K hx E.itf (by kd_p),bb K hx E.cl (by kd_p),bb K hx E.c2 (by kd_p)⟩
theorem TabE.keepD (E:TabE h) (K:Keeps h h' ex) (hx:WkX h ex) (n:149∉ex):TabE h':=by
 kd_adr
 obtain⟨c1,c2,k2,v2,r2,t1,t2⟩:=E
 exact⟨c1,c2,k2,v2,r2,K.kq t1 n,bb K hx t2 (by kd_p)⟩
theorem TabT.keepD (E:TabT h) (K:Keeps h h' ex) (hx:WkX h ex) (n:163∉ex):TabT h':=by
 kd_adr
 obtain⟨c1,c2,k2,v2,r2,t1,t2⟩:=E
 exact⟨c1,c2,k2,v2,r2,K.kq t1 n,bb K hx t2 (by kd_p)⟩
theorem TapeX.keepD {wr cw:Nat} (E:TapeX P h tape wr oc dd wf cw co ct c2 k1 k2 k3 kc fd vc rc) (K:Keeps h h' ex) (hx:WkX h ex):TapeX P h' tape wr oc dd wf cw co ct c2 k1 k2 k3 kc fd vc rc:=
 ⟨bb K hx E.tape (by kd_p),bb K hx E.dd (by kd_p),bb K hx E.wf (by kd_p),bb K hx E.cw (by kd_p),bb K hx E.co (by kd_p),bb K hx E.c2 (by kd_p)⟩
theorem TE0.keepD {h h':Heap} {ex:List Addr} (E:TE0 h) (K:Keeps h h' ex) (hx:WkX h ex) (n:149∉ex):TE0 h':=E.imp (fun q=>K.kq q n) fun q=>q.keepD K hx n
theorem TT0.keepD {h h':Heap} {ex:List Addr} (E:TT0 h) (K:Keeps h h' ex) (hx:WkX h ex) (n:163∉ex):TT0 h':=E.imp (fun q=>K.kq q n) fun q=>q.keepD K hx n
theorem TabE.at {h:Heap} (T:TabE h):∃l,h.get? 149=some (bT l):=TE0.at (.inr T)
theorem TabT.at {h:Heap} (T:TabT h):∃l,h.get? 163=some (bT l):=TT0.at (.inr T)
theorem TapeX.nd {wr cw:Nat} (E:TapeX P h tape wr oc dd wf cw co ct c2 k1 k2 k3 kc fd vc rc) {P':Params} (hd:h.get? d=some (tellD P' j1 j2 tp off to)):dd≠d:=fun q=>by
 have e:=E.dd
 rw[q,hd] at e
 have:wkB (tellD P' j1 j2 tp off to)=true:=by kd_p
 rw[Option.some.inj e] at this
 exact absurd this (by rw[show wkB _=false from (by kd_p)];exact Bool.noConfusion)
theorem oV (e:h.objs.size≤a):h.get? a=none:=aC e 0
theorem Keeps.back (K:Keeps h h' ex) (e:h'.get? a=none) (hall:∀b∈ex,∃o,h'.get? b=some o):h.get? a=none:=by
 cases q:h.get? a with
 | none=>rfl
 | some o=>
  by_cases m:a∈ex
  ·obtain⟨o',e'⟩:=hall a m;rw[e] at e';cases e'
  ·have:=K.kq q m;rw[e] at this;cases this
theorem TopIn.kn (T:TopIn P h) (f:h.get? a=none):(kt P).get a=none:=by
 cases q:(kt P).get a with
 | none=>rfl
 | some o=>rw[T a o q] at f;cases f
noncomputable def perL (P:Params) (g:Nat→Nat) (G:Nat→List Value) (xT:List Nat) (vL:Value):List (Addr×Obj):=[(g 4,cellO (.ref (g 31))),(g 31,listO (G 0) (g 32)),(g 9,listO (G 1) (g 33)),(g 12,listO (G 2) (g 34)),(g 14,listO (G 3) (g 35)),(g 11,listO (G 4) (g 36)),(g 16,dictO [ent P sText (g 38) (.str cV (g 40)),ent P iI (g 39) (.str bQ (g 41))] (g 37)),(g 17,dictO [ent P sText (g 43) (.str ⟨⟨xT⟩⟩ (g 45)),ent P sTail (g 44) vL] (g 42))]
structure Per (P:Params) (h:Heap) (EX:List Addr) (g:Nat→Nat) (G:Nat→List Value) (kss:List (List Nat)) (xT:List Nat) (vL:Value):Prop where
 ow:Ow h (perL P g G xT vL)
 nx:∀p∈perL P g G xT vL,p.1∉EX
 hB:KidsAt h (G 0) kss
 nB:∀(i:Nat) (b:Addr),(G 0)[i]? = some (Value.ref b)→b∉EX
section
variable {P:Params} {h h':Heap} {EX EX':List Addr} {g:Nat→Nat} {G:Nat→List Value} {kss:List (List Nat)} {xT:List Nat} {vL:Value}
theorem Per.keep (p:Per P h EX g G kss xT vL) (K:Keeps h h' EX):Per P h' EX g G kss xT vL:=⟨fun q m=>K.kq (p.ow q m) (p.nx q m),p.nx,KidsAt.keepL K p.hB p.nB,p.nB⟩
theorem Per.mono (p:Per P h EX' g G kss xT vL) (sub:∀a∈EX,a∈EX'):Per P h EX g G kss xT vL:=⟨p.ow,fun q m z=>p.nx q m (sub _ z),p.hB,fun i b e z=>p.nB i b e (sub _ z)⟩
theorem Per.add (p:Per P h EX g G kss xT vL) (f:h.get? it=none):Per P h (EX++[it]) g G kss xT vL:=by
 have z:∀{a:Addr} {o:Obj},h.get? a=some o→a∉EX→a∉EX++[it]:=fun {a o} e n m=>(List.mem_append.mp m).elim n fun m=>by rw[List.mem_singleton.mp m,f] at e;cases e
 refine⟨p.ow,fun q m=>z (p.ow q m) (p.nx q m),p.hB,fun i b e=>?_⟩
 obtain⟨c',Lz,ez,q1,q2,_⟩:=p.hB.2 i _ (p.hB.row e)
 rw[q1] at e;cases e
 exact z q2 (p.nB _ _ q1)
end
noncomputable def nthD {α:Type} (d:α):List α→Nat→α
 | [],_=>d
 | a :: _,0=>a
 | _ :: l,n+1=>nthD d l n
structure Md (P:Params) (g gf:Nat→Nat) (KS:List (List Nat)) (xT:List Nat) (vL:Value) (h0 h:Heap) (La:List Value) (ek ad e6 row d tt:Nat):Prop where
 K:Keeps h0 h [g 0,149,163]
 te:TabE h
 tb:TabT h
 ak:h.get? (gf 5)=some (listO La ek)
 KA:KidsAt h La KS
 oc:h.get? (gf 6)=some (listO [] 0)
 tape:Tape P h (gf 7) (escRef (g 10)) (gf 6)
 cn:h.get? (gf 8)=some (instO 131 d)
 hd:∃k1 k2 to,h.get? d=some (tellD P k1 k2 (gf 7) 0 to)
 el:Elem P h (gf 9) (.str ⟨⟨[97]⟩⟩ tt) ad vL row
 had:h.get? ad=some (dictO [ent P sText (g 43) (.str ⟨⟨xT⟩⟩ (g 45)),ent P sTail (g 44) vL] e6)
 hrow:h.get? row=some (listO [.str ⟨⟨xT⟩⟩ (g 45)] 0)
 fak:h0.get? (gf 5)=none
 fo:h0.get? (gf 6)=none
 fd:h0.get? d=none
 fr:h0.get? row=none
 kad:(kt P).get ad=none
 nra:row≠gf 5
 nro:row≠gf 6
 nok:gf 6≠gf 5
 naf:ad≠g 17
 nR:∀(i:Nat) (b:Addr),La[i]? = some (Value.ref b)→b≠row∧b≠gf 6∧b≠g 15
section
variable {g gf:Nat→Nat} {G:Nat→List Value} {en:List Nat} {w:World} {A:Around} {s:Shared} {E:Value→Shared→Prop} {Q:Flow→Shared→Prop} {kss ws sp:List (List Nat)} {tu:List Nat} {o:Option (List DictEntry)} {tl:List DictEntry} {e es at' et:Nat} {Lt Lm:List Value} {vL:Value}
theorem turn_1 (htl:TlG w.params o 0 tl) (hA:AOk A 220) (hT:TopIn w.params s.heap) (p:Per w.params s.heap [g 0,g 8,g 15,149,163] g G kss (ws.getD 0 []) vL) (kcm:kg w (g 16)=none) (kfi:kg w (g 17)=none) (hv0:vL = .none∨∃x k,vL = .str x k) (hk7:kss.length=7) (hsm:∀i,(kss.getD i []).length≤50) (VT:IntVs Lt tu)
  (te:TE0 s.heap) (tt:TT0 s.heap) (h8:s.heap.get? (g 8)=some (cellO (.ref at'))) (ht:s.heap.get? at'=some (listO Lt et)) (hm:s.heap.get? (g 15)=some (listO Lm es)) (hL:s.heap.get? (g 0)=some (frame (lF w.params g en tl) e)) (kL:kg w (g 0)=none)
  (H:∀(h':Heap) tk' gf La ek ad e6 row d tt tl' e',Md w.params g gf ((List.range 7).map (eu kss tu)) (ws.getD 0 []) vL s.heap h' La ek ad e6 row d tt→TlG w.params o 5 tl'→h'.get? (g 0)=some (frame (lG w.params g en gf tl') e')→Q .next ⟨h',s.gens,s.drawn,tk',s.os⟩):
  wpAny (mm w) A (execs [au 1,au 2,au 3,au 4,au 5] (gE g)) Q E s:=by
 obtain⟨l1,t149⟩:=te.at
 obtain⟨l2,t163⟩:=tt.at
 have n9:g 0≠149:=apart hL t149
 have n3:g 0≠163:=apart hL t163
 have n13:(149:Nat)≠163:=by decide
 have kE0:∀a∈([g 0,149,163]:List Addr),kg w a=none:=allA (ai kL (ai (by kd_p) (by kd_p)))
 show wpAny _ _ (execs ([au 1]++[au 2,au 3,au 4,au 5]) _) Q E s
 refine aA ?_
 refine loop_b2 htl (hA.mono (by kst_all)) hT VT hsm hk7 (p.ow.at 0 rfl) h8 ht (p.ow.at 1 rfl) p.hB hm (fun i b e q=>p.nB i b e (q▸by kd_mem)) (apart hm hL) hL kL (fun h2 tk2 ak La ek j1 tl2 e2 K2 fak kak hak HK2 hra iU hL2=>?_)
 have a149:=K2.kq t149 (by tbr_iter n9.symm)
 have a163:=K2.kq t163 (by tbr_iter n3.symm)
 have nk3:∀{a:Addr} {l:List Value} {e:Nat},h2.get? a=some (listO l e)→a∉([g 0,149,163]:List Addr):=fun q=>nmA (ai (apart q hL2) (ai (apart q a149) (apart q a163)))
 show wpAny _ _ (execs ([au 2]++[au 3,au 4,au 5]) _) Q E ⟨h2,s.gens,s.drawn,tk2,s.os⟩
 refine aA ?_
 refine loop_b3 iU (hA.mono (by kst_all)) (K2.top hT (by tbr_iter kL)) hL2 kL (fun h3 tk3 oc j2 tl3 e3 K3 foc koc hoc oP hL3=>?_)
 have S3:Keeps s.heap h3 [g 0]:=(K2.trans K3).mono (by kd_mem)
 have b149:=K3.kq a149 (by tbr_iter n9.symm)
 have b163:=K3.kq a163 (by tbr_iter n3.symm)
 show wpAny _ _ (execs ([au 3]++[au 4,au 5]) _) Q E ⟨h3,s.gens,s.drawn,tk3,s.os⟩
 refine aA ?_
 refine loop_b4 oP (hA.mono (by kst_all)) (S3.top hT (by tbr_iter kL)) (tt.keepD S3 (X1 hL (by kd_p)) (by tbr_iter n3.symm)) hL3 kL (fun h4 tk4 tp j3 tl4 e4 K4 TT4 st4 X4 htl4 hL4=>?_)
 have S4:Keeps s.heap h4 [g 0,149,163]:=(S3.trans K4).mono (by kd_mem)
 have c149:=K4.kq b149 (by tbr_iter (ai n9.symm n13))
 have te4:=(te.keepD S3 (X1 hL (by kd_p)) (by tbr_iter n9.symm)).keepD K4 (X2 hL3 b163 (by kd_p) (by kd_p)) (by tbr_iter (ai n9.symm n13))
 show wpAny _ _ (execs ([au 4]++[au 5]) _) Q E ⟨h4,s.gens,s.drawn,tk4,s.os⟩
 refine aA ?_
 refine loop_b5 htl4 (hA.mono (by kst_all)) (S4.top hT kE0) hL4 kL (fun h5 tk5 cn d k1 k2 to j4 tl5 e5 K5 scn sd hcn hd htl5 hL5=>?_)
 have S5:Keeps s.heap h5 [g 0,149,163]:=(S4.trans K5).mono (by kd_mem)
 have p5:=p.keep (S5.mono (by kd_mem))
 have d149:=K5.kq c149 (by tbr_iter n9.symm)
 refine loop_b6 htl5 (hA.mono (by kst_all)) (S5.top hT kE0) (te4.keepD K5 (X1 hL4 (by kd_p)) (by tbr_iter n9.symm)) (p5.ow.at 6 rfl) (p5.ow.at 7 rfl) kcm kfi hv0 hL5 kL (fun h6 tk6 el ad row tt e6 j5 tl6 e7 K6 TE6 sel sad srow hE hadd hrow naf htl6 hL6=>?_)
 have x5:=X2 hL5 d149 (by kd_p) (by kd_p)
 have U3:Keeps h3 h6 [g 0,149,163]:=((K4.trans K5).trans K6).mono (by kd_mem)
 have U2:Keeps h2 h6 [g 0,149,163]:=(K3.trans U3).mono (by kd_mem)
 have fr2:h2.objs.size≤row:=Nat.le_trans K3.size (Nat.le_trans K4.size (Nat.le_trans K5.size srow))
 have rowF:∀{b:Addr} {o:Obj},h2.get? b=some o→b≠row∧b≠oc:=fun q=>⟨lv q fr2,neF q foc⟩
 have hm2:=K2.kq hm (by tbr_iter (apart hm hL))
 refine H h6 tk6 (nthD 0 [j1,j2,j3,j4,j5,ak,oc,tp,cn,el]) La ek ad e6 row d tt tl6 e7 ⟨(K2.trans U2).mono (by kd_mem),TE6,(TT4.keepF K5 hL4).keepD K6 x5 (by tbr_iter (ai n3.symm n13.symm)),U2.kq hak (nk3 hak),KidsAt.keepL U2 HK2 (fun i b e=>?_),U3.kq hoc (by tbr_iter (ai (apart hoc hL3) (ai (apart hoc b149) (apart hoc b163)))),?_,K6.kq hcn (by tbr_iter (ai (apart hcn hL5) (apart hcn d149))),⟨k1,k2,to,K6.kq hd (by tbr_iter (ai (apart hd hL5) (apart hd d149)))⟩,hE,hadd,hrow,fak,K2.back foc (by tbr_iter ⟨_,hL2⟩),aS (Nat.le_trans S4.size sd),aS (Nat.le_trans K2.size fr2),bE hT (Nat.le_trans S5.size sad),(rowF hak).1.symm,bh hoc (Nat.le_trans K4.size (Nat.le_trans K5.size srow)),(rowF hak).2.symm,naf,fun i b e=>?_⟩ htl6 hL6
 ·obtain⟨c,Lz,ez,q1,q2,_⟩:=HK2.2 i _ (HK2.row e)
  rw[q1] at e;cases e
  exact nk3 q2
 ·obtain⟨dd,wf,cw,co,ct,c2,k1,k2,k3,kc,fd,vc,rc,X⟩:=X4.keepF K5 hL4
  exact⟨dd,wf,cw,co,ct,c2,k1,k2,k3,kc,fd,vc,rc,X.keepD K6 x5⟩
 ·obtain⟨c,Lz,ez,q1,q2,_⟩:=HK2.2 i _ (HK2.row e)
  rw[q1] at e;cases e
  exact⟨(rowF q2).1,(rowF q2).2,hra _ _ q1⟩
end
noncomputable def KSF (kss:List (List Nat)) (tu:List Nat):List (List Nat):=(List.range 7).map (eu kss tu)
noncomputable def jc (xs:List Nat):Nat:=bA (b9 4294967295 xs) 32 0 0
noncomputable def smF (kss sp:List (List Nat)) (en tu:List Nat):Nat:=jc (laidF (KSF kss tu) sp 7 0++en)
structure TOk (kss ws sp:List (List Nat)) (hk:Nat) (y en tu:List Nat):Prop where
 hD:Dp (KSF kss tu) 7 0=true
 hsm:∀i,((KSF kss tu).getD i []).length≤50
 hpl:(partsF (KSF kss tu) ws 6 0).length≤1000
 hpw:∀x∈partsF (KSF kss tu) ws 6 0,x∈wordsL
 hoct:((partsF (KSF kss tu) ws 6 0).map (esc hk)).flatten++esc hk y=laidF (KSF kss tu) sp 7 0++en
 hne:laidF (KSF kss tu) sp 7 0++en≠[]
 hlen:(laidF (KSF kss tu) sp 7 0++en).length≤1000
 hasc:Ascii (laidF (KSF kss tu) sp 7 0++en)
 hlt:smF kss sp en tu<2^32
structure KOk (above:List Nat) (kss ws sp:List (List Nat)) (hk:Nat) (x1 en:List Nat):Prop where
 hk5:hk<5
 hx1:x1∈wordsL
 hk7:kss.length=7
 ha7:above.length=7
 hws:ws.length=7
 hsp:sp.length=7
 hsm:∀i,(kss.getD i []).length≤50
 hup:∀i,0<i→i<7→above.getD i 0<i
 hDp:∀i,i<7→(kss.getD i []).all (fun x=>Dp kss 7 x && decide (x<7))=true
 hlen7:∀x,x<7→(laidF kss sp 7 x).length≤400
 hasc7:∀x,x<7→Ascii (laidF kss sp 7 x)
 henl:en.length≤100
 hD0:Dp kss 7 0=true
 hlen0:(laidF kss sp 7 0++en).length≤1000
 hasc0:Ascii (laidF kss sp 7 0++en)
theorem IntVs.one (a:Nat) (t:Tok):IntVs [.int (.ofNat a) t] [a]:=IntVs.push IntVs.nil a t
theorem IntVs.two (a b:Nat) (t u:Tok):IntVs [.int (.ofNat a) t, .int (.ofNat b) u] [a,b]:=IntVs.push (IntVs.one a t) b u
theorem IntVs.two' {L:List Value} {a b:Nat} (H:IntVs L [a,b]):∃t u,L=[.int (.ofNat a) t, .int (.ofNat b) u]:=by
 obtain⟨t,L',rfl,H'⟩:=H.uncons
 obtain⟨u,L'',rfl,H''⟩:=H'.uncons
 rw[H''.none];exact⟨t,u,rfl⟩
noncomputable def jU (kss:List (List Nat)):List Nat:=(List.range' 0 7).filter (fun j=>decide ((kss.getD j []).length=2))
noncomputable def forksF (kss:List (List Nat)) (q:Nat):List Nat:=(jU kss).filter (fun f=>decide ((jU kss).length<3) || decide (f≠(jU kss).getD q 0))
structure PF1 (above:List Nat) (kss ws:List (List Nat)) (hk:Nat) (y:List Nat) (q a y1 y2:Nat):Prop where
 F:forksF kss q=[a]
 a7:a<7
 ka:kss.getD a []=[y1,y2]
 TA:TOk kss ws (ws.map (esc hk)) hk y (esc hk y) [a]
 PA:(al (changeF above kss (ws.map (esc hk)) [a]) (List.replicate (esc hk y).length 0)^^^smF kss (ws.map (esc hk)) (esc hk y) [])^^^smF kss (ws.map (esc hk)) (esc hk y) [a]=0
structure PF2 (above:List Nat) (kss ws:List (List Nat)) (hk:Nat) (y:List Nat) (q a b y1 y2 z1 z2:Nat):Prop where
 F:forksF kss q=[a,b]
 ab:a<b
 b7:b<7
 ka:kss.getD a []=[y1,y2]
 kb:kss.getD b []=[z1,z2]
 TA:TOk kss ws (ws.map (esc hk)) hk y (esc hk y) [a]
 TB:TOk kss ws (ws.map (esc hk)) hk y (esc hk y) [b]
 TAB:TOk kss ws (ws.map (esc hk)) hk y (esc hk y) [a,b]
 PA:(al (changeF above kss (ws.map (esc hk)) [a]) (List.replicate (esc hk y).length 0)^^^smF kss (ws.map (esc hk)) (esc hk y) [])^^^smF kss (ws.map (esc hk)) (esc hk y) [a]=0
 PB:((al (changeF above kss (ws.map (esc hk)) [b]) (List.replicate (esc hk y).length 0)^^^smF kss (ws.map (esc hk)) (esc hk y) [])^^^0)^^^smF kss (ws.map (esc hk)) (esc hk y) [b]=0
 PAB:(((al (changeF above kss (ws.map (esc hk)) [a,b]) (List.replicate (esc hk y).length 0)^^^smF kss (ws.map (esc hk)) (esc hk y) [])^^^smF kss (ws.map (esc hk)) (esc hk y) [a])^^^smF kss (ws.map (esc hk)) (esc hk y) [b])^^^smF kss (ws.map (esc hk)) (esc hk y) [a,b]=0
structure Plain (above:List Nat) (kss ws:List (List Nat)) (hk:Nat) (y:List Nat) (q:Nat):Prop where
 O:KOk above kss ws (ws.map (esc hk)) hk (ws.getD 1 []) (esc hk y)
 T0:TOk kss ws (ws.map (esc hk)) hk y (esc hk y) []
 P0:smF kss (ws.map (esc hk)) (esc hk y) []^^^4294967295^^^al 4294967295 (laidF kss (ws.map (esc hk)) 7 0++esc hk y)=0
 F:forksF kss q=[]∨(∃a y1 y2,PF1 above kss ws hk y q a y1 y2)∨(∃a b y1 y2 z1 z2,PF2 above kss ws hk y q a b y1 y2 z1 z2)
structure LCo (w:World) (g:Nat→Nat) (G:Nat→List Value) (kss ws sp:List (List Nat)) (above en y x1:List Nat) (vL:Value):Prop where
 O:KOk above kss ws sp (g 10) x1 en
 hLo:∃p0 w1 p1 w2 p2,G 4=[.str ⟨⟨x1⟩⟩ p0, .str w1 p1, .str w2 p2]
 hLs:∃s0 q0 q1 s2 q2 s3 q3 s4 q4 s5 q5 s6 q6,G 3=[.str s0 q0, .str ⟨⟨esc (g 10) x1⟩⟩ q1, .str s2 q2, .str s3 q3, .str s4 q4, .str s5 q5, .str s6 q6]
 VW:StrVs (G 2) ws
 VS:StrVs (G 3) sp
 VA:IntVs (G 1) above
 kcm:kg w (g 16)=none
 kfi:kg w (g 17)=none
 hv0:vL = .none∨∃x k,vL = .str x k
 hy:(vL = .none∧y=[])∨∃c kv,vL = .str ⟨⟨[c]⟩⟩ kv∧y=[c]∧y∈wordsL
 naab:∀(i:Nat) (b:Addr),(G 0)[i]? = some (Value.ref b)→g 9≠b
 n78:g 7≠g 8
 km:kg w (g 15)=none
 kL:kg w (g 0)=none
 k7:kg w (g 7)=none
 k8:kg w (g 8)=none
noncomputable def OkO (P:Params) (k:Nat) (o:Option (List DictEntry)):Prop:=match k with
 | 0=>o=none
 | 1=>o=some []
 | _+2=>∃j v,o=some [ent P ch j v]
section
variable {g gf:Nat→Nat} {G:Nat→List Value} {en:List Nat} {w:World} {A:Around} {s:Shared} {E:Value→Shared→Prop} {Q:Flow→Shared→Prop} {kss ws sp:List (List Nat)} {tu above y x1:List Nat} {o:Option (List DictEntry)} {tl:List DictEntry} {e es at' et:Nat} {Lt Lm:List Value} {vL:Value}
theorem turn_2 {e6 row:Nat} (hA:AOk A 220) (hT0:TopIn w.params h0) (hT:TopIn w.params s.heap) (C:LCo w g G kss ws sp above en y x1 vL) (p:Per w.params h0 [g 0,g 8,g 15,149,163] g G kss (ws.getD 0 []) vL) (M:Md w.params g gf (KSF kss tu) (ws.getD 0 []) vL h0 s.heap La ek ad e6 row d tt) (TO:TOk kss ws sp (g 10) y en tu)
  (hm:h0.get? (g 15)=some (listO Lm es)) (nm:g 15∉([g 0,149,163]:List Addr)) (hml:Lm.length≤100) (hL:s.heap.get? (g 0)=some (frame (lG w.params g en gf tl) e))
  (H:∀(h':Heap) tk' tok,Keeps h0 h' [g 0,g 15,149,163]→TopIn w.params h'→TabE h'→TabT h'→Elem w.params h' (gf 9) (.str ⟨⟨[97]⟩⟩ tt) ad vL row→Tape w.params h' (gf 7) (escRef (g 10)) (gf 6)→h'.get? (g 15)=some (listO (Lm++[.int (.ofNat (smF kss sp en tu)) tok]) (es+1))→h'.get? (g 0)=some (frame (lG w.params g en gf tl) e)→Q .next ⟨h',s.gens,s.drawn,tk',s.os⟩):
  wpAny (mm w) A (execs [au 6,au 7,au 8,au 9,au 10] (gE g)) Q E s:=by
 obtain⟨oo,rs,hne⟩:=List.exists_cons_of_ne_nil TO.hne
 obtain⟨k1,k2,to,hd⟩:=M.hd
 obtain⟨dd,wf,cw,co,ct,c2,k3,k4,k5,kc,fd,vc,rc,X⟩:=M.tape
 obtain⟨l1,t149⟩:=M.te.at
 obtain⟨l2,t163⟩:=M.tb.at
 have hm6:=M.K.kq hm nm
 have kr:=hT0.kn M.fr
 have kd:=hT0.kn M.fd
 have koc:=hT0.kn M.fo
 have mr:=neF hm M.fr
 have md:=neF hm M.fd
 have mo:=neF hm M.fo
 have wX:WkX s.heap [row,d,gf 6,g 15]:=allA (ai (wkA M.hrow (by kd_p)) (ai (wkA hd (by kd_p)) (ai (wkA M.oc (by kd_p)) (wkA hm6 (by kd_p)))))
 have back:∀{h':Heap},Keeps s.heap h' [row,d,gf 6,g 15]→Keeps h0 h' [g 0,g 15,149,163]:=fun K=>(M.K.mono (by kd_mem):Keeps h0 s.heap [g 0,g 15,149,163]).fresh2 K (allA (ai (.inr M.fr) (ai (.inr M.fd) (ai (.inr M.fo) (.inl (by kd_mem))))))
 have pk:∀{h':Heap},Keeps s.heap h' [row,d,gf 6,g 15]→Per w.params h' [g 0,g 8,g 15,149,163] g G kss (ws.getD 0 []) vL:=fun K=>p.keep ((back K).mono (by kd_mem))
 have top:∀{h':Heap},Keeps s.heap h' [row,d,gf 6,g 15]→TopIn w.params h':=fun K=>K.top hT (allA (ai kr (ai kd (ai koc C.km))))
 have nX:∀{a:Addr} {ob:Obj},s.heap.get? a=some ob→(ob.cls != (listO [] 0).cls)=true→(ob.cls != (dictO [] 0).cls)=true→a∉([row,d,gf 6,g 15]:List Addr):=fun q z z'=>nmA (ai (apart q M.hrow z) (ai (apart q hd z') (ai (apart q M.oc z) (apart q hm6 z))))
 have nL:=nX hL (by kd_p) (by kd_p)
 have ncn:=nX M.cn (by kd_p) (by kd_p)
 have p6:=p.keep (M.K.mono (by kd_mem))
 show wpAny _ _ (execs ([au 6]++[au 7,au 8,au 9,au 10]) _) Q E s
 refine aA ?_
 refine loop_b7 (hA.mono (by kst_all)) hT ⟨by simp[KSF],C.O.hws⟩ TO.hsm TO.hD M.el M.hrow M.te M.ak M.KA (p6.ow.at 3 rfl) C.VW (p6.ow.at 6 rfl) (p6.ow.at 7 rfl) M.had C.kcm C.kfi M.kad kr M.nra (neF (p.ow.at 3 rfl) M.fr).symm M.naf hL C.kL (fun h7 tk7 Lr er7 K7 hrow7 hlr hel hE7=>?_)
 have L7:Keeps s.heap h7 [row,d,gf 6,g 15]:=K7.mono (by kd_mem)
 have hd7:=K7.kq hd (by tbr_iter (apart hd M.hrow))
 show wpAny _ _ (execs ([au 7]++[au 8,au 9,au 10]) _) Q E ⟨h7,s.gens,s.drawn,tk7,s.os⟩
 refine aA ?_
 refine loop_b8 (hA.mono (by kst_all)) (top L7) C.O.hk5 (L7.kq M.cn ncn) (X.keepD L7 wX) (X.nd hd) hd7 (K7.kq M.oc (by tbr_iter M.nro.symm)) kd koc hE7 hrow7 hlr hel TO.hpl TO.hpw C.hy (L7.kq hL nL) C.kL (fun h8 tk8 to8 Lo8 eo8 K8 hd8 hoc8 VO8=>?_)
 have J8:Keeps s.heap h8 [row,d,gf 6]:=K7.trans K8
 have L8:Keeps s.heap h8 [row,d,gf 6,g 15]:=J8.mono (by kd_mem)
 rw[List.nil_append] at hoc8
 rw[TO.hoct] at VO8
 show wpAny _ _ (execs ([au 8]++[au 9,au 10]) _) Q E ⟨h8,s.gens,s.drawn,tk8,s.os⟩
 refine aA ?_
 refine loop_b9 (hA.mono (by kst_all)) (top L8) (iN (by simp[KSF,C.O.hsp]) ⟨by simp[KSF],fun i=>Nat.le_trans (TO.hsm i) (by kst_all)⟩ 7) hoc8 VO8 (L8.kq M.ak (nmA (ai M.nra.symm (ai (apart M.ak hd) (ai M.nok.symm (neF hm M.fak).symm))))) (KidsAt.keepL L8 M.KA (fun i b e=>?_)) ((pk L8).ow.at 4 rfl) C.VS TO.hD TO.hlen TO.hasc rfl (L8.kq hL nL) C.kL (fun h9 tk9 K9=>?_)
 ·have r:=M.nR i b e
  obtain⟨c,Lz,ez,q1,q2,_⟩:=M.KA.2 i _ (M.KA.row e)
  rw[q1] at e;cases e
  exact nmA (ai r.1 (ai (apart q2 hd) (ai r.2.1 r.2.2)))
 have L9:Keeps s.heap h9 [row,d,gf 6,g 15]:=(L8.trans K9).mono (by kd_mem)
 have hoc9:=K9.kp hoc8
 have hm9:=(J8.trans K9).kq hm6 (by tbr_iter (ai mr (ai md mo)))
 have VO9:IntVs Lo8 (oo :: rs):=hne▸VO8
 show wpAny _ _ (execs ([au 9]++[au 10]) _) Q E ⟨h9,s.gens,s.drawn,tk9,s.os⟩
 refine aA ?_
 refine ox (hA.mono (by kst_all)) (top L9) hoc9 VO9 (fun x hx=>Nat.lt_trans (TO.hasc x (hne▸hx)) (by decide)) hm9 hml C.km mo.symm (L9.kq hL nL) C.kL (fun hA' tkA tok KA hmA=>?_)
 have LA:Keeps s.heap hA' [row,d,gf 6,g 15]:=(L9.trans KA).mono (by kd_mem)
 obtain⟨p0,w1,p1,w2,p2,hLo⟩:=C.hLo
 obtain⟨s0,q0,q1,s2,q2,s3,q3,s4,q4,s5,q5,s6,q6,hLs⟩:=C.hLs
 have hao:=(pk LA).ow.at 5 rfl
 have has:=(pk LA).ow.at 4 rfl
 rw[hLo] at hao
 rw[hLs] at has
 refine ov (xs:=[]) (y1:=[]) (hA.mono (by kst_all)) (top LA) C.O.hk5 C.O.hx1 (LA.kq M.cn ncn) (X.keepD LA wX) (X.nd hd) (KA.kq (K9.keep _ _ hd8 (by kd_mem)) (by tbr_iter md.symm)) (KA.kq hoc9 (by tbr_iter mo.symm)) kd koc (by rw[VO8.1,←TO.hoct];simp) (by have h2:=TO.hlen;rw[←TO.hoct,List.length_append] at h2;kst_all) hao has (neF (p.ow.at 5 rfl) M.fo) (neF (p.ow.at 4 rfl) M.fo) (LA.kq hL nL) C.kL (fun hB tkB KB=>?_)
 have LB:Keeps s.heap hB [row,d,gf 6,g 15]:=(LA.trans KB).mono (by kd_mem)
 have hmB:=KB.kq hmA (by tbr_iter (ai md mo))
 rw[←hne] at hmB
 exact H hB tkB tok (back LB) (top LB) (M.te.keepD LB wX (nX t149 (by kd_p) (by kd_p))) (M.tb.keepD LB wX (nX t163 (by kd_p) (by kd_p))) (M.el.keepD LB wX) ⟨dd,wf,cw,co,ct,c2,k3,k4,k5,kc,fd,vc,rc,X.keepD LB wX⟩ hmB (LB.kq hL nL)
noncomputable def nu (w:World) (A:Around) (g:Nat→Nat) (G:Nat→List Value) (en:List Nat) (kss ws:List (List Nat)) (vL:Value) (k pv:Nat) (S:List Nat) (Lt:List Value):Prop:=∀{s:Shared} {gf:Nat→Nat} {o:Option (List DictEntry)} {tl:List DictEntry} {e at' et es to:Nat} {Lm:List Value} {Q:Flow→Shared→Prop} {E:Value→Shared→Prop},
  TopIn w.params s.heap→Per w.params s.heap [g 0,g 8,g 15,149,163] g G kss (ws.getD 0 []) vL→s.heap.get? (g 7)=some (cellO (.int (.ofNat k) to))→s.heap.get? (g 8)=some (cellO (.ref at'))→s.heap.get? at'=some (listO Lt et)→at'≠g 9→(∀(i:Nat) (b:Addr),(G 0)[i]? = some (Value.ref b)→at'≠b∧g 9≠b)→s.heap.get? (g 15)=some (listO Lm es)→IntVs Lm S→OkO w.params k o→TlG w.params o 5 tl→s.heap.get? (g 0)=some (frame (lG w.params g en gf tl) e)→
  (∀(h':Heap) tk' j t' u e',Keeps s.heap h' [g 0]→OkO w.params (k+1) (some u)→h'.get? (g 0)=some (frame (lG w.params g en gf (ent w.params aV j (.int (.ofNat pv) t') :: u)) e')→Q .next ⟨h',s.gens,s.drawn,tk',s.os⟩)→wpAny (mm w) A (execs [au 11] (gE g)) Q E s
theorem rest (hA:AOk A 220) (hT:TopIn w.params s.heap) (C:LCo w g G kss ws sp above en y x1 vL) (p:Per w.params s.heap [g 0,g 8,g 15,149,163] g G kss (ws.getD 0 []) vL) (TO:TOk kss ws sp (g 10) y en tu) (VT:IntVs Lt tu) (B12:nu w A g G en kss ws vL k pv (S++[smF kss sp en tu]) Lt) (hpv:pv=0)
  (te:TE0 s.heap) (tt:TT0 s.heap) (h7:s.heap.get? (g 7)=some (cellO (.int (.ofNat k) to))) (n7:g 7∉([g 0,g 8,g 15,149,163]:List Addr)) (h8:s.heap.get? (g 8)=some (cellO (.ref at'))) (ht:s.heap.get? at'=some (listO Lt et)) (nt:at'∉([g 0,g 8,g 15,149,163]:List Addr)) (nta:at'≠g 9) (ntr:∀(i:Nat) (b:Addr),(G 0)[i]? = some (Value.ref b)→at'≠b)
  (hm:s.heap.get? (g 15)=some (listO Lm es)) (IV:IntVs Lm S) (hml:Lm.length≤100) (hOk:OkO w.params k o) (htl:TlG w.params o 0 tl) (hL:s.heap.get? (g 0)=some (frame (lF w.params g en tl) e))
  (H:∀(h':Heap) tk' Lm' es' o' tl' e',Keeps s.heap h' [g 0,g 8,g 15,149,163]→TabE h'→TabT h'→h'.get? (g 8)=some (cellO (.ref at'))→h'.get? (g 15)=some (listO Lm' es')→IntVs Lm' (S++[smF kss sp en tu])→OkO w.params (k+1) o'→TlG w.params o' 0 tl'→h'.get? (g 0)=some (frame (lF w.params g en tl') e')→Q .next ⟨h',s.gens,s.drawn,tk',s.os⟩):
  wpAny (mm w) A (execs [au 1,au 2,au 3,au 4,au 5,au 6,au 7,au 8,au 9,au 10,au 11,au 12] (gE g)) Q E s:=by
 obtain⟨l1,t149⟩:=te.at
 obtain⟨l2,t163⟩:=tt.at
 have nm:g 15∉([g 0,149,163]:List Addr):=nmA (ai (apart hm hL) (ai (apart hm t149) (apart hm t163)))
 have n8:g 8∉([g 0,g 15,149,163]:List Addr):=nmA (ai (apart h8 hL) (ai (apart h8 hm) (ai (apart h8 t149) (apart h8 t163))))
 show wpAny _ _ (execs ([au 1,au 2,au 3,au 4,au 5]++([au 6,au 7,au 8,au 9,au 10]++([au 11]++[au 12]))) _) Q E s
 refine aA ?_
 refine turn_1 htl hA hT p C.kcm C.kfi C.hv0 C.O.hk7 C.O.hsm VT te tt h8 ht hm hL C.kL (fun h1 tk1 gf La ek ad e6 row d tt' tl1 e1 M htl1 hL1=>?_)
 show wpAny _ _ (execs ([au 6,au 7,au 8,au 9,au 10]++([au 11]++[au 12])) _) Q E ⟨h1,s.gens,s.drawn,tk1,s.os⟩
 refine aA ?_
 refine turn_2 hA hT (M.K.top hT (allA (ai C.kL (ai (by kd_p) (by kd_p))))) C p M TO hm nm hml hL1 (fun h2 tk2 tok K2 T2 TE2 TT2 E2 X2' hm2 hL2=>?_)
 have K2':Keeps s.heap h2 [g 0,g 8,g 15,149,163]:=K2.mono (by kd_mem)
 have p2:=p.keep K2'
 show wpAny _ _ (execs ([au 11]++[au 12]) _) Q E ⟨h2,s.gens,s.drawn,tk2,s.os⟩
 refine aA ?_
 have IV2:=IV.push (smF kss sp en tu) tok
 have c82:=K2.kq h8 n8
 refine B12 T2 p2 (K2'.kq h7 n7) c82 (K2'.kq ht nt) nta (fun i b e=>⟨ntr i b e,C.naab i b e⟩) hm2 IV2 hOk htl1 hL2 (fun h3 tk3 j t' u e3 K3 ok3 hL3=>?_)
 have T3:TopIn w.params h3:=K3.top T2 (by tbr_iter C.kL)
 refine ou (hA.mono (by kst_all)) T3 hpv (E2.keepF K3 hL2) (X2'.keepF K3 hL2) (K3.kq (p2.ow.at 6 rfl) (by tbr_iter (apart (p2.ow.at 6 rfl) hL2))) hL3 C.kL (fun h4 tk4 K4=>?_)
 exact H h4 tk4 _ _ (some u) _ e3 (((K2'.trans K3).trans K4).mono (by kd_mem)) ((TE2.keepF K3 hL2).keepC K4 (by kd_mem)) ((TT2.keepF K3 hL2).keepC K4 (by kd_mem)) (K4.kp (K3.keep _ _ c82 (by tbr_iter (apart c82 hL2)))) (K4.kp (K3.keep _ _ hm2 (by tbr_iter (apart hm2 hL2)))) IV2 ok3 (.inr ⟨u,fun i=>match i with | 5=>j | i=>gf i,fun i=>match i with | 5=> .int (.ofNat pv) t' | i=> .ref (gf (i+5)),rfl,rfl⟩) (K4.kp hL3)
end
theorem loopBody:(cq (dAt 23) 11).2.1=[au 0]++[au 1,au 2,au 3,au 4,au 5,au 6,au 7,au 8,au 9,au 10,au 11,au 12]:=by rfl
theorem oY {s:Shared} {r tr:Nat} (hA:AOk A 220) (hT:TopIn w.params s.heap) (hI:s.heap.get? it=some (aq (.ofNat k) (.ofNat (r+1)) ta tr 0)) (h7:s.heap.get? (g 7)=some ⟨.type "cell",none, .cell o7, #[]⟩) (ki:kg w it=none) (k7:kg w (g 7)=none) (hk:k<16)
  (H:∀(h':Heap) tk' to ta' tr',Keeps s.heap h' [it,(g 7)]→h'.get? it=some (aq (.ofNat (k+1)) (.ofNat r) ta' tr' 0)→h'.get? (g 7)=some (cellO (.int (.ofNat k) to))→
   wpAny (mm w) A (execs ([au 0]++[au 1,au 2,au 3,au 4,au 5,au 6,au 7,au 8,au 9,au 10,au 11,au 12]) (gE g)) (fun f s₃=>match f with
     | .next | .cont=>codeAny (mm w) A (aU (dAt 23) 11 (.ref it) (gE g)) R s₃
     | .brk=>R (.ok .next) s₃
     | .ret v=>R (.ok (.ret v)) s₃) (notedBy (mm w) A (gE g) fun e s'=>R (.error e) s') ⟨h',s.gens,s.drawn,tk',s.os⟩):
  codeAny (mm w) A (aU (dAt 23) 11 (.ref it) (gE g)) R s:=by
 have n7i:(g 7)≠it:=apart h7 hI
 refine cZ ?_
 refine bU ?_
 intro zQ zE
 refine nextR (w:=w) (l:=[(it,_)]) 0 hT (ag hI ah) (by kd_subs) (by tbr_iter ki) (fun n t hn=>?_)
 have q1:¬(Int.ofNat (r+1)<1):=by simp;kst_all
 refine gRx hA.hd 13 [1,0,1,1,1,1,1,1,1,1] ?_
 kst_p
 refine ggK s (.ret (.int (.ofNat k) t)) (fun h1 t1 D1=>?_)
 have K1:Keeps s.heap h1 [it]:=D1.keeps
 have T1:TopIn w.params h1:=D1.kt
 have I1:=D1.cK 0 it (aq (.ofNat (k+1)) (.ofNat (r+1) - 1) 0 0 0)
 clear D1
 have e1:Int.ofNat (r+1) - 1=Int.ofNat r:=by show ((r+1:Nat):Int) - 1=(r:Int);kst_all
 have I1':h1.get? it=some (aq (.ofNat (k+1)) (.ofNat r) 0 0 0):=by rw[I1,e1]
 have g7:=K1.kq h7 (by tbr_iter n7i)
 refine bZ (w:=w) (l:=[((g 7),_)]) 0 T1 (ag g7 ah) (by kd_subs) (by tbr_iter k7) (fun n2 tB hn2=>?_)
 refine gRx hA.hd 5 [1,1] ?_
 kst_p
 refine ggK s (.next) (fun h2 t2 D2=>?_)
 have K2:Keeps h1 h2 [(g 7)]:=D2.keeps
 refine bU ?_
 intro zQ zE
 refine aH loopBody ?_
 exact H h2 t2 t _ _ ((K1.trans K2).mono (by kd_mem)) (K2.kq I1' (by tbr_iter n7i.symm)) (D2.xK 0)
theorem oX {s:Shared} {tr:Nat} (hA:AOk A 220) (hT:TopIn w.params s.heap) (hI:s.heap.get? it=some (aq (.ofNat k) (.ofNat 0) ta tr 0)) (ki:kg w it=none)
  (H:∀(h':Heap) tk',Keeps s.heap h' [it]→R (.ok .next) ⟨h',s.gens,s.drawn,tk',s.os⟩):
  codeAny (mm w) A (aU (dAt 23) 11 (.ref it) (gE g)) R s:=by
 refine cZ ?_
 refine bU ?_
 intro zQ zE
 refine nextR (w:=w) (l:=[(it,_)]) 0 hT (ag hI ah) (by kd_subs) (by tbr_iter ki) (fun n t hn=>?_)
 refine gRx hA.hd 13 [1,0,1,1,1,1,3] ?_
 kst_p
 refine ggK s (.next) (fun h1 t1 D1=>?_)
 have K1:Keeps s.heap h1 [it]:=D1.keeps
 show wpAny _ _ (execs [] _) _ _ _
 refine wpAny_execs_nil ?_
 exact H h1 t1 K1
noncomputable def NT (h:Heap) (a:Addr):Prop:=∃o,h.get? a=some o∧(o.cls != (bT []).cls)=true∧(o.cls != (codeO sFp .none 0 []).cls)=true
theorem TE0.keepN (E:TE0 h) (K:Keeps h h' ex) (hx:∀a∈ex,NT h a):TE0 h':=by
 have z:∀{b:Addr} {o:Obj},h.get? b=some o→o.cls=(bT []).cls∨o.cls=(codeO sFp .none 0 []).cls→h'.get? b=some o:=fun e q=>K.kq e fun m=>by
  obtain⟨o',e',n1,n2⟩:=hx _ m
  rw[e] at e';cases e'
  rcases q with q | q
  ·rw[q] at n1;cases n1
  ·rw[q] at n2;cases n2
 exact E.imp (fun e=>z e (.inl rfl)) fun ⟨c1,c2,k2,v2,r2,t1,t2⟩=>⟨c1,c2,k2,v2,r2,z t1 (.inl rfl),z t2 (.inr rfl)⟩
theorem TT0.keepN (E:TT0 h) (K:Keeps h h' ex) (hx:∀a∈ex,NT h a):TT0 h':=by
 have z:∀{b:Addr} {o:Obj},h.get? b=some o→o.cls=(bT []).cls∨o.cls=(codeO sFp .none 0 []).cls→h'.get? b=some o:=fun e q=>K.kq e fun m=>by
  obtain⟨o',e',n1,n2⟩:=hx _ m
  rw[e] at e';cases e'
  rcases q with q | q
  ·rw[q] at n1;cases n1
  ·rw[q] at n2;cases n2
 exact E.imp (fun e=>z e (.inl rfl)) fun ⟨c1,c2,k2,v2,r2,t1,t2⟩=>⟨c1,c2,k2,v2,r2,z t1 (.inl rfl),z t2 (.inr rfl)⟩
structure LSt (P:Params) (g:Nat→Nat) (en:List Nat) (k:Nat) (S:List Nat) (h:Heap):Prop where
 te:TE0 h
 tt:TT0 h
 t1:k≠0→TabE h∧TabT h
 h7:∃o7,h.get? (g 7)=some ⟨.type "cell",none, .cell o7, #[]⟩
 h8:∃o8,h.get? (g 8)=some ⟨.type "cell",none, .cell o8, #[]⟩
 hm:∃Lm es,h.get? (g 15)=some (listO Lm es)∧IntVs Lm S
 hL:∃o tl e,h.get? (g 0)=some (frame (lF P g en tl) e)∧TlG P o 0 tl∧OkO P k o
noncomputable def B1S (w:World) (A:Around) (g:Nat→Nat) (en:List Nat) (Lf:List Value) (eff k:Nat) (Lt:List Value):Prop:=∀{s:Shared} {to e:Nat} {o8:Option Value} {tl:List DictEntry} {Q:Flow→Shared→Prop} {E:Value→Shared→Prop},TopIn w.params s.heap→s.heap.get? (g 7)=some (cellO (.int (.ofNat k) to))→s.heap.get? (g 8)=some ⟨.type "cell",none, .cell o8, #[]⟩→s.heap.get? (g 19)=some (listO Lf eff)→s.heap.get? (g 0)=some (frame (lF w.params g en tl) e)→(∀(h':Heap) tk' l e',Keeps s.heap h' [g 8]→s.heap.get? l=none→kg w l=none→h'.get? l=some (listO Lt e')→h'.get? (g 8)=some (cellO (.ref l))→Q .next ⟨h',s.gens,s.drawn,tk',s.os⟩)→wpAny (mm w) A (execs [au 0] (gE g)) Q E s
section
variable {g:Nat→Nat} {G:Nat→List Value} {en:List Nat} {w:World} {A:Around} {s:Shared} {R:Result→Shared→Prop} {kss ws sp:List (List Nat)} {tu above y x1 S:List Nat} {Lf Lt:List Value} {vL:Value} {it r ta tr k pv eff:Nat}
theorem lt (hA:AOk A 220) (hT:TopIn w.params s.heap) (C:LCo w g G kss ws sp above en y x1 vL) (p:Per w.params s.heap [g 0,g 8,g 15,149,163,g 7,it] g G kss (ws.getD 0 []) vL) (St:LSt w.params g en k S s.heap) (hI:s.heap.get? it=some (aq (.ofNat k) (.ofNat (r+1)) ta tr 0)) (haf:s.heap.get? (g 19)=some (listO Lf eff)) (naf:g 19∉([g 0,g 8,g 15,149,163,g 7,it]:List Addr)) (ki:kg w it=none) (hk:k<16) (hS:S.length≤100)
 (B1:B1S w A g en Lf eff k Lt) (TO:TOk kss ws sp (g 10) y en tu) (VT:IntVs Lt tu) (B12:nu w A g G en kss ws vL k pv (S++[smF kss sp en tu]) Lt) (hpv:pv=0)
 (H:∀(h':Heap) tk',Keeps s.heap h' [g 0,g 8,g 15,149,163,g 7,it]→LSt w.params g en (k+1) (S++[smF kss sp en tu]) h'→(∃ta tr,h'.get? it=some (aq (.ofNat (k+1)) (.ofNat r) ta tr 0))→codeAny (mm w) A (aU (dAt 23) 11 (.ref it) (gE g)) R ⟨h',s.gens,s.drawn,tk',s.os⟩):
 codeAny (mm w) A (aU (dAt 23) 11 (.ref it) (gE g)) R s:=by
 obtain⟨te,tt,_,⟨o7,h7⟩,⟨o8,h8⟩,⟨Lm,es,hm,IV⟩,⟨o,tl,e,hL,htl,ok⟩⟩:=St
 obtain⟨l1,t149⟩:=te.at
 obtain⟨l2,t163⟩:=tt.at
 have niL:=apart hI hL
 have ni8:=apart hI h8
 have nim:=apart hI hm
 have ni1:=apart hI t149
 have ni3:=apart hI t163
 have n7L:=apart h7 hL
 have n7m:=apart h7 hm
 have n71:=apart h7 t149
 have n73:=apart h7 t163
 have n8L:=apart h8 hL
 have n8m:=apart h8 hm
 have n7X:g 7∉([g 0,g 8,g 15,149,163]:List Addr):=by tbr_iter (ai n7L (ai C.n78 (ai n7m (ai n71 n73))))
 refine oY hA hT hI h7 ki C.k7 hk (fun h1 tk1 to ta1 tr1 K1 hI1 h71=>?_)
 have K1':Keeps s.heap h1 [g 0,g 8,g 15,149,163,g 7,it]:=K1.mono (by kd_mem)
 have T1:TopIn w.params h1:=K1.top hT (by tbr_iter (ai ki C.k7))
 have g8:=K1.kq h8 (by tbr_iter (ai ni8.symm C.n78.symm))
 have gL:=K1.kq hL (by tbr_iter (ai niL.symm n7L.symm))
 have gm:=K1.kq hm (by tbr_iter (ai nim.symm n7m.symm))
 have nt1:∀a∈[it,g 7],NT s.heap a:=allA (ai ⟨_,hI,by kd_p,by kd_p⟩ ⟨_,h7,by kd_p,by kd_p⟩)
 have nt2:∀a∈[g 8],NT h1 a:=allA ⟨_,g8,by kd_p,by kd_p⟩
 refine aA ?_
 refine B1 T1 h71 g8 (K1'.kq haf naf) gL (fun h2 tk2 at' et K2 fat kat hat c82=>?_)
 have nat:∀{a:Addr} {o:Obj},h1.get? a=some o→at'≠a:=fun q e=>by rw[e,q] at fat;cases fat
 have K2':Keeps s.heap h2 [g 0,g 8,g 15,149,163,g 7,it]:=(K1.trans K2).mono (by kd_mem)
 have p1:=p.keep K1'
 have h72:=K2.kq h71 (by tbr_iter C.n78)
 have u149:=K1.kq t149 (by tbr_iter (ai ni1.symm n71.symm))
 have u163:=K1.kq t163 (by tbr_iter (ai ni3.symm n73.symm))
 show wpAny _ _ (execs [au 1,au 2,au 3,au 4,au 5,au 6,au 7,au 8,au 9,au 10,au 11,au 12] _) _ _ ⟨h2,s.gens,s.drawn,tk2,s.os⟩
 refine rest hA (K2.top T1 (by tbr_iter C.k8)) C ((p.keep K2').mono (by kd_mem)) TO VT B12 hpv ((te.keepN K1 nt1).keepN K2 nt2) ((tt.keepN K1 nt1).keepN K2 nt2) h72 n7X c82 hat (by tbr_iter (ai (nat gL) (ai (nat g8) (ai (nat gm) (ai (nat u149) (nat u163)))))) (nat (p1.ow.at 2 rfl)) (fun i b e=>?_) (K2.kq gm (by tbr_iter n8m.symm)) IV (by rw[IV.1];exact hS) ok htl (K2.kq gL (by tbr_iter n8L.symm)) (fun h3 tk3 Lm3 es3 o3 tl3 e3 K3 TE3 TT3 c83 hm3 IV3 ok3 oP hL3=>?_)
 ·obtain⟨c',Lz,ez,q1',q2',_⟩:=p1.hB.2 i _ (p1.hB.row e)
  rw[q1'] at e;cases e;exact nat q2'
 ·exact H h3 tk3 ((K2'.trans K3).mono (by intro a m;rcases List.mem_append.mp m with m | m;exact m;exact (by kd_mem:∀a∈[g 0,g 8,g 15,149,163],a∈([g 0,g 8,g 15,149,163,g 7,it]:List Addr)) a m)) ⟨.inr TE3, .inr TT3,fun _=>⟨TE3,TT3⟩,⟨_,K3.kq h72 n7X⟩,⟨_,c83⟩,⟨_,_,hm3,IV3⟩,⟨o3,tl3,e3,hL3,oP,ok3⟩⟩ ⟨_,_,K3.kq (K2.keep _ _ hI1 (by tbr_iter ni8)) (by tbr_iter (ai niL (ai ni8 (ai nim (ai ni1 ni3)))))⟩
end
noncomputable def forI:Expr:=match aZ 11 with | .For _ i _ _ _=>i | _=>default
noncomputable def forP:Pos:=match aZ 11 with | .For _ _ _ _ p=>p | _=>default
theorem law11:[aZ 11]=[.For (cq (dAt 23) 11).1 forI (cq (dAt 23) 11).2.1 (cq (dAt 23) 11).2.2 forP]:=by rfl
section
variable {g:Nat→Nat} {G:Nat→List Value} {en:List Nat} {w:World} {A:Around} {s:Shared} {E:Value→Shared→Prop} {Q:Flow→Shared→Prop} {kss ws sp:List (List Nat)} {above y x1:List Nat} {Lf:List Value} {vL:Value} {e es eff k a b ta tb q y1 y2:Nat} {o7 o8:Option Value}
theorem jz {h1:Heap} {n ta tok tb m:Nat} {Q:Value→Shared→Prop} {i:Int} (K1:Keeps s.heap h1 []) (T1:TopIn w.params h1) (I1:h1.get? n=some ⟨.type "range",none, .fields #[.int 0 ta, .int i tok, .int 1 tb], #[]⟩) (hs:Builtin.Range.small 0 i 1=true) (hi:Builtin.Range.rangeSize 0 i 1 = .ofNat (m+1))
  (H:∀h2 it,Keeps s.heap h2 []→TopIn w.params h2→s.heap.get? it=none→kg w it=none→h2.get? it=some (aq (.ofNat 0) (.ofNat (m+1)) 0 0 0)→Q (.ref it) ⟨h2,s.gens,s.drawn,t1,s.os⟩):wpAny (mm w) A (pyIter (.ref n)) Q E ⟨h1,s.gens,s.drawn,t1,s.os⟩:=by
 refine wpAny_pyIter_range I1 hs ?_
 have fi0:h1.get? h1.objs.size=none:=aC (Nat.le_refl _) 0
 have KP:Keeps h1 (h1.push ⟨.type "range_iterator",none, .fields #[rawInt 0,rawInt (Builtin.Range.rangeSize 0 i 1),rawInt 1], #[]⟩) []:=Keeps.push _
 exact H _ _ ((K1.trans KP).mono (by kd_mem)) (KP.top0 T1) (oV K1.size) (T1.kn fi0) (by rw[hi];exact Heap.get?_push_size _ rfl)
theorem law_rng {nf m:Nat} {Q:Value→Shared→Prop} (hA:AOk A 220) (hT:TopIn w.params s.heap) (haf:s.heap.get? (g 19)=some (listO Lf eff)) (hL:s.heap.get? (g 0)=some (frame (lF w.params g en []) e)) (hf:(Lf=[]∧nf=0∧m=0)∨(∃x,Lf=[x]∧nf=1∧m=1)∨∃x x',Lf=[x,x']∧nf=2∧m=3)
  (H:∀h2 t2 it,Keeps s.heap h2 []→TopIn w.params h2→s.heap.get? it=none→kg w it=none→h2.get? it=some (aq (.ofNat 0) (.ofNat (m+1)) 0 0 0)→Q (.ref it) ⟨h2,s.gens,s.drawn,t2,s.os⟩):wpAny (mm w) A (eval forI (gE g)) (fun x s₁=>wpAny (mm w) A (pyIter x) Q E s₁) E s:=by
 have z:=apart haf hL
 rcases hf with⟨rfl,rfl,rfl⟩ | ⟨x,rfl,rfl,rfl⟩ | ⟨x,x',rfl,rfl,rfl⟩
 ·refine aE (w:=w) (l:=[((g 19),_),((g 0),_)]) 2 hT (ag haf (ag hL ah)) (by kd_subs) (by kd_mem) (fun n t hn=>?_)
  refine gRx hA.hd 24 [0,0,0,0,2,0,1,0,1,1] ?_
  kst_p
  refine gcK (.call (.builtin "int.__pow__") ⟨[.int (.ofNat 2) t, .int (.ofNat 0) (t+2)],[]⟩) (fun h D=>?_)
  refine cJ (by kst_all) (by decide) (fun tok tk1=>?_)
  refine aD D ?_
  refine gRx hA.hd 19 [0,0,3,3,0,3,3] ?_
  kst_p
  refine ggK s (.ret (.ref n)) (fun h1 t1 D1=>?_)
  exact jz D1.keeps D1.kt (D1.xK 2:h1.get? n=some ⟨.type "range",none, .fields #[.int 0 (tk1+0), .int 1 tok, .int 1 (tk1+1)], #[]⟩) (by decide) rfl (fun h2 it K T f ki I=>H h2 _ it K T f ki I)
 ·refine aE (w:=w) (l:=[((g 19),_),((g 0),_)]) 2 hT (ag haf (ag hL ah)) (by kd_subs) (by kd_mem) (fun n t hn=>?_)
  refine gRx hA.hd 24 [0,0,0,0,2,0,1,0,1,1] ?_
  kst_p
  refine gcK (.call (.builtin "int.__pow__") ⟨[.int (.ofNat 2) t, .int (.ofNat 1) (t+2)],[]⟩) (fun h D=>?_)
  refine cJ (by kst_all) (by decide) (fun tok tk1=>?_)
  refine aD D ?_
  refine gRx hA.hd 19 [0,0,3,3,0,3,3] ?_
  kst_p
  refine ggK s (.ret (.ref n)) (fun h1 t1 D1=>?_)
  exact jz D1.keeps D1.kt (D1.xK 2:h1.get? n=some ⟨.type "range",none, .fields #[.int 0 (tk1+0), .int 2 tok, .int 1 (tk1+1)], #[]⟩) (by decide) rfl (fun h2 it K T f ki I=>H h2 _ it K T f ki I)
 ·refine aE (w:=w) (l:=[((g 19),_),((g 0),_)]) 2 hT (ag haf (ag hL ah)) (by kd_subs) (by kd_mem) (fun n t hn=>?_)
  refine gRx hA.hd 24 [0,0,0,0,2,0,1,0,1,1] ?_
  kst_p
  refine gcK (.call (.builtin "int.__pow__") ⟨[.int (.ofNat 2) t, .int (.ofNat 2) (t+2)],[]⟩) (fun h D=>?_)
  refine cJ (by kst_all) (by decide) (fun tok tk1=>?_)
  refine aD D ?_
  refine gRx hA.hd 19 [0,0,3,3,0,3,3] ?_
  kst_p
  refine ggK s (.ret (.ref n)) (fun h1 t1 D1=>?_)
  exact jz D1.keeps D1.kt (D1.xK 2:h1.get? n=some ⟨.type "range",none, .fields #[.int 0 (tk1+0), .int 4 tok, .int 1 (tk1+1)], #[]⟩) (by decide) rfl (fun h2 it K T f ki I=>H h2 _ it K T f ki I)
theorem b1_0 (hA:AOk A 220) (C:LCo w g G kss ws sp above en y x1 vL) (h16:k<16):B1S w A g en [] eff k []:=fun T g7 g8 gf gL H=>mu (dn:= .none) (hA.mono (by kst_all)) T h16 g7 g8 gf (tl:=_ :: _ :: _ :: _) gL C.k8 C.n78 H
theorem b1_1 (hA:AOk A 220) (C:LCo w g G kss ws sp above en y x1 vL) (ha:a<7) (h16:k<16):B1S w A g en [.int (.ofNat a) ta] eff k (([]:List Value)++(if k>>>0&&&1=0 then [] else [.int (.ofNat a) ta])):=fun T g7 g8 gf gL H=>mt (dn:= .none) (hA.mono (by kst_all)) T h16 ha g7 g8 gf (tl:=_ :: _ :: _ :: _) gL C.k8 C.n78 H
theorem b1_2 (hA:AOk A 220) (C:LCo w g G kss ws sp above en y x1 vL) (ha:a<7) (hb:b<7) (h16:k<16):B1S w A g en [.int (.ofNat a) ta, .int (.ofNat b) tb] eff k ((([]:List Value)++(if k>>>0&&&1=0 then [] else [.int (.ofNat a) ta]))++(if k>>>1&&&1=0 then [] else [.int (.ofNat b) tb])):=fun T g7 g8 gf gL H=>mq (dn:= .none) (hA.mono (by kst_all)) T h16 ha hb g7 g8 gf (tl:=_ :: _ :: _ :: _) gL C.k8 C.n78 H
theorem LCo.LC (C:LCo w g G kss ws sp above en y x1 vL):bo w kss sp 7:=iN (by rw[C.O.hk7,C.O.hsp]) ⟨by rw[C.O.hk7];exact Nat.le_of_ble_eq_true rfl,fun i=>Nat.le_trans (C.O.hsm i) (by kst_all)⟩ 7
theorem Per.kid {EX:List Addr} {xT:List Nat} (p:Per P h EX g G kss xT vL) (h7:kss.length=7) (ha:a<7) (hkm:kss.getD a []=[y1,y2]):∃ab t1 t2 ebx,(G 0)[a]? = some (.ref ab)∧h.get? ab=some (listO [.int (.ofNat y1) t1, .int (.ofNat y2) t2] ebx):=by
 have hkk:kss[a]? = some (kss.getD a []):=by simp[show a<kss.length by kst_all]
 obtain⟨ab,Lx,ebx,hib,hab',hVx⟩:=p.hB.2 _ _ hkk
 rw[hkm] at hVx
 obtain⟨t1,t2,rfl⟩:=hVx.two'
 exact⟨ab,t1,t2,ebx,hib,hab'⟩
theorem TlG.none {P:Params} {n:Nat} {tl:List DictEntry} (h:TlG P none n tl):tl=[]:=h.elim (·.2) fun ⟨_,_,_,z,_⟩=>nomatch z
theorem TlG.some {P:Params} {n:Nat} {u tl:List DictEntry} (h:TlG P (some u) n tl):∃f F,tl=(tE P f F u).drop n:=h.elim (fun z=>nomatch z.1) fun ⟨_,f,F,z,e⟩=>by cases z;exact⟨f,F,e⟩
theorem px (hA:AOk A 220) (C:LCo w g G kss ws sp above en y x1 vL) (T0:TOk kss ws sp (g 10) y en []):nu w A g G en kss ws vL 0 (smF kss sp en []^^^4294967295^^^al 4294967295 (laidF kss sp 7 0++en)) [smF kss sp en []] []:=by
 intro s gf o tl e at' et es to Lm Q E T p h7 h8 ht nta ntr hm IV ok htl hL H
 obtain rfl:o=none:=ok
 obtain rfl:=htl.none
 obtain⟨u0,L',rfl,IV'⟩:=IV.uncons
 obtain rfl:=IV'.none
 exact jI (Lm:=[]) (hA.mono (by kst_all)) T C.LC (p.ow.at 0 rfl) h8 ht (p.ow.at 1 rfl) p.hB (p.ow.at 4 rfl) C.VS hm C.O.hD0 C.O.hlen0 C.O.hasc0 T0.hlt hL C.kL (fun h' tk' j t' K hL'=>H h' tk' j t' [] _ K rfl hL')
theorem b12_1 (hA:AOk A 220) (C:LCo w g G kss ws sp above en y x1 vL) (a7:a<7) (ka:kss.getD a []=[y1,y2]) (l0:s0<2^32) (l1:s1<2^32):nu w A g G en kss ws vL 1 ((al (changeF above kss sp [a]) (List.replicate en.length 0)^^^s0)^^^s1) ([s0]++[s1]) [.int (.ofNat a) ta]:=by
 intro s gf o tl e at' et es to Lm Q E T p h7 h8 ht nta ntr hm IV ok htl hL H
 obtain rfl:o=some []:=ok
 obtain⟨f,F,rfl⟩:=htl.some
 obtain⟨u0,u1,rfl⟩:=IV.two'
 obtain⟨ab,t1,t2,ebx,hib,hab⟩:=p.kid C.O.hk7 a7 ka
 exact jH (b:=0) (tb:=0) hA T C.LC (p.ow.at 0 rfl) h7 h8 ht (p.ow.at 2 rfl) C.VA (p.ow.at 1 rfl) p.hB (p.ow.at 4 rfl) C.VS hm ⟨C.O.ha7,C.O.hk7⟩ C.O.hup C.O.hsm C.O.hDp C.O.hlen7 C.O.hasc7 nta ntr a7 hib hab ka C.O.henl l0 l1 hL C.kL (fun h' tk' j t' t'' K hL'=>H h' tk' _ t' _ _ K ⟨j,_,rfl⟩ hL')
@[reducible] noncomputable def e36 (w:World) (k1:Nat) (v1:Value):List DictEntry:=[ent w.params ch k1 v1]
theorem b12_2 (hA:AOk A 220) (C:LCo w g G kss ws sp above en y x1 vL) (a7:a<7) (ka:kss.getD a []=[y1,y2]) (l0:s0<2^32) (l1:s1<2^32) (l2:s2<2^32):nu w A g G en kss ws vL 2 (((al (changeF above kss sp [a]) (List.replicate en.length 0)^^^s0)^^^0)^^^s2) ([s0,s1]++[s2]) [.int (.ofNat a) ta]:=by
 intro s gf o tl e at' et es to Lm Q E T p h7 h8 ht nta ntr hm IV ok htl hL H
 obtain⟨jo,vo,rfl⟩:∃j v,o=some (e36 w j v):=ok
 obtain⟨f,F,rfl⟩:=htl.some
 obtain⟨u0,L',rfl,IV'⟩:=IV.uncons
 obtain⟨u1,u2,rfl⟩:=IV'.two'
 obtain⟨ab,t1,t2,ebx,hib,hab⟩:=p.kid C.O.hk7 a7 ka
 exact jG (b:=0) (tb:=0) hA T C.LC (p.ow.at 0 rfl) h7 h8 ht (p.ow.at 2 rfl) C.VA (p.ow.at 1 rfl) p.hB (p.ow.at 4 rfl) C.VS hm ⟨C.O.ha7,C.O.hk7⟩ C.O.hup C.O.hsm C.O.hDp C.O.hlen7 C.O.hasc7 nta ntr a7 hib hab ka C.O.henl l0 l1 l2 hL C.kL (fun h' tk' j t' t'' K hL'=>H h' tk' _ t' _ _ K ⟨_,_,rfl⟩ hL')
theorem b12_3 (hA:AOk A 220) (C:LCo w g G kss ws sp above en y x1 vL) (hab:a<b) (b7:b<7) (kb:kss.getD b []=[y1,y2]) (l0:s0<2^32) (l1:s1<2^32) (l2:s2<2^32) (l3:s3<2^32):nu w A g G en kss ws vL 3 ((((al (changeF above kss sp [a,b]) (List.replicate en.length 0)^^^s0)^^^s1)^^^s2)^^^s3) ([s0,s1,s2]++[s3]) [.int (.ofNat a) ta, .int (.ofNat b) tb]:=by
 intro s gf o tl e at' et es to Lm Q E T p h7 h8 ht nta ntr hm IV ok htl hL H
 obtain⟨jo,vo,rfl⟩:∃j v,o=some (e36 w j v):=ok
 obtain⟨f,F,rfl⟩:=htl.some
 obtain⟨u0,L',rfl,IV'⟩:=IV.uncons
 obtain⟨u1,L2,rfl,IV2⟩:=IV'.uncons
 obtain⟨u2,u3,rfl⟩:=IntVs.two' (a:=s2) (b:=s3) IV2
 obtain⟨ab,t1,t2,ebx,hib,hab'⟩:=p.kid C.O.hk7 b7 kb
 exact jF hA T C.LC (p.ow.at 0 rfl) h7 h8 ht (p.ow.at 2 rfl) C.VA (p.ow.at 1 rfl) p.hB (p.ow.at 4 rfl) C.VS hm ⟨C.O.ha7,C.O.hk7⟩ C.O.hup C.O.hsm C.O.hDp C.O.hlen7 C.O.hasc7 nta ntr hab b7 hib hab' kb C.O.henl l0 l1 l2 l3 hL C.kL (fun h' tk' j t' t'' K hL'=>H h' tk' _ t' _ _ K ⟨_,_,rfl⟩ hL')
theorem dup7 (K:Keeps h h' [g 0,g 8,g 15,149,163,g 7,it]) (K':Keeps h' h'' [g 0,g 8,g 15,149,163,g 7,it]):Keeps h h'' [g 0,g 8,g 15,149,163,g 7,it]:=(K.trans K').mono (fun a m=>(List.mem_append.mp m).elim id id)
theorem law_for (hA:AOk A 220) (hT:TopIn w.params s.heap) (pl:Plain above kss ws (g 10) y q) (C:LCo w g G kss ws (ws.map (esc (g 10))) above (esc (g 10) y) y (ws.getD 1 []) vL) (p:Per w.params s.heap [g 0,g 8,g 15,149,163,g 7] g G kss (ws.getD 0 []) vL) (VF:IntVs Lf (forksF kss q))
  (eI:s.heap.get? 149=some (bT [])) (eG:s.heap.get? 163=some (bT [])) (h7:s.heap.get? (g 7)=some ⟨.type "cell",none, .cell o7, #[]⟩) (h8:s.heap.get? (g 8)=some ⟨.type "cell",none, .cell o8, #[]⟩) (haf:s.heap.get? (g 19)=some (listO Lf eff)) (naf:g 19∉([g 0,g 8,g 15,149,163,g 7]:List Addr)) (hm:s.heap.get? (g 15)=some (listO [] es))
  (hL:s.heap.get? (g 0)=some (frame (lF w.params g (esc (g 10) y) []) e))
  (H:∀(h':Heap) tk' e' tl,Keeps s.heap h' [g 0,g 8,g 15,149,163,g 7]→TabE h'→TabT h'→h'.get? (g 0)=some (frame (lF w.params g (esc (g 10) y) tl) e')→Q .next ⟨h',s.gens,s.drawn,tk',s.os⟩):
  wpAny (mm w) A (execs [aZ 11] (gE g)) Q E s:=by
 refine bU ?_
 intro zQ zE
 have kX:∀{it:Nat},kg w it=none→∀a∈([g 0,g 8,g 15,149,163,g 7,it]:List Addr),kg w a=none:=fun ki=>allA (ai C.kL (ai C.k8 (ai C.km (ai (by kd_p) (ai (by kd_p) (ai C.k7 ki))))))
 have fin:∀{nf m:Nat} {S:List Nat} (hf:(Lf=[]∧nf=0∧m=0)∨(∃x,Lf=[x]∧nf=1∧m=1)∨∃x x',Lf=[x,x']∧nf=2∧m=3)
   (CH:∀{h2:Heap} {it tk2:Nat} {R:Result→Shared→Prop},TopIn w.params h2→Per w.params h2 [g 0,g 8,g 15,149,163,g 7,it] g G kss (ws.getD 0 []) vL→LSt w.params g (esc (g 10) y) 0 [] h2→h2.get? it=some (aq (.ofNat 0) (.ofNat (m+1)) 0 0 0)→h2.get? (g 19)=some (listO Lf eff)→g 19∉([g 0,g 8,g 15,149,163,g 7,it]:List Addr)→kg w it=none→
    (∀(h':Heap) tk',Keeps h2 h' [g 0,g 8,g 15,149,163,g 7,it]→LSt w.params g (esc (g 10) y) (m+1) S h'→(∃ta tr,h'.get? it=some (aq (.ofNat (m+1)) (.ofNat 0) ta tr 0))→codeAny (mm w) A (aU (dAt 23) 11 (.ref it) (gE g)) R ⟨h',s.gens,s.drawn,tk',s.os⟩)→
    codeAny (mm w) A (aU (dAt 23) 11 (.ref it) (gE g)) R ⟨h2,s.gens,s.drawn,tk2,s.os⟩),wpAny (mm w) A (execs [aZ 11] (gE g)) zQ zE s:=by
  intro nf m S hf CH
  refine aH law11 ?_
  refine wpAny_execs_cons (wpAny_For ?_)
  refine law_rng hA hT haf hL hf (fun h2 t2 it K2 T2 fis ki I2=>?_)
  have naf':g 19∉([g 0,g 8,g 15,149,163,g 7,it]:List Addr):=fun m=>by
   rcases List.mem_append.mp (show g 19∈[g 0,g 8,g 15,149,163,g 7]++[it] from m) with m | m
   ·exact naf m
   ·simp at m;rw[m,fis] at haf;cases haf
  refine CH T2 ((p.add fis).keep (K2.mono (by kd_mem))) ⟨.inl (K2.kp eI), .inl (K2.kp eG),fun z=>absurd rfl z,⟨_,K2.kp h7⟩,⟨_,K2.kp h8⟩,⟨_,_,K2.kp hm,IntVs.nil⟩,⟨none,[],_,K2.kp hL, .inl ⟨rfl,rfl⟩,rfl⟩⟩ I2 (K2.kp haf) naf' ki (fun h4 tk4 B2 St I4=>?_)
  obtain⟨ta,tr,i2⟩:=I4
  obtain⟨_,_,t1,_,_,_,⟨_,tl,e',L2,_⟩⟩:=St
  have⟨te2,tt2⟩:=t1 (Nat.succ_ne_zero _)
  obtain⟨l1,t149⟩:=te2.at
  obtain⟨l2,t163⟩:=tt2.at
  refine oX hA (B2.top T2 (kX ki)) i2 ki (fun h9 tk9 K9=>?_)
  have S9:Keeps s.heap h9 [g 0,g 8,g 15,149,163,g 7]:=(K2.mono (by kd_mem):Keeps s.heap h2 [g 0,g 8,g 15,149,163,g 7]).fresh2 ((B2.trans K9)) (by
   intro a m
   rcases List.mem_append.mp m with m | m
   ·rcases List.mem_append.mp (show a∈[g 0,g 8,g 15,149,163,g 7]++[it] from m) with m | m
    ·exact .inl m
    ·simp at m;subst m;exact .inr fis
   ·simp at m;subst m;exact .inr fis)
  refine wpAny_execs_nil ?_
  have x2:=X1 i2 (by kd_p)
  exact H h9 tk9 e' tl S9 (te2.keepD K9 x2 (by tbr_iter (apart t149 i2))) (tt2.keepD K9 x2 (by tbr_iter (apart t163 i2))) (K9.kq L2 (by tbr_iter (apart L2 i2)))
 rcases pl.F with F0 | ⟨a,z1,z2,P⟩ | ⟨a,b,z1,z2,z3,z4,P⟩
 ·rw[F0] at VF
  obtain rfl:=VF.none
  exact fin (.inl ⟨rfl,rfl,rfl⟩) (fun {h2 it tk2 R} T2 P2 St I2 gf nf' ki HH=>lt (k:=0) (r:=0) (S:=[]) (s:=⟨h2,s.gens,s.drawn,tk2,s.os⟩) hA T2 C P2 St I2 gf nf' ki (by kst_all) (by kst_all) (b1_0 hA C (by kst_all)) pl.T0 IntVs.nil (px hA C pl.T0) pl.P0 HH)
 ·rw[P.F] at VF
  obtain⟨ta,L',rfl,H'⟩:=VF.uncons
  obtain rfl:=H'.none
  exact fin (.inr (.inl ⟨_,rfl,rfl,rfl⟩)) (fun {h2 it tk2 R} T2 P2 St I2 gf nf' ki HH=>by
   refine lt (k:=0) (r:=1) (S:=[]) (s:=⟨h2,s.gens,s.drawn,tk2,s.os⟩) hA T2 C P2 St I2 gf nf' ki (by kst_all) (by kst_all) (b1_1 hA C P.a7 (by kst_all)) pl.T0 IntVs.nil (px hA C pl.T0) pl.P0 (fun h3 tk3 K3 St3 I3=>?_)
   obtain⟨ta3,tr3,I3⟩:=I3
   exact lt (k:=1) (r:=0) (s:=⟨h3,s.gens,s.drawn,tk3,s.os⟩) hA (K3.top T2 (kX ki)) C (P2.keep K3) St3 I3 (K3.kq gf nf') nf' ki (by kst_all) (by kst_all) (b1_1 hA C P.a7 (by kst_all)) P.TA (IntVs.one a ta) (b12_1 hA C P.a7 P.ka pl.T0.hlt P.TA.hlt) P.PA (fun h4 tk4 K4 St4 I4=>HH h4 tk4 (dup7 K3 K4) St4 I4))
 ·rw[P.F] at VF
  obtain⟨ta,tb,rfl⟩:=VF.two'
  have a7:a<7:=Nat.lt_trans P.ab P.b7
  exact fin (.inr (.inr ⟨_,_,rfl,rfl,rfl⟩)) (fun {h2 it tk2 R} T2 P2 St I2 gf nf' ki HH=>by
   refine lt (k:=0) (r:=3) (S:=[]) (s:=⟨h2,s.gens,s.drawn,tk2,s.os⟩) hA T2 C P2 St I2 gf nf' ki (by kst_all) (by kst_all) (b1_2 hA C a7 P.b7 (by kst_all)) pl.T0 IntVs.nil (px hA C pl.T0) pl.P0 (fun h3 tk3 K3 St3 I3=>?_)
   obtain⟨ta3,tr3,I3⟩:=I3
   refine lt (k:=1) (r:=2) (s:=⟨h3,s.gens,s.drawn,tk3,s.os⟩) hA (K3.top T2 (kX ki)) C (P2.keep K3) St3 I3 (K3.kq gf nf') nf' ki (by kst_all) (by kst_all) (b1_2 hA C a7 P.b7 (by kst_all)) P.TA (IntVs.one a ta) (b12_1 hA C a7 P.ka pl.T0.hlt P.TA.hlt) P.PA (fun h4 tk4 K4 St4 I4=>?_)
   obtain⟨ta4,tr4,I4⟩:=I4
   have B4:=dup7 K3 K4
   refine lt (k:=2) (r:=1) (s:=⟨h4,s.gens,s.drawn,tk4,s.os⟩) hA (B4.top T2 (kX ki)) C (P2.keep B4) St4 I4 (B4.kq gf nf') nf' ki (by kst_all) (by kst_all) (b1_2 hA C a7 P.b7 (by kst_all)) P.TB (IntVs.one b tb) (b12_2 hA C P.b7 P.kb pl.T0.hlt P.TA.hlt P.TB.hlt) P.PB (fun h5 tk5 K5 St5 I5=>?_)
   obtain⟨ta5,tr5,I5⟩:=I5
   have B5:=dup7 B4 K5
   exact lt (k:=3) (r:=0) (s:=⟨h5,s.gens,s.drawn,tk5,s.os⟩) hA (B5.top T2 (kX ki)) C (P2.keep B5) St5 I5 (B5.kq gf nf') nf' ki (by kst_all) (by kst_all) (b1_2 hA C a7 P.b7 (by kst_all)) P.TAB (IntVs.two a b ta tb) (b12_3 hA C P.ab P.b7 P.kb pl.T0.hlt P.TA.hlt P.TB.hlt P.TAB.hlt) P.PAB (fun h6 tk6 K6 St6 I6=>HH h6 tk6 (dup7 B5 K6) St6 I6))
end
noncomputable def gi:Prop:=∀(above:List Nat) (kss ws:List (List Nat)) (hk:Nat) (y:List Nat) (q:Nat),(above,kss)∈reach 6→hk<5→ws.length=7→(∀x∈ws,x∈wordsL)→ws.getD 0 []≠[]→y∈wordsL→q<3→Plain above kss ws hk y q
theorem fR (k:Nat):cz k∈wordsL:=by
 match k with
 | 0=>decide
 | 1=>decide
 | 2=>decide
 | 3=>decide
 | 4=>decide
 | 5=>decide
 | 6=>decide
 | (n+7)=>simp[cz,wordsL]
theorem gh (o:Int):[97+(o % (2:Nat)).toNat]∈wordsL:=by
 rcases lt2 _ (klm (o:=o) rfl rfl) with h | h<;>rw[h]<;>decide
theorem dJ (h:x∈wordsL):x=[]∨∃c,x=[c]:=by
 simp only[wordsL,List.mem_cons,List.not_mem_nil,or_false] at h
 rcases h with rfl | rfl | rfl | rfl | rfl | rfl | rfl | rfl | rfl | rfl
 ·exact .inl rfl
 all_goals exact .inr ⟨_,rfl⟩
theorem nI {x0 x1 x2 x3 x4 x5 x6:List Nat} {t4 t5 t6:Nat}:StrVs [.str ⟨⟨x0⟩⟩ t0, .str ⟨⟨x1⟩⟩ t1, .str ⟨⟨x2⟩⟩ t2, .str ⟨⟨x3⟩⟩ t3, .str ⟨⟨x4⟩⟩ t4, .str ⟨⟨x5⟩⟩ t5, .str ⟨⟨x6⟩⟩ t6] [x0,x1,x2,x3,x4,x5,x6]:=
 StrVs.push (StrVs.push (StrVs.push (StrVs.push (StrVs.push (StrVs.push (StrVs.push StrVs.nil x0 t0) x1 t1) x2 t2) x3 t3) x4 t4) x5 t5) x6 t6
theorem Keeps.tr (K:Keeps h h' S) (K':Keeps h' h'' S):Keeps h h'' S:=(K.trans K').mono fun a m=>(List.mem_append.mp m).elim id id
theorem lawBody:(dAt 23).2.1=(dAt 23).2.1.take 2++(((dAt 23).2.1.drop 2).take 2++([aZ 4]++([aZ 5]++([aZ 6]++([aZ 7]++([aZ 8]++([aZ 9]++([aZ 10]++([aZ 11]++[aZ 12]))))))))):=by rfl
theorem Ow.keepL {l:List (Addr×Obj)} (F:Ow h l) (K:Keeps h h' [L]) (hL:h.get? L=some o) (e:(l.all fun p=>p.2.cls != o.cls)=true):Ow h' l:=fun p m=>
 K.kq (F p m) (nmA (apart (F p m) hL (List.all_eq_true.mp e p m)))
theorem KidsAt.keepF {xs:List (List Nat)} (K:Keeps h h' [L]) (H:KidsAt h B xs) (hL:h.get? L=some o) (e:((listO [] 0).cls != o.cls)=true):KidsAt h' B xs:=
 KidsAt.keepL K H (fun i b e'=>by
  obtain⟨c',Lz,ez,q1,q2,_⟩:=H.2 i _ (H.row e')
  rw[q1] at e';cases e'
  exact nmA (apart q2 hL e))
theorem oy {l:List (Addr×Obj)} (F:Ow h l) (H:let l':=l;Ow h l'→G):G:=H F
theorem kids_ne {Lab:List Value} {eab:Nat} (H:KidsAt h B kss) (ha:h.get? ab=some (listO Lab eab)) (VA:IntVs Lab above) (hn:above.length=7) (h2:∀i,(kss.getD i []).length≤2):∀(i:Nat) (b:Addr),B[i]? = some (Value.ref b)→ab≠b:=fun i b e q=>by
 obtain⟨c',Lz,ez,q1,q2,q3⟩:=H.2 i _ (H.row e)
 rw[q1] at e;cases e
 rw[←q,ha] at q2
 have z1:Lab=Lz:=by have:=congrArg Obj.data (Option.some.inj q2);simpa using (Data.seq.inj this).1
 have z2:=VA.1
 have z3:=q3.1
 have z4:=h2 i
 rw[z1] at z2;kst_all
theorem law_end {g:Nat→Nat} {G:Nat→List Value} {s:Shared} {es eff p1:Nat} {x1 x2 x3 x4:Str} (hA:AOk A 220) (hT:TopIn w.params s.heap) (pl:Plain above kss ws (g 10) y q) (C:LCo w g G kss ws (ws.map (esc (g 10))) above (esc (g 10) y) y (ws.getD 1 []) vL) (p:Per w.params s.heap [g 0,g 8,g 15,149,163,g 7] g G kss (ws.getD 0 []) vL) (VF:IntVs Lf (forksF kss q))
  (eI:s.heap.get? 149=some (bT [])) (eG:s.heap.get? 163=some (bT [])) (h7:s.heap.get? (g 7)=some ⟨.type "cell",none, .cell o7, #[]⟩) (h8:s.heap.get? (g 8)=some ⟨.type "cell",none, .cell o8, #[]⟩) (haf:s.heap.get? (g 19)=some (listO Lf eff)) (naf:g 19∉([g 0,g 8,g 15,149,163,g 7]:List Addr)) (hm:s.heap.get? (g 15)=some (listO [] es))
  (hL:s.heap.get? (g 0)=some (frame (lF w.params g (esc (g 10) y) []) e)) (hx:(y=[]∧vL = .none)∨(∃c,y=[c]∧vL = .str ⟨⟨[c]⟩⟩ p2)) (G4:G 4=[.str w0 p0, .str w1 p1, .str ⟨⟨y⟩⟩ p2]) (G2:G 2=[.str ⟨⟨ws.getD 0 []⟩⟩ (g 45), .str x1 q1, .str x2 q2, .str x3 q3, .str x4 q4, .str x5 q5, .str x6 q6])
  (H:∀(h':Heap) tk',Keeps s.heap h' [g 0,g 8,g 15,149,163,g 7]→TabE h'→TabT h'→Q (.ret (.bool true)) ⟨h',s.gens,s.drawn,tk',s.os⟩):
  wpAny (mm w) A (execs ([aZ 11]++[aZ 12]) (gE g)) Q E s:=by
 refine aA ?_
 refine law_for hA hT pl C p VF eI eG h7 h8 haf naf hm hL (fun h' tk' e' tl K9 TE TT L9=>?_)
 have T9:TopIn w.params h':=K9.top hT (allA (ai C.kL (ai C.k8 (ai C.km (ai (by kd_p) (ai (by kd_p) C.k7))))))
 have P9:=(p.keep K9).ow
 have ho:=P9.at 5 rfl
 have hw:=P9.at 3 rfl
 rw[G4] at ho
 rw[G2] at hw
 show wpAny _ _ (execs [aZ 12] _) Q E ⟨h',s.gens,s.drawn,tk',s.os⟩
 exact law_ret (hA.mono (by kst_all)) T9 hx ho hw (P9.at 6 rfl) (P9.at 7 rfl) C.kcm C.kfi L9 C.kL (fun h10 tk10 K10=>H h10 tk10 ((K9.trans K10).mono (by kd_mem)) (TE.keepC K10 (by kd_mem)) (TT.keepC K10 (by kd_mem)))
theorem oE (PL:gi) {s:Shared} {c3 es:Nat} (hA:AOk A 250) (hT:TopIn w.params s.heap) (hls:Lsc.length≤63) (hns:IntsAre Lsc ns)
  (h1:s.heap.get? c1=some (cellO (.ref sc))) (h2:s.heap.get? c2=some bd) (h3:s.heap.get? c3=some bd) (h4:s.heap.get? c4=some bd) (h5:s.heap.get? c5=some bd) (h6:s.heap.get? c6=some bd) (h7:s.heap.get? c7=some bd) (h8:s.heap.get? c8=some bd) (hs:s.heap.get? sc=some (listO Lsc es)) (hL:s.heap.get? L=some (frame [] 0))
  (eI:s.heap.get? 149=some (bT [])) (eG:s.heap.get? 163=some (bT [])) (kL:kg w L=none) (k2:kg w c2=none) (k3:kg w c3=none) (k4:kg w c4=none) (k5:kg w c5=none) (k6:kg w c6=none) (k7:kg w c7=none) (k8:kg w c8=none)
  (nd:[c1,c2,c3,c4,c5,c6,c7,c8].Pairwise (· ≠ ·))
  (H:∀(h':Heap) tk',Keeps s.heap h' [L,c2,c3,c4,c5,c6,c7,c8,149,163]→TabE h'→TabT h'→Q (.ret (.bool true)) ⟨h',s.gens,s.drawn,tk',s.os⟩):
  wpAny (mm w) A (execs (dAt 23).2.1 (bq L c1 c2 c3 c4 c5 c6 c7 c8)) Q E s:=by
 simp only[List.pairwise_cons,List.mem_cons,List.not_mem_nil,or_false,forall_eq_or_imp,forall_eq] at nd
 kd_adr
 obtain⟨⟨n12,n13,n14,n15,n16,n17,n18⟩,⟨n23,n24,n25,n26,n27,n28⟩,⟨n34,n35,n36,n37,n38⟩,⟨n45,n46,n47,n48⟩,⟨n56,n57,n58⟩,⟨n67,n68⟩,n78,_⟩:=nd
 refine bU ?_
 intro zQ zE
 refine aH lawBody (aA ?_)
 refine law_a1 hA hT hls hns h2 h3 h1 hs k2 k3 n23 ⟨n12,n13⟩ (fun ha tka ow o0 o1 o2 o3 t0 t1 t2 t3 eo Ka c3a owa fow=>?_)
 have c4a:=Ka.kq h4 (by tbr_iter (ai n24.symm n34.symm))
 have c5a:=Ka.kq h5 (by tbr_iter (ai n25.symm n35.symm))
 have c6a:=Ka.kq h6 (by tbr_iter (ai n26.symm n36.symm))
 have c7a:=Ka.kq h7 (by tbr_iter (ai n27.symm n37.symm))
 have c8a:=Ka.kq h8 (by tbr_iter (ai n28.symm n38.symm))
 have kN:=Ka.kq eI (by tbr_iter (ai (apart eI h2) (apart eI h3)))
 have kM:=Ka.kq eG (by tbr_iter (ai (apart eG h2) (apart eG h3)))
 have La:=Ka.kq hL (by tbr_iter (ai (apart hL h2) (apart hL h3)))
 have Ta:TopIn w.params ha:=Ka.top hT (by tbr_iter (ai k2 k3))
 show wpAny _ _ (execs (_++_) _) Q E ⟨ha,s.gens,s.drawn,tka,s.os⟩
 refine aA ?_
 refine law_a2 hA Ta c3a owa c4a c5a La k4 k5 kL ⟨n45,n34,n35⟩ (fun hb tkb ab bl td hk Lab eab Lbl ebl x j1 j2 Kb hk5 hx Lb c4b c5b habb VA hblb HBb HTb=>?_)
 have c6b:=Kb.kq c6a (by tbr_iter (ai n46.symm (ai n56.symm (apart c6a La))))
 have c7b:=Kb.kq c7a (by tbr_iter (ai n47.symm (ai n57.symm (apart c7a La))))
 have c8b:=Kb.kq c8a (by tbr_iter (ai n48.symm (ai n58.symm (apart c8a La))))
 have t149b:=Kb.kq kN (by tbr_iter (ai (apart kN c4a) (ai (apart kN c5a) (apart kN La))))
 have t163b:=Kb.kq kM (by tbr_iter (ai (apart kM c4a) (ai (apart kM c5a) (apart kM La))))
 have c3b:=Kb.kq c3a (by tbr_iter (ai n34 (ai n35 (apart c3a La))))
 have owb:=Kb.kq owa (by tbr_iter (ai (apart owa c4a) (ai (apart owa c5a) (apart owa La))))
 have Tb:TopIn w.params hb:=Kb.top Ta (by tbr_iter (ai k4 (ai k5 kL)))
 generalize hab':(dm x).1=above at *
 generalize hks':(dm x).2=kss at *
 have MR:(above,kss)∈reach 6:=by rw[←hab',←hks'];exact hx
 obtain⟨rp1,rp2,rp3,rp4⟩:=dQ 6 (by decide) MR
 have rp5:∀i,(kss.getD i []).length≤50:=fun i=>Nat.le_trans (rp3 i) (by decide)
 have f_hand:=HTb
 have n0:=kids_ne HBb habb VA rp1 rp3
 show wpAny _ _ (execs (_++_) _) Q E ⟨hb,s.gens,s.drawn,tkb,s.os⟩
 refine aA ?_
 have Fb:Ow hb _:=ag c4b (ag c5b (ag c6b (ag c7b (ag c8b (ag t149b (ag t163b (ag c3b (ag owb (ag habb (ag hblb ah))))))))))
 refine law_odd hA Tb c3b owb Lb kL (fun hc tkc ao p0 p1 p2 eao j3 Kc fao kao haoc Lc=>?_)
 have Fc:Ow hc _:=ag haoc (Fb.keepL Kc Lb (by kd_p))
 have Tc:TopIn w.params hc:=Kc.top Tb (by tbr_iter kL)
 have HBc:=KidsAt.keepF Kc HBb Lb (by kd_p)
 have HTc:=HTb.keep Kc (by simp;obtain⟨_,_,z,_⟩:=HTb.tab;exact apart z Lb)
 show wpAny _ _ (execs (_++_) _) Q E ⟨hc,s.gens,s.drawn,tkc,s.os⟩
 refine aA ?_
 refine my hA Tc (Fc.at 8 rfl) (Fc.at 9 rfl) Lc kL (fun hd tkd ap r0 r1 r2 r3 r4 eap j4 Kd fap kap hapd Ld=>?_)
 have Fd:Ow hd _:=ag hapd (Fc.keepL Kd Lc (by kd_p))
 have Td:TopIn w.params hd:=Kd.top Tc (by tbr_iter kL)
 have HBd:=KidsAt.keepF Kd HBc Lc (by kd_p)
 have HTd:=HTc.keep Kd (by simp;obtain⟨_,_,z,_⟩:=HTc.tab;exact apart z Lc)
 show wpAny _ _ (execs (_++_) _) Q E ⟨hd,s.gens,s.drawn,tkd,s.os⟩
 refine aA ?_
 have m0:=gh (o2 / (2^0:Nat))
 have m1:=gh (o2 / (2^1:Nat))
 have m2:=gh (o2 / (2^2:Nat))
 have m3:=gh (o2 / (2^3:Nat))
 have m4:=gh (o2 / (2^4:Nat))
 have e0:=fR ((o1 / (8^0:Nat)) % (8:Nat)).toNat
 have e1:=fR ((o1 / (8^1:Nat)) % (8:Nat)).toNat
 have e2:=fR ((o1 / (8^2:Nat)) % (8:Nat)).toNat
 have m0':[97+((o2 / (2^0:Nat)) % (2:Nat)).toNat]≠[]:=by simp
 generalize [97+((o2 / (2^0:Nat)) % (2:Nat)).toNat]=y0 at *
 generalize [97+((o2 / (2^1:Nat)) % (2:Nat)).toNat]=y1 at *
 generalize [97+((o2 / (2^2:Nat)) % (2:Nat)).toNat]=y2 at *
 generalize [97+((o2 / (2^3:Nat)) % (2:Nat)).toNat]=y3 at *
 generalize [97+((o2 / (2^4:Nat)) % (2:Nat)).toNat]=y4 at *
 generalize cz ((o1 / (8^0:Nat)) % (8:Nat)).toNat=x0 at *
 generalize cz ((o1 / (8^1:Nat)) % (8:Nat)).toNat=x1 at *
 generalize cz ((o1 / (8^2:Nat)) % (8:Nat)).toNat=x2 at *
 refine mv (bI:= .none) (dK:= .none) hA Td (Fd.at 1 rfl) hapd Ld kL (fun he tke aw eaw j5 Ke faw kaw hawe Le=>?_)
 refine oy (ag hawe (Fd.keepL Ke Ld (by kd_p))) ?_
 intro zFe Fe
 have Te:TopIn w.params he:=Ke.top Td (by tbr_iter kL)
 have HBe:=KidsAt.keepF Ke HBd Ld (by kd_p)
 have HTe:=HTd.keep Ke (by simp;obtain⟨_,_,z,_⟩:=HTd.tab;exact apart z Ld)
 show wpAny _ _ (execs (_++_) _) Q E ⟨he,s.gens,s.drawn,tke,s.os⟩
 refine aA ?_
 refine mx (dK:= .none) (cP:= .none) hA Te (Fe.at 4 rfl) HTe (Fe.at 2 rfl) hawe Le kL m0 e0 m1 e1 m2 m3 m4 e2 (fun hf tkf asp s0 s1 s2 s3 s4 s5 s6 q' eas j6 j7 Kf fas kas hasf Lf=>?_)
 refine oy (ag hasf (Fe.keepL Kf Le (by kd_p))) ?_
 intro zFf Ff
 have Tf:TopIn w.params hf:=Kf.top Te (by tbr_iter kL)
 have HBf:=KidsAt.keepF Kf HBe Le (by kd_p)
 show wpAny _ _ (execs (_++_) _) Q E ⟨hf,s.gens,s.drawn,tkf,s.os⟩
 refine aA ?_
 refine mB hA Tf (Ff.at 4 rfl) (Ff.at 6 rfl) (Ff.at 14 rfl) HBf rp2 rp5 k6 n46 (fun hg tkg ae Lae eae Kg fae kae haeg VE c6g=>?_)
 have c4g:=Kg.kq (Ff.at 4 rfl) (by tbr_iter n46)
 have c5g:=Kg.kq (Ff.at 5 rfl) (by tbr_iter n56)
 have c7g:=Kg.kq (Ff.at 7 rfl) (by tbr_iter n67.symm)
 have c8g:=Kg.kq (Ff.at 8 rfl) (by tbr_iter n68.symm)
 have t149g:=Kg.kq (Ff.at 9 rfl) (by tbr_iter (apart (Ff.at 9 rfl) (Ff.at 6 rfl)))
 have t163g:=Kg.kq (Ff.at 10 rfl) (by tbr_iter (apart (Ff.at 10 rfl) (Ff.at 6 rfl)))
 have Lg:=Kg.kq Lf (by tbr_iter (apart Lf (Ff.at 6 rfl)))
 have c3g:=Kg.kq (Ff.at 11 rfl) (by tbr_iter n36)
 have owg:=Kg.kq (Ff.at 12 rfl) (by tbr_iter (apart (Ff.at 12 rfl) (Ff.at 6 rfl)))
 have abg:=Kg.kq (Ff.at 13 rfl) (by tbr_iter (apart (Ff.at 13 rfl) (Ff.at 6 rfl)))
 have blg:=Kg.kq (Ff.at 14 rfl) (by tbr_iter (apart (Ff.at 14 rfl) (Ff.at 6 rfl)))
 have aog:=Kg.kq (Ff.at 3 rfl) (by tbr_iter (apart (Ff.at 3 rfl) (Ff.at 6 rfl)))
 have apg:=Kg.kq (Ff.at 2 rfl) (by tbr_iter (apart (Ff.at 2 rfl) (Ff.at 6 rfl)))
 have awg:=Kg.kq (Ff.at 1 rfl) (by tbr_iter (apart (Ff.at 1 rfl) (Ff.at 6 rfl)))
 have asg:=Kg.kq hasf (by tbr_iter (apart hasf (Ff.at 6 rfl)))
 have Tg:TopIn w.params hg:=Kg.top Tf (by tbr_iter k6)
 have HBg:=KidsAt.keepF Kg HBf (Ff.at 6 rfl) (by kd_p)
 show wpAny _ _ (execs (_++_) _) Q E ⟨hg,s.gens,s.drawn,tkg,s.os⟩
 refine aA ?_
 have hq3:((o3 / (5:Nat)) % (3:Nat)).toNat<3:=by kst_all
 have pl:=PL above kss [y0,x0,y1,x1,y2,y3,y4] hk x2 _ MR hk5 rfl (by tbr_iter (ai m0 (ai e0 (ai m1 (ai e1 (ai m2 (ai m3 m4))))))) m0' e2 hq3
 refine oy (ag c4g (ag c5g (ag c6g (ag c7g (ag c8g (ag t149g (ag t163g (ag c3g (ag owg (ag abg (ag blg (ag aog (ag apg (ag awg (ag asg (ag haeg ah)))))))))))))))) ?_
 intro zFg Fg
 refine mA hA Tg c3g c6g owg haeg VE (by have:=List.length_filter_le (fun j=>decide ((kss.getD j []).length=2)) (List.range' 0 7);simpa using this) (fun x hx=>by have:=(List.mem_filter.mp hx).1;simp[List.mem_range'] at this;kst_all) rfl (fun z=>by rw[←z,(Ff.at 12 rfl)] at fae;cases fae) Lg kL (fun hh tkh af Laf eaf j8 Kh faf kaf hafh VF Lh=>?_)
 refine oy (ag hafh (Fg.keepL Kh Lg (by kd_p))) ?_
 intro zFh Fh
 have Th:TopIn w.params hh:=Kh.top Tg (by tbr_iter kL)
 have HBh:=KidsAt.keepF Kh HBg Lg (by kd_p)
 show wpAny _ _ (execs (_++_) _) Q E ⟨hh,s.gens,s.drawn,tkh,s.os⟩
 refine aA ?_
 refine mC (dK:= .none) (cP:= .none) hA Th (Fh.at 12 rfl) (Fh.at 14 rfl) Lh kL (dJ e2) (fun hi tki fi cm am a1 a2 u1 u2 v1 v2 j9 j10 j11 vT Ki hvT hfii hcmi hami ffi fcm fam kfi kcm kam nfc Li=>?_)
 refine oy (Fh.keepL Ki Lh (by kd_p)) ?_
 intro zFi Fi
 have Ti:TopIn w.params hi:=Ki.top Th (by tbr_iter kL)
 have HBi:=KidsAt.keepF Ki HBh Lh (by kd_p)
 have hyy:(vT = .none∧x2=[])∨∃c kv,vT = .str ⟨⟨[c]⟩⟩ kv∧x2=[c]∧x2∈wordsL:=by
  rcases hvT with⟨h1',h2'⟩ | ⟨h1',h2'⟩
  ·exact .inl ⟨h2',h1'⟩
  ·rcases dJ e2 with h3' | ⟨c,h3'⟩
   ·exact absurd h3' h1'
   ·exact .inr ⟨c,p2,by rw[h2',h3'],h3',e2⟩
 have hxx:(x2=[]∧vT = .none)∨(∃c,x2=[c]∧vT = .str ⟨⟨[c]⟩⟩ p2):=by
  rcases hvT with⟨h1',h2'⟩ | ⟨h1',h2'⟩
  ·exact .inl ⟨h1',h2'⟩
  ·rcases dJ e2 with h3' | ⟨c,h3'⟩
   ·exact absurd h3' h1'
   ·exact .inr ⟨c,h3',by rw[h2',h3']⟩
 have hv0:vT = .none∨∃x k,vT = .str x k:=by
  rcases hvT with⟨h1',h2'⟩ | ⟨h1',h2'⟩
  ·exact .inl h2'
  ·exact .inr ⟨_,_,h2'⟩
 have nam:∀{a:Addr} {o:Obj},hh.get? a=some o→a≠am:=fun q e=>by rw[e,fam] at q;cases q
 have mem:∀{a:Addr},a≠L→a≠c8→a≠am→a≠149→a≠163→a≠c7→a∉([L,c8,am,149,163,c7]:List Addr):=fun x1 x2 x3 x4 x5 x6=>nmA (ai x1 (ai x2 (ai x3 (ai x4 (ai x5 x6)))))
 have jE:∀{a:Addr} {L0:List Value} {e0:Nat},hi.get? a=some (listO L0 e0)→a≠am→a∉([L,c8,am,149,163,c7]:List Addr):=fun q z=>mem (apart q Li) (apart q (Fi.at 5 rfl)) z (apart q (Fi.at 6 rfl)) (apart q (Fi.at 7 rfl)) (apart q (Fi.at 4 rfl))
 have memD:∀{a:Addr} {L0:List DictEntry} {e0:Nat},hi.get? a=some (dictO L0 e0)→a∉([L,c8,am,149,163,c7]:List Addr):=fun q=>mem (apart q Li) (apart q (Fi.at 5 rfl)) (apart q hami) (apart q (Fi.at 6 rfl)) (apart q (Fi.at 7 rfl)) (apart q (Fi.at 4 rfl))
 have SH:Keeps s.heap hh [L,c2,c3,c4,c5,c6,c7,c8,149,163]:=(((((((Ka.mono (by kd_mem)).tr (Kb.mono (by kd_mem))).tr (Kc.mono (by kd_mem))).tr (Kd.mono (by kd_mem))).tr (Ke.mono (by kd_mem))).tr (Kf.mono (by kd_mem))).tr (Kg.mono (by kd_mem))).tr (Kh.mono (by kd_mem))
 have SI:Keeps s.heap hi [L,c2,c3,c4,c5,c6,c7,c8,149,163]:=SH.tr (Ki.mono (by kd_mem))
 have fams:s.heap.get? am=none∨am∈([L,c2,c3,c4,c5,c6,c7,c8,149,163]:List Addr):=by
  cases q:s.heap.get? am with
  | none=>exact .inl rfl
  | some o=>
   by_cases m:am∈([L,c2,c3,c4,c5,c6,c7,c8,149,163]:List Addr)
   ·exact .inr m
   ·have:=SH.kq q m
    rw[fam] at this;cases this
 have naf:af∉([L,c8,am,149,163,c7]:List Addr):=jE (Fi.at 0 rfl) (nam hafh)
 have VF':IntVs Laf (forksF kss (o3 / (5:Nat) % (3:Nat)).toNat):=VF
 have afi:=Fi.at 0 rfl
 have nBi:∀(i:Nat) (b:Addr),Lbl[i]? = some (Value.ref b)→b∉([L,c8,am,149,163,c7]:List Addr):=fun i b e=>by
  obtain⟨c',Lz,ez,q1,q2,_⟩:=HBh.2 i _ (HBh.row e)
  obtain⟨c'',Lz',ez',q1',q2',_⟩:=HBi.2 i _ (HBi.row e)
  rw[q1] at q1';cases q1'
  rw[q1] at e;cases e
  exact jE q2' (nam q2)
 show wpAny _ _ (execs ([aZ 11]++[aZ 12]) (bq L c1 c2 c3 c4 c5 c6 c7 c8)) Q E ⟨hi,s.gens,s.drawn,tki,s.os⟩
 exact law_end (s:=⟨hi,s.gens,s.drawn,tki,s.os⟩) (g:=nthD 0 (L :: c1 :: c2 :: c3 :: c4 :: c5 :: c6 :: c7 :: c8 :: ab :: hk :: ao :: aw :: q' :: asp :: am :: cm :: fi :: ap :: af :: j1 :: j2 :: j3 :: j4 :: j5 :: j7 :: j6 :: j8 :: j9 :: j10 :: j11 :: bl :: ebl :: eab :: eaw :: eas :: eao :: 2 :: u1 :: u2 :: v1 :: v2 :: 2 :: a1 :: a2 :: r0 :: [])) (G:=nthD [] [Lbl,Lab,[.str ⟨⟨y0⟩⟩ r0, .str ⟨⟨x0⟩⟩ p0, .str ⟨⟨y1⟩⟩ r1, .str ⟨⟨x1⟩⟩ p1, .str ⟨⟨y2⟩⟩ r2, .str ⟨⟨y3⟩⟩ r3, .str ⟨⟨y4⟩⟩ r4],[.str ⟨⟨esc hk y0⟩⟩ s0, .str ⟨⟨esc hk x0⟩⟩ s1, .str ⟨⟨esc hk y1⟩⟩ s2, .str ⟨⟨esc hk x1⟩⟩ s3, .str ⟨⟨esc hk y2⟩⟩ s4, .str ⟨⟨esc hk y3⟩⟩ s5, .str ⟨⟨esc hk y4⟩⟩ s6],[.str ⟨⟨x0⟩⟩ p0, .str ⟨⟨x1⟩⟩ p1, .str ⟨⟨x2⟩⟩ p2]])
  (hA.mono (by kst_all)) Ti pl ⟨pl.O,⟨_,_,_,_,_,rfl⟩,⟨_,_,_,_,_,_,_,_,_,_,_,_,_,rfl⟩,nI,nI,VA,kcm,kfi,hv0,hyy,n0,n78,kam,kL,k7,k8⟩
  ⟨ag (Fi.at 1 rfl) (ag (Fi.at 11 rfl) (ag (Fi.at 10 rfl) (ag (Fi.at 14 rfl) (ag (Fi.at 15 rfl) (ag (Fi.at 12 rfl) (ag hcmi (ag hfii ah))))))),allA (ai (mem (apart (Fi.at 1 rfl) Li) n48 (apart (Fi.at 1 rfl) hami) (apart (Fi.at 1 rfl) (Fi.at 6 rfl)) (apart (Fi.at 1 rfl) (Fi.at 7 rfl)) n47) (ai (jE (Fi.at 11 rfl) (nam (Fh.at 11 rfl))) (ai (jE (Fi.at 10 rfl) (nam (Fh.at 10 rfl))) (ai (jE (Fi.at 14 rfl) (nam (Fh.at 14 rfl))) (ai (jE (Fi.at 15 rfl) (nam (Fh.at 15 rfl))) (ai (jE (Fi.at 12 rfl) (nam (Fh.at 12 rfl))) (ai (memD hcmi) (memD hfii)))))))),HBi,nBi⟩
  VF' (Fi.at 6 rfl) (Fi.at 7 rfl) (Fi.at 4 rfl) (Fi.at 5 rfl) afi naf hami Li hxx rfl rfl (fun h10 tk10 (K10:Keeps hi h10 [L,c8,am,149,163,c7]) TE TT=>H h10 tk10 (SI.fresh2 K10 (allA (ai (.inl (by kd_mem)) (ai (.inl (by kd_mem)) (ai fams.symm (ai (.inl (by kd_mem)) (ai (.inl (by kd_mem)) (.inl (by kd_mem))))))))) TE TT)
theorem law_call (PL:gi) {s:Shared} {es:Nat} {Lsc:List Value} {ns:List Int} (hA:AOk A 252) (hT:TopIn w.params s.heap) (hs:s.heap.get? sc=some (listO Lsc es)) (hls:Lsc.length≤63) (hns:IntsAre Lsc ns)
  (eI:s.heap.get? 149=some (bT [])) (eG:s.heap.get? 163=some (bT []))
  (H:∀(h':Heap) tk',Keeps s.heap h' [149,163]→TabE h'→TabT h'→R (.ok (.ret (.bool true))) ⟨h',s.gens,s.drawn,tk',s.os⟩):
  codeAny (mm w) A (.call (.ref 197) ⟨[.ref sc],[]⟩) R s:=by
 refine az [] hT ah (fun n t hn=>?_)
 refine gRx hA.hd 13 [0,0,2,2] ?_
 kst_p
 have f0:∀k,s.heap.get? (n+k)=none:=aC (Nat.le_of_eq hn)
 refine GoalX.enterC (c:= .func (dAt 23).2.1 (bq n (n+1) (n+2) (n+3) (n+4) (n+5) (n+6) (n+7) (n+8))) (by kd_p) (fun h D=>noLimit D.kt) (ir hA 2 (by kd_p) (by kst_all)) (by kd_p) (by kd_p) (fun h tk D=>?_)
 have K0:Keeps s.heap h []:=D.keeps
 kd_adr
 have⟨d0,w0⟩:=D.wK 0 n (frame [] 0)
 have d1:=D.cK 1 (n+1) (cellO (.ref sc))
 have⟨d2,w2⟩:=D.wK 2 (n+2) bd
 have⟨d3,w3⟩:=D.wK 3 (n+3) bd
 have⟨d4,w4⟩:=D.wK 4 (n+4) bd
 have⟨d5,w5⟩:=D.wK 5 (n+5) bd
 have⟨d6,w6⟩:=D.wK 6 (n+6) bd
 have⟨d7,w7⟩:=D.wK 7 (n+7) bd
 have⟨d8,w8⟩:=D.wK 8 (n+8) bd
 have T0:TopIn w.params h:=D.kt
 refine codeAny_func ?_
 refine oE PL (hA.deeper (by kst_all)) T0 hls hns d1 d2 d3 d4 d5 d6 d7 d8 (K0.kp hs) d0 (K0.kp eI) (K0.kp eG) w0.kn w2.kn w3.kn w4.kn w5.kn w6.kn w7.kn w8.kn (by kd_mem) (fun h9 tk9 K9 TE TT=>?_)
 refine H h9 tk9 ((K0.mono (by kd_mem):Keeps s.heap h [149,163]).fresh2 K9 (fun a m=>?_)) TE TT
 simp only[List.mem_cons,List.not_mem_nil,or_false] at m
 rcases m with rfl | rfl | rfl | rfl | rfl | rfl | rfl | rfl | rfl | rfl
 ·exact .inr (f0 0)
 ·exact .inr (f0 2)
 ·exact .inr (f0 3)
 ·exact .inr (f0 4)
 ·exact .inr (f0 5)
 ·exact .inr (f0 6)
 ·exact .inr (f0 7)
 ·exact .inr (f0 8)
 ·exact .inl (by kd_mem)
 ·exact .inl (by kd_mem)
end Mine
end
section
namespace Mine
theorem dX {p b:Nat} (h:b<2):2*p+b=2*p^^^b:=by
 rcases lt2 b h with rfl | rfl
 ·simp
 ·apply Nat.eq_of_testBit_eq
  intro i
  cases i with
  | zero=>simp[Nat.testBit_xor]
  | succ i=>rw[Nat.testBit_xor,Nat.testBit_succ,Nat.testBit_succ,Nat.testBit_succ,show (2*p+1) / 2=p from Nat.mul_add_div Nat.two_pos p 1,Nat.mul_div_cancel_left p Nat.two_pos,show (1:Nat) / 2=0 from rfl,Nat.zero_testBit,Bool.xor_false]
theorem gU (a b:Nat):2*(a^^^b)=2*a^^^2*b:=by
 apply Nat.eq_of_testBit_eq
 intro i
 cases i with
 | zero=>simp[Nat.testBit_xor]
 | succ i=>rw[Nat.testBit_xor,Nat.testBit_succ,Nat.testBit_succ,Nat.testBit_succ,Nat.mul_div_cancel_left _ Nat.two_pos,Nat.mul_div_cancel_left _ Nat.two_pos,Nat.mul_div_cancel_left _ Nat.two_pos,Nat.testBit_xor]
theorem jk (a b k:Nat):(a^^^b)>>>k=a>>>k^^^b>>>k:=Nat.shiftRight_xor_distrib
theorem kJ {x:Nat} (h:x<2^32):(2*x)>>>32<2:=by rw[Nat.shiftRight_eq_div_pow];kst_all
noncomputable def dbl (x:Nat):Nat:=if (2*x)>>>32=0 then 2*x else (2*x)^^^4374732215
theorem dF (p b:Nat):bH p b=dbl (p^^^(b<<<31)):=rfl
theorem x4 (a b c d:Nat):(a^^^b)^^^(c^^^d)=(a^^^c)^^^(b^^^d):=by
 rw[Nat.xor_assoc,Nat.xor_assoc,←Nat.xor_assoc b,Nat.xor_comm b c,Nat.xor_assoc c]
theorem lz {x y:Nat} (hx:x<2^32) (hy:y<2^32):dbl (x^^^y)=dbl x^^^dbl y:=by
 have t1:=kJ hx
 have t2:=kJ hy
 unfold dbl
 rw[gU,jk]
 generalize (2*x)>>>32=u at *
 generalize (2*y)>>>32=v at *
 rcases lt2 u t1 with rfl | rfl<;>rcases lt2 v t2 with rfl | rfl
 ·simp
 ·simp[Nat.xor_assoc]
 ·simp;rw[Nat.xor_assoc,Nat.xor_comm (2*y),←Nat.xor_assoc]
 ·simp;rw[x4];simp
theorem fu (x y:Nat):crcStep (x^^^y)=crcStep x^^^crcStep y:=by
 have hx:x&&&1=0∨x&&&1=1:=lt2 _ (Nat.and_lt_two_pow x (n:=1) (y:=1) (by decide))
 have hy:y&&&1=0∨y&&&1=1:=lt2 _ (Nat.and_lt_two_pow y (n:=1) (y:=1) (by decide))
 unfold crcStep
 rw[Nat.and_xor_distrib_right,jk]
 rcases hx with hx | hx<;>rcases hy with hy | hy<;>rw[hx,hy]
 ·simp
 ·simp[Nat.xor_assoc]
 ·simp;rw[Nat.xor_assoc,Nat.xor_comm (y>>>1),←Nat.xor_assoc]
 ·simp;rw[x4];simp
theorem basis {F G:Nat→Nat} {N:Nat} (hF:∀x y,x<2^N→y<2^N→F (x^^^y)=F x^^^F y) (hG:∀x y,x<2^N→y<2^N→G (x^^^y)=G x^^^G y) (h0:F 0=G 0) (hb:∀i,i<N→F (2^i)=G (2^i)):∀n,n≤N→∀x,x<2^n→F x=G x
 | 0,_,x,hx=>by
  have:x=0:=by simpa using hx
  rw[this,h0]
 | n+1,hn,x,hx=>by
  by_cases h:x<2^n
  ·exact basis hF hG h0 hb n (Nat.le_of_lt hn) x h
  ·have hy:x - 2^n<2^n:=Nat.sub_lt_left_of_lt_add (Nat.not_lt.mp h) (by rw[←Nat.two_mul,Nat.mul_comm,←Nat.pow_succ];exact hx)
   have e:x=2^n^^^(x - 2^n):=by
    apply Nat.eq_of_testBit_eq
    intro i
    rw[Nat.testBit_xor,Nat.testBit_two_pow]
    by_cases hi:i=n
    ·subst hi
     have q:(x - 2^i).testBit i=false:=Nat.testBit_lt_two_pow hy
     rw[q]
     have:x.testBit i=true:=by
      rw[Nat.testBit_eq_decide_div_mod_eq]
      have:x / 2^i=1:=by
       rw[Nat.div_eq_iff (Nat.two_pow_pos i)];rw[Nat.pow_succ] at hx;kst_all
      rw[this];rfl
     rw[this];simp
    ·have hx':x=2^n+(x - 2^n):=(Nat.add_sub_of_le (Nat.not_lt.mp h)).symm
     rw[decide_eq_false (Ne.symm hi),Bool.false_xor]
     conv=>lhs;rw[hx']
     by_cases hl:i<n
     ·exact Nat.testBit_two_pow_add_gt hl _
     ·have h1:x<2^i:=Nat.lt_of_lt_of_le hx (Nat.pow_le_pow_right (by decide) (by kst_all))
      rw[←hx',Nat.testBit_lt_two_pow h1,Nat.testBit_lt_two_pow (Nat.lt_of_le_of_lt (Nat.sub_le _ _) h1)]
   rw[e]
   have hp:2^n<2^N:=Nat.pow_lt_pow_right (by decide) hn
   have hN:2^n≤2^N:=Nat.le_of_lt hp
   rw[hF _ _ hp (Nat.lt_of_lt_of_le hy hN),hG _ _ hp (Nat.lt_of_lt_of_le hy hN),hb n hn,basis hF hG h0 hb n (Nat.le_of_lt hn) _ hy]
theorem lD (x y i:Nat):(x^^^y)>>>i&&&1=(x>>>i&&&1)^^^(y>>>i&&&1):=by rw[jk,Nat.and_xor_distrib_right]
theorem pq (x i:Nat):x>>>i&&&1<2:=Nat.and_lt_two_pow (n:=1) _ (by decide)
theorem eO (x i:Nat):(x>>>i&&&1)^^^1<2:=Nat.xor_lt_two_pow (n:=1) (pq x i) (by decide)
theorem x3 (a b c d e f:Nat):(a^^^b^^^c)^^^(d^^^e^^^f)=(a^^^d)^^^(b^^^e)^^^(c^^^f):=by
 rw[x4 (a^^^b) c,x4 a b]
theorem fO:∀(k place x y z p q r:Nat),bA (x^^^y^^^z) k place (p^^^q^^^r)=bA x k place p^^^bA y k place q^^^bA z k place r
 | 0,_,_,_,_,_,_,_=>rfl
 | k+1,place,x,y,z,p,q,r=>by
  show bA _ k (place+1) (2*(p^^^q^^^r)+(((x^^^y^^^z)>>>place&&&1)^^^1))=_
  rw[dX (eO _ _),gU,gU,lD,lD]
  have e:(2*p^^^2*q^^^2*r)^^^((((x>>>place&&&1)^^^(y>>>place&&&1))^^^(z>>>place&&&1))^^^1)=(2*p^^^((x>>>place&&&1)^^^1))^^^(2*q^^^((y>>>place&&&1)^^^1))^^^(2*r^^^((z>>>place&&&1)^^^1)):=by
   rw[←x3];congr 1
   rw[←x3,show (1:Nat)^^^1^^^1=1 from rfl]
  rw[e,←dX (eO x place),←dX (eO y place),←dX (eO z place),fO k (place+1)]
  rfl
noncomputable def rev (x:Nat):Nat:=bA x 32 0 0^^^4294967295
theorem hO (x y:Nat):rev (x^^^y)=rev x^^^rev y:=by
 have h:=fO 32 0 x y 0 0 0 0
 rw[Nat.xor_zero,show (0:Nat)^^^0^^^0=0 from rfl,show bA 0 32 0 0=4294967295 from by decide] at h
 unfold rev
 rw[h,x4,Nat.xor_self,Nat.xor_zero,Nat.xor_assoc,Nat.xor_self,Nat.xor_zero]
theorem eZ:∀(k m place x p:Nat),p<2^m→bA x k place p<2^(m+k)
 | 0,_,_,_,_,h=>h
 | k+1,m,place,x,p,h=>by
  rw[show m+(k+1)=(m+1)+k from by kst_all]
  refine eZ k (m+1) (place+1) x _ ?_
  have:=eO x place
  rw[Nat.pow_succ];kst_all
theorem od (x:Nat):rev x<2^32:=Nat.xor_lt_two_pow (eZ 32 0 0 x 0 (by decide)) (by decide)
theorem oa {x:Nat} (h:x<2^32):rev (crcStep x)=dbl (rev x):=
 basis (F:=fun x=>rev (crcStep x)) (G:=fun x=>dbl (rev x)) (N:=32) (fun x y _ _=>by show rev (crcStep (x^^^y))=_;rw[fu,hO]) (fun x y _ _=>by show dbl (rev (x^^^y))=_;rw[hO,lz (od x) (od y)]) (by decide) (by decide) 32 (Nat.le_refl _) x h
theorem kZ (c:Nat):∀(k j r o:Nat),o=c>>>j→o<2^k→r<2^32→k≤8→rev (cT k (r^^^o))=alB c k j (rev r)
 | 0,j,r,o,_,h0,_,_=>by
  have:o=0:=by simpa using h0
  rw[this,Nat.xor_zero];rfl
 | k+1,j,r,o,ho,hk,hr,h8=>by
  have hb:=pq c j
  have hb':c>>>j&&&1=o % 2:=by rw[←ho,Nat.and_one_is_mod]
  have e1:o=(o % 2)^^^(2*(o / 2)):=by
   have h2:o % 2<2:=Nat.mod_lt _ (by decide)
   rw[Nat.xor_comm,←dX h2];exact (Nat.div_add_mod o 2).symm
  have e2:crcStep (2*(o / 2))=o / 2:=by
   unfold crcStep
   rw[if_pos (by rw[Nat.and_one_is_mod];exact Nat.mul_mod_right 2 _),Nat.shiftRight_eq_div_pow];exact Nat.mul_div_cancel_left _ Nat.two_pos
  have hl:o % 2<2^32:=Nat.lt_trans (Nat.mod_lt _ (by decide)) (by decide)
  have hro:r^^^(o % 2)<2^32:=Nat.xor_lt_two_pow hr hl
  have e3:crcStep (r^^^o)=crcStep (r^^^(o % 2))^^^(o / 2):=by
   conv=>lhs;rw[e1]
   rw[←Nat.xor_assoc,fu,e2]
  show rev (cT k (crcStep (r^^^o)))=alB c k (j+1) (bH (rev r) (c>>>j&&&1))
  rw[e3,kZ c k (j+1) _ (o / 2) (by rw[ho];rfl) (Nat.div_lt_of_lt_mul (by rw[Nat.mul_comm,←Nat.pow_succ];exact hk)) (f6 hro) (by kst_all),oa hro,hO,dF,hb']
  have:rev (o % 2)=(o % 2)<<<31:=by
   rcases Nat.mod_two_eq_zero_or_one o with q | q<;>rw[q]<;>decide
  rw[this]
theorem kW:∀(xs:List Nat) (r:Nat),(∀x∈xs,x<256)→r<2^32→rev (b9 r xs)=al (rev r) xs
 | [],_,_,_=>rfl
 | x :: xs,r,h,hr=>by
  have hx:x<256:=h x (by simp)
  show rev (b9 (cT 8 (r^^^x)) xs)=al (alB x 8 0 (rev r)) xs
  rw[kW xs _ (fun y m=>h y (List.mem_cons_of_mem _ m)) (iu 8 (Nat.xor_lt_two_pow hr (by kst_all))),kZ x 8 0 r x (by simp) hx hr (by decide)]
theorem lA {xs:List Nat} (h:∀x∈xs,x<256):jc xs=al 4294967295 xs^^^4294967295:=by
 have e:jc xs=rev (b9 4294967295 xs)^^^4294967295:=by
  unfold jc rev
  rw[Nat.xor_assoc,Nat.xor_self,Nat.xor_zero]
 rw[e,kW xs _ h (by decide),show rev 4294967295=4294967295 from by decide]
theorem crcF_lt (xs:List Nat):jc xs<2^32:=eZ 32 0 0 _ 0 (by decide)
theorem lH (c:Nat):∀(k j p q:Nat),p<2^32→q<2^32→alB c k j (p^^^q)=alB c k j p^^^alB 0 k j q
 | 0,_,_,_,_,_=>rfl
 | k+1,j,p,q,hp,hq=>by
  show alB c k (j+1) (bH (p^^^q) (c>>>j&&&1))=alB c k (j+1) (bH p (c>>>j&&&1))^^^alB 0 k (j+1) (bH q (0>>>j&&&1))
  have z:(0:Nat)>>>j&&&1=0:=by simp
  have e:bH (p^^^q) (c>>>j&&&1)=bH p (c>>>j&&&1)^^^bH q (0>>>j&&&1):=by
   rw[dF,dF,dF,z,Nat.zero_shiftLeft,Nat.xor_zero,←lz (ix hp) hq,Nat.xor_assoc,Nat.xor_comm q,←Nat.xor_assoc]
  rw[e,lH c k (j+1) _ _ (cx hp) (by have:=cx (b:=0) (c:=j) hq;exact this)]
noncomputable def zz (n p:Nat):Nat:=al p (List.replicate n 0)
theorem gP (n p:Nat):zz (n+1) p=zz n (alB 0 8 0 p):=rfl
theorem zz_lt {n p:Nat} (h:p<2^32):zz n p<2^32:=bw _ h
theorem kC:∀(t:List Nat) (p q:Nat),p<2^32→q<2^32→al (p^^^q) t=al p t^^^zz t.length q
 | [],_,_,_,_=>rfl
 | c :: t,p,q,hp,hq=>by
  show al (alB c 8 0 (p^^^q)) t=al (alB c 8 0 p) t^^^zz t.length (alB 0 8 0 q)
  rw[lH c 8 0 p q hp hq,kC t _ _ (fh c 8 0 hp) (fh 0 8 0 hq)]
theorem fF {n p q:Nat} (hp:p<2^32) (hq:q<2^32):zz n (p^^^q)=zz n p^^^zz n q:=by
 have:=kC (List.replicate n 0) p q hp hq
 rwa [List.length_replicate] at this
theorem fA:∀n,zz n 0=0
 | 0=>rfl
 | n+1=>by rw[gP,show alB 0 8 0 0=0 from by decide];exact fA n
theorem zz_add:∀(m n p:Nat),zz m (zz n p)=zz (n+m) p:=by
 intro m n
 induction n with
 | zero=>intro p;rw[Nat.zero_add];rfl
 | succ n ih=>intro p;rw[gP,ih,Nat.succ_add_eq_add_succ,show n+m.succ=(n+m)+1 from rfl,gP]
theorem pz:∀(s t:List Nat) (p:Nat),al p (s++t)=al (al p s) t
 | [],_,_=>rfl
 | c :: s,t,p=>pz s t _
theorem ji (t:List Nat) {p:Nat} (hp:p<2^32):al p t=zz t.length p^^^al 0 t:=by
 have:=kC t 0 p (by decide) hp
 rwa [Nat.zero_xor,Nat.xor_comm] at this
theorem lI (s t:List Nat):al 0 (s++t)=zz t.length (al 0 s)^^^al 0 t:=by
 rw[pz,ji t (bw s (by decide))]
noncomputable def dh (kss:List (List Nat)):Nat→Nat→List Nat
 | 0,_=>[]
 | f+1,node=>node :: ((kss.getD node []).map (dh kss f)).flatten
noncomputable def terms:List Nat→List (Nat×List Nat)
 | []=>[]
 | i :: s=>(i,s) :: terms s
noncomputable def gY (s:List Nat) (l:List (Nat×List Nat)):List (Nat×List Nat):=l.map fun t=>(t.1,t.2++s)
noncomputable def fC (kss:List (List Nat)) (nd:Nat) (inn:Bool) (p:List (Nat×List Nat)) (x:Nat):List (Nat×List Nat):=
 if x≠nd∧(inn=true∨nd<x) then gY (dh kss 7 x) p++(if inn then p else []) else p
noncomputable def dB (above:List Nat) (kss:List (List Nat)) (cs:List Nat):Nat→Nat→List (Nat×List Nat)→List Nat→List (Nat×List Nat)×List Nat
 | 0,_,p,way=>(p,way)
 | f+1,nd,p,way=>if nd=0 then (p,way) else
  dB above kss cs f (above.getD nd 0) ((kss.getD (above.getD nd 0) []).foldl (fC kss nd (decide (above.getD nd 0∈cs))) p) (way++[above.getD nd 0])
noncomputable def bM (above:List Nat) (kss:List (List Nat)) (cs:List Nat):List (Nat×List Nat):=
 let m:=mn cs
 let s1:=dh kss 7 ((kss.getD m []).getD 0 0)
 let s2:=dh kss 7 ((kss.getD m []).getD 1 0)
 let r:=dB above kss cs 7 m (terms (s1++s2)++terms (s2++s1)) [m]
 if cs.all (fun c=>decide (c∈r.2)) then r.1 else []
noncomputable def ins (x:Nat):List Nat→List Nat
 | []=>[x]
 | y :: l=>if x≤y then x :: y :: l else y :: ins x l
noncomputable def fm:List Nat→List Nat
 | []=>[]
 | x :: l=>ins x (fm l)
noncomputable def tog (t:Nat×List Nat):List (Nat×List Nat)→List (Nat×List Nat)
 | []=>[t]
 | u :: l=>if t=u then l else u :: tog t l
noncomputable def lj:List (Nat×List Nat)→List (Nat×List Nat)
 | []=>[]
 | t :: l=>tog (t.1,fm t.2) (lj l)
noncomputable def o9 (l:List (Nat×List Nat)):Bool:=(lj l).isEmpty
noncomputable def oj (s:List Nat):Bool:=decide (fm s=[0,1,2,3,4,5,6])
noncomputable def iw (kss:List (List Nat)) (tu:List Nat):Bool:=Dp (KSF kss tu) 7 0 && oj (dh (KSF kss tu) 7 0)
noncomputable def trm (kss:List (List Nat)) (tu:List Nat):List (Nat×List Nat):=terms (dh (KSF kss tu) 7 0)
noncomputable def jZ (above:List Nat) (kss:List (List Nat)) (a:Nat):Bool:=iw kss [a] && (decide (a<7) && (decide ((kss.getD a []).length=2) && o9 (bM above kss [a]++(trm kss []++trm kss [a]))))
noncomputable def chkAB (above:List Nat) (kss:List (List Nat)) (a b:Nat):Bool:=iw kss [a,b] && (decide (a<b) && o9 (bM above kss [a,b]++(trm kss []++(trm kss [a]++(trm kss [b]++trm kss [a,b])))))
noncomputable def chkF (above:List Nat) (kss:List (List Nat)):List Nat→Bool
 | []=>true
 | [a]=>jZ above kss a
 | [a,b]=>jZ above kss a && (jZ above kss b && chkAB above kss a b)
 | _=>false
noncomputable def be (t:List Nat×List (List Nat)):Bool:=
 (List.range 7).all (fun i=>decide (i=0) || decide (t.1.getD i 0<i)) && ((List.range 7).all (fun i=>(t.2.getD i []).all (fun x=>Dp t.2 7 x && decide (x<7))) && (Dp t.2 7 0 && ((List.range 7).all (fun x=>decide ((dh t.2 7 x).length≤7)) && (iw t.2 [] && (List.range 3).all (fun q=>chkF t.1 t.2 (forksF t.2 q))))))
theorem f9 {α:Type} {p:α→Bool} (m:Nat):∀(n:Nat) (l:List α),(∀k,k<n→((l.drop (m*k)).take m).all p=true)→l.drop (m*n)=[]→l.all p=true
 | 0,l,_,e=>by
  rw[Nat.mul_zero,List.drop_zero] at e
  rw[e];rfl
 | n+1,l,h,e=>by
  rw[←List.take_append_drop m l,List.all_append,Bool.and_eq_true]
  refine⟨by simpa using h 0 (by kst_all),f9 m n _ (fun k hk=>?_) ?_⟩
  ·have:=h (k+1) (by kst_all)
   rw[List.drop_drop,show m+m*k=m*(k+1) by rw[Nat.mul_succ,Nat.add_comm]];exact this
  ·rw[List.drop_drop,show m+m*n=m*(n+1) by rw[Nat.mul_succ,Nat.add_comm]];exact e
theorem chk_0:(((reach 6).drop (8*0)).take 8).all be=true:=by decide +kernel
theorem chk_1:(((reach 6).drop (8*1)).take 8).all be=true:=by decide +kernel
theorem chk_2:(((reach 6).drop (8*2)).take 8).all be=true:=by decide +kernel
theorem chk_3:(((reach 6).drop (8*3)).take 8).all be=true:=by decide +kernel
theorem chk_4:(((reach 6).drop (8*4)).take 8).all be=true:=by decide +kernel
theorem chk_5:(((reach 6).drop (8*5)).take 8).all be=true:=by decide +kernel
theorem chk_6:(((reach 6).drop (8*6)).take 8).all be=true:=by decide +kernel
theorem chk_7:(((reach 6).drop (8*7)).take 8).all be=true:=by decide +kernel
theorem chk_8:(((reach 6).drop (8*8)).take 8).all be=true:=by decide +kernel
theorem chk_9:(((reach 6).drop (8*9)).take 8).all be=true:=by decide +kernel
theorem chk_10:(((reach 6).drop (8*10)).take 8).all be=true:=by decide +kernel
theorem chk_11:(((reach 6).drop (8*11)).take 8).all be=true:=by decide +kernel
theorem chk_12:(((reach 6).drop (8*12)).take 8).all be=true:=by decide +kernel
theorem chk_13:(((reach 6).drop (8*13)).take 8).all be=true:=by decide +kernel
theorem chk_14:(((reach 6).drop (8*14)).take 8).all be=true:=by decide +kernel
theorem chk_15:(((reach 6).drop (8*15)).take 8).all be=true:=by decide +kernel
theorem chk_16:(((reach 6).drop (8*16)).take 8).all be=true:=by decide +kernel
theorem chk_17:(((reach 6).drop (8*17)).take 8).all be=true:=by decide +kernel
theorem chk_18:(((reach 6).drop (8*18)).take 8).all be=true:=by decide +kernel
theorem chk_19:(((reach 6).drop (8*19)).take 8).all be=true:=by decide +kernel
theorem chk_20:(((reach 6).drop (8*20)).take 8).all be=true:=by decide +kernel
theorem chk_21:(((reach 6).drop (8*21)).take 8).all be=true:=by decide +kernel
theorem chk_22:(((reach 6).drop (8*22)).take 8).all be=true:=by decide +kernel
theorem chk_23:(((reach 6).drop (8*23)).take 8).all be=true:=by decide +kernel
theorem chk_24:(((reach 6).drop (8*24)).take 8).all be=true:=by decide +kernel
theorem chk_25:(((reach 6).drop (8*25)).take 8).all be=true:=by decide +kernel
theorem chk_26:(((reach 6).drop (8*26)).take 8).all be=true:=by decide +kernel
theorem chk_27:(((reach 6).drop (8*27)).take 8).all be=true:=by decide +kernel
theorem chk_28:(((reach 6).drop (8*28)).take 8).all be=true:=by decide +kernel
theorem chk_29:(((reach 6).drop (8*29)).take 8).all be=true:=by decide +kernel
theorem chk_30:(((reach 6).drop (8*30)).take 8).all be=true:=by decide +kernel
theorem chk_31:(((reach 6).drop (8*31)).take 8).all be=true:=by decide +kernel
theorem chk_32:(((reach 6).drop (8*32)).take 8).all be=true:=by decide +kernel
theorem chk_33:(((reach 6).drop (8*33)).take 8).all be=true:=by decide +kernel
theorem chk_all:(reach 6).all be=true:=by
 refine f9 8 34 _ (fun k hk=>?_) (by kernel_rfl)
 match k,hk with
 | 0,_=>exact chk_0
 | 1,_=>exact chk_1
 | 2,_=>exact chk_2
 | 3,_=>exact chk_3
 | 4,_=>exact chk_4
 | 5,_=>exact chk_5
 | 6,_=>exact chk_6
 | 7,_=>exact chk_7
 | 8,_=>exact chk_8
 | 9,_=>exact chk_9
 | 10,_=>exact chk_10
 | 11,_=>exact chk_11
 | 12,_=>exact chk_12
 | 13,_=>exact chk_13
 | 14,_=>exact chk_14
 | 15,_=>exact chk_15
 | 16,_=>exact chk_16
 | 17,_=>exact chk_17
 | 18,_=>exact chk_18
 | 19,_=>exact chk_19
 | 20,_=>exact chk_20
 | 21,_=>exact chk_21
 | 22,_=>exact chk_22
 | 23,_=>exact chk_23
 | 24,_=>exact chk_24
 | 25,_=>exact chk_25
 | 26,_=>exact chk_26
 | 27,_=>exact chk_27
 | 28,_=>exact chk_28
 | 29,_=>exact chk_29
 | 30,_=>exact chk_30
 | 31,_=>exact chk_31
 | 32,_=>exact chk_32
 | 33,_=>exact chk_33
 | k+34,h=>exact absurd h (by kst_all)
noncomputable abbrev wd (sp:List (List Nat)) (i:Nat):List Nat:=sp.getD i []
noncomputable def ln (sp:List (List Nat)) (s:List Nat):Nat:=(s.map fun i=>(wd sp i).length).sum
noncomputable def tev (sp:List (List Nat)) (t:Nat×List Nat):Nat:=zz (ln sp t.2) (al 0 (wd sp t.1))
noncomputable def bk (sp:List (List Nat)):List (Nat×List Nat)→Nat
 | []=>0
 | t :: l=>tev sp t^^^bk sp l
noncomputable def txt (sp:List (List Nat)) (s:List Nat):List Nat:=(s.map (wd sp)).flatten
theorem nD {sp:List (List Nat)} {t:Nat×List Nat}:tev sp t<2^32:=zz_lt (bw _ (by decide))
theorem bY {sp:List (List Nat)}:∀l,bk sp l<2^32
 | []=>by show 0<2^32;decide
 | t :: l=>Nat.xor_lt_two_pow nD (bY l)
theorem b8 {sp:List (List Nat)}:∀l l',bk sp (l++l')=bk sp l^^^bk sp l'
 | [],l'=>by simp[bk]
 | t :: l,l'=>by simp only[List.cons_append,bk];rw[b8 l l',Nat.xor_assoc]
theorem ln_app {sp:List (List Nat)} (s s':List Nat):ln sp (s++s')=ln sp s+ln sp s':=by simp[ln]
theorem fB {sp:List (List Nat)}:∀s,(txt sp s).length=ln sp s
 | []=>rfl
 | i :: s=>by
  have:=fB (sp:=sp) s
  simp only[txt,ln,List.map_cons,List.flatten_cons,List.length_append,List.sum_cons] at this ⊢
  rw[this]
theorem gT {sp:List (List Nat)} (s s':List Nat):txt sp (s++s')=txt sp s++txt sp s':=by simp[txt]
theorem eg {sp:List (List Nat)}:∀s,al 0 (txt sp s)=bk sp (terms s)
 | []=>rfl
 | i :: s=>by
  show al 0 (wd sp i++txt sp s)=tev sp (i,s)^^^bk sp (terms s)
  rw[lI,eg s,fB];rfl
theorem iH {sp:List (List Nat)} (s:List Nat):∀l,bk sp (gY s l)=zz (ln sp s) (bk sp l)
 | []=>by simp[gY,bk,fA]
 | t :: l=>by
  show tev sp (t.1,t.2++s)^^^bk sp (gY s l)=zz (ln sp s) (tev sp t^^^bk sp l)
  rw[fF nD (bY l),iH s l]
  congr 1
  unfold tev
  rw[zz_add,ln_app]
theorem bg {kss sp:List (List Nat)}:∀f node,laidF kss sp f node=txt sp (dh kss f node)
 | 0,_=>rfl
 | f+1,node=>by
  show wd sp node++((kss.getD node []).map (laidF kss sp f)).flatten=txt sp (node :: ((kss.getD node []).map (dh kss f)).flatten)
  have e:∀l:List Nat,(l.map (laidF kss sp f)).flatten=txt sp ((l.map (dh kss f)).flatten):=by
   intro l
   induction l with
   | nil=>rfl
   | cons x l ih=>simp only[List.map_cons,List.flatten_cons];rw[ih,bg f x,gT]
  rw[e];rfl
theorem dE {kss ws:List (List Nat)}:∀f node,partsF kss ws f node=(dh kss (f+1) node).map (wd ws)
 | 0,node=>by
  have:∀l:List Nat,(l.map (dh kss 0)).flatten=[]:=by
   intro l;induction l with
   | nil=>rfl
   | cons x l ih=>simp only[List.map_cons,List.flatten_cons,ih];rfl
  show [wd ws node]=(node :: ((kss.getD node []).map (dh kss 0)).flatten).map (wd ws)
  rw[this];rfl
 | f+1,node=>by
  show wd ws node :: ((kss.getD node []).map (partsF kss ws f)).flatten=(node :: ((kss.getD node []).map (dh kss (f+1))).flatten).map (wd ws)
  have e:∀l:List Nat,(l.map (partsF kss ws f)).flatten=((l.map (dh kss (f+1))).flatten).map (wd ws):=by
   intro l
   induction l with
   | nil=>rfl
   | cons x l ih=>simp only[List.map_cons,List.flatten_cons,List.map_append];rw[ih,dE f x]
  rw[e];rfl
theorem side_ev {kss sp:List (List Nat)} {nd:Nat} {inn:Bool} {p:List (Nat×List Nat)} {x:Nat}:cf kss sp nd inn (bk sp p) x=bk sp (fC kss nd inn p x):=by
 unfold cf fC
 split
 ·rw[b8,iH,bg,fB]
  congr 1
  split<;>rfl
 ·rfl
theorem iY {kss sp:List (List Nat)} {nd:Nat} {inn:Bool}:∀(l:List Nat) (p:List (Nat×List Nat)),l.foldl (cf kss sp nd inn) (bk sp p)=bk sp (l.foldl (fC kss nd inn) p)
 | [],_=>rfl
 | x :: l,p=>by rw[List.foldl_cons,List.foldl_cons,side_ev,iY l]
theorem jf {above:List Nat} {kss sp:List (List Nat)} {cs:List Nat}:∀(f nd:Nat) (p:List (Nat×List Nat)) (way:List Nat),
  bu above kss sp cs f nd (bk sp p) way=(bk sp (dB above kss cs f nd p way).1,(dB above kss cs f nd p way).2)
 | 0,_,_,_=>rfl
 | f+1,nd,p,way=>by
  unfold bu dB
  split
  ·rfl
  ·rw[iY,jf f]
theorem nh {above:List Nat} {kss sp:List (List Nat)} {cs:List Nat}:changeF above kss sp cs=bk sp (bM above kss cs):=by
 unfold changeF bM
 simp only[]
 rw[bg,bg,←gT,←gT,eg,eg,←b8,jf]
 simp only[]
 split<;>rfl
theorem oJ {sp:List (List Nat)} (x:Nat):∀l,ln sp (ins x l)=ln sp (x :: l)
 | []=>rfl
 | y :: l=>by
  unfold ins
  split
  ·rfl
  ·have:=oJ (sp:=sp) x l
   simp only[ln,List.map_cons,List.sum_cons] at this ⊢
   rw[this];kst_all
theorem gX {sp:List (List Nat)}:∀l,ln sp (fm l)=ln sp l
 | []=>rfl
 | x :: l=>by
  show ln sp (ins x (fm l))=_
  rw[oJ]
  have:=gX (sp:=sp) l
  simp only[ln,List.map_cons,List.sum_cons] at this ⊢
  rw[this]
theorem nC {sp:List (List Nat)} (t:Nat×List Nat):∀l,bk sp (tog t l)=tev sp t^^^bk sp l
 | []=>rfl
 | u :: l=>by
  unfold tog
  split
  ·rename_i h;subst h
   show _=tev sp t^^^(tev sp t^^^bk sp l)
   rw[←Nat.xor_assoc,Nat.xor_self,Nat.zero_xor]
  ·show tev sp u^^^bk sp (tog t l)=tev sp t^^^(tev sp u^^^bk sp l)
   rw[nC t l,←Nat.xor_assoc,←Nat.xor_assoc,Nat.xor_comm (tev sp u)]
theorem li {sp:List (List Nat)}:∀l,bk sp (lj l)=bk sp l
 | []=>rfl
 | t :: l=>by
  show bk sp (tog (t.1,fm t.2) (lj l))=tev sp t^^^bk sp l
  rw[nC,li l]
  congr 1
  unfold tev
  rw[gX]
theorem ly {sp:List (List Nat)} {l:List (Nat×List Nat)} (h:o9 l=true):bk sp l=0:=by
 rw[←li,List.isEmpty_iff.mp h];rfl
theorem gw {T en:List Nat} (h:∀x∈T++en,x<256):jc (T++en)=(zz (T.length+en.length) 4294967295^^^(zz en.length (al 0 T)^^^al 0 en))^^^4294967295:=by
 rw[lA h,ji _ (by decide),lI,List.length_append]
theorem nv {T T' en:List Nat} (h:∀x∈T++en,x<256) (h':∀x∈T'++en,x<256) (hl:T.length=T'.length):jc (T++en)^^^jc (T'++en)=zz en.length (al 0 T^^^al 0 T'):=by
 rw[gw h,gw h',hl,fF (bw _ (by decide)) (bw _ (by decide))]
 generalize zz (T'.length+en.length) 4294967295=a
 generalize zz en.length (al 0 T)=b
 generalize zz en.length (al 0 T')=c
 generalize al 0 en=d
 have e:((a^^^(b^^^d))^^^4294967295)^^^((a^^^(c^^^d))^^^4294967295)=((a^^^a)^^^((b^^^c)^^^(d^^^d)))^^^(4294967295^^^4294967295):=by
  rw[x4,x4 a,x4 b]
 rw[e];simp
theorem esc_all:(List.range 5).all (fun k=>wordsL.all fun x=>(esc k x).all (fun c=>decide (c<128)) && (decide ((esc k x).length≤6) && (x.isEmpty || !(esc k x).isEmpty)))=true:=by decide
theorem eK {k:Nat} {x:List Nat} (hk:k<5) (hx:x∈wordsL):(∀c∈esc k x,c<128)∧(esc k x).length≤6∧(x≠[]→esc k x≠[]):=by
 have h:=List.all_eq_true.mp (List.all_eq_true.mp esc_all k (by simp[hk])) x hx
 simp only[Bool.and_eq_true,List.all_eq_true,decide_eq_true_eq,Bool.or_eq_true,Bool.not_eq_true'] at h
 refine⟨h.1,h.2.1,fun hn he=>?_⟩
 rcases h.2.2 with q | q
 ·exact hn (List.isEmpty_iff.mp q)
 ·rw[he] at q;cases q
theorem jm {ws:List (List Nat)} {k:Nat} (i:Nat):wd (ws.map (esc k)) i=esc k (wd ws i):=by
 unfold wd
 simp only[List.getD_eq_getElem?_getD,List.getElem?_map]
 cases ws[i]? with
 | none=>rfl
 | some x=>rfl
theorem gR {ws:List (List Nat)} (h:∀x∈ws,x∈wordsL) (i:Nat):wd ws i∈wordsL:=by
 unfold wd
 rw[List.getD_eq_getElem?_getD]
 cases q:ws[i]? with
 | none=>decide
 | some x=>exact h x (List.mem_of_getElem? q)
theorem gS {ws:List (List Nat)} {k:Nat} (hk:k<5) (h:∀x∈ws,x∈wordsL):∀s,(∀c∈txt (ws.map (esc k)) s,c<128)∧(txt (ws.map (esc k)) s).length≤6*s.length
 | []=>⟨fun c m=>(nomatch m),by simp[txt]⟩
 | i :: s=>by
  have ih:=gS hk h s
  have e:=eK hk (gR h i)
  have q:txt (ws.map (esc k)) (i :: s)=esc k (wd ws i)++txt (ws.map (esc k)) s:=by rw[←jm];rfl
  rw[q]
  refine⟨fun c m=>?_,?_⟩
  ·rcases List.mem_append.mp m with m | m
   ·exact e.1 c m
   ·exact ih.1 c m
  ·rw[List.length_append,List.length_cons];have:=ih.2;have:=e.2.1;kst_all
theorem lm (x:Nat):∀l,(ins x l).length=l.length+1
 | []=>rfl
 | y :: l=>by
  unfold ins
  split
  ·rfl
  ·rw[List.length_cons,lm x l];rfl
theorem iG:∀l,(fm l).length=l.length
 | []=>rfl
 | x :: l=>by show (ins x (fm l)).length=_;rw[lm,iG l];rfl
theorem mc {s:List Nat} (h:oj s=true):s.length=7:=by
 rw[←iG,of_decide_eq_true h];rfl
theorem oi {sp:List (List Nat)} {s:List Nat} (h:oj s=true):ln sp s=ln sp [0,1,2,3,4,5,6]:=by
 rw[←gX,of_decide_eq_true h]
theorem KSF_nil {kss:List (List Nat)} (h:kss.length=7):KSF kss []=kss:=by
 unfold KSF
 apply List.ext_getElem?
 intro i
 rw[List.getElem?_map]
 by_cases hi:i<7
 ·rw[List.getElem?_range hi]
  simp only[Option.map_some,eu]
  rw[if_neg (by simp),List.getD_eq_getElem?_getD]
  have:kss[i]? = some kss[i]:=List.getElem?_eq_getElem (by kst_all)
  rw[this];rfl
 ·rw[List.getElem?_eq_none (by simp;kst_all),List.getElem?_eq_none (by kst_all)];rfl
theorem KSF_row {kss:List (List Nat)} {tu:List Nat} (h:∀i,(kss.getD i []).length≤2) (i:Nat):((KSF kss tu).getD i []).length≤50:=by
 unfold KSF
 rw[List.getD_eq_getElem?_getD,List.getElem?_map]
 by_cases hi:i<7
 ·rw[List.getElem?_range hi]
  simp only[Option.map_some,Option.getD_some,eu]
  have:=h i
  split
  ·rw[List.length_reverse];kst_all
  ·omega
 ·rw[List.getElem?_eq_none (by simp;kst_all)];simp
section
variable {above:List Nat} {kss ws:List (List Nat)} {hk:Nat} {y:List Nat}
theorem jp {tu:List Nat} (c:iw kss tu=true) (hk5:hk<5) (hws:ws.length=7) (hwl:∀x∈ws,x∈wordsL) (hne:ws.getD 0 []≠[]) (hyw:y∈wordsL) (rp:∀i,(kss.getD i []).length≤2):
  TOk kss ws (ws.map (esc hk)) hk y (esc hk y) tu:=by
 obtain⟨c1,c2⟩:=Bool.and_eq_true_iff.mp c
 have hy:=eK hk5 hyw
 have ht:=gS hk5 hwl (dh (KSF kss tu) 7 0)
 have h7:=mc c2
 have hl:(laidF (KSF kss tu) (ws.map (esc hk)) 7 0++esc hk y).length≤1000:=by
  rw[bg,List.length_append];have:=ht.2;have:=hy.2.1;kst_all
 have ha:Ascii (laidF (KSF kss tu) (ws.map (esc hk)) 7 0++esc hk y):=fun x m=>by
  rw[bg] at m
  rcases List.mem_append.mp m with m | m
  ·exact ht.1 x m
  ·exact hy.1 x m
 refine⟨c1,KSF_row rp,?_,?_,?_,?_,hl,ha,crcF_lt _⟩
 ·rw[dE,List.length_map,h7];decide
 ·intro x m
  rw[dE] at m
  obtain⟨i,_,rfl⟩:=List.mem_map.mp m
  exact gR hwl i
 ·rw[dE,bg]
  congr 1
  unfold txt
  rw[List.map_map]
  congr 1
  apply List.map_congr_left
  intro i _
  exact (jm i).symm
 ·have e:laidF (KSF kss tu) (ws.map (esc hk)) 7 0=esc hk (wd ws 0)++(((KSF kss tu).getD 0 []).map (laidF (KSF kss tu) (ws.map (esc hk)) 6)).flatten:=by rw[←jm];rfl
  intro q
  rw[e,List.append_assoc] at q
  exact (eK hk5 (gR hwl 0)).2.2 hne (List.append_eq_nil_iff.mp q).1
theorem kA {t:List Nat} (h:Ascii t):∀x∈t,x<256:=fun x m=>Nat.lt_trans (h x m) (by decide)
theorem nz {tu:List Nat} {sp:List (List Nat)}:al 0 (laidF (KSF kss tu) sp 7 0)=bk sp (trm kss tu):=by rw[bg,eg];rfl
theorem iP {tu:List Nat} {sp:List (List Nat)} (c:iw kss tu=true):(laidF (KSF kss tu) sp 7 0).length=ln sp [0,1,2,3,4,5,6]:=by
 rw[bg,fB,oi (Bool.and_eq_true_iff.mp c).2]
theorem eV {tu tv:List Nat} (c:iw kss tu=true) (d:iw kss tv=true) (A:TOk kss ws (ws.map (esc hk)) hk y (esc hk y) tu) (B:TOk kss ws (ws.map (esc hk)) hk y (esc hk y) tv):
  smF kss (ws.map (esc hk)) (esc hk y) tu^^^smF kss (ws.map (esc hk)) (esc hk y) tv=zz (esc hk y).length (bk (ws.map (esc hk)) (trm kss tu++trm kss tv)):=by
 unfold smF
 rw[nv (kA A.hasc) (kA B.hasc) (by rw[iP c,iP d]),nz,nz,b8]
theorem pf {cs:List Nat} {n:Nat} {sp:List (List Nat)}:al (changeF above kss sp cs) (List.replicate n 0)=zz n (bk sp (bM above kss cs)):=by rw[nh];rfl
theorem fQ {a:Nat} (c0:iw kss []=true) (ca:jZ above kss a=true) (T0:TOk kss ws (ws.map (esc hk)) hk y (esc hk y) []) (TA:TOk kss ws (ws.map (esc hk)) hk y (esc hk y) [a]):
  (al (changeF above kss (ws.map (esc hk)) [a]) (List.replicate (esc hk y).length 0)^^^smF kss (ws.map (esc hk)) (esc hk y) [])^^^smF kss (ws.map (esc hk)) (esc hk y) [a]=0:=by
 obtain⟨c1,c2⟩:=Bool.and_eq_true_iff.mp ca
 obtain⟨_,c3⟩:=Bool.and_eq_true_iff.mp c2
 obtain⟨_,c4⟩:=Bool.and_eq_true_iff.mp c3
 rw[Nat.xor_assoc,eV c0 c1 T0 TA,pf,←fF (bY _) (bY _),←b8,ly c4,fA]
theorem np {a b:Nat} (c0:iw kss []=true) (ca:jZ above kss a=true) (cb:jZ above kss b=true) (cab:chkAB above kss a b=true) (T0:TOk kss ws (ws.map (esc hk)) hk y (esc hk y) []) (TA:TOk kss ws (ws.map (esc hk)) hk y (esc hk y) [a]) (TB:TOk kss ws (ws.map (esc hk)) hk y (esc hk y) [b]) (TAB:TOk kss ws (ws.map (esc hk)) hk y (esc hk y) [a,b]):
  (((al (changeF above kss (ws.map (esc hk)) [a,b]) (List.replicate (esc hk y).length 0)^^^smF kss (ws.map (esc hk)) (esc hk y) [])^^^smF kss (ws.map (esc hk)) (esc hk y) [a])^^^smF kss (ws.map (esc hk)) (esc hk y) [b])^^^smF kss (ws.map (esc hk)) (esc hk y) [a,b]=0:=by
 obtain⟨c1,_⟩:=Bool.and_eq_true_iff.mp ca
 obtain⟨d1,_⟩:=Bool.and_eq_true_iff.mp cb
 obtain⟨e1,e2⟩:=Bool.and_eq_true_iff.mp cab
 obtain⟨_,e4⟩:=Bool.and_eq_true_iff.mp e2
 have z:∀a b c d e:Nat,(((a^^^b)^^^c)^^^d)^^^e=a^^^((b^^^c)^^^(d^^^e)):=fun a b c d e=>by simp only[Nat.xor_assoc]
 rw[z,eV c0 c1 T0 TA,eV d1 e1 TB TAB,pf,←fF (bY _) (bY _),←fF (bY _) (Nat.xor_lt_two_pow (bY _) (bY _)),←b8,←b8]
 have:bM above kss [a,b]++(trm kss []++trm kss [a]++(trm kss [b]++trm kss [a,b]))=bM above kss [a,b]++(trm kss []++(trm kss [a]++(trm kss [b]++trm kss [a,b]))):=by simp only[List.append_assoc]
 rw[this,ly e4,fA]
theorem two_of {l:List Nat} (h:l.length=2):∃x y,l=[x,y]:=by
 match l,h with
 | [x,y],_=>exact⟨x,y,rfl⟩
end
theorem plainLaw:gi:=by
 intro above kss ws hk y q M hk5 hws hwl hne hyw hq
 obtain⟨ra,rk,rp,_⟩:=dQ 6 (by decide) M
 have C:=List.all_eq_true.mp chk_all _ M
 simp only[be,Bool.and_eq_true] at C
 obtain⟨C1,C2,C3,C4,C5,C6⟩:=C
 have hy:=eK hk5 hyw
 have T0:TOk kss ws (ws.map (esc hk)) hk y (esc hk y) []:=jp C5 hk5 hws hwl hne hyw rp
 have e0:=KSF_nil rk
 have lenS:∀x,x<7→(dh kss 7 x).length≤7:=fun x hx=>of_decide_eq_true (List.all_eq_true.mp C4 x (by simp[hx]))
 have hl0:=T0.hlen
 have ha0:=T0.hasc
 rw[e0] at hl0 ha0
 refine⟨⟨hk5,gR hwl 1,rk,ra,hws,by simp[hws],fun i=>Nat.le_trans (rp i) (by decide),fun i h0 h7=>?_,fun i h7=>List.all_eq_true.mp C2 i (by simp[h7]),fun x hx=>?_,fun x hx=>?_,Nat.le_trans hy.2.1 (by decide),C3,hl0,ha0⟩,T0,?_,?_⟩
 ·have:=List.all_eq_true.mp C1 i (by simp[h7])
  simp only[Bool.or_eq_true,decide_eq_true_eq] at this
  rcases this with h | h
  ·omega
  ·exact h
 ·rw[bg];have:=(gS hk5 hwl (dh kss 7 x)).2;have:=lenS x hx;kst_all
 ·rw[bg];exact (gS hk5 hwl (dh kss 7 x)).1
 ·have e:smF kss (ws.map (esc hk)) (esc hk y) []=al 4294967295 (laidF kss (ws.map (esc hk)) 7 0++esc hk y)^^^4294967295:=by
   unfold smF;rw[e0,lA (kA ha0)]
  rw[e,Nat.xor_assoc _ 4294967295 4294967295,Nat.xor_self,Nat.xor_zero,Nat.xor_self]
 ·have F:=List.all_eq_true.mp C6 q (by simp[hq])
  have tk:∀{a:Nat},jZ above kss a=true→a<7∧(∃y1 y2,kss.getD a []=[y1,y2])∧TOk kss ws (ws.map (esc hk)) hk y (esc hk y) [a]:=fun {a} ca=>by
   obtain⟨c1,c2⟩:=Bool.and_eq_true_iff.mp ca
   obtain⟨c3,c4⟩:=Bool.and_eq_true_iff.mp c2
   obtain⟨c5,_⟩:=Bool.and_eq_true_iff.mp c4
   exact⟨of_decide_eq_true c3,two_of (of_decide_eq_true c5),jp c1 hk5 hws hwl hne hyw rp⟩
  generalize hz:forksF kss q=fk at F
  match fk,F,hz with
  | [],_,_=>exact .inl rfl
  | [a],ca,z=>
   obtain⟨a7,⟨y1,y2,e⟩,TA⟩:=tk ca
   exact .inr (.inl ⟨a,y1,y2,z,a7,e,TA,fQ C5 ca T0 TA⟩)
  | [a,b],F,z=>
   simp only[chkF,Bool.and_eq_true] at F
   obtain⟨ca,cb,cab⟩:=F
   obtain⟨a7,⟨y1,y2,e⟩,TA⟩:=tk ca
   obtain⟨b7,⟨z1,z2,e'⟩,TB⟩:=tk cb
   obtain⟨c1,c2⟩:=Bool.and_eq_true_iff.mp cab
   have TAB:TOk kss ws (ws.map (esc hk)) hk y (esc hk y) [a,b]:=jp c1 hk5 hws hwl hne hyw rp
   refine .inr (.inr ⟨a,b,y1,y2,z1,z2,z,of_decide_eq_true (Bool.and_eq_true_iff.mp c2).1,b7,e,e',TA,TB,TAB,fQ C5 ca T0 TA,?_,np C5 ca cb cab T0 TA TB TAB⟩)
   rw[Nat.xor_zero];exact fQ C5 cb T0 TB
  | _ :: _ :: _ :: _,F,_=>exact absurd F (by simp[chkF])
end Mine
end
section
namespace Mine
open PySem PySem.SeqAt PySem.W PySem.W.X PyProof.Rows
local macro_rules | `(tactic| kd_p)=> `(tactic| first | kernel_rfl | exact allB (by kernel_rfl) (by kernel_rfl))
local macro_rules | `(tactic| kd_p1)=> `(tactic| first | exact (rfl:_=[]) | exact (rfl:_=[_]) | exact (rfl:_=[_,_]) | exact (rfl:_=[_,_,_]) | exact (rfl:_=[_,_,_,_]) | exact (rfl:_=[_,_,_,_,_]) | exact (rfl:_=[_,_,_,_,_,_]))
noncomputable def qv:Program:={ pw with main:={ pw.main with body:=(pw.main.body.drop 23) } }
noncomputable def lov:List Str:=pw.boundNames.filter fun n=> !(n == Str.ofString "law")
noncomputable def frg0 (P:Params):List (Nat×Obj):=[(0,ob0 P),(1,ob1 P),(2,ob2 P),(3,ob3 P),(4,ob4 P),(5,ob5 P),(20,ob20 P),(21,ob21 P),(22,ob22 P),(23,ob23 P),(29,ob29 P),(30,ob30 P),(36,ob36 P),(37,ob37 P),(43,ob43 P),(44,ob44 P),(50,ob50 P),(51,ob51 P),(57,ob57 P),(58,ob58 P),(64,ob64 P),(65,ob65 P),(71,ob71 P),(72,ob72 P),(78,ob78 P),(79,ob79 P),(85,ob85 P),(86,ob86 P),(99,ob99 P),(100,ob100 P),(106,ob106 P),(107,ob107 P),(113,ob113 P),(114,ob114 P),(130,ob130 P),(131,ob131 P),(132,ob132 P),(133,ob133 P),(141,ob141 P),(142,ob142 P),(146,ob146 P),(147,ob147 P),(148,ob148 P),(150,ob150 P),(151,ob151 P),(153,ob153 P),(154,ob154 P),(160,ob160 P),(161,ob161 P),(162,ob162 P),(164,ob164 P),(165,ob165 P),(167,ob167 P),(168,ob168 P),(172,ob172 P),(173,ob173 P),(179,ob179 P),(180,ob180 P),(186,ob186 P),(187,ob187 P),(191,ob191 P),(192,ob192 P),(196,ob196 P),(197,ob197 P)]
noncomputable def frg (P:Params):List (Nat×Obj):=(149,bT []) :: (163,bT []) :: frg0 P
noncomputable def adr:List Addr:=149 :: 163 :: [0,1,2,3,4,5,20,21,22,23,29,30,36,37,43,44,50,51,57,58,64,65,71,72,78,79,85,86,99,100,106,107,113,114,130,131,132,133,141,142,146,147,148,150,151,153,154,160,161,162,164,165,167,168,172,173,179,180,186,187,191,192,196,197]
theorem kt_of (P:Params):KT.of (frg0 P)=kt P:=by kernel_rfl
theorem holdsG {h:Heap} {K:Frag} {t:KT} (e:KT.of K=t) (A:AllIn h K):KT.Holds h 1 0 t:=e▸holds_of A
theorem topIn_of {P:Params} {h h':Heap} (k:∀b o,h.get? b=some o→h'.get? b=some o) (H:AllIn h (frg P)):TopIn P h':=fun a o e=>k a o (kt_at (holdsG (kt_of P) H.2.2) e)
theorem nsMap_of {h:Heap} {a:Addr} {o:Obj} {name:Str} {v:Option Value} (e:h.get? a=some o) (q:(match o.data with | .dict es _=>nsFind es name | _=>none)=v):h.nsMap a name=v:=by
 unfold Heap.nsMap
 rw[e];exact q
theorem ct153 {h:Heap} {P:Params} (e:h.get? 153=some (ob153 P)):isCodeTable h 149:=by
 unfold ob153 at e
 refine⟨153,_,_,e,rfl,rfl,?_⟩
 rfl
theorem ct167 {h:Heap} {P:Params} (e:h.get? 167=some (ob167 P)):isCodeTable h 163:=by
 unfold ob167 at e
 refine⟨167,_,_,e,rfl,rfl,?_⟩
 rfl
theorem oldK_law {h h':Heap} {P:Params} (h153:h.get? 153=some (ob153 P)) (h167:h.get? 167=some (ob167 P)) (eI:h.get? 149=some (bT [])) (eG:h.get? 163=some (bT [])) (K:Keeps h h' [149,163]) (TE:TabE h') (TT:TabT h'):OldK h h':=by
 obtain⟨c1,c2,k2,v2,r2,t149,_⟩:=TE
 obtain⟨d1,d2,l2,w2,q2,t163,_⟩:=TT
 refine⟨fun b o e=>?_,fun b o e=>?_⟩
 ·by_cases m:b∈([149,163]:List Addr)
  ·simp only[List.mem_cons,List.not_mem_nil,or_false] at m
   rcases m with rfl | rfl
   ·rw[eI] at e;cases e
    exact .inr (.inl ⟨ct153 h153,rfl, #[], #[.int 127 0, .int 46 0, .ref c1, .int 133 0, .int 23 0, .ref c2],rfl,by rw[Array.empty_append];exact t149⟩)
   ·rw[eG] at e;cases e
    exact .inr (.inl ⟨ct167 h167,rfl, #[], #[.int 143 0, .int 11 0, .ref d1, .int 145 0, .int 17 0, .ref d2],rfl,by rw[Array.empty_append];exact t163⟩)
  ·exact .inl (K.kq e m)
 ·by_cases m:b∈([149,163]:List Addr)
  ·simp only[List.mem_cons,List.not_mem_nil,or_false] at m
   rcases m with rfl | rfl
   ·exact⟨_,t149⟩
   ·exact⟨_,t163⟩
  ·exact⟨o,K.kq e m⟩
end Mine
end
open PySem PySem.W PySem.W.X PySem.W.ZRun PyProof.Rows
theorem Mine.said:PySem.Challenge.rw_ph0112_01.wellSaid=true:=by kernel_rfl
theorem Mine.head:∀w,(openEnds treeTable Mine.pw w 2076).map (fun s=>(openSeen Mine.qv Mine.lov (importedModules Mine.pw.main.body) (fun s=>xlAt Mine.qv [] s && recOk [] s) true s,obsZ Mine.adr s))=some (openGood Mine.qv Mine.lov,valZ Mine.frg 198 417 w):=by
 intro w
 kernel_rfl
theorem PySem.Challenge.cw_ph0112_01_holds : PySem.Challenge.rw_ph0112_01.Holds := by
 w_on
 refine holds_law Mine.said fun said=>?_
 refine holds_openX (q:=Mine.qv) (loose:=Mine.lov) (Xt:=fun s=>xlAt Mine.qv [] s && recOk [] s) (XP:=XL Mine.qv []) (N:=2076) Mine.head (fun s e=>xl_of s (Bool.and_eq_true_iff.mp e).1) XL.keeps (by rfl) (by rfl) (by rfl) (fun s e=>recFacts_of (Bool.and_eq_true_iff.mp e).2) (by rfl) (by first | assumption | decide +kernel) (by decide +kernel) ⟨rfl,rfl,rfl,rfl,rfl,by decide +kernel⟩ ?hw ?hc
 case hw=>w_witness2
 case hc=>
 intro w s₀ s₁ mg mb G y fa o pm cd doc dV kV ho hd hcd hD hmg hg args vals as L hpre hlay hrd hwl hlo
 obtain⟨ZA, -,ZN,ZT⟩:=z_facts (K:=Mine.frg) (fun _=>rfl) y
 have eI:=L.keeps _ _ ZA.1
 have eG:=L.keeps _ _ ZA.2.1
 have hT:=Mine.topIn_of L.keeps ZA
 clear ZA y ho hd hcd hD
 have hfa:fa=197:=by
  have e:mg (Str.ofString "law")=some (.ref 197):=(congrFun G.T.g.eq_nsMap _).trans (Mine.nsMap_of (a:=mainGlobals) (o:=Mine.ob3 w.params) (hT 3 _ (by kernel_rfl)) (by kernel_rfl))
  exact Value.ref.inj (Option.some.inj (hmg.symm.trans e))
 subst hfa
 clear hmg G
 wrow_args hpre hlay hrd hwl hlo
 obtain⟨hat,hsz⟩:=script_at L
 rw[ZN] at hat hsz
 subst hat
 all_lens
 have h153:s₁.heap.get? 153=some (Mine.ob153 w.params):=hT 153 _ (by kernel_rfl)
 have h167:s₁.heap.get? 167=some (Mine.ob167 w.params):=hT 167 _ (by kernel_rfl)
 refine wpAny_call ?_
 refine Mine.law_call (Lsc:=?ls) (ns:=?ns) (es:=?es) Mine.plainLaw ?hA hT ?hs ?hlen ?hns eI eG ?H
 case hns=>assumption
 case hs=>exact script_obj L ‹s₁.heap.IsList 198 _›
 case hA=>exact⟨rfl,by decide,by decide⟩
 case hlen=>omega
 case H=>
  intro h' tk' K TE TT
  refine⟨.inl ⟨_,_,[],rfl,fun _=>rfl,ReadsW.bool true,?_,fun _=>⟨List.nodup_nil,fun _ hm=>(nomatch hm)⟩⟩,Mine.oldK_law h153 h167 eI eG K TE TT,rfl,?_⟩
  ·first | rfl | wrow_post
  ·first | exact AllBare.empty | exact .of_eq hg
