import PyProof.Rows.All
import Wide.All
import OpenK.AllK
import Wide.FinOn
import Lean
import PySem.Challenge.RW_oc0114_01
open PySem PySem.W PySem.W.X PyProof.Rows
set_option Elab.async false
set_option linter.all false
set_option maxRecDepth 1000000
set_option maxHeartbeats 0
local macro_rules | `(tactic| trivial) => `(tactic| first | exact ⟨by kernel_rfl,by kernel_rfl⟩)
namespace Mine
abbrev NI:=Nat → Int
abbrev NN:=Nat → Nat
def noLst (o : Option Obj) : Bool := match o with | some o => (match o.cls with | .type n => !(n == "list") | _ => true) | none => false
noncomputable def myHook (K : Params → Frag) (as : List Addr) (e : ∀ P,as = (K P).map (·.1)) : Hook :=
  ⟨List (Option Obj) × Bool,fun s => ((0 :: as).map s.heap.get?,(List.range 219).all fun a => noLst (s.heap.get? a)),fun w => ((boot_o_0 w.params :: (K w.params).map (·.2)).map some,true),
   fun w h => InK (fun P => (0,boot_o_0 P) :: K P) w h ∧ ∀ a,a < 219 → noLst (h.get? a) = true,
   fun w s x => ⟨InK.of (K := fun P => (0,boot_o_0 P) :: K P) (as := 0 :: as) (fun P => congrArg (List.cons 0) (e P)) w s ((congrArg Prod.fst x).trans (by rw [List.map_cons,List.map_map]; rfl)),fun a ha => List.all_eq_true.mp (congrArg Prod.snd x) a (List.mem_range.mpr ha)⟩,
   fun w h h' x k => ⟨InK.keeps w h h' x.1 k,fun a ha => by
     have z := x.2 a ha
     cases e : h.get? a with
     | none => rw [e] at z; cases z
     | some o => rw [e] at z; rw [k a o e]; exact z⟩⟩
noncomputable def viewQ : Program := view PySem.Challenge.pw_oc0114_01 [0,2,3,5,6,8,9,10,11,12,13,14,15,16,17,18,19,20,21,22,23,24,25,26,27,28,29,31,32,33,34,35,36,37,38]
abbrev rowQ : OpenRow := PySem.Challenge.rw_oc0114_01.row
theorem saidQ : OpenLaw.wellSaid PySem.Challenge.rw_oc0114_01 = true := by kernel_rfl
theorem left_boot {p q : Program} {loose : List Str} {Xt : Shared → Bool} {α : Type} {Yf : Shared → α} {Ya : World → α} {N : Nat} (e : opening p = plainProg p.main.scope.names) (hN : Nat.ble 600 N = true) (f : ∀ s,fenceModules? p s = some s)
    (h : ∀ (w : World) (os : OsState),(topFrom treeTable p w N ⟨boot_heap w.params,Array.mk [],boot_drawn,boot_toks,os⟩).map (fun s => (openSeen q loose (importedModules p.main.body) Xt true s,Yf s)) = some (openGood q loose,Ya w)) : LeftO p q loose Xt Yf Ya N := fun w => by
  obtain ⟨⟨hp,gs,d,k,os⟩,e1,e2⟩ := Option.map_eq_some_iff.mp (boot_open e hN f w)
  obtain ⟨rfl,rfl,rfl,rfl⟩ : hp = boot_heap w.params ∧ gs = Array.mk [] ∧ d = boot_drawn ∧ k = boot_toks := by simpa using e2
  unfold openEnds
  rw [e1]
  exact h w os
local macro_rules | `(tactic| o_head ($_f $K $as $p)) => `(tactic|
  (refine holds_open (r := rowQ) (q := viewQ) (loose := [Str.ofString "_Accumulator",Str.ofString "_filemode_table"]) (Xt := fun s => xlAt viewQ [] s && recOk (RowW.records rowQ.toRowW) s) (XP := XL viewQ []) (Yf := Hook.obs (myHook $K $as $p)) (Ya := Hook.val (myHook $K $as $p)) (YP := Hook.says (myHook $K $as $p)) (N := 2714) ?hl (Hook.of (myHook $K $as $p)) (Hook.keeps (myHook $K $as $p)) (fun s e => xl_of s (Bool.and_eq_true_iff.mp e).1) XL.keeps (by rfl) (by rfl) (by rfl) (fun s e => recFacts_of (Bool.and_eq_true_iff.mp e).2) (by rfl) (by assumption) (by kernel_rfl) ⟨rfl,rfl,rfl,rfl,rfl,by decide +kernel⟩ ?hw ?hc
   case hl =>
     refine left_boot (by kernel_rfl) (by rfl) (fun s => by kernel_rfl) ?_
     intro w os
     unfold topFrom
     rw [PySem.W.Fast.te14082659384304107361,PySem.W.Fast.te4187177175401517315,PySem.W.Fast.te14364793385576792824,PySem.W.Fast.te5923862056798008813,PySem.W.Fast.te8920871248978507458]
     kernel_rfl))
local macro_rules | `(tactic| o_law) => `(tactic| refine holds_law saidQ fun said => ?_)
open_top hd for PySem.Challenge.rw_oc0114_01
noncomputable def den (c : Code) : Sem PySem.Fin := PySem.W.Fast.tw11892475500146522536 PySem.W.Fast.tw14364793385576792824 c
theorem den_eq : denote table = den := by
  funext c
  show denote table c = PySem.W.Fast.tw11892475500146522536 PySem.W.Fast.tw14364793385576792824 c
  rw [← PySem.W.Fast.te11892475500146522536,← PySem.W.Fast.te14364793385576792824,← PySem.table_eq_tree]
noncomputable abbrev Led := List (Addr × Obj)
noncomputable abbrev Slots := Array (Option Value)
noncomputable abbrev PS := (Nat → Pos) × List (Code × Pos)
structure Inst where
  code : Code
  need : List (Nat × Addr × Obj)
  res : (Nat → Nat) → (Nat → Slots) → Result
  upd : (Nat → Nat) → (Nat → Slots) → List Obj
  new : (Nat → Nat) → (Nat → Slots) → Led
inductive ITree where
  | nil
  | cons (I : Nat → Nat → Inst) (nx : Nat → Nat → (Nat → Nat) → (Nat → Slots) → ITree)
structure XSt where
  ora : List Nat
  nn : Nat → Nat
  k : Nat
  tt : Nat → Nat
  i : Nat
  led : Led
  ins : ITree
  om : Nat → Nat → Nat
  xi : Nat → Nat → Slots
  ps : Nat → PS
  m : Nat
inductive Tm where
  | n (a : Nat)
  | o (a : Obj)
  | c (a : Code)
inductive Ans (α : Type) where
  | ok (a : α) (s : XSt)
  | err (e : Value) (s : XSt)
  | eq (a b : Tm) (r : Ans α)
  | no (n : Nat)
namespace Ans
noncomputable def bind {α β : Type} : Ans α → (α → XSt → Ans β) → (Value → XSt → Ans β) → Ans β
  | .ok a s,f,_ => f a s
  | .err e s,_,g => g e s
  | .eq a b r,f,g => .eq a b (r.bind f g)
  | .no n,_,_ => .no n
noncomputable def Good {α : Type} (Q : α → XSt → Prop) (E : Value → XSt → Prop) : Ans α → Prop
  | .ok a s => Q a s
  | .err e s => E e s
  | .eq a b r => a = b ∧ r.Good Q E
  | .no _ => False
theorem Good.bind {α β : Type} {f : α → XSt → Ans β} {g : Value → XSt → Ans β} {Q : β → XSt → Prop} {E : Value → XSt → Prop} : ∀ {r : Ans α},(r.bind f g).Good Q E → r.Good (fun a s => (f a s).Good Q E) (fun e s => (g e s).Good Q E)
  | .ok _ _,h => h
  | .err _ _,h => h
  | .eq _ _ _,h => ⟨h.1,Good.bind h.2⟩
  | .no _,h => h
theorem Good.mono {α : Type} {Q Q' : α → XSt → Prop} {E E' : Value → XSt → Prop} (hQ : ∀ a s,Q a s → Q' a s) (hE : ∀ a s,E a s → E' a s) : ∀ {r : Ans α},r.Good Q E → r.Good Q' E'
  | .ok _ _,h => hQ _ _ h
  | .err _ _,h => hE _ _ h
  | .eq _ _ _,h => ⟨h.1,Good.mono hQ hE h.2⟩
  | .no _,h => h
noncomputable def eqL {α : Type} : Ans α → List Tm
  | .eq a _ r => a :: r.eqL
  | _ => []
noncomputable def eqR {α : Type} : Ans α → List Tm
  | .eq _ b r => b :: r.eqR
  | _ => []
noncomputable def fin {α : Type} : Ans α → Option (Except Value α × Led)
  | .ok a s => some (.ok a,s.led)
  | .err e s => some (.error e,s.led)
  | .eq _ _ r => r.fin
  | .no _ => none
theorem good_of {α : Type} {Q : α → XSt → Prop} {E : Value → XSt → Prop} : ∀ {r : Ans α} {x : Except Value α × Led},r.eqL = r.eqR → r.fin = some x →
    (∀ st : XSt,st.led = x.2 → match x.1 with | .ok a => Q a st | .error e => E e st) → r.Good Q E
  | .ok a s,x,_,e,h => by cases e; exact h s rfl
  | .err a s,x,_,e,h => by cases e; exact h s rfl
  | .eq a b r,x,e1,e2,h => ⟨(List.cons.inj e1).1,good_of (List.cons.inj e1).2 e2 h⟩
  | .no _,_,_,e,_ => by cases e
end Ans
noncomputable def ledAt : Led → Nat → Option (Addr × Obj)
  | [],_ => none
  | p :: _,0 => some p
  | _ :: l,j + 1 => ledAt l j
noncomputable def ledPut : Led → Nat → Obj → Led
  | [],_,_ => []
  | p :: l,0,o => (p.1,o) :: l
  | p :: l,j + 1,o => p :: ledPut l j o
noncomputable def ledAdd : Led → Addr → Obj → Led
  | [],a,o => [(a,o)]
  | p :: l,a,o => p :: ledAdd l a o
noncomputable def ledCat : Led → Led → Led
  | [],l => l
  | p :: m,l => p :: ledCat m l
noncomputable def ledInsM : Nat → Led → Led → Led
  | 0,l,n => ledCat n l
  | m + 1,l,n => match l with
    | [] => n
    | p :: l => p :: ledInsM m l n
noncomputable def ledIns (l : Led) (m : Nat) (n : Led) : Led := ledInsM m l n
noncomputable def cnt : Led → Nat
  | [] => 0
  | _ :: l => cnt l + 1
noncomputable def mAdd (j : Nat) (n : Led) : Nat := match j with
  | 0 => cnt n
  | j + 1 => j
noncomputable def sh {β : Type} (f : Nat → β) : Nat → β := fun j => f (j + 1)
noncomputable def cs {β : Type} (x : β) (f : Nat → β) : Nat → β := fun j => match j with
  | 0 => x
  | j + 1 => f j
noncomputable def meet {α : Type} (led : Led) : List (Nat × Addr × Obj) → Ans α → Ans α
  | [],r => r
  | q :: l,r => match ledAt led q.1 with
    | some p => .eq (.n q.2.1) (.n p.1) (.eq (.o q.2.2) (.o p.2) (meet led l r))
    | none => .no 11
noncomputable def putAll (led : Led) : List (Nat × Addr × Obj) → List Obj → Led
  | q :: l,o :: os => putAll (ledPut led q.1 o) l os
  | _,_ => led
noncomputable def notIn (j : Nat) : List (Nat × Addr × Obj) → Bool
  | [] => true
  | q :: l => match Nat.beq j q.1 with
    | true => false
    | false => notIn j l
noncomputable def dist : List (Nat × Addr × Obj) → Bool
  | [] => true
  | q :: l => match notIn q.1 l with
    | true => dist l
    | false => false
structure XP where
  S : Setting
  K : Frag
  hd : Option Value
noncomputable def samA : Code → Bool
  | .forLoop .. => true
  | .whileLoop .. => true
  | .block .. => true
  | .compStart (.ListComp ..) .. => true
  | .compLoop (.ListComp ..) .. => true
  | _ => false
noncomputable abbrev TreeTy := Bool → List Code → (α : Type) → Sem α → XSt → Ans α
noncomputable abbrev CodeTy := Bool → List Code → Code → XSt → Ans Result
noncomputable def stk : List Code → (Nat → Pos) → List (Code × Pos) → List (Code × Pos)
  | [],_,r => r
  | c :: cs,f,r => (c,f 0) :: stk cs (fun i => f (i + 1)) r
noncomputable def inst {α : Type} (I : Inst) (c : Code) (st : XSt) (ora : List Nat) (ins : ITree) (j : Nat) (f : Result → XSt → Ans α) : Ans α :=
  .eq (.c I.code) (.c c) (meet st.led I.need (f (I.res (st.om 0) (st.xi 0)) ⟨ora,sh st.nn,0,sh st.tt,0,ledIns (putAll st.led I.need (I.upd (st.om 0) (st.xi 0))) st.m (I.new (st.om 0) (st.xi 0)),ins,sh st.om,sh st.xi,st.ps,st.m + mAdd j (I.new (st.om 0) (st.xi 0))⟩))
noncomputable def exStep (P : XP) (ih : TreeTy) (ic : CodeTy) (lv : Bool) (cur : List Code) (α : Type) (t : Sem α) (st : XSt) : Ans α := match t with
  | .pure a => .ok a st
  | .raise e => .err e st
  | .rule _ k => ih lv cur α (k ()) st
  | .at _ k => ih lv cur α (k ()) st
  | .point _ k => ih lv cur α (k ()) st
  | .ask k => ih lv cur α (k P.S) st
  | .load a _ k => match st.ora with
    | [] => .no 1
    | j :: ora => match j with
      | 0 => match P.K.lookup a with
        | some o => ih lv cur α (k o) { st with ora := ora }
        | none => .no 2
      | j + 1 => match ledAt st.led j with
        | some p => .eq (.n a) (.n p.1) (ih lv cur α (k p.2) { st with ora := ora })
        | none => .no 3
  | .loadIfAlive a k => match st.ora with
    | [] => .no 1
    | j :: ora => match j with
      | 0 => match P.K.lookup a with
        | some o => ih lv cur α (k (some o)) { st with ora := ora }
        | none => .no 2
      | j + 1 => match ledAt st.led j with
        | some p => .eq (.n a) (.n p.1) (ih lv cur α (k (some p.2)) { st with ora := ora })
        | none => .no 3
  | .update a _ f k => match st.ora with
    | [] => .no 1
    | j :: ora => match j with
      | 0 => .no 4
      | j + 1 => match ledAt st.led j with
        | some p => match (f p.2).isFreed with
          | true => .no 5
          | false => .eq (.n a) (.n p.1) (ih lv cur α (k ()) { st with ora := ora,led := ledPut st.led j (f p.2) })
        | none => .no 3
  | .alloc o k => match o.isFreed with
    | true => .no 6
    | false => ih lv cur α (k (st.nn 0 + st.k)) { st with k := st.k + 1,led := ledIns st.led st.m [(st.nn 0 + st.k,o)],m := st.m + 1 }
  | .fresh k => ih lv cur α (k (st.tt 0 + st.i)) { st with i := st.i + 1 }
  | .handled own k => match own with
    | false => ih lv cur α (k P.hd) st
    | true => .no 7
  | .call c h _ _ k => match h with
    | some _ => .no 8
    | none => match st.ora with
      | [] => .no 1
      | j :: ora => match j with
        | 0 => (ic (match lv with | true => samA c | false => false) cur c { st with ora := ora }).bind (fun r st' => ih lv cur α (k r) st') (fun _ _ => .no 8)
        | jj + 1 => match lv with
          | false => .no 12
          | true => match st.ins with
            | .nil => .no 13
            | .cons I nx => match dist (I (st.nn 0) (st.tt 0)).need with
              | true => inst (I (st.nn 0) (st.tt 0)) c st ora (nx (st.nn 0) (st.tt 0) (st.om 0) (st.xi 0)) jj fun r st' => ih lv cur α (k r) st'
              | false => .no 14
  | .stack k => ih lv cur α (k (stk cur (st.ps 0).1 (st.ps 0).2)) { st with ps := sh st.ps }
  | _ => .no 9
noncomputable def coStep (ih : TreeTy) (ic : CodeTy) (lv : Bool) (bel : List Code) (c : Code) (st : XSt) : Ans Result :=
  (ih lv (c :: bel) PySem.Fin (den c) st).bind (fun f st' => match f with
    | .done f => .ok (.ok f) st'
    | .again c' => match c'.quiet with
      | true => ic (match lv with | true => samA c' | false => false) bel c' st'
      | false => .no 10) (fun e st' => .ok (.error e) st')
noncomputable def exs (P : XP) : Nat → TreeTy × CodeTy
  | 0 => (fun _ _ _ _ _ => .no 0,fun _ _ _ _ => .no 0)
  | n + 1 => (exStep P (exs P n).1 (exs P n).2,coStep (exs P n).1 (exs P n).2)
structure Rp (K : Frag) (g : Heap) (A0 : List Addr) (h : Heap) (led : Led) : Prop where
  top : K.In h
  has : ∀ p ∈ led,h.get? p.1 = some p.2
  nod : (led.map (·.1)).Nodup
  off : ∀ p ∈ led,K.lookup p.1 = none
  mine : ∀ p ∈ led,p.1 ∈ A0 ∨ g.get? p.1 = none
  low : ∀ p ∈ led,219 ≤ p.1
  keep : ∀ b o,g.get? b = some o → b ∉ A0 → h.get? b = some o
structure Eff (g h : Heap) (up nw : Led) : Prop where
  fup : ∀ p ∈ up,h.get? p.1 = some p.2
  fnw : ∀ p ∈ nw,h.get? p.1 = some p.2 ∧ g.get? p.1 = none ∧ 219 ≤ p.1
  nd : (nw.map (·.1)).Nodup
  keep : ∀ b o,g.get? b = some o → b ∉ up.map (·.1) → h.get? b = some o
noncomputable def adrs (l : List (Nat × Addr × Obj)) : List Addr := l.map (·.2.1)
noncomputable def IOk (prog : Program) (w : World) (K : Frag) (C : Around → Prop) (I : Inst) : Prop :=
  ∀ (A : Around) (s : Shared) (R : Result → Shared → Prop),C A → K.In s.heap → (∀ q ∈ I.need,s.heap.get? q.2.1 = some q.2.2) → (adrs I.need).Nodup → (∀ q ∈ I.need,K.lookup q.2.1 = none) → (∀ q ∈ I.need,219 ≤ q.2.1) →
    (∀ ω ξ h' tk',(I.upd ω ξ).length = I.need.length → Eff s.heap h' ((adrs I.need).zip (I.upd ω ξ)) (I.new ω ξ) → R (I.res ω ξ) { s with heap := h',toks := tk' }) → wpAny (model prog w) A (Sem.call I.code none false [] Sem.pure) R (fun _ _ => False) s
theorem call_of {prog : Program} {w : World} {A : Around} {c : Code} {g : Bool} {l : List Value} {R : Result → Shared → Prop} {E' : Value → Shared → Prop} {α : Type} {k : Result → Sem α} {Q : α → Shared → Prop} {E : Value → Shared → Prop} {s : Shared}
    (h : wpAny (model prog w) A (Sem.call c none false [] Sem.pure) R E' s) (hk : ∀ r s',R r s' → wpAny (model prog w) A (k r) Q E s') : wpAny (model prog w) A (Sem.call c none g l k) Q E s := fun Γ p hΓ => by
  have z := h Γ p hΓ
  simp only [Sem.wp] at z ⊢
  exact wpCode_mono (fun r s' q => hk r s' q Γ p hΓ) z
theorem ledAt_mem : ∀ {l : Led} {j : Nat} {p : Addr × Obj},ledAt l j = some p → p ∈ l
  | [],_,_,h => by cases h
  | _ :: _,0,_,h => by cases h; exact .head _
  | _ :: l,j + 1,_,h => .tail _ (ledAt_mem (l := l) h)
theorem ledPut_map (o : Obj) : ∀ (l : Led) (j : Nat),(ledPut l j o).map (·.1) = l.map (·.1)
  | [],_ => rfl
  | _ :: _,0 => rfl
  | p :: l,j + 1 => by show p.1 :: (ledPut l j o).map (·.1) = _; rw [ledPut_map o l j]; rfl
theorem ledPut_mem {o : Obj} : ∀ {l : Led} {j : Nat} {p q : Addr × Obj},(l.map (·.1)).Nodup → ledAt l j = some p → q ∈ ledPut l j o → q = (p.1,o) ∨ (q ∈ l ∧ q.1 ≠ p.1)
  | [],_,_,_,_,h,_ => by cases h
  | x :: l,0,p,q,hn,h,hq => by
    cases h
    rcases List.mem_cons.mp hq with e | e
    · exact .inl e
    · refine .inr ⟨.tail _ e,fun z => ?_⟩
      rw [List.map_cons,List.nodup_cons] at hn
      exact hn.1 (z ▸ List.mem_map_of_mem e)
  | x :: l,j + 1,p,q,hn,h,hq => by
    rw [List.map_cons,List.nodup_cons] at hn
    rcases List.mem_cons.mp hq with e | e
    · refine .inr ⟨e ▸ .head _,fun z => hn.1 ?_⟩
      rw [← e,z]
      exact List.mem_map_of_mem (ledAt_mem (l := l) h)
    · rcases ledPut_mem (l := l) hn.2 h e with w | w
      · exact .inl w
      · exact .inr ⟨.tail _ w.1,w.2⟩
theorem ledAt_put_map {o : Obj} : ∀ {l : Led} {j i : Nat} {p : Addr × Obj},ledAt (ledPut l j o) i = some p → ∃ o',ledAt l i = some (p.1,o')
  | [],_,_,_,h => by cases h
  | x :: l,0,0,p,h => by cases h; exact ⟨x.2,rfl⟩
  | x :: l,0,i + 1,p,h => ⟨p.2,h⟩
  | x :: l,j + 1,0,p,h => by cases h; exact ⟨x.2,rfl⟩
  | x :: l,j + 1,i + 1,p,h => ledAt_put_map (l := l) h
theorem ledAt_of_put {o : Obj} : ∀ {l : Led} {j i : Nat} {p : Addr × Obj},ledAt l i = some p → ∃ o',ledAt (ledPut l j o) i = some (p.1,o')
  | [],_,_,_,h => by cases h
  | x :: l,0,0,p,h => by cases h; exact ⟨o,rfl⟩
  | x :: l,0,i + 1,p,h => ⟨p.2,h⟩
  | x :: l,j + 1,0,p,h => by cases h; exact ⟨x.2,rfl⟩
  | x :: l,j + 1,i + 1,p,h => ledAt_of_put (l := l) h
theorem ledAdd_eq (a : Addr) (o : Obj) : ∀ l : Led,ledAdd l a o = l ++ [(a,o)]
  | [] => rfl
  | p :: l => by show p :: ledAdd l a o = _; rw [ledAdd_eq a o l]; rfl
theorem ledCat_eq (m : Led) : ∀ l : Led,ledCat l m = l ++ m
  | [] => rfl
  | p :: l => by show p :: ledCat l m = _; rw [ledCat_eq m l]; rfl
theorem putAll_map : ∀ (l : List (Nat × Addr × Obj)) (os : List Obj) (led : Led),(putAll led l os).map (·.1) = led.map (·.1)
  | [],_,_ => by simp [putAll]
  | _ :: _,[],_ => by simp [putAll]
  | q :: l,o :: os,led => by show (putAll (ledPut led q.1 o) l os).map (·.1) = _; rw [putAll_map l os,ledPut_map]
theorem putAll_mem : ∀ {l : List (Nat × Addr × Obj)} {os : List Obj} {led : Led} {q : Addr × Obj},(led.map (·.1)).Nodup → os.length = l.length → (∀ x ∈ l,∃ o,ledAt led x.1 = some (x.2.1,o)) → q ∈ putAll led l os →
    q ∈ (adrs l).zip os ∨ (q ∈ led ∧ q.1 ∉ adrs l)
  | [],_,_,q,_,_,_,hq => .inr ⟨hq,fun h => nomatch h⟩
  | _ :: _,[],_,_,_,h,_,_ => by cases h
  | x :: l,o :: os,led,q,hn,hl,hx,hq => by
    obtain ⟨ox,e⟩ := hx x (.head _)
    have hn' : ((ledPut led x.1 o).map (·.1)).Nodup := by rw [ledPut_map]; exact hn
    rcases putAll_mem (l := l) hn' (Nat.succ.inj hl) (fun y hy => by obtain ⟨o',e'⟩ := hx y (.tail _ hy); exact ledAt_of_put (p := (y.2.1,o')) e') hq with h | ⟨h,h2⟩
    · exact .inl (.tail _ h)
    · rcases ledPut_mem hn e h with h3 | ⟨h3,h4⟩
      · subst h3; exact .inl (.head _)
      · refine .inr ⟨h3,fun h5 => ?_⟩
        rcases List.mem_cons.mp h5 with h6 | h6
        · exact h4 h6
        · exact h2 h6
theorem ledAt_inj {l : Led} : ∀ {i j : Nat} {p q : Addr × Obj},(l.map (·.1)).Nodup → ledAt l i = some p → ledAt l j = some q → p.1 = q.1 → i = j := by
  induction l with
  | nil => intro i j p q _ h; cases h
  | cons x l ih =>
    intro i j p q hn h1 h2 e
    rw [List.map_cons,List.nodup_cons] at hn
    cases i with
    | zero =>
      cases j with
      | zero => rfl
      | succ j =>
        cases h1
        have hm : q.1 ∈ l.map (·.1) := List.mem_map_of_mem (ledAt_mem (l := l) h2)
        rw [← e] at hm
        exact absurd hm hn.1
    | succ i =>
      cases j with
      | zero =>
        cases h2
        have hm : p.1 ∈ l.map (·.1) := List.mem_map_of_mem (ledAt_mem (l := l) h1)
        rw [e] at hm
        exact absurd hm hn.1
      | succ j => rw [ih hn.2 h1 h2 e]
theorem notIn_ne {j : Nat} {l : List (Nat × Addr × Obj)} : notIn j l = true → ∀ x ∈ l,j ≠ x.1 := by
  induction l with
  | nil => intro _ x hx; cases hx
  | cons q l ih =>
    intro h x hx
    unfold notIn at h
    cases e : Nat.beq j q.1 with
    | true => rw [e] at h; cases h
    | false =>
      rw [e] at h
      rcases List.mem_cons.mp hx with hx | hx
      · rw [hx]; exact Nat.ne_of_beq_eq_false e
      · exact ih h x hx
theorem dist_nodup {led : Led} (hn : (led.map (·.1)).Nodup) {l : List (Nat × Addr × Obj)} : dist l = true → (∀ x ∈ l,ledAt led x.1 = some (x.2.1,x.2.2)) → (adrs l).Nodup := by
  induction l with
  | nil => intro _ _; exact List.nodup_nil
  | cons q l ih =>
    intro h hx
    unfold dist at h
    cases e : notIn q.1 l with
    | false => rw [e] at h; cases h
    | true =>
      rw [e] at h
      refine List.nodup_cons.mpr ⟨fun hm => ?_,ih h fun x hx' => hx x (List.mem_cons_of_mem _ hx')⟩
      obtain ⟨x,hx',ex⟩ := List.mem_map.mp hm
      exact notIn_ne e x hx' (ledAt_inj hn (hx q List.mem_cons_self) (hx x (List.mem_cons_of_mem _ hx')) ex.symm)
section
variable {K : Frag} {g h : Heap} {A0 : List Addr} {led : Led}
theorem Rp.alloc (hB : ∀ h : Heap,K.In h → 219 ≤ h.objs.size) (D : Rp K g A0 h led) {o : Obj} (hf : o.isFreed = false) : Rp K g A0 (h.push o) (ledAdd led h.objs.size o) := by
  rw [ledAdd_eq]
  refine ⟨fun a o' e => Heap.get?_push_of_some _ (D.top a o' e),?_,?_,?_,?_,?_,fun b o' e q => Heap.get?_push_of_some _ (D.keep b o' e q)⟩
  · intro p hp
    rcases List.mem_append.mp hp with hp | hp
    · exact Heap.get?_push_of_some _ (D.has p hp)
    · rw [List.mem_singleton.mp hp]; exact Heap.get?_push_size _ hf
  · rw [List.map_append,List.nodup_append]
    refine ⟨D.nod,by simp,?_⟩
    intro a ha b hb e
    obtain ⟨p,hp,rfl⟩ := List.mem_map.mp ha
    simp only [List.map_cons,List.map_nil,List.mem_singleton] at hb
    have := Heap.lt_size (D.has p hp)
    have e' : p.1 = h.objs.size := by rw [← hb]; exact e
    rw [e'] at this
    exact absurd this (Nat.lt_irrefl _)
  · intro p hp
    rcases List.mem_append.mp hp with hp | hp
    · exact D.off p hp
    · rw [List.mem_singleton.mp hp]
      cases q : K.lookup h.objs.size with
      | none => rfl
      | some o' => exact absurd (Heap.lt_size (D.top _ _ q)) (Nat.lt_irrefl _)
  · intro p hp
    rcases List.mem_append.mp hp with hp | hp
    · exact D.mine p hp
    · rw [List.mem_singleton.mp hp]
      by_cases q : h.objs.size ∈ A0
      · exact .inl q
      · refine .inr ?_
        cases z : g.get? h.objs.size with
        | none => rfl
        | some o' => exact absurd (Heap.lt_size (D.keep _ _ z q)) (Nat.lt_irrefl _)
  · intro p hp
    rcases List.mem_append.mp hp with hp | hp
    · exact D.low p hp
    · rw [List.mem_singleton.mp hp]; exact hB h D.top
theorem Rp.update (D : Rp K g A0 h led) {j : Nat} {p : Addr × Obj} {f : Obj → Obj} (hj : ledAt led j = some p) (hf : (f p.2).isFreed = false) : Rp K g A0 (h.update p.1 f) (ledPut led j (f p.2)) := by
  have hm := ledAt_mem hj
  have hg := D.has p hm
  have hs : Heap.SameBut p.1 h (h.update p.1 f) := Heap.SameBut.update ..
  have ge : (h.update p.1 f).get? p.1 = some (f p.2) := by first | exact Heap.get?_update_self f hg hf | exact Heap.get?_update_self _ hg hf
  refine ⟨fun a o' e => ?_,?_,by rw [ledPut_map]; exact D.nod,?_,?_,?_,fun b o' e q => ?_⟩
  · refine (hs.2 a fun z => ?_).trans (D.top a o' e)
    rw [z,D.off p hm] at e; cases e
  · intro q hq
    rcases ledPut_mem D.nod hj hq with e | e
    · rw [e]; exact ge
    · exact (hs.2 q.1 e.2).trans (D.has q e.1)
  · intro q hq
    rcases ledPut_mem D.nod hj hq with e | e
    · rw [e]; exact D.off p hm
    · exact D.off q e.1
  · intro q hq
    rcases ledPut_mem D.nod hj hq with e | e
    · rw [e]; exact D.mine p hm
    · exact D.mine q e.1
  · intro q hq
    rcases ledPut_mem D.nod hj hq with e | e
    · rw [e]; exact D.low p hm
    · exact D.low q e.1
  · refine (hs.2 b fun z => ?_).trans (D.keep b o' e q)
    rcases D.mine p hm with w | w
    · exact q (z ▸ w)
    · rw [z,w] at e; cases e
theorem Rp.eff (D : Rp K g A0 h led) {l : List (Nat × Addr × Obj)} {os : List Obj} {nw : Led} {h' : Heap} (hl : os.length = l.length) (hx : ∀ x ∈ l,∃ o,ledAt led x.1 = some (x.2.1,o)) (F : Eff h h' ((adrs l).zip os) nw) :
    Rp K g A0 h' (ledCat (putAll led l os) nw) := by
  rw [ledCat_eq]
  have hz : ∀ p ∈ (adrs l).zip os,∃ o,(p.1,o) ∈ led := by
    intro p hp
    have h1 := (List.of_mem_zip (a := p.1) (b := p.2) hp).1
    obtain ⟨x,hx',e⟩ := List.mem_map.mp h1
    obtain ⟨o,eo⟩ := hx x hx'
    exact ⟨o,e ▸ ledAt_mem eo⟩
  have hk : ∀ b o,h.get? b = some o → b ∉ adrs l → h'.get? b = some o := fun b o e q => F.keep b o e fun z => by
    obtain ⟨p,hp,rfl⟩ := List.mem_map.mp z
    exact q (List.of_mem_zip (a := p.1) (b := p.2) hp).1
  have hl' : ∀ b ∈ adrs l,∃ o,(b,o) ∈ led := by
    intro b hb
    obtain ⟨x,hx',e⟩ := List.mem_map.mp hb
    obtain ⟨o,eo⟩ := hx x hx'
    exact ⟨o,e ▸ ledAt_mem eo⟩
  refine ⟨fun a o e => hk a o (D.top a o e) fun z => ?_,?_,?_,?_,?_,?_,fun b o e q => hk b o (D.keep b o e q) fun z => ?_⟩
  · obtain ⟨o',m⟩ := hl' a z
    rw [D.off _ m] at e; cases e
  · intro p hp
    rcases List.mem_append.mp hp with hp | hp
    · rcases putAll_mem D.nod hl hx hp with h1 | ⟨h1,h2⟩
      · exact F.fup p h1
      · exact hk _ _ (D.has p h1) h2
    · exact (F.fnw p hp).1
  · rw [List.map_append,putAll_map,List.nodup_append]
    refine ⟨D.nod,F.nd,?_⟩
    intro a ha b hb e
    obtain ⟨p,hp,rfl⟩ := List.mem_map.mp ha
    obtain ⟨q,hq,rfl⟩ := List.mem_map.mp hb
    have h1 := D.has p hp
    have h2 := (F.fnw q hq).2.1
    have e' : p.1 = q.1 := e
    rw [e',h2] at h1
    cases h1
  · intro p hp
    rcases List.mem_append.mp hp with hp | hp
    · rcases putAll_mem D.nod hl hx hp with h1 | ⟨h1,h2⟩
      · obtain ⟨o,m⟩ := hz p h1
        exact D.off (p.1,o) m
      · exact D.off p h1
    · cases q : K.lookup p.1 with
      | none => rfl
      | some o' => exact absurd ((D.top _ _ q).symm.trans (F.fnw p hp).2.1) (by intro z; cases z)
  · intro p hp
    rcases List.mem_append.mp hp with hp | hp
    · rcases putAll_mem D.nod hl hx hp with h1 | ⟨h1,h2⟩
      · obtain ⟨o,m⟩ := hz p h1
        exact D.mine (p.1,o) m
      · exact D.mine p h1
    · by_cases q : p.1 ∈ A0
      · exact .inl q
      · refine .inr ?_
        cases z : g.get? p.1 with
        | none => rfl
        | some o' => exact absurd ((D.keep _ _ z q).symm.trans (F.fnw p hp).2.1) (by intro z; cases z)
  · intro p hp
    rcases List.mem_append.mp hp with hp | hp
    · rcases putAll_mem D.nod hl hx hp with h1 | ⟨h1,h2⟩
      · obtain ⟨o,m⟩ := hz p h1
        exact D.low (p.1,o) m
      · exact D.low p h1
    · exact (F.fnw p hp).2.2
  · obtain ⟨o',m⟩ := hl' b z
    rcases D.mine _ m with w | w
    · exact q w
    · exact absurd (e.symm.trans w) (by intro z; cases z)
end
theorem Tm.n_inj {a b : Nat} (h : Tm.n a = Tm.n b) : a = b := by cases h; rfl
theorem Tm.o_inj {a b : Obj} (h : Tm.o a = Tm.o b) : a = b := by cases h; rfl
theorem Tm.c_inj {a b : Code} (h : Tm.c a = Tm.c b) : a = b := by cases h; rfl
theorem meet_good {α : Type} {Q : α → XSt → Prop} {E : Value → XSt → Prop} {led : Led} {r : Ans α} : ∀ {l : List (Nat × Addr × Obj)},(meet led l r).Good Q E → (∀ x ∈ l,ledAt led x.1 = some (x.2.1,x.2.2)) ∧ r.Good Q E
  | [],h => ⟨fun _ hx => (nomatch hx),h⟩
  | q :: l,h => by
    unfold meet at h
    split at h
    · rename_i p e
      obtain ⟨e1,e2,h3⟩ := h
      obtain ⟨h4,h5⟩ := meet_good (l := l) h3
      refine ⟨fun x hx => ?_,h5⟩
      rcases List.mem_cons.mp hx with rfl | hx
      · rw [e,Tm.n_inj e1,Tm.o_inj e2]
      · exact h4 x hx
    · cases h
theorem ledInsM_perm (n : Led) : ∀ (m : Nat) (l : Led),(ledInsM m l n).Perm (l ++ n)
  | 0,l => by
    unfold ledInsM
    rw [ledCat_eq]
    exact List.perm_append_comm
  | m + 1,l => by
    unfold ledInsM
    cases l with
    | nil => exact List.Perm.refl _
    | cons p l => exact (ledInsM_perm n m l).cons p
theorem ledIns_perm (l : Led) (m : Nat) (n : Led) : (ledIns l m n).Perm (l ++ n) := ledInsM_perm n m l
theorem ledIns_add (l : Led) (m : Nat) (a : Addr) (o : Obj) : (ledIns l m [(a,o)]).Perm (ledAdd l a o) := by
  rw [ledAdd_eq]; exact ledIns_perm l m _
theorem ledIns_cat (l : Led) (m : Nat) (n : Led) : (ledIns l m n).Perm (ledCat l n) := by
  rw [ledCat_eq]; exact ledIns_perm l m _
theorem Rp.perm {K : Frag} {g h : Heap} {A0 : List Addr} {led led' : Led} (D : Rp K g A0 h led) (p : led'.Perm led) : Rp K g A0 h led' :=
  ⟨D.top,fun q hq => D.has q (p.mem_iff.mp hq),((p.map (·.1)).nodup_iff).mpr D.nod,fun q hq => D.off q (p.mem_iff.mp hq),fun q hq => D.mine q (p.mem_iff.mp hq),fun q hq => D.low q (p.mem_iff.mp hq),D.keep⟩
theorem samA_weight {c : Code} (h : samA c = true) : c.weight = 0 ∧ c.cUnits = 0 := by
  unfold samA at h
  split at h <;> first | exact ⟨rfl,rfl⟩ | cases h
theorem samA_under {A : Around} {c : Code} (h : samA c = true) : A.under c = A := Around.under_of_weight (samA_weight h).1 (samA_weight h).2
noncomputable def wpC {α : Type} (cur : List Code) (M : Model) (A : Around) (t : Sem α) (Q : α → Shared → Prop) (E : Value → Shared → Prop) (s : Shared) : Prop :=
  ∀ Γ p,cur <+: (Γ.code :: Γ.below.map (·.1)) → Γ.In A → Sem.wp M Γ t (fun a _ s' => Q a s') (fun e _ s' => E e s') p s
noncomputable def codeC (bel : List Code) (M : Model) (A : Around) (c : Code) (R : Result → Shared → Prop) (s : Shared) : Prop :=
  ∀ Γ p,Γ.code = c → bel <+: Γ.below.map (·.1) → Γ.Below A → wpCode M Γ R p s
theorem stk_of : ∀ (cur : List Code) (l : List (Code × Pos)),cur <+: l.map (·.1) → ∃ f r,l = stk cur f r
  | [],l,_ => ⟨fun _ => ⟨0,0,0,0⟩,l,rfl⟩
  | c :: cs,[],h => by cases List.prefix_nil.mp h
  | c :: cs,(c',p) :: l,h => by
    obtain ⟨e,h'⟩ := List.cons_prefix_cons.mp h
    obtain ⟨f,r,e'⟩ := stk_of cs l h'
    refine ⟨fun i => match i with | 0 => p | i + 1 => f i,r,?_⟩
    rw [e']
    have e : c = c' := e
    subst e; rfl
section
variable {α : Type} {cur : List Code} {prog : Program} {w : World} {A : Around} {E : Value → Shared → Prop} {s : Shared} {Q : α → Shared → Prop}
theorem c_pure {a : α} (h : Q a s) : wpC cur (model prog w) A (Sem.pure a) Q E s := fun _ _ _ _ => h
theorem c_raise {e : Value} (h : E e s) : wpC cur (model prog w) A (Sem.raise e : Sem α) Q E s := fun _ _ _ _ => h
theorem c_rule {t : String} {k : Unit → Sem α} (h : wpC cur (model prog w) A (k ()) Q E s) : wpC cur (model prog w) A (.rule t k) Q E s := fun Γ p hc hΓ => h Γ p hc hΓ
theorem c_at {q : Pos} {k : Unit → Sem α} (h : wpC cur (model prog w) A (k ()) Q E s) : wpC cur (model prog w) A (.at q k) Q E s := fun Γ _ hc hΓ => h Γ q hc hΓ
theorem c_point {l : List Value} {k : Unit → Sem α} (h : wpC cur (model prog w) A (k ()) Q E s) : wpC cur (model prog w) A (.point l k) Q E s := fun Γ p hc hΓ => h Γ p hc hΓ
theorem c_ask {k : Setting → Sem α} (h : wpC cur (model prog w) A (k ⟨prog,w.params⟩) Q E s) : wpC cur (model prog w) A (.ask k) Q E s := fun Γ p hc hΓ => h Γ p hc hΓ
theorem c_fresh {k : Tok → Sem α} (h : wpC cur (model prog w) A (k s.toks) Q E { s with toks := s.toks + 1 }) : wpC cur (model prog w) A (.fresh k) Q E s := fun Γ p hc hΓ => h Γ p hc hΓ
theorem c_handled {k : Option Value → Sem α} {hd : Option Value} (hA : A.handled = hd) (h : wpC cur (model prog w) A (k hd) Q E s) : wpC cur (model prog w) A (.handled false k) Q E s := fun Γ p hc hΓ => by
  have z := h Γ p hc hΓ
  have e : Γ.handled = hd := hΓ.1.trans hA
  simp only [Sem.wp,Bool.false_eq_true,if_false,e]
  exact z
theorem c_load {a : Addr} {q : Option Value} {k : Obj → Sem α} {o : Obj} (ho : s.heap.get? a = some o) (h : wpC cur (model prog w) A (k o) Q E s) : wpC cur (model prog w) A (.load a q k) Q E s := fun Γ p hc hΓ => ⟨o,ho,h Γ p hc hΓ⟩
theorem c_alive {a : Addr} {k : Option Obj → Sem α} {o : Obj} (ho : s.heap.get? a = some o) (h : wpC cur (model prog w) A (k (some o)) Q E s) : wpC cur (model prog w) A (.loadIfAlive a k) Q E s := fun Γ p hc hΓ => by
  rw [Sem.wp_loadIfAlive,ho]; exact h Γ p hc hΓ
theorem c_update {a : Addr} {q : Option Value} {f : Obj → Obj} {k : Unit → Sem α} {o : Obj} (ho : s.heap.get? a = some o) (h : wpC cur (model prog w) A (k ()) Q E { s with heap := s.heap.update a f }) : wpC cur (model prog w) A (.update a q f k) Q E s := fun Γ p hc hΓ => ⟨by rw [ho]; rfl,h Γ p hc hΓ⟩
theorem c_alloc {o : Obj} {k : Addr → Sem α} (h : wpC cur (model prog w) A (k s.heap.objs.size) Q E { s with heap := s.heap.push o }) : wpC cur (model prog w) A (.alloc o k) Q E s := fun Γ p hc hΓ => h Γ p hc hΓ
theorem c_stack {k : List (Code × Pos) → Sem α} (h : ∀ f r,wpC cur (model prog w) A (k (stk cur f r)) Q E s) : wpC cur (model prog w) A (.stack k) Q E s := fun Γ p hc hΓ => by
  obtain ⟨f,r,e⟩ := stk_of cur ((Γ.code,p) :: Γ.below) hc
  have z := h f r Γ p hc hΓ
  show Sem.wp _ Γ (k ((Γ.code,p) :: Γ.below)) _ _ p s
  rw [e]; exact z
theorem c_call {c : Code} {g : Bool} {l : List Value} {k : Result → Sem α} (hc : codeC cur (model prog w) (A.mark none) c (fun r s' => wpC cur (model prog w) A (k r) Q E s') s) : wpC cur (model prog w) A (.call c none g l k) Q E s :=
  fun Γ p hcu hΓ => wpCode_mono (fun _ _ q => q Γ p hcu hΓ) (hc (Γ.enter c none p) p rfl hcu (hΓ.enter c none p (by intro x; cases x)))
theorem c_call_of {c : Code} {g : Bool} {l : List Value} {R : Result → Shared → Prop} {E' : Value → Shared → Prop} {k : Result → Sem α}
    (h : wpAny (model prog w) A (Sem.call c none false [] Sem.pure) R E' s) (hk : ∀ r s',R r s' → wpC cur (model prog w) A (k r) Q E s') : wpC cur (model prog w) A (Sem.call c none g l k) Q E s := fun Γ p hc hΓ => by
  have z := h Γ p hΓ
  simp only [Sem.wp] at z ⊢
  exact wpCode_mono (fun r s' q => hk r s' q Γ p hc hΓ) z
theorem c_mono {t : Sem α} {Q' : α → Shared → Prop} {E' : Value → Shared → Prop} (h : wpC cur (model prog w) A t Q E s) (hQ : ∀ a s,Q a s → Q' a s) (hE : ∀ e s,E e s → E' e s) : wpC cur (model prog w) A t Q' E' s :=
  fun Γ p hc hΓ => Sem.wp_mono _ Γ t (fun a _ s => hQ a s) (fun e _ s => hE e s) p s (h Γ p hc hΓ)
end
theorem c_codeC {prog : Program} {w : World} {A : Around} {s : Shared} {bel : List Code} {c : Code} {R : Result → Shared → Prop}
    (h : wpC (c :: bel) (model prog w) (A.under c) (den c) (fun fin s' => match fin with | .done f => R (.ok f) s' | .again c' => c'.quiet = true ∧ codeC bel (model prog w) A c' R s') (fun e s' => R (.error e) s') s) : codeC bel (model prog w) A c R s := fun Γ p hc hb hΓ => by
  rw [wpCode_iff_wp,hc]
  have hd : (model prog w).den c = den c := congrFun den_eq c
  rw [hd]
  refine Sem.wp_mono _ Γ _ (fun fin p' s' h' => ?_) (fun _ _ _ h' => h') p s (h Γ p (by rw [hc]; exact List.cons_prefix_cons.mpr ⟨rfl,hb⟩) (hc ▸ hΓ.in))
  cases fin with
  | done f => exact h'
  | again c' => exact ⟨h'.1,h'.2 (Γ.goto c') p' rfl hb (hΓ.goto c')⟩
theorem codeC_any {M : Model} {A : Around} {c : Code} {R : Result → Shared → Prop} {s : Shared} (h : codeC [] M A c R s) : codeAny M A c R s := fun Γ p hc hΓ => h Γ p hc List.nil_prefix hΓ
theorem codeAny_C {M : Model} {A : Around} {c : Code} {bel : List Code} {R : Result → Shared → Prop} {s : Shared} (h : codeAny M A c R s) : codeC bel M A c R s := fun Γ p hc _ hΓ => h Γ p hc hΓ
theorem codeC_mono {M : Model} {A : Around} {c : Code} {bel : List Code} {R R' : Result → Shared → Prop} {s : Shared} (h : codeC bel M A c R s) (hR : ∀ r s',R r s' → R' r s') : codeC bel M A c R' s := fun Γ p hc hb hΓ => wpCode_mono (fun r s' q => hR r s' q) (h Γ p hc hb hΓ)
theorem c_code {prog : Program} {w : World} {A : Around} {s : Shared} {c : Code} {R : Result → Shared → Prop}
    (h : wpC [c] (model prog w) (A.under c) (den c) (fun fin s' => match fin with | .done f => R (.ok f) s' | .again c' => c'.quiet = true ∧ codeAny (model prog w) A c' R s') (fun e s' => R (.error e) s') s) : codeAny (model prog w) A c R s :=
  codeC_any (c_codeC (c_mono h (fun f s' q => by
    cases f with
    | done f => exact q
    | again c' => exact ⟨q.1,codeAny_C q.2⟩) fun _ _ q => q))
section
variable {prog : Program} {w : World} {K : Frag} {g : Heap} {A0 : List Addr} {C : Around → Prop}
noncomputable def allOk (prog : Program) (w : World) (K : Frag) (C : Around → Prop) (l : List Inst) : Prop := ∀ I ∈ l,IOk prog w K C I ∧ ∀ ω ξ,(I.upd ω ξ).length = I.need.length
noncomputable def okT (prog : Program) (w : World) (K : Frag) (C : Around → Prop) : ITree → Prop
  | .nil => True
  | .cons I nx => ∀ N T,(IOk prog w K C (I N T) ∧ ∀ ω ξ,((I N T).upd ω ξ).length = (I N T).need.length) ∧ ∀ ω ξ,okT prog w K C (nx N T ω ξ)
noncomputable def Fits (prog : Program) (w : World) (K : Frag) (g : Heap) (A0 : List Addr) (C : Around → Prop) (s₀ s' : Shared) (G : XSt → Prop) : Prop :=
  s' = { s₀ with heap := s'.heap,toks := s'.toks } ∧ ∃ ora k i N T led ins m,Rp K g A0 s'.heap led ∧ s'.heap.objs.size = N + k ∧ s'.toks = T + i ∧ okT prog w K C ins ∧ ∀ nn tt om xi ps,nn 0 = N → tt 0 = T → G ⟨ora,nn,k,tt,i,led,ins,om,xi,ps,m⟩
theorem exs_sound (hB : ∀ h : Heap,K.In h → 219 ≤ h.objs.size) (hd : Option Value) (s₀ : Shared) : ∀ n,
    (∀ (lv : Bool) (cur : List Code) (α : Type) (t : Sem α) (A : Around) (Qx : α → XSt → Prop) (Ex : Value → XSt → Prop) (s : Shared),A.handled = hd → (lv = true → C A) →
      Fits prog w K g A0 C s₀ s (fun st => ((exs ⟨⟨prog,w.params⟩,K,hd⟩ n).1 lv cur α t st).Good Qx Ex) →
      wpC cur (model prog w) A t (fun a s' => Fits prog w K g A0 C s₀ s' (Qx a)) (fun e s' => Fits prog w K g A0 C s₀ s' (Ex e)) s) ∧
    (∀ (lv : Bool) (bel : List Code) (c : Code) (A : Around) (Gx : Result → XSt → Prop) (s : Shared),A.handled = hd → (lv = true → C A ∧ samA c = true) →
      Fits prog w K g A0 C s₀ s (fun st => ((exs ⟨⟨prog,w.params⟩,K,hd⟩ n).2 lv bel c st).Good Gx (fun _ _ => False)) →
      codeC bel (model prog w) A c (fun r s' => Fits prog w K g A0 C s₀ s' (Gx r)) s) := by
  intro n
  induction n with
  | zero => exact ⟨fun _ _ _ _ _ _ _ _ _ _ h => by obtain ⟨_,_,_,_,_,_,_,_,_,_,_,_,_,h⟩ := h; exact (h (fun _ => _) (fun _ => _) (fun _ _ => 0) (fun _ _ => #[]) (fun _ => (fun _ => ⟨0,0,0,0⟩,[])) rfl rfl).elim,fun _ _ _ _ _ _ _ _ h => by obtain ⟨_,_,_,_,_,_,_,_,_,_,_,_,_,h⟩ := h; exact (h (fun _ => _) (fun _ => _) (fun _ _ => 0) (fun _ _ => #[]) (fun _ => (fun _ => ⟨0,0,0,0⟩,[])) rfl rfl).elim⟩
  | succ n ih =>
    obtain ⟨it,ic⟩ := ih
    refine ⟨?_,?_⟩
    · intro lv cur α t A Qx Ex s hA hC hF
      obtain ⟨hs,ora,k,i,N,T,led,ins,m,D,hN,hT,hI,H⟩ := hF
      replace H : ∀ nn tt om xi ps,nn 0 = N → tt 0 = T → (exStep ⟨⟨prog,w.params⟩,K,hd⟩ (exs ⟨⟨prog,w.params⟩,K,hd⟩ n).1 (exs ⟨⟨prog,w.params⟩,K,hd⟩ n).2 lv cur α t ⟨ora,nn,k,tt,i,led,ins,om,xi,ps,m⟩).Good Qx Ex := H
      cases t with
      | pure a => exact c_pure ⟨hs,ora,k,i,N,T,led,ins,m,D,hN,hT,hI,H⟩
      | raise e => exact c_raise ⟨hs,ora,k,i,N,T,led,ins,m,D,hN,hT,hI,H⟩
      | rule _ f => exact c_rule (it lv cur α _ A Qx Ex s hA hC ⟨hs,ora,k,i,N,T,led,ins,m,D,hN,hT,hI,H⟩)
      | «at» _ f => exact c_at (it lv cur α _ A Qx Ex s hA hC ⟨hs,ora,k,i,N,T,led,ins,m,D,hN,hT,hI,H⟩)
      | point _ f => exact c_point (it lv cur α _ A Qx Ex s hA hC ⟨hs,ora,k,i,N,T,led,ins,m,D,hN,hT,hI,H⟩)
      | ask f => exact c_ask (it lv cur α _ A Qx Ex s hA hC ⟨hs,ora,k,i,N,T,led,ins,m,D,hN,hT,hI,H⟩)
      | load a q f =>
        cases ora with
        | nil => exact (H (fun _ => N) (fun _ => T) (fun _ _ => 0) (fun _ _ => #[]) (fun _ => (fun _ => ⟨0,0,0,0⟩,[])) rfl rfl).elim
        | cons j ora =>
          cases j with
          | zero =>
            cases e : K.lookup a with
            | none => simp only [exStep,e] at H; exact (H (fun _ => N) (fun _ => T) (fun _ _ => 0) (fun _ _ => #[]) (fun _ => (fun _ => ⟨0,0,0,0⟩,[])) rfl rfl).elim
            | some o =>
              simp only [exStep,e] at H
              exact c_load (D.top _ _ e) (it lv cur α _ A Qx Ex s hA hC ⟨hs,ora,k,i,N,T,led,ins,m,D,hN,hT,hI,H⟩)
          | succ j =>
            cases e : ledAt led j with
            | none => simp only [exStep,e] at H; exact (H (fun _ => N) (fun _ => T) (fun _ _ => 0) (fun _ _ => #[]) (fun _ => (fun _ => ⟨0,0,0,0⟩,[])) rfl rfl).elim
            | some p =>
              simp only [exStep,e] at H
              have ea := Tm.n_inj (H (fun _ => N) (fun _ => T) (fun _ _ => 0) (fun _ _ => #[]) (fun _ => (fun _ => ⟨0,0,0,0⟩,[])) rfl rfl).1
              exact c_load (by rw [ea]; exact D.has _ (ledAt_mem e)) (it lv cur α _ A Qx Ex s hA hC ⟨hs,ora,k,i,N,T,led,ins,m,D,hN,hT,hI,fun nn tt om xi ps h1 h2 => (H nn tt om xi ps h1 h2).2⟩)
      | loadIfAlive a f =>
        cases ora with
        | nil => exact (H (fun _ => N) (fun _ => T) (fun _ _ => 0) (fun _ _ => #[]) (fun _ => (fun _ => ⟨0,0,0,0⟩,[])) rfl rfl).elim
        | cons j ora =>
          cases j with
          | zero =>
            cases e : K.lookup a with
            | none => simp only [exStep,e] at H; exact (H (fun _ => N) (fun _ => T) (fun _ _ => 0) (fun _ _ => #[]) (fun _ => (fun _ => ⟨0,0,0,0⟩,[])) rfl rfl).elim
            | some o =>
              simp only [exStep,e] at H
              exact c_alive (D.top _ _ e) (it lv cur α _ A Qx Ex s hA hC ⟨hs,ora,k,i,N,T,led,ins,m,D,hN,hT,hI,H⟩)
          | succ j =>
            cases e : ledAt led j with
            | none => simp only [exStep,e] at H; exact (H (fun _ => N) (fun _ => T) (fun _ _ => 0) (fun _ _ => #[]) (fun _ => (fun _ => ⟨0,0,0,0⟩,[])) rfl rfl).elim
            | some p =>
              simp only [exStep,e] at H
              have ea := Tm.n_inj (H (fun _ => N) (fun _ => T) (fun _ _ => 0) (fun _ _ => #[]) (fun _ => (fun _ => ⟨0,0,0,0⟩,[])) rfl rfl).1
              exact c_alive (by rw [ea]; exact D.has _ (ledAt_mem e)) (it lv cur α _ A Qx Ex s hA hC ⟨hs,ora,k,i,N,T,led,ins,m,D,hN,hT,hI,fun nn tt om xi ps h1 h2 => (H nn tt om xi ps h1 h2).2⟩)
      | update a q f c =>
        cases ora with
        | nil => exact (H (fun _ => N) (fun _ => T) (fun _ _ => 0) (fun _ _ => #[]) (fun _ => (fun _ => ⟨0,0,0,0⟩,[])) rfl rfl).elim
        | cons j ora =>
          cases j with
          | zero => exact (H (fun _ => N) (fun _ => T) (fun _ _ => 0) (fun _ _ => #[]) (fun _ => (fun _ => ⟨0,0,0,0⟩,[])) rfl rfl).elim
          | succ j =>
            cases e : ledAt led j with
            | none => simp only [exStep,e] at H; exact (H (fun _ => N) (fun _ => T) (fun _ _ => 0) (fun _ _ => #[]) (fun _ => (fun _ => ⟨0,0,0,0⟩,[])) rfl rfl).elim
            | some p =>
              cases hf : (f p.2).isFreed with
              | true => simp only [exStep,e,hf] at H; exact (H (fun _ => N) (fun _ => T) (fun _ _ => 0) (fun _ _ => #[]) (fun _ => (fun _ => ⟨0,0,0,0⟩,[])) rfl rfl).elim
              | false =>
                simp only [exStep,e,hf] at H
                have ea := Tm.n_inj (H (fun _ => N) (fun _ => T) (fun _ _ => 0) (fun _ _ => #[]) (fun _ => (fun _ => ⟨0,0,0,0⟩,[])) rfl rfl).1
                subst ea
                refine c_update (D.has _ (ledAt_mem e)) ?_
                have hsz : (s.heap.update p.1 f).objs.size = N + k := by rw [(Heap.SameBut.update s.heap p.1 f).1]; exact hN
                exact it lv cur α _ A Qx Ex { s with heap := s.heap.update p.1 f } hA hC ⟨by rw [hs],ora,k,i,N,T,ledPut led j (f p.2),ins,m,D.update e hf,hsz,hT,hI,fun nn tt om xi ps h1 h2 => (H nn tt om xi ps h1 h2).2⟩
      | alloc o f =>
        cases hf : o.isFreed with
        | true => simp only [exStep,hf] at H; exact (H (fun _ => N) (fun _ => T) (fun _ _ => 0) (fun _ _ => #[]) (fun _ => (fun _ => ⟨0,0,0,0⟩,[])) rfl rfl).elim
        | false =>
          simp only [exStep,hf] at H
          refine c_alloc ?_
          have D' := D.alloc hB hf
          rw [hN] at D' ⊢
          refine it lv cur α _ A Qx Ex { s with heap := s.heap.push o } hA hC ⟨by rw [hs],ora,k + 1,i,N,T,ledIns led m [(N + k,o)],ins,m + 1,D'.perm (ledIns_add led m (N + k) o),by show (s.heap.push o).objs.size = _; rw [Heap.size_push,hN]; rfl,hT,hI,fun nn tt om xi ps h1 h2 => ?_⟩
          have := H nn tt om xi ps h1 h2
          rw [h1] at this
          exact this
      | fresh f =>
        refine c_fresh ?_
        rw [hT]
        refine it lv cur α _ A Qx Ex { s with toks := T + i + 1 } hA hC ⟨by rw [hs],ora,k,i + 1,N,T,led,ins,m,D,hN,rfl,hI,fun nn tt om xi ps h1 h2 => ?_⟩
        have := H nn tt om xi ps h1 h2
        simp only [exStep] at this
        rw [h2] at this
        exact this
      | handled own f =>
        cases own with
        | true => exact (H (fun _ => N) (fun _ => T) (fun _ _ => 0) (fun _ _ => #[]) (fun _ => (fun _ => ⟨0,0,0,0⟩,[])) rfl rfl).elim
        | false => exact c_handled hA (it lv cur α _ A Qx Ex s hA hC ⟨hs,ora,k,i,N,T,led,ins,m,D,hN,hT,hI,H⟩)
      | stack f =>
        exact c_stack fun p below => it lv cur α _ A Qx Ex s hA hC ⟨hs,ora,k,i,N,T,led,ins,m,D,hN,hT,hI,fun nn tt om xi ps h1 h2 => H nn tt om xi (cs (p,below) ps) h1 h2⟩
      | call c h _ _ f =>
        cases h with
        | some _ => exact (H (fun _ => N) (fun _ => T) (fun _ _ => 0) (fun _ _ => #[]) (fun _ => (fun _ => ⟨0,0,0,0⟩,[])) rfl rfl).elim
        | none =>
          cases ora with
          | nil => exact (H (fun _ => N) (fun _ => T) (fun _ _ => 0) (fun _ _ => #[]) (fun _ => (fun _ => ⟨0,0,0,0⟩,[])) rfl rfl).elim
          | cons j ora =>
            have hm : (A.mark none).handled = hd := by show (none : Option Value).or A.handled = hd; rw [hA]; rfl
            cases j with
            | zero =>
              refine c_call (codeC_mono (ic (match lv with | true => samA c | false => false) cur c (A.mark none) (fun r st' => ((exs ⟨⟨prog,w.params⟩,K,hd⟩ n).1 lv cur α (f r) st').Good Qx Ex) s hm ?_ ⟨hs,ora,k,i,N,T,led,ins,m,D,hN,hT,hI,fun nn tt om xi ps h1 h2 => ?_⟩) fun r s' F => it lv cur α (f r) A Qx Ex s' hA hC F)
              · intro q
                cases lv with
                | true => exact ⟨hC rfl,q⟩
                | false => cases q
              · exact Ans.Good.mono (fun _ _ q => q) (fun _ _ q => q) (Ans.Good.bind (H nn tt om xi ps h1 h2))
            | succ j =>
              cases lv with
              | false => exact (H (fun _ => N) (fun _ => T) (fun _ _ => 0) (fun _ _ => #[]) (fun _ => (fun _ => ⟨0,0,0,0⟩,[])) rfl rfl).elim
              | true =>
                cases ins with
                | nil => exact (H (fun _ => N) (fun _ => T) (fun _ _ => 0) (fun _ _ => #[]) (fun _ => (fun _ => ⟨0,0,0,0⟩,[])) rfl rfl).elim
                | cons I0 nx =>
                  cases hdi : dist (I0 N T).need with
                  | false =>
                    have z := H (fun _ => N) (fun _ => T) (fun _ _ => 0) (fun _ _ => #[]) (fun _ => (fun _ => ⟨0,0,0,0⟩,[])) rfl rfl
                    simp only [exStep,hdi] at z
                    exact z.elim
                  | true =>
                  have H' : ∀ nn tt om xi ps,nn 0 = N → tt 0 = T → (inst (I0 N T) c ⟨ora,nn,k,tt,i,led,.nil,om,xi,ps,m⟩ ora (nx N T (om 0) (xi 0)) j fun r st' => (exs ⟨⟨prog,w.params⟩,K,hd⟩ n).1 true cur α (f r) st').Good Qx Ex := fun nn tt om xi ps h1 h2 => by
                    have z := H nn tt om xi ps h1 h2
                    simp only [exStep,h1,h2,hdi] at z
                    exact z
                  obtain ⟨⟨hI1,hI2⟩,hI3⟩ := hI N T
                  clear H
                  generalize I0 N T = I at *
                  simp only [inst] at H'
                  obtain ⟨ec,hrest⟩ := H' (fun _ => N) (fun _ => T) (fun _ _ => 0) (fun _ _ => #[]) (fun _ => (fun _ => ⟨0,0,0,0⟩,[])) rfl rfl
                  have ec := Tm.c_inj ec
                  have hx := (meet_good hrest).1
                  have hnd : (adrs I.need).Nodup := dist_nodup D.nod hdi hx
                  subst ec
                  refine c_call_of (hI1 A s (fun r s' => wpC cur (model prog w) A (f r) (fun a s' => Fits prog w K g A0 C s₀ s' (Qx a)) (fun e s' => Fits prog w K g A0 C s₀ s' (Ex e)) s') (hC rfl) D.top (fun q hq => D.has _ (ledAt_mem (hx q hq))) hnd (fun q hq => D.off _ (ledAt_mem (hx q hq))) (fun q hq => D.low _ (ledAt_mem (hx q hq))) fun ω ξ h' tk' hl F => ?_) (fun _ _ q => q)
                  refine it true cur α (f (I.res ω ξ)) A Qx Ex { s with heap := h',toks := tk' } hA hC ⟨by rw [hs],ora,0,0,h'.objs.size,tk',ledIns (putAll led I.need (I.upd ω ξ)) m (I.new ω ξ),nx N T ω ξ,m + mAdd j (I.new ω ξ),(D.eff hl (fun x h => ⟨x.2.2,hx x h⟩) F).perm (ledIns_cat _ m _),rfl,rfl,hI3 ω ξ,fun nn tt om xi ps h1 h2 => ?_⟩
                  exact (meet_good (H' (cs N nn) (cs T tt) (cs ω om) (cs ξ xi) ps rfl rfl).2).2
      | _ => exact (H (fun _ => N) (fun _ => T) (fun _ _ => 0) (fun _ _ => #[]) (fun _ => (fun _ => ⟨0,0,0,0⟩,[])) rfl rfl).elim
    · intro lv bel c A Gx s hA hC hF
      obtain ⟨hs,ora,k,i,N,T,led,ins,m,D,hN,hT,hI,H⟩ := hF
      replace H : ∀ nn tt om xi ps,nn 0 = N → tt 0 = T → (coStep (exs ⟨⟨prog,w.params⟩,K,hd⟩ n).1 (exs ⟨⟨prog,w.params⟩,K,hd⟩ n).2 lv bel c ⟨ora,nn,k,tt,i,led,ins,om,xi,ps,m⟩).Good Gx (fun _ _ => False) := H
      refine c_codeC ?_
      have hC2 : lv = true → C (A.under c) := fun q => by rw [samA_under (hC q).2]; exact (hC q).1
      refine c_mono (it lv (c :: bel) PySem.Fin (den c) (A.under c) (fun f st' => (match f with
        | .done f => (.ok (.ok f) st' : Ans Result)
        | .again c' => match c'.quiet with
          | true => (exs ⟨⟨prog,w.params⟩,K,hd⟩ n).2 (match lv with | true => samA c' | false => false) bel c' st'
          | false => .no 10).Good Gx (fun _ _ => False)) (fun e st' => Gx (.error e) st') s hA hC2 ⟨hs,ora,k,i,N,T,led,ins,m,D,hN,hT,hI,fun nn tt om xi ps h1 h2 => Ans.Good.bind (H nn tt om xi ps h1 h2)⟩) (fun f s' F => ?_) (fun e s' F => F)
      cases f with
      | done f => exact F
      | again c' =>
        dsimp only at F ⊢
        cases hq : c'.quiet with
        | false =>
          rw [hq] at F
          obtain ⟨_,_,_,_,_,_,_,_,_,_,_,_,_,F⟩ := F
          exact (F (fun _ => _) (fun _ => _) (fun _ _ => 0) (fun _ _ => #[]) (fun _ => (fun _ => ⟨0,0,0,0⟩,[])) rfl rfl).elim
        | true =>
          rw [hq] at F
          refine ⟨rfl,ic _ bel c' A Gx s' hA (fun q => ?_) F⟩
          cases lv with
          | true => exact ⟨(hC rfl).1,q⟩
          | false => cases q
end
noncomputable def look {β : Type} (d : β) : List β → Nat → β
  | [],_ => d
  | x :: _,0 => x
  | _ :: l,i + 1 => look d l i
noncomputable abbrev Fam := (Nat → Nat) → (Nat → Nat) → (Nat → Nat → Nat) → (Nat → Nat → Slots) → List Inst
noncomputable def nth : List Inst → Nat → Inst → Inst
  | [],_,d => d
  | x :: _,0,_ => x
  | _ :: l,i + 1,d => nth l i d
noncomputable def noI : Inst := ⟨.call .none ⟨[],[]⟩,[],fun _ _ => .ok .next,fun _ _ => [],fun _ _ => []⟩
noncomputable def itGo (F : Fam) : Nat → Nat → List Nat → List Nat → List (Nat → Nat) → List (Nat → Slots) → ITree
  | 0,_,_,_,_,_ => .nil
  | n + 1,i,ns,ts,os,xs => .cons (fun N T => nth (F (look 0 (ns ++ [N])) (look 0 (ts ++ [T])) (look (fun _ => 0) os) (look (fun _ => #[]) xs)) i noI)
      (fun N T ω ξ => itGo F n (i + 1) (ns ++ [N]) (ts ++ [T]) (os ++ [ω]) (xs ++ [ξ]))
noncomputable def IL (F : Fam) : ITree := itGo F (F (fun _ => 0) (fun _ => 0) (fun _ _ => 0) (fun _ _ => #[])).length 0 [] [] [] []
theorem nth_mem : ∀ {l : List Inst} {i : Nat} {d : Inst},i < l.length → nth l i d ∈ l
  | [],_,_,h => absurd h (Nat.not_lt_zero _)
  | _ :: _,0,_,_ => .head _
  | _ :: l,_ + 1,_,h => .tail _ (nth_mem (l := l) (Nat.lt_of_succ_lt_succ h))
theorem okIL {prog : Program} {w : World} {K : Frag} {C : Around → Prop} (F : Fam) (hF : ∀ nn tt om xi,allOk prog w K C (F nn tt om xi)) (hl : ∀ nn tt om xi,(F nn tt om xi).length = (F (fun _ => 0) (fun _ => 0) (fun _ _ => 0) (fun _ _ => #[])).length := by intros; rfl) : okT prog w K C (IL F) := by
  suffices h : ∀ n i ns ts os xs,i + n = (F (fun _ => 0) (fun _ => 0) (fun _ _ => 0) (fun _ _ => #[])).length → okT prog w K C (itGo F n i ns ts os xs) from h _ 0 _ _ _ _ (Nat.zero_add _)
  intro n
  induction n with
  | zero => intros; exact True.intro
  | succ n ih =>
    intro i ns ts os xs e N T
    exact ⟨hF _ _ _ _ _ (nth_mem (by rw [hl]; omega)),fun ω ξ => ih _ _ _ _ _ (by omega)⟩
noncomputable def pickF : Nat → Led → Nat → List Nat → Led
  | 0,_,_,_ => []
  | f + 1,l,i,js => match js with
    | [] => []
    | j :: js' => match Nat.beq (i + 1000) j with
      | true => l
      | false => match l with
        | [] => []
        | p :: l' => match Nat.beq i j with
          | true => p :: pickF f l' (i + 1) js'
          | false => pickF f l' (i + 1) js
noncomputable def pick (l : Led) (i : Nat) (js : List Nat) : Led := pickF 2000 l i js
theorem pickF_sub : ∀ (f : Nat) (l : Led) (i : Nat) (js : List Nat),List.Sublist (pickF f l i js) l
  | 0,_,_,_ => List.nil_sublist _
  | f + 1,l,i,js => by
    unfold pickF
    split
    · exact List.nil_sublist _
    · split
      · exact List.Sublist.refl _
      · split
        · exact List.Sublist.slnil
        · split
          · exact (pickF_sub f _ _ _).cons_cons _
          · exact (pickF_sub f _ _ _).cons _
theorem pick_sub (l : Led) (i : Nat) (js : List Nat) : List.Sublist (pick l i js) l := pickF_sub _ l i js
noncomputable def Ans.finAt {α : Type} (js : List Nat) : Ans α → Option (Except Value α × Led)
  | .ok a s => some (.ok a,pick s.led 0 js)
  | .err e s => some (.error e,pick s.led 0 js)
  | .eq _ _ r => r.finAt js
  | .no _ => none
theorem Rp.sub {K : Frag} {g h : Heap} {A0 : List Addr} {led led' : Led} (D : Rp K g A0 h led) (hs : List.Sublist led' led) : Rp K g A0 h led' :=
  ⟨D.top,fun p hp => D.has p (hs.subset hp),D.nod.sublist (hs.map _),fun p hp => D.off p (hs.subset hp),fun p hp => D.mine p (hs.subset hp),fun p hp => D.low p (hs.subset hp),D.keep⟩
theorem Ans.goodAt {α : Type} {js : List Nat} {Q : α → XSt → Prop} {E : Value → XSt → Prop} : ∀ {r : Ans α} {x : Except Value α × Led},r.eqL = r.eqR → r.finAt js = some x →
    (∀ st : XSt,pick st.led 0 js = x.2 → match x.1 with | .ok a => Q a st | .error e => E e st) → r.Good Q E
  | .ok a s,x,_,e,h => by cases e; exact h s rfl
  | .err a s,x,_,e,h => by cases e; exact h s rfl
  | .eq a b r,x,e1,e2,h => ⟨(List.cons.inj e1).1,goodAt (List.cons.inj e1).2 e2 h⟩
  | .no _,_,_,e,_ => by cases e
noncomputable def MyK (P : Params) : Frag := (0,PySem.W.boot_o_0 P) :: hd.heap_1 P
noncomputable abbrev theP : Program := PySem.Challenge.pw_oc0114_01
noncomputable abbrev MM (w : World) : Model := model PySem.Challenge.pw_oc0114_01 w
noncomputable abbrev Str0 := (Nat → Nat)
noncomputable def go (w : World) (n : Nat) {α : Type} (t : Sem α) (ora : List Nat) (led : Led) (ins : ITree) (nn tt : Nat → Nat) (om : Nat → Nat → Nat) (xi : Nat → Nat → Slots) (ps : Nat → PS) : Ans α :=
  (exs ⟨⟨theP,w.params⟩,MyK w.params,none⟩ n).1 true [] α t ⟨ora,nn,0,tt,0,led,ins,om,xi,ps,cnt led⟩
noncomputable def goH (hd : Option Value) (w : World) (n : Nat) {α : Type} (t : Sem α) (ora : List Nat) (led : Led) (ins : ITree) (nn tt : Nat → Nat) (om : Nat → Nat → Nat) (xi : Nat → Nat → Slots) (ps : Nat → PS) : Ans α :=
  (exs ⟨⟨theP,w.params⟩,MyK w.params,hd⟩ n).1 true [] α t ⟨ora,nn,0,tt,0,led,ins,om,xi,ps,cnt led⟩
noncomputable def Ends {α : Type} (r : Ans α) (js : List Nat) (x : Except Value α) (led : Led) : Prop := r.eqL = r.eqR ∧ r.finAt js = some (x,led)
theorem bigK (w : World) (h : Heap) (hK : (MyK w.params).In h) : 219 ≤ h.objs.size := by
  cases e : (MyK w.params).lookup 218 with
  | none =>
    have z : ((MyK w.params).lookup 218).isSome = true := by kernel_rfl
    rw [e] at z; cases z
  | some o => exact Heap.lt_size (hK _ _ e)
theorem fragH {hd : Option Value} {w : World} {C : Around → Prop} {g : Heap} {A0 : List Addr} {α : Type} {t : Sem α} {A : Around} {Q : α → Shared → Prop} {E : Value → Shared → Prop} {s : Shared}
    (n : Nat) (ora : List Nat) (led : Led) (ins : ITree) (js : List Nat) (x : (Nat → Nat) → (Nat → Nat) → (Nat → Nat → Nat) → (Nat → Nat → Slots) → Except Value α) (led' : (Nat → Nat) → (Nat → Nat) → (Nat → Nat → Nat) → (Nat → Nat → Slots) → Led)
    (e : ∀ nn tt om xi ps,Ends (goH hd w n t ora led ins nn tt om xi ps) js (x nn tt om xi) (led' nn tt om xi))
    (hh : ∀ A,C A → A.handled = hd) (hC : C A) (hI : okT theP w (MyK w.params) C ins) (D : Rp (MyK w.params) g A0 s.heap led)
    (h : ∀ nn tt om xi h' tk',Rp (MyK w.params) g A0 h' (led' nn tt om xi) → match x nn tt om xi with | .ok a => Q a { s with heap := h',toks := tk' } | .error e => E e { s with heap := h',toks := tk' }) :
    wpAny (MM w) A t Q E s := by
  have key := (exs_sound (prog := theP) (w := w) (K := MyK w.params) (g := g) (A0 := A0) (C := C) (bigK w) hd s n).1 true [] α t A
    (fun a st' => ∃ nn tt om xi,x nn tt om xi = .ok a ∧ pick st'.led 0 js = led' nn tt om xi) (fun e st' => ∃ nn tt om xi,x nn tt om xi = .error e ∧ pick st'.led 0 js = led' nn tt om xi) s (hh A hC) (fun _ => hC)
    ⟨rfl,ora,0,0,s.heap.objs.size,s.toks,led,ins,cnt led,D,rfl,rfl,hI,fun nn tt om xi ps _ _ => ?_⟩
  · refine wpAny_mono (fun Γ p hΓ => key Γ p List.nil_prefix hΓ) (fun a s' F => ?_) (fun e s' F => ?_)
    · obtain ⟨hs,ora',k',i',N',T',l',ins',m',D',_,_,_,H⟩ := F
      obtain ⟨nn,tt,om,xi,hx,hl⟩ := H (fun _ => N') (fun _ => T') (fun _ _ => 0) (fun _ _ => #[]) (fun _ => (fun _ => ⟨0,0,0,0⟩,[])) rfl rfl
      have hl : pick l' 0 js = led' nn tt om xi := hl
      have z := h nn tt om xi s'.heap s'.toks (hl ▸ D'.sub (pick_sub l' 0 js))
      rw [hx] at z
      rw [hs]; exact z
    · obtain ⟨hs,ora',k',i',N',T',l',ins',m',D',_,_,_,H⟩ := F
      obtain ⟨nn,tt,om,xi,hx,hl⟩ := H (fun _ => N') (fun _ => T') (fun _ _ => 0) (fun _ _ => #[]) (fun _ => (fun _ => ⟨0,0,0,0⟩,[])) rfl rfl
      have hl : pick l' 0 js = led' nn tt om xi := hl
      have z := h nn tt om xi s'.heap s'.toks (hl ▸ D'.sub (pick_sub l' 0 js))
      rw [hx] at z
      rw [hs]; exact z
  · have z := e nn tt om xi ps
    refine Ans.goodAt z.1 z.2 fun st hst => ?_
    cases hx : x nn tt om xi with
    | ok a => exact ⟨nn,tt,om,xi,hx,hst⟩
    | error a => exact ⟨nn,tt,om,xi,hx,hst⟩
theorem frag {w : World} {C : Around → Prop} {g : Heap} {A0 : List Addr} {α : Type} {t : Sem α} {A : Around} {Q : α → Shared → Prop} {E : Value → Shared → Prop} {s : Shared}
    (n : Nat) (ora : List Nat) (led : Led) (ins : ITree) (js : List Nat) (x : (Nat → Nat) → (Nat → Nat) → (Nat → Nat → Nat) → (Nat → Nat → Slots) → Except Value α) (led' : (Nat → Nat) → (Nat → Nat) → (Nat → Nat → Nat) → (Nat → Nat → Slots) → Led)
    (e : ∀ nn tt om xi ps,Ends (go w n t ora led ins nn tt om xi ps) js (x nn tt om xi) (led' nn tt om xi))
    (hh : ∀ A,C A → A.handled = none) (hC : C A) (hI : okT theP w (MyK w.params) C ins) (D : Rp (MyK w.params) g A0 s.heap led)
    (h : ∀ nn tt om xi h' tk',Rp (MyK w.params) g A0 h' (led' nn tt om xi) → match x nn tt om xi with | .ok a => Q a { s with heap := h',toks := tk' } | .error e => E e { s with heap := h',toks := tk' }) :
    wpAny (MM w) A t Q E s := fragH (hd := none) n ora led ins js x led' e hh hC hI D h
noncomputable def AB (d u : Nat) (A : Around) : Prop := A.handled = none ∧ A.depth ≤ d ∧ A.units ≤ u
theorem AB.hh {d u : Nat} : ∀ A,AB d u A → A.handled = none := fun _ h => h.1
theorem AB.mono {d u d' u' : Nat} {A : Around} (h : AB d u A) (hd : d ≤ d') (hu : u ≤ u') : AB d' u' A := ⟨h.1,Nat.le_trans h.2.1 hd,Nat.le_trans h.2.2 hu⟩
noncomputable abbrev AX (d u : Nat) : Around := { handled := none,depth := d,frames := none,guards := none,units := u }
theorem widen {M : Model} {α : Type} {t : Sem α} {Q : α → Shared → Prop} {E : Value → Shared → Prop} {s : Shared} {d u : Nat} {A : Around} (hA : AB d u A) (h : wpAny M (AX d u) t Q E s) : wpAny M A t Q E s :=
  fun Γ p hΓ => h Γ p ⟨hΓ.1.trans hA.1,Nat.le_trans hΓ.2.1 hA.2.1,fun l hl => (by cases hl),fun g hg => (by cases hg),Nat.le_trans hΓ.2.2.2.2 hA.2.2⟩
noncomputable def fdOf (P : Params) (f : Nat) : FuncData := match (MyK P).lookup f with | some ⟨_,_,.func fd,_⟩ => fd | _ => default
noncomputable def envAt (P : Params) (f L : Nat) : Env := { scope := (fdOf P f).scope,locals := L,globals := (fdOf P f).globals,cells := (fdOf P f).closure,qual := (fdOf P f).qualname ++ (".<locals>." : Str),func := some f,code := (fdOf P f).code,frame := some L,builtins := (fdOf P f).builtins }
noncomputable def bodyOf (P : Params) (f : Nat) : List Stmt := match (fdOf P f).body with | .stmts b => b | _ => []
noncomputable def nfe (P : Params) (f : Nat) (binds : List (Str × Value)) : Sem Env := newFunctionEnv (fdOf P f).scope (fdOf P f).globals (fdOf P f).closure binds ((fdOf P f).qualname ++ (".<locals>." : Str)) (some f) (fdOf P f).code none (fdOf P f).builtins
noncomputable def hs (P : Params) (x : Str) : Int := if x.cps.isEmpty then 0 else reduceHash (P.strHash x.cps)
noncomputable abbrev en (h : Int) (x : Str) (t : Tok) (v : Value) : DictEntry := ⟨h,.str x t,v⟩
noncomputable abbrev frO (es : List DictEntry) (n : Nat) (sl : Slots) : Obj := ⟨.type "frame",none,.dict es.toArray n,sl⟩
noncomputable abbrev accO (dx : Addr) (its : Array Value) (n : Nat) : Obj := ⟨.ref 115,some dx,.seq its n,#[]⟩
noncomputable abbrev dicO (hh : Int) (t : Tok) : Obj := ⟨.type "dict",none,.dict #[⟨hh,.str (Str.ofString "_initial_size") t,.int 0 236⟩] 1,#[]⟩
noncomputable abbrev tupO (vs : List Value) : Obj := ⟨.type "tuple",none,.seq vs.toArray 0,#[]⟩
noncomputable abbrev lstO (vs : List Value) (n : Nat) : Obj := ⟨.type "list",none,.seq vs.toArray n,#[]⟩
theorem Rp.more {K : Frag} {g h h' : Heap} {A0 : List Addr} {led led2 : Led} (D : Rp K g A0 h led) (F : Rp K h [] h' led2) : Rp K g A0 h' (led ++ led2) := by
  have hk : ∀ b o,h.get? b = some o → h'.get? b = some o := fun b o e => F.keep b o e (fun z => nomatch z)
  have hn : ∀ p ∈ led2,h.get? p.1 = none := fun p hp => (F.mine p hp).elim (fun z => nomatch z) id
  refine ⟨F.top,?_,?_,?_,?_,?_,fun b o e q => hk b o (D.keep b o e q)⟩
  · intro p hp
    rcases List.mem_append.mp hp with hp | hp
    · exact hk _ _ (D.has p hp)
    · exact F.has p hp
  · rw [List.map_append,List.nodup_append]
    refine ⟨D.nod,F.nod,?_⟩
    intro a ha b hb e
    obtain ⟨p,hp,rfl⟩ := List.mem_map.mp ha
    obtain ⟨q,hq,rfl⟩ := List.mem_map.mp hb
    have h1 := D.has p hp
    have e' : p.1 = q.1 := e
    rw [e',hn q hq] at h1
    cases h1
  · intro p hp
    rcases List.mem_append.mp hp with hp | hp
    · exact D.off p hp
    · exact F.off p hp
  · intro p hp
    rcases List.mem_append.mp hp with hp | hp
    · exact D.mine p hp
    · by_cases q : p.1 ∈ A0
      · exact .inl q
      · refine .inr ?_
        cases z : g.get? p.1 with
        | none => rfl
        | some o => exact absurd ((D.keep _ _ z q).symm.trans (hn p hp)) (by intro z; cases z)
  · intro p hp
    rcases List.mem_append.mp hp with hp | hp
    · exact D.low p hp
    · exact F.low p hp
theorem Rp.nil {K : Frag} {h : Heap} (hK : K.In h) : Rp K h [] h [] := ⟨hK,fun _ hp => (nomatch hp),List.nodup_nil,fun _ hp => (nomatch hp),fun _ hp => (nomatch hp),fun _ hp => (nomatch hp),fun _ _ e _ => e⟩
theorem nolimit (w : World) {h : Heap} (hK : (MyK w.params).In h) : h.NoLimit := by
  have e : (MyK w.params).lookup 2 = some ⟨.none,none,.dict #[] 0,#[]⟩ := by kernel_rfl
  exact ⟨fun _ => none,⟨_,#[],0,hK _ _ e,rfl,fun _ he => by simp at he,fun _ => rfl⟩,rfl⟩
noncomputable def fnOk (P : Params) (f : Nat) : Prop := ∃ c vs t od osl,(MyK P).lookup f = some ⟨.type "function",none,.func (fdOf P f),#[]⟩ ∧ (fdOf P f).code = .ref c ∧ (MyK P).lookup c = some ⟨.type "code",od,.fields vs,osl⟩ ∧ vs[1]? = some (.str (fdOf P f).qualname t) ∧
  (fdOf P f).scope.isCoroutine = false ∧ (fdOf P f).scope.isGenerator = false ∧ (fdOf P f).body = .stmts (bodyOf P f)
theorem enterFn {w : World} {A : Around} {s : Shared} {R : Result → Shared → Prop} {g : Heap} {A0 : List Addr} {led : Led} (f : Nat) (n : Nat) (ora : List Nat) (args : List Value) (binds : List (Str × Value)) (fr : (Nat → Nat) → Obj)
    (hf : fnOk w.params f) (hb : bindArgs (fdOf w.params f) ⟨args,[]⟩ = pure binds) (hA : A.handled = none) (hroom : A.depth < recursionLimit) (D : Rp (MyK w.params) g A0 s.heap led)
    (e : ∀ nn tt om xi ps,Ends (go w n (nfe w.params f binds) ora [] .nil nn tt om xi ps) [0] (.ok (envAt w.params f (nn 0))) [(nn 0,fr tt)])
    (h : ∀ (L : Nat) tt h' tk',Rp (MyK w.params) g A0 h' (led ++ [(L,fr tt)]) → codeAny (MM w) A (.func (bodyOf w.params f) (envAt w.params f L)) R { s with heap := h',toks := tk' }) :
    codeAny (MM w) A (.call (.ref f) ⟨args,[]⟩) R s := by
  obtain ⟨c,vs,t,od,osl,h1,h2,h3,h4,h5,h6,h7⟩ := hf
  refine codeAny_call_function hroom (D.top _ _ h1) rfl h5 h6 h7 ⟨c,_,vs,t,h2,D.top _ _ h3,rfl,h4⟩ ?_
  rw [hb]
  refine wpAny_pure ?_
  refine frag (C := fun A => A.handled = none) n ora [] .nil [0] (fun nn _ _ _ => .ok (envAt w.params f (nn 0))) (fun nn tt _ _ => [(nn 0,fr tt)]) e (fun _ h => h) hA trivial (Rp.nil D.top) ?_
  intro nn tt om xi h' tk' D'
  exact ⟨nolimit w D'.top,h (nn 0) tt h' tk' (D.more D')⟩
theorem Rp.start {K : Frag} {h : Heap} (l : List (Nat × Addr × Obj)) (hK : K.In h) (hn : ∀ q ∈ l,h.get? q.2.1 = some q.2.2) (hd : (adrs l).Nodup) (ho : ∀ q ∈ l,K.lookup q.2.1 = none) (hl : ∀ q ∈ l,219 ≤ q.2.1) : Rp K h (adrs l) h (l.map (·.2)) := by
  have hm : ∀ p ∈ l.map (·.2),∃ q ∈ l,q.2 = p := fun p hp => List.mem_map.mp hp
  refine ⟨hK,?_,?_,?_,?_,?_,fun _ _ e _ => e⟩
  · intro p hp; obtain ⟨q,hq,rfl⟩ := hm p hp; exact hn q hq
  · rw [List.map_map]; exact hd
  · intro p hp; obtain ⟨q,hq,rfl⟩ := hm p hp; exact ho q hq
  · intro p hp; obtain ⟨q,hq,rfl⟩ := hm p hp; exact .inl (List.mem_map_of_mem (f := fun x : Nat × Addr × Obj => x.2.1) hq)
  · intro p hp; obtain ⟨q,hq,rfl⟩ := hm p hp; exact hl q hq
theorem Eff.ofRp {K : Frag} {g h' : Heap} {l : List (Nat × Addr × Obj)} {os : List Obj} {nw led' : Led} (D : Rp K g (adrs l) h' led') (hl : os.length = l.length) (hup : ∀ p ∈ (adrs l).zip os,p ∈ led') (hnw : ∀ p ∈ nw,p ∈ led' ∧ p.1 ∉ adrs l) (nd : (nw.map (·.1)).Nodup) : Eff g h' ((adrs l).zip os) nw := by
  refine ⟨fun p hp => D.has p (hup p hp),fun p hp => ⟨D.has p (hnw p hp).1,(D.mine p (hnw p hp).1).elim (fun z => absurd z (hnw p hp).2) id,D.low p (hnw p hp).1⟩,nd,fun b o e q => D.keep b o e fun z => q ?_⟩
  rw [List.map_fst_zip (by rw [hl]; simp [adrs])]; exact z
theorem Eff.ofApp {K : Frag} {g h' : Heap} {l : List (Nat × Addr × Obj)} {os : List Obj} {nw : Led} (D : Rp K g (adrs l) h' ((adrs l).zip os ++ nw)) (hl : os.length = l.length) : Eff g h' ((adrs l).zip os) nw := by
  have hz : ((adrs l).zip os).map (·.1) = adrs l := List.map_fst_zip (by rw [hl]; simp [adrs])
  have nd := D.nod
  rw [List.map_append,List.nodup_append] at nd
  refine Eff.ofRp D hl (fun p hp => List.mem_append.mpr (.inl hp)) (fun p hp => ⟨List.mem_append.mpr (.inr hp),fun z => ?_⟩) nd.2.1
  exact nd.2.2 p.1 (by rw [hz]; exact z) p.1 (List.mem_map_of_mem hp) rfl
theorem limit_ok {d : Nat} (h : d ≤ 900) : d < recursionLimit := by
  show d < 1000
  omega
noncomputable def sel (led : Led) : List Nat → Led
  | [] => []
  | j :: js => match led[j]? with
    | some p => p :: sel led js
    | none => sel led js
theorem sel_mem (led : Led) : ∀ js p,p ∈ sel led js → ∃ j ∈ js,led[j]? = some p
  | [],_,h => (nomatch h)
  | j :: js,p,h => by
    unfold sel at h
    split at h
    · rename_i q e
      rcases List.mem_cons.mp h with rfl | h
      · exact ⟨j,.head _,e⟩
      · obtain ⟨i,hi,e'⟩ := sel_mem led js p h
        exact ⟨i,.tail _ hi,e'⟩
    · obtain ⟨i,hi,e'⟩ := sel_mem led js p h
      exact ⟨i,.tail _ hi,e'⟩
theorem sel_nodup (led : Led) (nd : (led.map (·.1)).Nodup) : ∀ js,js.Nodup → ((sel led js).map (·.1)).Nodup
  | [],_ => List.nodup_nil
  | j :: js,h => by
    have hj := List.nodup_cons.mp h
    unfold sel
    split
    · rename_i q e
      refine List.nodup_cons.mpr ⟨fun hm => ?_,sel_nodup led nd js hj.2⟩
      obtain ⟨p,hp,hpe⟩ := List.mem_map.mp hm
      obtain ⟨i,hi,e'⟩ := sel_mem led js p hp
      have hlj := (List.getElem?_eq_some_iff.mp e).1
      have hli := (List.getElem?_eq_some_iff.mp e').1
      have z : (led.map (·.1))[i]'(by simpa using hli) = (led.map (·.1))[j]'(by simpa using hlj) := by
        rw [List.getElem_map,List.getElem_map,(List.getElem?_eq_some_iff.mp e').2,(List.getElem?_eq_some_iff.mp e).2]; exact hpe
      have := (List.getElem_inj nd).mp z
      exact hj.1 (this ▸ hi)
    · exact sel_nodup led nd js hj.2
theorem Rp.sel {K : Frag} {g h : Heap} {A0 : List Addr} {led : Led} (D : Rp K g A0 h led) (js : List Nat) (hj : js.Nodup) : Rp K g A0 h (sel led js) := by
  have hs : ∀ p ∈ Mine.sel led js,p ∈ led := fun p hp => by
    obtain ⟨j,_,e⟩ := sel_mem led js p hp
    exact List.mem_of_getElem? e
  exact ⟨D.top,fun p hp => D.has p (hs p hp),sel_nodup led D.nod js hj,fun p hp => D.off p (hs p hp),fun p hp => D.mine p (hs p hp),fun p hp => D.low p (hs p hp),D.keep⟩
theorem Rp.self {K : Frag} {g h : Heap} {A0 : List Addr} {led rest : Led} (D : Rp K g A0 h (led ++ rest)) : Rp K h (led.map (·.1)) h led := by
  have nd := D.nod
  rw [List.map_append,List.nodup_append] at nd
  exact ⟨D.top,fun p hp => D.has p (List.mem_append.mpr (.inl hp)),nd.1,fun p hp => D.off p (List.mem_append.mpr (.inl hp)),fun p hp => .inl (List.mem_map_of_mem hp),fun p hp => D.low p (List.mem_append.mpr (.inl hp)),fun _ _ e _ => e⟩
theorem Rp.glue {K : Frag} {g h h' : Heap} {A0 : List Addr} {led led' rest : Led} (D : Rp K g A0 h (led ++ rest)) (F : Rp K h (led.map (·.1)) h' led') : Rp K g A0 h' (led' ++ rest) := by
  have nd := D.nod
  rw [List.map_append,List.nodup_append] at nd
  have hr : ∀ p ∈ rest,p.1 ∉ led.map (·.1) := fun p hp z => nd.2.2 p.1 z p.1 (List.mem_map_of_mem hp) rfl
  have hrh : ∀ p ∈ rest,h.get? p.1 = some p.2 := fun p hp => D.has p (List.mem_append.mpr (.inr hp))
  refine ⟨F.top,?_,?_,?_,?_,?_,fun b o e q => F.keep b o (D.keep b o e q) fun z => ?_⟩
  · intro p hp
    rcases List.mem_append.mp hp with hp | hp
    · exact F.has p hp
    · exact F.keep _ _ (hrh p hp) (hr p hp)
  · rw [List.map_append,List.nodup_append]
    refine ⟨F.nod,nd.2.1,?_⟩
    intro a ha b hb e
    obtain ⟨p,hp,rfl⟩ := List.mem_map.mp ha
    obtain ⟨q,hq,rfl⟩ := List.mem_map.mp hb
    have e' : p.1 = q.1 := e
    rcases F.mine p hp with z | z
    · exact hr q hq (e' ▸ z)
    · rw [e',hrh q hq] at z; cases z
  · intro p hp
    rcases List.mem_append.mp hp with hp | hp
    · exact F.off p hp
    · exact D.off p (List.mem_append.mpr (.inr hp))
  · intro p hp
    rcases List.mem_append.mp hp with hp | hp
    · rcases F.mine p hp with z | z
      · obtain ⟨q,hq,e⟩ := List.mem_map.mp z
        exact e ▸ D.mine q (List.mem_append.mpr (.inl hq))
      · by_cases q : p.1 ∈ A0
        · exact .inl q
        · refine .inr ?_
          cases y : g.get? p.1 with
          | none => rfl
          | some o => exact absurd ((D.keep _ _ y q).symm.trans z) (by intro z; cases z)
    · exact D.mine p (List.mem_append.mpr (.inr hp))
  · intro p hp
    rcases List.mem_append.mp hp with hp | hp
    · exact F.low p hp
    · exact D.low p (List.mem_append.mpr (.inr hp))
  · obtain ⟨q',hq,e'⟩ := List.mem_map.mp z
    rcases D.mine q' (List.mem_append.mpr (.inl hq)) with y | y
    · exact q (e' ▸ y)
    · rw [e',e] at y; cases y
theorem fragP {w : World} {C : Around → Prop} {g : Heap} {A0 : List Addr} {α : Type} {t : Sem α} {A : Around} {Q : α → Shared → Prop} {E : Value → Shared → Prop} {s : Shared} {led0 : Led}
    (js0 : List Nat) (rest : Led) {n : Nat} {ora : List Nat} {led : Led} {ins : ITree} {js : List Nat} {x : (Nat → Nat) → (Nat → Nat) → (Nat → Nat → Nat) → (Nat → Nat → Slots) → Except Value α} {led' : (Nat → Nat) → (Nat → Nat) → (Nat → Nat → Nat) → (Nat → Nat → Slots) → Led}
    (D : Rp (MyK w.params) g A0 s.heap led0)
    (e : ∀ nn tt om xi ps,Ends (go w n t ora led ins nn tt om xi ps) js (x nn tt om xi) (led' nn tt om xi))
    (hh : ∀ A,C A → A.handled = none) (hC : C A) (hI : okT theP w (MyK w.params) C ins)
    (h : ∀ nn tt om xi h' tk',Rp (MyK w.params) g A0 h' (led' nn tt om xi ++ rest) → match x nn tt om xi with | .ok a => Q a { s with heap := h',toks := tk' } | .error e => E e { s with heap := h',toks := tk' })
    (hs : sel led0 js0 = led ++ rest := by rfl) (hj : js0.Nodup := by decide) :
    wpAny (MM w) A t Q E s := by
  have D0 := D.sel js0 hj
  rw [hs] at D0
  exact frag n ora led ins js x led' e hh hC hI D0.self fun nn tt om xi h' tk' D' => h nn tt om xi h' tk' (D0.glue D')
noncomputable abbrev C0 : Around → Prop := fun A => A.handled = none
theorem C0.hh : ∀ A,C0 A → A.handled = none := fun _ h => h
theorem nilIns {w : World} {C : Around → Prop} : allOk theP w (MyK w.params) C [] := fun _ h => nomatch h
theorem noIns {w : World} {C : Around → Prop} : okT theP w (MyK w.params) C .nil := trivial
theorem oneIns {w : World} {C : Around → Prop} {I : Inst} {l : List Inst} (h : IOk theP w (MyK w.params) C I) (hl : allOk theP w (MyK w.params) C l) (hn : ∀ ω ξ,(I.upd ω ξ).length = I.need.length := by intros; rfl) : allOk theP w (MyK w.params) C (I :: l) := fun J hJ => by
  rcases List.mem_cons.mp hJ with rfl | z
  · exact ⟨h,hn⟩
  · exact hl J z
theorem segI {w : World} {C : Around → Prop} {I : Inst} {n : Nat} {ora : List Nat} {ins : ITree} {js : List Nat} {x : (Nat → Nat) → (Nat → Nat) → (Nat → Nat → Nat) → (Nat → Nat → Slots) → Except Value Result} {led' : (Nat → Nat) → (Nat → Nat) → (Nat → Nat → Nat) → (Nat → Nat → Slots) → Led}
    (e : ∀ nn tt om xi ps,Ends (go w n (Sem.call I.code none false [] Sem.pure) ora (I.need.map (·.2)) ins nn tt om xi ps) js (x nn tt om xi) (led' nn tt om xi))
    (hh : ∀ A,C A → A.handled = none) (hI : okT theP w (MyK w.params) C ins)
    (hx : ∀ nn tt om xi,∃ ω ξ,x nn tt om xi = .ok (I.res ω ξ) ∧ led' nn tt om xi = (adrs I.need).zip (I.upd ω ξ) ++ I.new ω ξ ∧ (I.upd ω ξ).length = I.need.length) : IOk theP w (MyK w.params) C I := by
  intro A s R hA hK hn hd ho hl hR
  refine frag n ora _ ins js x led' e hh hA hI (Rp.start _ hK hn hd ho hl) fun nn tt om xi h' tk' D' => ?_
  obtain ⟨ω,ξ,h1,h2,h3⟩ := hx nn tt om xi
  rw [h2] at D'
  rw [h1]
  exact hR ω ξ h' tk' h3 (Eff.ofApp D' h3)
theorem pureI {w : World} {C : Around → Prop} {code : Code} {n : Nat} {ora : List Nat} (res : (Nat → Nat) → Result)
    (e : ∀ nn tt om xi ps,Ends (go w n (Sem.call code none false [] Sem.pure) ora [] .nil nn tt om xi ps) [] (.ok (res tt)) [])
    (hh : ∀ A,C A → A.handled = none) : IOk theP w (MyK w.params) C ⟨code,[],fun ω _ => res ω,fun _ _ => [],fun _ _ => []⟩ :=
  segI (I := ⟨code,[],fun ω _ => res ω,fun _ _ => [],fun _ _ => []⟩) e hh noIns fun nn tt om xi => ⟨tt,fun _ => #[],rfl,rfl,rfl⟩
noncomputable abbrev bI (op : String) (args : List Value) (r : (Nat → Nat) → Result) : Inst := ⟨.call (.builtin op) ⟨args,[]⟩,[],fun ω _ => r ω,fun _ _ => [],fun _ _ => []⟩
noncomputable abbrev boolR (b : Bool) : (Nat → Nat) → Result := fun _ => .ok (.ret (.bool b))
noncomputable abbrev intR (a : Int) : (Nat → Nat) → Result := fun ω => .ok (.ret (.int a (ω 0)))
noncomputable abbrev strR (a : Str) : (Nat → Nat) → Result := fun ω => .ok (.ret (.str a (ω 0)))
structure FnPre (w : World) (f : Nat) (args : List Value) (fr : (Nat → Nat) → Obj) : Prop where
  ok : fnOk w.params f
  run : ∃ n ora binds,bindArgs (fdOf w.params f) ⟨args,[]⟩ = pure binds ∧ ∀ nn tt om xi ps,Ends (go w n (nfe w.params f binds) ora [] .nil nn tt om xi ps) [0] (.ok (envAt w.params f (nn 0))) [(nn 0,fr tt)]
theorem fnI {w : World} {C C' : Around → Prop} {I : Inst} {f : Nat} {args : List Value} {fr : (Nat → Nat) → Obj} (P : FnPre w f args fr) (hc : I.code = .call (.ref f) ⟨args,[]⟩)
    (hh : ∀ A,C A → A.handled = none) (hroom : ∀ A,C A → A.depth < recursionLimit) (hh' : ∀ A,C' A → A.handled = none)
    (hC : ∀ A L,C A → C' ((A.mark none).deeper (envAt w.params f L)))
    (body : ∀ L T,∃ (n : Nat) (ora : List Nat) (ins : ITree) (js : List Nat) (v : (Nat → Nat) → (Nat → Nat) → (Nat → Nat → Nat) → (Nat → Nat → Slots) → Flow) (led' : (Nat → Nat) → (Nat → Nat) → (Nat → Nat → Nat) → (Nat → Nat → Slots) → Led),
      (∀ nn tt om xi ps,Ends (go w n (execs (bodyOf w.params f) (envAt w.params f L)) ora (I.need.map (·.2) ++ [(L,fr T)]) ins nn tt om xi ps) js (.ok (v nn tt om xi)) (led' nn tt om xi)) ∧
      okT theP w (MyK w.params) C' ins ∧ ∀ nn tt om xi,∃ ω ξ,.ok (.ret (match v nn tt om xi with | .ret x => x | _ => .none)) = I.res ω ξ ∧ led' nn tt om xi = (adrs I.need).zip (I.upd ω ξ) ++ I.new ω ξ ∧ (I.upd ω ξ).length = I.need.length) :
    IOk theP w (MyK w.params) C I := by
  intro A s R hA hK hn hd ho hl hR
  have D := Rp.start _ hK hn hd ho hl
  rw [hc]
  refine x_call ?_ (by intro z; cases z)
  obtain ⟨n0,ora0,binds,hb,he⟩ := P.run
  refine enterFn f n0 ora0 args binds fr P.ok hb (hh A hA) (hroom A hA) D he ?_
  intro L tt h1 k1 D1
  obtain ⟨n,ora,ins,js,v,led',e,hI,hx⟩ := body L tt
  refine ks_codeAny_funcAt (wpAt_of_wpAny ?_)
  refine frag n ora _ ins js _ led' e hh' (hC A L hA) hI D1 fun nn tt om xi h' tk' D' => ?_
  obtain ⟨ω,ξ,h1,h2,h3⟩ := hx nn tt om xi
  rw [h2] at D'
  have z := hR ω ξ h' tk' h3 (Eff.ofApp D' h3)
  rw [← h1] at z
  exact wpAny_pure z
noncomputable abbrev wf (w : World) (b c : Bool) : World := (w.withFollow "comprehension-iter-twice" c).withFollow "special-get-raises" b
theorem byWf {P : World → Prop} (h : ∀ w b c,P (wf w b c)) (w : World) : P w := by
  have := h w (w.params.followText "special-get-raises") (w.params.followText "comprehension-iter-twice")
  unfold wf at this
  rwa [World.withFollow_self,World.withFollow_self] at this
theorem e75 (w:World) (x:Nat) (nn tt om xi ps):Ends (go w 40 (nfe w.params 75 [("self",.ref x)]) [1,1] ([]) .nil nn tt om xi ps) ([0]) (.ok (envAt w.params 75 (nn 0))) ([(nn 0,frO [en (hs w.params "self") "self" (tt 0) (.ref x)] 1 #[])]) := by trivial
theorem e112 (w:World) (x:Nat) (nn tt om xi ps):Ends (go w 40 (nfe w.params 112 [("self",.ref x)]) [1,1] ([]) .nil nn tt om xi ps) ([0]) (.ok (envAt w.params 112 (nn 0))) ([(nn 0,frO [en (hs w.params "self") "self" (tt 0) (.ref x)] 1 #[])]) := by trivial
theorem e59 (w:World) (x t1 t2:Nat) (a b:Str) (nn tt om xi ps):Ends (go w 60 (nfe w.params 59 [("self",.ref x),("fws",.str a t1),("string",.str b t2)]) [1,1,1,1,1,1] ([]) .nil nn tt om xi ps) ([0]) (.ok (envAt w.params 59 (nn 0))) ([(nn 0,frO [en (hs w.params "self") "self" (tt 0) (.ref x),en (hs w.params "fws") "fws" (tt 0+1) (.str a t1),en (hs w.params "string") "string" (tt 0+2) (.str b t2)] 3 #[])]) := by trivial
theorem e52 (w:World) (x:Nat) (nn tt om xi ps):Ends (go w 60 (nfe w.params 52 [("self",.ref x),("initial_size",.int 0 236)]) [1,1,1,1] ([]) .nil nn tt om xi ps) ([0]) (.ok (envAt w.params 52 (nn 0))) ([(nn 0,frO [en (hs w.params "self") "self" (tt 0) (.ref x),en (hs w.params "initial_size") "initial_size" (tt 0+1) (.int 0 236)] 2 #[])]) := by trivial
theorem supc (w:World) (x dx n t5:Nat) (its:Array Value) (hh:Int) (nn tt om xi ps):Ends (go w 80 (call (.type "super") [.ref 115,.ref x]) [0,0,0,3,3,0,3,0,1,1,0,3,3,3,3,3,3] ([(x,accO dx its n),(dx,dicO hh t5)]) .nil nn tt om xi ps) ([0,1,2]) (.ok (.ref (nn 0))) ([(x,accO dx its n),(dx,dicO hh t5),(nn 0,⟨.type "super",none,.fields #[.ref 115,.ref x,.ref 115],#[]⟩)]) := by trivial
theorem clen (w:World) (x dx n t5 q:Nat) (pos:Pos) (its:Array Value) (hh:Int) (nn tt om xi ps):Ends (go w 60 (callWith pos (.ref q) [] [] []) [3,0,3,1] ([(x,accO dx its n),(dx,dicO hh t5),(q,⟨.type "method-wrapper",none,.fields #[.builtin "list.__len__",.ref x],#[]⟩)]) .nil nn tt om xi ps) ([0,1]) (.ok (.int its.size (tt 0))) ([(x,accO dx its n),(dx,dicO hh t5)]) := by trivial
theorem supn75 (w:World) (x L:Nat) (H:NI) (T:NN) (sl:Slots) (nn tt om xi ps):Ends (go w 60 (loadName (envAt w.params 75 L) "super") [0,0] ([(L,frO [en (H 0) "self" (T 0) (.ref x)] 1 sl)]) .nil nn tt om xi ps) ([0]) (.ok (.type "super")) ([(L,frO [en (H 0) "self" (T 0) (.ref x)] 1 sl)]) := by trivial
theorem cls75 (w:World) (x L:Nat) (H:NI) (T:NN) (sl:Slots) (nn tt om xi ps):Ends (go w 60 (loadName (envAt w.params 75 L) "__class__") [0] ([(L,frO [en (H 0) "self" (T 0) (.ref x)] 1 sl)]) .nil nn tt om xi ps) ([0]) (.ok (.ref 115)) ([(L,frO [en (H 0) "self" (T 0) (.ref x)] 1 sl)]) := by trivial
theorem slf75 (w:World) (x L:Nat) (H:NI) (T:NN) (sl:Slots) (nn tt om xi ps):Ends (go w 60 (loadName (envAt w.params 75 L) "self") [1] ([(L,frO [en (H 0) "self" (T 0) (.ref x)] 1 sl)]) .nil nn tt om xi ps) ([0]) (.ok (.ref x)) ([(L,frO [en (H 0) "self" (T 0) (.ref x)] 1 sl)]) := by trivial
theorem supn112 (w:World) (x L:Nat) (H:NI) (T:NN) (sl:Slots) (nn tt om xi ps):Ends (go w 60 (loadName (envAt w.params 112 L) "super") [0,0] ([(L,frO [en (H 0) "self" (T 0) (.ref x)] 1 sl)]) .nil nn tt om xi ps) ([0]) (.ok (.type "super")) ([(L,frO [en (H 0) "self" (T 0) (.ref x)] 1 sl)]) := by trivial
theorem cls112 (w:World) (x L:Nat) (H:NI) (T:NN) (sl:Slots) (nn tt om xi ps):Ends (go w 60 (loadName (envAt w.params 112 L) "__class__") [0] ([(L,frO [en (H 0) "self" (T 0) (.ref x)] 1 sl)]) .nil nn tt om xi ps) ([0]) (.ok (.ref 115)) ([(L,frO [en (H 0) "self" (T 0) (.ref x)] 1 sl)]) := by trivial
theorem slf112 (w:World) (x L:Nat) (H:NI) (T:NN) (sl:Slots) (nn tt om xi ps):Ends (go w 60 (loadName (envAt w.params 112 L) "self") [1] ([(L,frO [en (H 0) "self" (T 0) (.ref x)] 1 sl)]) .nil nn tt om xi ps) ([0]) (.ok (.ref x)) ([(L,frO [en (H 0) "self" (T 0) (.ref x)] 1 sl)]) := by trivial
theorem isty (w:World) (nn tt om xi ps):Ends (go w 20 (isType (.ref 115)) [0] ([]) .nil nn tt om xi ps) ([]) (.ok true) ([]) := by trivial
theorem gpop (w:World) (y dx n t5 so:Nat) (its:Array Value) (hh:Int) (pl:Sem Bool) (nn tt om xi ps):Ends (go w 60 (getMethod (.ref so) "pop" pl) [3,3,0,3,3,3,3,0,0,0,1,0] ([(y+219,accO dx its n),(dx,dicO hh t5),(so,⟨.type "super",none,.fields #[.ref 115,.ref (y+219),.ref 115],#[]⟩)]) .nil nn tt om xi ps) ([0,1,3]) (.ok (.ref (nn 0),[])) ([(y+219,accO dx its n),(dx,dicO hh t5),(nn 0,⟨.type "builtin_function_or_method",none,.fields #[.builtin "list.pop",.ref (y+219)],#[]⟩)]) := by trivial
theorem glen (w:World) (y dx n t5 so:Nat) (its:Array Value) (hh:Int) (pl:Sem Bool) (nn tt om xi ps):Ends (go w 60 (getMethod (.ref so) "__len__" pl) [3,3,0,3,3,3,3,0,0,0,1,0] ([(y+219,accO dx its n),(dx,dicO hh t5),(so,⟨.type "super",none,.fields #[.ref 115,.ref (y+219),.ref 115],#[]⟩)]) .nil nn tt om xi ps) ([0,1,3]) (.ok (.ref (nn 0),[])) ([(y+219,accO dx its n),(dx,dicO hh t5),(nn 0,⟨.type "method-wrapper",none,.fields #[.builtin "list.__len__",.ref (y+219)],#[]⟩)]) := by trivial
theorem cpop1 (w:World) (x dx n t5 q a0:Nat) (pos:Pos) (hh:Int) (nn tt om xi ps):Ends (go w 60 (callWith pos (.ref q) [] [] []) [3,0,3,1,0,1,1,0,0,1,1,1,1] ([(x,accO dx #[.ref a0] n),(dx,dicO hh t5),(q,⟨.type "builtin_function_or_method",none,.fields #[.builtin "list.pop",.ref x],#[]⟩)]) .nil nn tt om xi ps) ([0,1]) (.ok (.ref a0)) ([(x,accO dx #[] (n+1)),(dx,dicO hh t5)]) := by trivial
theorem cpop2 (w:World) (x dx n t5 q a0 a1:Nat) (pos:Pos) (hh:Int) (nn tt om xi ps):Ends (go w 60 (callWith pos (.ref q) [] [] []) [3,0,3,1,0,1,1,0,0,1,1,1,1] ([(x,accO dx #[.ref a0,.ref a1] n),(dx,dicO hh t5),(q,⟨.type "builtin_function_or_method",none,.fields #[.builtin "list.pop",.ref x],#[]⟩)]) .nil nn tt om xi ps) ([0,1]) (.ok (.ref a1)) ([(x,accO dx #[.ref a0] (n+1)),(dx,dicO hh t5)]) := by trivial
theorem cpop3 (w:World) (x dx n t5 q a0 a1 a2:Nat) (pos:Pos) (hh:Int) (nn tt om xi ps):Ends (go w 60 (callWith pos (.ref q) [] [] []) [3,0,3,1,0,1,1,0,0,1,1,1,1] ([(x,accO dx #[.ref a0,.ref a1,.ref a2] n),(dx,dicO hh t5),(q,⟨.type "builtin_function_or_method",none,.fields #[.builtin "list.pop",.ref x],#[]⟩)]) .nil nn tt om xi ps) ([0,1]) (.ok (.ref a2)) ([(x,accO dx #[.ref a0,.ref a1] (n+1)),(dx,dicO hh t5)]) := by trivial
theorem cpop4 (w:World) (x dx n t5 q a0 a1 a2 a3:Nat) (pos:Pos) (hh:Int) (nn tt om xi ps):Ends (go w 60 (callWith pos (.ref q) [] [] []) [3,0,3,1,0,1,1,0,0,1,1,1,1] ([(x,accO dx #[.ref a0,.ref a1,.ref a2,.ref a3] n),(dx,dicO hh t5),(q,⟨.type "builtin_function_or_method",none,.fields #[.builtin "list.pop",.ref x],#[]⟩)]) .nil nn tt om xi ps) ([0,1]) (.ok (.ref a3)) ([(x,accO dx #[.ref a0,.ref a1,.ref a2] (n+1)),(dx,dicO hh t5)]) := by trivial
theorem cpop5 (w:World) (x dx n t5 q a0 a1 a2 a3 a4:Nat) (pos:Pos) (hh:Int) (nn tt om xi ps):Ends (go w 60 (callWith pos (.ref q) [] [] []) [3,0,3,1,0,1,1,0,0,1,1,1,1] ([(x,accO dx #[.ref a0,.ref a1,.ref a2,.ref a3,.ref a4] n),(dx,dicO hh t5),(q,⟨.type "builtin_function_or_method",none,.fields #[.builtin "list.pop",.ref x],#[]⟩)]) .nil nn tt om xi ps) ([0,1]) (.ok (.ref a4)) ([(x,accO dx #[.ref a0,.ref a1,.ref a2,.ref a3] (n+1)),(dx,dicO hh t5)]) := by trivial
theorem cpop6 (w:World) (x dx n t5 q a0 a1 a2 a3 a4 a5:Nat) (pos:Pos) (hh:Int) (nn tt om xi ps):Ends (go w 60 (callWith pos (.ref q) [] [] []) [3,0,3,1,0,1,1,0,0,1,1,1,1] ([(x,accO dx #[.ref a0,.ref a1,.ref a2,.ref a3,.ref a4,.ref a5] n),(dx,dicO hh t5),(q,⟨.type "builtin_function_or_method",none,.fields #[.builtin "list.pop",.ref x],#[]⟩)]) .nil nn tt om xi ps) ([0,1]) (.ok (.ref a5)) ([(x,accO dx #[.ref a0,.ref a1,.ref a2,.ref a3,.ref a4] (n+1)),(dx,dicO hh t5)]) := by trivial
theorem cpop7 (w:World) (x dx n t5 q a0 a1 a2 a3 a4 a5 a6:Nat) (pos:Pos) (hh:Int) (nn tt om xi ps):Ends (go w 60 (callWith pos (.ref q) [] [] []) [3,0,3,1,0,1,1,0,0,1,1,1,1] ([(x,accO dx #[.ref a0,.ref a1,.ref a2,.ref a3,.ref a4,.ref a5,.ref a6] n),(dx,dicO hh t5),(q,⟨.type "builtin_function_or_method",none,.fields #[.builtin "list.pop",.ref x],#[]⟩)]) .nil nn tt om xi ps) ([0,1]) (.ok (.ref a6)) ([(x,accO dx #[.ref a0,.ref a1,.ref a2,.ref a3,.ref a4,.ref a5] (n+1)),(dx,dicO hh t5)]) := by trivial
theorem cpop8 (w:World) (x dx n t5 q a0 a1 a2 a3 a4 a5 a6 a7:Nat) (pos:Pos) (hh:Int) (nn tt om xi ps):Ends (go w 60 (callWith pos (.ref q) [] [] []) [3,0,3,1,0,1,1,0,0,1,1,1,1] ([(x,accO dx #[.ref a0,.ref a1,.ref a2,.ref a3,.ref a4,.ref a5,.ref a6,.ref a7] n),(dx,dicO hh t5),(q,⟨.type "builtin_function_or_method",none,.fields #[.builtin "list.pop",.ref x],#[]⟩)]) .nil nn tt om xi ps) ([0,1]) (.ok (.ref a7)) ([(x,accO dx #[.ref a0,.ref a1,.ref a2,.ref a3,.ref a4,.ref a5,.ref a6] (n+1)),(dx,dicO hh t5)]) := by trivial
theorem cpop9 (w:World) (x dx n t5 q a0 a1 a2 a3 a4 a5 a6 a7 a8:Nat) (pos:Pos) (hh:Int) (nn tt om xi ps):Ends (go w 60 (callWith pos (.ref q) [] [] []) [3,0,3,1,0,1,1,0,0,1,1,1,1] ([(x,accO dx #[.ref a0,.ref a1,.ref a2,.ref a3,.ref a4,.ref a5,.ref a6,.ref a7,.ref a8] n),(dx,dicO hh t5),(q,⟨.type "builtin_function_or_method",none,.fields #[.builtin "list.pop",.ref x],#[]⟩)]) .nil nn tt om xi ps) ([0,1]) (.ok (.ref a8)) ([(x,accO dx #[.ref a0,.ref a1,.ref a2,.ref a3,.ref a4,.ref a5,.ref a6,.ref a7] (n+1)),(dx,dicO hh t5)]) := by trivial
theorem fn112 (P : Params) : fnOk P 112 := ⟨_,_,_,_,_,rfl,rfl,rfl,rfl,rfl,rfl,rfl⟩
theorem body112 (P : Params) : bodyOf P 112 = [.Return (some (.Call (.Attribute (.Call (.Name "super" ⟨78,15,78,20⟩) [] [] ⟨78,15,78,22⟩) "__len__" ⟨78,15,78,30⟩) [] [] ⟨78,15,78,32⟩)) ⟨78,8,78,32⟩] := rfl
noncomputable def cntI (jx jd x dx : Nat) (its : Array Value) (n : Nat) (hh : Int) (t5 : Tok) : Inst := ⟨.call (.ref 112) ⟨[.ref x],[]⟩,[(jx,x,accO dx its n),(jd,dx,dicO hh t5)],fun ω _ => .ok (.ret (.int its.size (ω 0))),fun _ _ => [accO dx its n,dicO hh t5],fun _ _ => []⟩
theorem cnt_ok (w : World) (jx jd x dx : Nat) (its : Array Value) (n : Nat) (hh : Int) (t5 : Tok) : IOk theP w (MyK w.params) (AB 850 8000) (cntI jx jd x dx its n hh t5) := by
  intro A s R hA hK hn hd ho hl hR
  have D := Rp.start _ hK hn hd ho hl
  obtain ⟨y,rfl⟩ : ∃ y,x = y + 219 := ⟨x - 219,by have : 219 ≤ x := hl _ (.head _); omega⟩
  refine x_call ?_ (by intro z; cases z)
  refine enterFn 112 40 [1,1] [.ref (y + 219)] [("self",.ref (y + 219))] (fun tt => frO [en (hs w.params "self") "self" (tt 0) (.ref (y + 219))] 1 #[]) (fn112 _) (by kernel_rfl) hA.1 (limit_ok (Nat.le_trans hA.2.1 (by decide))) D (fun nn tt om xi ps => e112 w (y + 219) nn tt om xi ps) ?_
  intro L tt h1 k1 D1
  have hA' : C0 ((A.mark none).deeper (envAt w.params 112 L)) := hA.1
  refine ks_codeAny_funcAt ?_
  rw [body112]
  refine ks_wpAt_execs_cons (ks_wpAt_Return_some (ks_wpAt_MethodCall ?_))
  refine ks_wpAt_super_base (f := 112) (cc := 111) (by kernel_rfl) (by kernel_rfl) (by kernel_rfl) rfl (D1.top _ _ rfl) rfl rfl rfl (D1.top _ _ rfl) rfl rfl (by kernel_rfl) (by kernel_rfl) ?_
  refine fragP [2,0,1] _ D1 (supn112 w (y + 219) L (fun _ => hs w.params "self") (fun _ => tt 0) #[]) C0.hh hA' noIns ?_
  intro _ _ _ _ h2 k2 D2
  refine ⟨rfl,?_⟩
  refine fragP [0,1,2] _ D2 (cls112 w (y + 219) L (fun _ => hs w.params "self") (fun _ => tt 0) #[]) C0.hh hA' noIns ?_
  intro _ _ _ _ h3 k3 D3
  refine fragP [0,1,2] _ D3 (slf112 w (y + 219) L (fun _ => hs w.params "self") (fun _ => tt 0) #[]) C0.hh hA' noIns ?_
  intro _ _ _ _ h4 k4 D4
  refine fragP [0,1,2] _ D4 (isty w) C0.hh hA' noIns ?_
  intro _ _ _ _ h5 k5 D5
  refine ⟨rfl,?_⟩
  refine fragP [1,2] [] D5 (supc w (y + 219) dx n t5 its hh) C0.hh hA' noIns ?_
  intro nn _ _ _ h6 k6 D6
  refine fragP [0,1,2] [] D6 (glen w y dx n t5 _ its hh _) C0.hh hA' noIns ?_
  intro nn _ _ _ h7 k7 D7
  refine fragP [0,1,2] [] D7 (clen w (y + 219) dx n t5 _ _ its hh) C0.hh hA' noIns ?_
  intro nn tt' _ _ h8 k8 D8
  exact wpAny_pure (hR (fun _ => tt' 0) (fun _ => #[]) h8 k8 rfl (Eff.ofApp (nw := []) D8 rfl))
theorem ieq (w:World) (a b:Int) (t u:Nat) (nn tt om xi ps):Ends (go w 20 (Sem.call (bI "int.__eq__" [.int a t,.int b u] (boolR (a == b))).code none false [] Sem.pure) [0] ([]) .nil nn tt om xi ps) ([]) (.ok ((boolR (a == b)) tt)) ([]) := by trivial
theorem ine (w:World) (a b:Int) (t u:Nat) (nn tt om xi ps):Ends (go w 20 (Sem.call (bI "int.__ne__" [.int a t,.int b u] (boolR (a != b))).code none false [] Sem.pure) [0] ([]) .nil nn tt om xi ps) ([]) (.ok ((boolR (a != b)) tt)) ([]) := by trivial
theorem ilt (w:World) (a b:Int) (t u:Nat) (nn tt om xi ps):Ends (go w 20 (Sem.call (bI "int.__lt__" [.int a t,.int b u] (boolR (decide (a < b)))).code none false [] Sem.pure) [0] ([]) .nil nn tt om xi ps) ([]) (.ok ((boolR (decide (a < b))) tt)) ([]) := by trivial
theorem ile (w:World) (a b:Int) (t u:Nat) (nn tt om xi ps):Ends (go w 20 (Sem.call (bI "int.__le__" [.int a t,.int b u] (boolR (decide (a ≤ b)))).code none false [] Sem.pure) [0] ([]) .nil nn tt om xi ps) ([]) (.ok ((boolR (decide (a ≤ b))) tt)) ([]) := by trivial
theorem igt (w:World) (a b:Int) (t u:Nat) (nn tt om xi ps):Ends (go w 20 (Sem.call (bI "int.__gt__" [.int a t,.int b u] (boolR (decide (a > b)))).code none false [] Sem.pure) [0] ([]) .nil nn tt om xi ps) ([]) (.ok ((boolR (decide (a > b))) tt)) ([]) := by trivial
theorem ige (w:World) (a b:Int) (t u:Nat) (nn tt om xi ps):Ends (go w 20 (Sem.call (bI "int.__ge__" [.int a t,.int b u] (boolR (decide (a ≥ b)))).code none false [] Sem.pure) [0] ([]) .nil nn tt om xi ps) ([]) (.ok ((boolR (decide (a ≥ b))) tt)) ([]) := by trivial
theorem iadd (w:World) (a b:Int) (t u:Nat) (nn tt om xi ps):Ends (go w 20 (Sem.call (bI "int.__add__" [.int a t,.int b u] (intR (a+b))).code none false [] Sem.pure) [0] ([]) .nil nn tt om xi ps) ([]) (.ok ((intR (a+b)) tt)) ([]) := by trivial
theorem isub (w:World) (a b:Int) (t u:Nat) (nn tt om xi ps):Ends (go w 20 (Sem.call (bI "int.__sub__" [.int a t,.int b u] (intR (a - b))).code none false [] Sem.pure) [0] ([]) .nil nn tt om xi ps) ([]) (.ok ((intR (a - b)) tt)) ([]) := by trivial
theorem imod (w:World) (a:Int) (k t u:Nat) (nn tt om xi ps):Ends (go w 20 (Sem.call (bI "int.__mod__" [.int a t,.int (Int.ofNat (k+1)) u] (intR (Int.fmod a (Int.ofNat (k+1))))).code none false [] Sem.pure) [0] ([]) .nil nn tt om xi ps) ([]) (.ok ((intR (Int.fmod a (Int.ofNat (k+1)))) tt)) ([]) := by trivial
theorem idiv1 (w:World) (a:Int) (t u:Nat) (nn tt om xi ps):Ends (go w 20 (Sem.call (bI "int.__floordiv__" [.int a t,.int 1 u] (intR (Int.fdiv a 1))).code none false [] Sem.pure) [0] ([]) .nil nn tt om xi ps) ([]) (.ok ((intR (Int.fdiv a 1)) tt)) ([]) := by trivial
theorem idiv2 (w:World) (a:Int) (t u:Nat) (nn tt om xi ps):Ends (go w 20 (Sem.call (bI "int.__floordiv__" [.int a t,.int 2 u] (intR (Int.fdiv a 2))).code none false [] Sem.pure) [0] ([]) .nil nn tt om xi ps) ([]) (.ok ((intR (Int.fdiv a 2)) tt)) ([]) := by trivial
theorem idiv4 (w:World) (a:Int) (t u:Nat) (nn tt om xi ps):Ends (go w 20 (Sem.call (bI "int.__floordiv__" [.int a t,.int 4 u] (intR (Int.fdiv a 4))).code none false [] Sem.pure) [0] ([]) .nil nn tt om xi ps) ([]) (.ok ((intR (Int.fdiv a 4)) tt)) ([]) := by trivial
theorem idiv8 (w:World) (a:Int) (t u:Nat) (nn tt om xi ps):Ends (go w 20 (Sem.call (bI "int.__floordiv__" [.int a t,.int 8 u] (intR (Int.fdiv a 8))).code none false [] Sem.pure) [0] ([]) .nil nn tt om xi ps) ([]) (.ok ((intR (Int.fdiv a 8)) tt)) ([]) := by trivial
theorem idiv9 (w:World) (a:Int) (t u:Nat) (nn tt om xi ps):Ends (go w 20 (Sem.call (bI "int.__floordiv__" [.int a t,.int 9 u] (intR (Int.fdiv a 9))).code none false [] Sem.pure) [0] ([]) .nil nn tt om xi ps) ([]) (.ok ((intR (Int.fdiv a 9)) tt)) ([]) := by trivial
theorem idiv16 (w:World) (a:Int) (t u:Nat) (nn tt om xi ps):Ends (go w 20 (Sem.call (bI "int.__floordiv__" [.int a t,.int 16 u] (intR (Int.fdiv a 16))).code none false [] Sem.pure) [0] ([]) .nil nn tt om xi ps) ([]) (.ok ((intR (Int.fdiv a 16)) tt)) ([]) := by trivial
theorem idiv32 (w:World) (a:Int) (t u:Nat) (nn tt om xi ps):Ends (go w 20 (Sem.call (bI "int.__floordiv__" [.int a t,.int 32 u] (intR (Int.fdiv a 32))).code none false [] Sem.pure) [0] ([]) .nil nn tt om xi ps) ([]) (.ok ((intR (Int.fdiv a 32)) tt)) ([]) := by trivial
theorem idiv64 (w:World) (a:Int) (t u:Nat) (nn tt om xi ps):Ends (go w 20 (Sem.call (bI "int.__floordiv__" [.int a t,.int 64 u] (intR (Int.fdiv a 64))).code none false [] Sem.pure) [0] ([]) .nil nn tt om xi ps) ([]) (.ok ((intR (Int.fdiv a 64)) tt)) ([]) := by trivial
theorem idiv128 (w:World) (a:Int) (t u:Nat) (nn tt om xi ps):Ends (go w 20 (Sem.call (bI "int.__floordiv__" [.int a t,.int 128 u] (intR (Int.fdiv a 128))).code none false [] Sem.pure) [0] ([]) .nil nn tt om xi ps) ([]) (.ok ((intR (Int.fdiv a 128)) tt)) ([]) := by trivial
theorem idiv256 (w:World) (a:Int) (t u:Nat) (nn tt om xi ps):Ends (go w 20 (Sem.call (bI "int.__floordiv__" [.int a t,.int 256 u] (intR (Int.fdiv a 256))).code none false [] Sem.pure) [0] ([]) .nil nn tt om xi ps) ([]) (.ok ((intR (Int.fdiv a 256)) tt)) ([]) := by trivial
theorem iand (w:World) (a b:Nat) (t u:Nat) (nn tt om xi ps):Ends (go w 20 (Sem.call (bI "int.__and__" [.int (Int.ofNat a) t,.int (Int.ofNat b) u] (intR (Int.ofNat (Nat.land a b)))).code none false [] Sem.pure) [0] ([]) .nil nn tt om xi ps) ([]) (.ok ((intR (Int.ofNat (Nat.land a b))) tt)) ([]) := by trivial
theorem seqs (w:World) (a b:Str) (t u:Nat) (nn tt om xi ps):Ends (go w 20 (Sem.call (bI "str.__eq__" [.str a t,.str b u] (boolR (List.beq a.cps.toList b.cps.toList))).code none false [] Sem.pure) [0] ([]) .nil nn tt om xi ps) ([]) (.ok ((boolR (List.beq a.cps.toList b.cps.toList)) tt)) ([]) := by trivial
theorem snes (w:World) (a b:Str) (t u:Nat) (nn tt om xi ps):Ends (go w 20 (Sem.call (bI "str.__ne__" [.str a t,.str b u] (boolR (!(List.beq a.cps.toList b.cps.toList)))).code none false [] Sem.pure) [0] ([]) .nil nn tt om xi ps) ([]) (.ok ((boolR (!(List.beq a.cps.toList b.cps.toList))) tt)) ([]) := by trivial
theorem sadd0 (w:World) (d t u:Nat) (nn tt om xi ps):Ends (go w 20 (Sem.call (bI "str.__add__" [.str ⟨⟨[]⟩⟩ t,.str ⟨⟨[d]⟩⟩ u] (fun _=>.ok (.ret (.str ⟨⟨[d]⟩⟩ u)))).code none false [] Sem.pure) [0] ([]) .nil nn tt om xi ps) ([]) (.ok ((fun _=>.ok (.ret (.str ⟨⟨[d]⟩⟩ u))) tt)) ([]) := by trivial
theorem sadd1 (w:World) (c0 d t u:Nat) (nn tt om xi ps):Ends (go w 20 (Sem.call (bI "str.__add__" [.str ⟨⟨[c0]⟩⟩ t,.str ⟨⟨[d]⟩⟩ u] (strR ⟨⟨[c0,d]⟩⟩)).code none false [] Sem.pure) [0] ([]) .nil nn tt om xi ps) ([]) (.ok ((strR ⟨⟨[c0,d]⟩⟩) tt)) ([]) := by trivial
theorem sadd2 (w:World) (c0 c1 d t u:Nat) (nn tt om xi ps):Ends (go w 20 (Sem.call (bI "str.__add__" [.str ⟨⟨[c0,c1]⟩⟩ t,.str ⟨⟨[d]⟩⟩ u] (strR ⟨⟨[c0,c1,d]⟩⟩)).code none false [] Sem.pure) [0] ([]) .nil nn tt om xi ps) ([]) (.ok ((strR ⟨⟨[c0,c1,d]⟩⟩) tt)) ([]) := by trivial
theorem sadd3 (w:World) (c0 c1 c2 d t u:Nat) (nn tt om xi ps):Ends (go w 20 (Sem.call (bI "str.__add__" [.str ⟨⟨[c0,c1,c2]⟩⟩ t,.str ⟨⟨[d]⟩⟩ u] (strR ⟨⟨[c0,c1,c2,d]⟩⟩)).code none false [] Sem.pure) [0] ([]) .nil nn tt om xi ps) ([]) (.ok ((strR ⟨⟨[c0,c1,c2,d]⟩⟩) tt)) ([]) := by trivial
theorem sadd4 (w:World) (c0 c1 c2 c3 d t u:Nat) (nn tt om xi ps):Ends (go w 20 (Sem.call (bI "str.__add__" [.str ⟨⟨[c0,c1,c2,c3]⟩⟩ t,.str ⟨⟨[d]⟩⟩ u] (strR ⟨⟨[c0,c1,c2,c3,d]⟩⟩)).code none false [] Sem.pure) [0] ([]) .nil nn tt om xi ps) ([]) (.ok ((strR ⟨⟨[c0,c1,c2,c3,d]⟩⟩) tt)) ([]) := by trivial
theorem sadd5 (w:World) (c0 c1 c2 c3 c4 d t u:Nat) (nn tt om xi ps):Ends (go w 20 (Sem.call (bI "str.__add__" [.str ⟨⟨[c0,c1,c2,c3,c4]⟩⟩ t,.str ⟨⟨[d]⟩⟩ u] (strR ⟨⟨[c0,c1,c2,c3,c4,d]⟩⟩)).code none false [] Sem.pure) [0] ([]) .nil nn tt om xi ps) ([]) (.ok ((strR ⟨⟨[c0,c1,c2,c3,c4,d]⟩⟩) tt)) ([]) := by trivial
theorem sadd6 (w:World) (c0 c1 c2 c3 c4 c5 d t u:Nat) (nn tt om xi ps):Ends (go w 20 (Sem.call (bI "str.__add__" [.str ⟨⟨[c0,c1,c2,c3,c4,c5]⟩⟩ t,.str ⟨⟨[d]⟩⟩ u] (strR ⟨⟨[c0,c1,c2,c3,c4,c5,d]⟩⟩)).code none false [] Sem.pure) [0] ([]) .nil nn tt om xi ps) ([]) (.ok ((strR ⟨⟨[c0,c1,c2,c3,c4,c5,d]⟩⟩) tt)) ([]) := by trivial
theorem sadd7 (w:World) (c0 c1 c2 c3 c4 c5 c6 d t u:Nat) (nn tt om xi ps):Ends (go w 20 (Sem.call (bI "str.__add__" [.str ⟨⟨[c0,c1,c2,c3,c4,c5,c6]⟩⟩ t,.str ⟨⟨[d]⟩⟩ u] (strR ⟨⟨[c0,c1,c2,c3,c4,c5,c6,d]⟩⟩)).code none false [] Sem.pure) [0] ([]) .nil nn tt om xi ps) ([]) (.ok ((strR ⟨⟨[c0,c1,c2,c3,c4,c5,c6,d]⟩⟩) tt)) ([]) := by trivial
theorem sadd8 (w:World) (c0 c1 c2 c3 c4 c5 c6 c7 d t u:Nat) (nn tt om xi ps):Ends (go w 20 (Sem.call (bI "str.__add__" [.str ⟨⟨[c0,c1,c2,c3,c4,c5,c6,c7]⟩⟩ t,.str ⟨⟨[d]⟩⟩ u] (strR ⟨⟨[c0,c1,c2,c3,c4,c5,c6,c7,d]⟩⟩)).code none false [] Sem.pure) [0] ([]) .nil nn tt om xi ps) ([]) (.ok ((strR ⟨⟨[c0,c1,c2,c3,c4,c5,c6,c7,d]⟩⟩) tt)) ([]) := by trivial
section
variable {w : World} {C : Around → Prop} (hh : ∀ A,C A → A.handled = none)
include hh
theorem ieq_ok {a b : Int} {t u : Nat} {r : Bool} (h : (a == b) = r) : IOk theP w (MyK w.params) C (bI "int.__eq__" [.int a t,.int b u] (boolR r)) := h ▸ pureI _ (ieq w a b t u) hh
theorem ine_ok {a b : Int} {t u : Nat} {r : Bool} (h : (a != b) = r) : IOk theP w (MyK w.params) C (bI "int.__ne__" [.int a t,.int b u] (boolR r)) := h ▸ pureI _ (ine w a b t u) hh
theorem ilt_ok {a b : Int} {t u : Nat} {r : Bool} (h : decide (a < b) = r) : IOk theP w (MyK w.params) C (bI "int.__lt__" [.int a t,.int b u] (boolR r)) := h ▸ pureI _ (ilt w a b t u) hh
theorem ile_ok {a b : Int} {t u : Nat} {r : Bool} (h : decide (a ≤ b) = r) : IOk theP w (MyK w.params) C (bI "int.__le__" [.int a t,.int b u] (boolR r)) := h ▸ pureI _ (ile w a b t u) hh
theorem igt_ok {a b : Int} {t u : Nat} {r : Bool} (h : decide (a > b) = r) : IOk theP w (MyK w.params) C (bI "int.__gt__" [.int a t,.int b u] (boolR r)) := h ▸ pureI _ (igt w a b t u) hh
theorem ige_ok {a b : Int} {t u : Nat} {r : Bool} (h : decide (a ≥ b) = r) : IOk theP w (MyK w.params) C (bI "int.__ge__" [.int a t,.int b u] (boolR r)) := h ▸ pureI _ (ige w a b t u) hh
theorem iadd_ok {a b c : Int} {t u : Nat} (h : a + b = c) : IOk theP w (MyK w.params) C (bI "int.__add__" [.int a t,.int b u] (intR c)) := h ▸ pureI _ (iadd w a b t u) hh
theorem isub_ok {a b c : Int} {t u : Nat} (h : a - b = c) : IOk theP w (MyK w.params) C (bI "int.__sub__" [.int a t,.int b u] (intR c)) := h ▸ pureI _ (isub w a b t u) hh
theorem imod_ok {a c : Int} {k t u : Nat} (h : Int.fmod a (Int.ofNat (k + 1)) = c) : IOk theP w (MyK w.params) C (bI "int.__mod__" [.int a t,.int (Int.ofNat (k + 1)) u] (intR c)) := h ▸ pureI _ (imod w a k t u) hh
theorem seq_ok {a b : Str} {t u : Nat} {r : Bool} (h : (List.beq a.cps.toList b.cps.toList) = r) : IOk theP w (MyK w.params) C (bI "str.__eq__" [.str a t,.str b u] (boolR r)) := h ▸ pureI _ (seqs w a b t u) hh
theorem sne_ok {a b : Str} {t u : Nat} {r : Bool} (h : (!(List.beq a.cps.toList b.cps.toList)) = r) : IOk theP w (MyK w.params) C (bI "str.__ne__" [.str a t,.str b u] (boolR r)) := h ▸ pureI _ (snes w a b t u) hh
theorem sadd_ok {l : List Nat} {d t u : Nat} (h : l.length ≤ 8) : IOk theP w (MyK w.params) C (bI "str.__add__" [.str ⟨⟨l⟩⟩ t,.str ⟨⟨[d]⟩⟩ u] (strR ⟨⟨l ++ [d]⟩⟩)) := by
  rcases l with _ | ⟨c0,_ | ⟨c1,_ | ⟨c2,_ | ⟨c3,_ | ⟨c4,_ | ⟨c5,_ | ⟨c6,_ | ⟨c7,_ | ⟨c8,l⟩⟩⟩⟩⟩⟩⟩⟩⟩
  · exact segI (I := bI "str.__add__" [.str ⟨⟨[]⟩⟩ t,.str ⟨⟨[d]⟩⟩ u] (strR ⟨⟨[d]⟩⟩)) (sadd0 w d t u) hh noIns fun _ _ _ _ => ⟨fun _ => u,fun _ => #[],rfl,rfl,rfl⟩
  · exact pureI _ (sadd1 w _ d t u) hh
  · exact pureI _ (sadd2 w _ _ d t u) hh
  · exact pureI _ (sadd3 w _ _ _ d t u) hh
  · exact pureI _ (sadd4 w _ _ _ _ d t u) hh
  · exact pureI _ (sadd5 w _ _ _ _ _ d t u) hh
  · exact pureI _ (sadd6 w _ _ _ _ _ _ d t u) hh
  · exact pureI _ (sadd7 w _ _ _ _ _ _ _ d t u) hh
  · exact pureI _ (sadd8 w _ _ _ _ _ _ _ _ d t u) hh
  · simp only [List.length_cons] at h; omega
end
noncomputable def st75 (P : Params) : Stmt := match bodyOf P 75 with | s :: _ => s | _ => .Pass ⟨0,0,0,0⟩
noncomputable def st52 (P : Params) : Stmt := match bodyOf P 52 with | s :: _ => s | _ => .Pass ⟨0,0,0,0⟩
theorem pop0 (w:World) (x dx n L t5:Nat) (its:Array Value) (hh:Int) (H:NI) (T:NN) (sl:Slots) (b c:Bool) (nn tt om xi ps):Ends (go (wf w b c) 200 (exec (st75 (wf w b c).params) (envAt (wf w b c).params 75 L)) [3,1,0,0,0,1,0,0,0,1,0,0,0,0,1,2,0,1,1] ([(x,accO dx its n),(dx,dicO hh t5),(L,frO [en (H 0) "self" (T 0) (.ref x)] 1 sl)]) (IL fun nn tt om xi=>[cntI 0 1 x dx its n hh t5,bI "int.__eq__" [.int its.size (om 0 0),.int 0 (tt 1)] (boolR false)]) nn tt om xi ps) ([0,1,2]) (.ok .next) ([(x,accO dx its n),(dx,dicO hh t5),(L,frO [en (H 0) "self" (T 0) (.ref x)] 1 sl)]) := by cases b <;> trivial
theorem pop1 (w:World) (x dx n L t5:Nat) (its:Array Value) (hh:Int) (H:NI) (T:NN) (sl:Slots) (b c:Bool) (nn tt om xi ps):Ends (go (wf w b c) 200 (exec (st75 (wf w b c).params) (envAt (wf w b c).params 75 L)) [3,1,0,0,0,1,0,0,0,1,0,0,0,0,1,2,0,1,1] ([(x,accO dx its n),(dx,dicO hh t5),(L,frO [en (H 0) "self" (T 0) (.ref x)] 1 sl)]) (IL fun nn tt om xi=>[cntI 0 1 x dx its n hh t5,bI "int.__eq__" [.int its.size (om 0 0),.int 0 (tt 1)] (boolR true)]) nn tt om xi ps) ([0,1,3]) (.ok (.ret (.ref (nn 2)))) ([(x,accO dx its n),(dx,dicO hh t5),(nn 2,tupO [.str "" (tt 2),.str "" (tt 2+1)])]) := by cases b <;> trivial
theorem fn75 (P : Params) : fnOk P 75 := ⟨_,_,_,_,_,rfl,rfl,rfl,rfl,rfl,rfl,rfl⟩
theorem body75 (P : Params) : bodyOf P 75 = [st75 P,.Return (some (.Call (.Attribute (.Call (.Name "super" ⟨63,15,63,20⟩) [] [] ⟨63,15,63,22⟩) "pop" ⟨63,15,63,26⟩) [] [] ⟨63,15,63,28⟩)) ⟨63,8,63,28⟩] := rfl
noncomputable abbrev accR (dx : Addr) (l : List Addr) (n : Nat) : Obj := accO dx ⟨l.map Value.ref⟩ n
noncomputable def popI (jx jd x dx : Nat) (l : List Addr) (a : Addr) (n : Nat) (hh : Int) (t5 : Tok) : Inst := ⟨.call (.ref 75) ⟨[.ref x],[]⟩,[(jx,x,accR dx (l ++ [a]) n),(jd,dx,dicO hh t5)],fun ω _ => .ok (.ret (.ref a)),fun _ _ => [accR dx l (n + 1),dicO hh t5],fun _ _ => []⟩
noncomputable def popE (jx jd x dx : Nat) (n : Nat) (hh : Int) (t5 : Tok) : Inst := ⟨.call (.ref 75) ⟨[.ref x],[]⟩,[(jx,x,accR dx [] n),(jd,dx,dicO hh t5)],fun ω _ => .ok (.ret (.ref (ω 0))),fun _ _ => [accR dx [] n,dicO hh t5],fun ω _ => [(ω 0,tupO [.str "" (ω 1),.str "" (ω 2)])]⟩
theorem cpop (w : World) {A : Around} {g : Heap} {A0 : List Addr} {Q : Value → Shared → Prop} {E : Value → Shared → Prop} {s : Shared} {rest : Led} {x dx n t5 q : Nat} {pos : Pos} {hh : Int} (l : List Addr) (a : Addr) (hl : l.length ≤ 8) (hA : C0 A)
    (D : Rp (MyK w.params) g A0 s.heap ([(x,accR dx (l ++ [a]) n),(dx,dicO hh t5),(q,⟨.type "builtin_function_or_method",none,.fields #[.builtin "list.pop",.ref x],#[]⟩)] ++ rest))
    (h : ∀ h' tk',Rp (MyK w.params) g A0 h' ([(x,accR dx l (n + 1)),(dx,dicO hh t5)] ++ rest) → Q (.ref a) { s with heap := h',toks := tk' }) : wpAny (MM w) A (callWith pos (.ref q) [] [] []) Q E s := by
  have D0 := D.self
  have key : wpAny (MM w) A (callWith pos (.ref q) [] [] []) (fun v s' => v = .ref a ∧ ∃ h' tk',s' = { s with heap := h',toks := tk' } ∧ Rp (MyK w.params) s.heap ([(x,accR dx (l ++ [a]) n),(dx,dicO hh t5),(q,⟨.type "builtin_function_or_method",none,.fields #[.builtin "list.pop",.ref x],#[]⟩)].map (·.1)) h' [(x,accR dx l (n + 1)),(dx,dicO hh t5)]) E s := by
    clear h
    rcases l with _ | ⟨a0,_ | ⟨a1,_ | ⟨a2,_ | ⟨a3,_ | ⟨a4,_ | ⟨a5,_ | ⟨a6,_ | ⟨a7,_ | ⟨a8,l⟩⟩⟩⟩⟩⟩⟩⟩⟩
    · exact frag _ _ _ _ _ _ _ (cpop1 w x dx n t5 q a pos hh) C0.hh hA noIns D0 fun _ _ _ _ h' tk' D' => ⟨rfl,h',tk',rfl,D'⟩
    · exact frag _ _ _ _ _ _ _ (cpop2 w x dx n t5 q _ a pos hh) C0.hh hA noIns D0 fun _ _ _ _ h' tk' D' => ⟨rfl,h',tk',rfl,D'⟩
    · exact frag _ _ _ _ _ _ _ (cpop3 w x dx n t5 q _ _ a pos hh) C0.hh hA noIns D0 fun _ _ _ _ h' tk' D' => ⟨rfl,h',tk',rfl,D'⟩
    · exact frag _ _ _ _ _ _ _ (cpop4 w x dx n t5 q _ _ _ a pos hh) C0.hh hA noIns D0 fun _ _ _ _ h' tk' D' => ⟨rfl,h',tk',rfl,D'⟩
    · exact frag _ _ _ _ _ _ _ (cpop5 w x dx n t5 q _ _ _ _ a pos hh) C0.hh hA noIns D0 fun _ _ _ _ h' tk' D' => ⟨rfl,h',tk',rfl,D'⟩
    · exact frag _ _ _ _ _ _ _ (cpop6 w x dx n t5 q _ _ _ _ _ a pos hh) C0.hh hA noIns D0 fun _ _ _ _ h' tk' D' => ⟨rfl,h',tk',rfl,D'⟩
    · exact frag _ _ _ _ _ _ _ (cpop7 w x dx n t5 q _ _ _ _ _ _ a pos hh) C0.hh hA noIns D0 fun _ _ _ _ h' tk' D' => ⟨rfl,h',tk',rfl,D'⟩
    · exact frag _ _ _ _ _ _ _ (cpop8 w x dx n t5 q _ _ _ _ _ _ _ a pos hh) C0.hh hA noIns D0 fun _ _ _ _ h' tk' D' => ⟨rfl,h',tk',rfl,D'⟩
    · exact frag _ _ _ _ _ _ _ (cpop9 w x dx n t5 q _ _ _ _ _ _ _ _ a pos hh) C0.hh hA noIns D0 fun _ _ _ _ h' tk' D' => ⟨rfl,h',tk',rfl,D'⟩
    · simp only [List.length_cons] at hl; omega
  refine wpAny_mono key (fun v s' z => ?_) (fun _ _ z => z)
  obtain ⟨rfl,h',tk',rfl,D'⟩ := z
  exact h h' tk' (D.glue D')
theorem AB.deep {d u : Nat} {A : Around} {env : Env} (h : AB d u A) : AB (d + 1) (u + 3) ((A.mark none).deeper env) :=
  ⟨h.1,Nat.succ_le_succ h.2.1,Nat.add_le_add_right h.2.2 3⟩
theorem IOk.mono {w : World} {C C' : Around → Prop} {I : Inst} (h : IOk theP w (MyK w.params) C I) (hc : ∀ A,C' A → C A) : IOk theP w (MyK w.params) C' I :=
  fun A s R hA => h A s R (hc A hA)
theorem IOk.ab {w : World} {d u d' u' : Nat} {I : Inst} (h : IOk theP w (MyK w.params) (AB d u) I) (hd : d' ≤ d := by decide) (hu : u' ≤ u := by decide) : IOk theP w (MyK w.params) (AB d' u') I :=
  h.mono fun _ hA => hA.mono hd hu
theorem szne (l : List Addr) (a : Addr) : (((⟨(l ++ [a]).map Value.ref⟩ : Array Value).size : Int) == 0) = false := by
  rw [beq_eq_false_iff_ne]
  simp only [List.size_toArray,List.length_map,List.length_append,List.length_cons,List.length_nil]
  omega
theorem pop_ok (w : World) (b c : Bool) (jx jd x dx : Nat) (l : List Addr) (a : Addr) (hl : l.length ≤ 8) (n : Nat) (hh : Int) (t5 : Tok) : IOk theP (wf w b c) (MyK (wf w b c).params) (AB 840 7000) (popI jx jd x dx l a n hh t5) := by
  intro A s R hA hK hn hd ho hlo hR
  have D := Rp.start _ hK hn hd ho hlo
  obtain ⟨y,rfl⟩ : ∃ y,x = y + 219 := ⟨x - 219,by have : 219 ≤ x := hlo _ (.head _); omega⟩
  refine x_call ?_ (by intro z; cases z)
  refine enterFn 75 40 [1,1] [.ref (y + 219)] [("self",.ref (y + 219))] (fun tt => frO [en (hs (wf w b c).params "self") "self" (tt 0) (.ref (y + 219))] 1 #[]) (fn75 _) (by kernel_rfl) hA.1 (limit_ok (Nat.le_trans hA.2.1 (by decide))) D (fun nn tt om xi ps => e75 (wf w b c) (y + 219) nn tt om xi ps) ?_
  intro L tt h1 k1 D1
  have hA' : C0 ((A.mark none).deeper (envAt (wf w b c).params 75 L)) := hA.1
  refine ks_codeAny_funcAt ?_
  rw [body75]
  refine ks_wpAt_execs_cons (wpAt_of_wpAny ?_)
  refine fragP [0,1,2] [] D1 (pop0 w (y + 219) dx n L t5 ⟨(l ++ [a]).map Value.ref⟩ hh (fun _ => hs (wf w b c).params "self") (fun _ => tt 0) #[] b c) AB.hh (AB.deep hA) (okIL _ fun nn tt om xi => oneIns ((cnt_ok (wf w b c) _ _ _ _ _ _ _ _).ab) (oneIns (ieq_ok AB.hh (szne l a)) nilIns)) ?_
  intro _ _ _ _ h2 k2 D2
  refine ks_wpAt_execs_cons (ks_wpAt_Return_some (ks_wpAt_MethodCall ?_))
  refine ks_wpAt_super_base (f := 75) (cc := 74) (by kernel_rfl) (by kernel_rfl) (by kernel_rfl) rfl (D2.top _ _ rfl) rfl rfl rfl (D2.top _ _ rfl) rfl rfl (by kernel_rfl) (by kernel_rfl) ?_
  refine fragP [2,0,1] _ D2 (supn75 (wf w b c) (y + 219) L (fun _ => hs (wf w b c).params "self") (fun _ => tt 0) #[]) C0.hh hA' noIns ?_
  intro _ _ _ _ h2 k2 D2
  refine ⟨rfl,?_⟩
  refine fragP [0,1,2] _ D2 (cls75 (wf w b c) (y + 219) L (fun _ => hs (wf w b c).params "self") (fun _ => tt 0) #[]) C0.hh hA' noIns ?_
  intro _ _ _ _ h3 k3 D3
  refine fragP [0,1,2] _ D3 (slf75 (wf w b c) (y + 219) L (fun _ => hs (wf w b c).params "self") (fun _ => tt 0) #[]) C0.hh hA' noIns ?_
  intro _ _ _ _ h4 k4 D4
  refine fragP [0,1,2] _ D4 (isty (wf w b c)) C0.hh hA' noIns ?_
  intro _ _ _ _ h5 k5 D5
  refine ⟨rfl,?_⟩
  refine fragP [1,2] [] D5 (supc (wf w b c) (y + 219) dx n t5 _ hh) C0.hh hA' noIns ?_
  intro nn _ _ _ h6 k6 D6
  refine fragP [0,1,2] [] D6 (gpop (wf w b c) y dx n t5 _ _ hh _) C0.hh hA' noIns ?_
  intro nn _ _ _ h7 k7 D7
  refine cpop (wf w b c) l a hl hA' D7 ?_
  intro h8 k8 D8
  exact wpAny_pure (hR (fun _ => 0) (fun _ => #[]) h8 k8 rfl (Eff.ofApp (nw := []) D8 rfl))
theorem popE_ok (w : World) (b c : Bool) (jx jd x dx : Nat) (n : Nat) (hh : Int) (t5 : Tok) : IOk theP (wf w b c) (MyK (wf w b c).params) (AB 840 7000) (popE jx jd x dx n hh t5) := by
  intro A s R hA hK hn hd ho hlo hR
  have D := Rp.start _ hK hn hd ho hlo
  refine x_call ?_ (by intro z; cases z)
  refine enterFn 75 40 [1,1] [.ref x] [("self",.ref x)] (fun tt => frO [en (hs (wf w b c).params "self") "self" (tt 0) (.ref x)] 1 #[]) (fn75 _) (by kernel_rfl) hA.1 (limit_ok (Nat.le_trans hA.2.1 (by decide))) D (fun nn tt om xi ps => e75 (wf w b c) x nn tt om xi ps) ?_
  intro L tt h1 k1 D1
  refine ks_codeAny_funcAt ?_
  rw [body75]
  refine ks_wpAt_execs_cons (wpAt_of_wpAny ?_)
  refine fragP [0,1,2] [] D1 (pop1 w x dx n L t5 ⟨([] : List Addr).map Value.ref⟩ hh (fun _ => hs (wf w b c).params "self") (fun _ => tt 0) #[] b c) AB.hh (AB.deep hA) (okIL _ fun nn tt om xi => oneIns (cnt_ok (wf w b c) _ _ _ _ _ _ _ _).ab (oneIns (ieq_ok AB.hh (by rfl)) nilIns)) ?_
  intro nn tt _ _ h2 k2 D2
  exact wpAny_pure (hR (fun i => match i with | 0 => nn 2 | 1 => tt 2 | _ => tt 2 + 1) (fun _ => #[]) h2 k2 rfl (Eff.ofApp (nw := [(nn 2,tupO [.str "" (tt 2),.str "" (tt 2 + 1)])]) D2 rfl))
theorem app0 (w:World) (x dx n  d:Nat) (nn tt om xi ps):Ends (go w 30 (Sem.call (.call (.builtin "list.append") ⟨[.ref x,.ref d],[]⟩) none false [] Sem.pure) [0,1,0,1,1,1] ([(x,accO dx #[] n)]) .nil nn tt om xi ps) ([0]) (.ok (.ok (.ret .none))) ([(x,accO dx #[.ref d] (n+1))]) := by trivial
theorem app1 (w:World) (x dx n a0 d:Nat) (nn tt om xi ps):Ends (go w 30 (Sem.call (.call (.builtin "list.append") ⟨[.ref x,.ref d],[]⟩) none false [] Sem.pure) [0,1,0,1,1,1] ([(x,accO dx #[.ref a0] n)]) .nil nn tt om xi ps) ([0]) (.ok (.ok (.ret .none))) ([(x,accO dx #[.ref a0,.ref d] (n+1))]) := by trivial
theorem app2 (w:World) (x dx n a0 a1 d:Nat) (nn tt om xi ps):Ends (go w 30 (Sem.call (.call (.builtin "list.append") ⟨[.ref x,.ref d],[]⟩) none false [] Sem.pure) [0,1,0,1,1,1] ([(x,accO dx #[.ref a0,.ref a1] n)]) .nil nn tt om xi ps) ([0]) (.ok (.ok (.ret .none))) ([(x,accO dx #[.ref a0,.ref a1,.ref d] (n+1))]) := by trivial
theorem app3 (w:World) (x dx n a0 a1 a2 d:Nat) (nn tt om xi ps):Ends (go w 30 (Sem.call (.call (.builtin "list.append") ⟨[.ref x,.ref d],[]⟩) none false [] Sem.pure) [0,1,0,1,1,1] ([(x,accO dx #[.ref a0,.ref a1,.ref a2] n)]) .nil nn tt om xi ps) ([0]) (.ok (.ok (.ret .none))) ([(x,accO dx #[.ref a0,.ref a1,.ref a2,.ref d] (n+1))]) := by trivial
theorem app4 (w:World) (x dx n a0 a1 a2 a3 d:Nat) (nn tt om xi ps):Ends (go w 30 (Sem.call (.call (.builtin "list.append") ⟨[.ref x,.ref d],[]⟩) none false [] Sem.pure) [0,1,0,1,1,1] ([(x,accO dx #[.ref a0,.ref a1,.ref a2,.ref a3] n)]) .nil nn tt om xi ps) ([0]) (.ok (.ok (.ret .none))) ([(x,accO dx #[.ref a0,.ref a1,.ref a2,.ref a3,.ref d] (n+1))]) := by trivial
theorem app5 (w:World) (x dx n a0 a1 a2 a3 a4 d:Nat) (nn tt om xi ps):Ends (go w 30 (Sem.call (.call (.builtin "list.append") ⟨[.ref x,.ref d],[]⟩) none false [] Sem.pure) [0,1,0,1,1,1] ([(x,accO dx #[.ref a0,.ref a1,.ref a2,.ref a3,.ref a4] n)]) .nil nn tt om xi ps) ([0]) (.ok (.ok (.ret .none))) ([(x,accO dx #[.ref a0,.ref a1,.ref a2,.ref a3,.ref a4,.ref d] (n+1))]) := by trivial
theorem app6 (w:World) (x dx n a0 a1 a2 a3 a4 a5 d:Nat) (nn tt om xi ps):Ends (go w 30 (Sem.call (.call (.builtin "list.append") ⟨[.ref x,.ref d],[]⟩) none false [] Sem.pure) [0,1,0,1,1,1] ([(x,accO dx #[.ref a0,.ref a1,.ref a2,.ref a3,.ref a4,.ref a5] n)]) .nil nn tt om xi ps) ([0]) (.ok (.ok (.ret .none))) ([(x,accO dx #[.ref a0,.ref a1,.ref a2,.ref a3,.ref a4,.ref a5,.ref d] (n+1))]) := by trivial
theorem app7 (w:World) (x dx n a0 a1 a2 a3 a4 a5 a6 d:Nat) (nn tt om xi ps):Ends (go w 30 (Sem.call (.call (.builtin "list.append") ⟨[.ref x,.ref d],[]⟩) none false [] Sem.pure) [0,1,0,1,1,1] ([(x,accO dx #[.ref a0,.ref a1,.ref a2,.ref a3,.ref a4,.ref a5,.ref a6] n)]) .nil nn tt om xi ps) ([0]) (.ok (.ok (.ret .none))) ([(x,accO dx #[.ref a0,.ref a1,.ref a2,.ref a3,.ref a4,.ref a5,.ref a6,.ref d] (n+1))]) := by trivial
theorem app8 (w:World) (x dx n a0 a1 a2 a3 a4 a5 a6 a7 d:Nat) (nn tt om xi ps):Ends (go w 30 (Sem.call (.call (.builtin "list.append") ⟨[.ref x,.ref d],[]⟩) none false [] Sem.pure) [0,1,0,1,1,1] ([(x,accO dx #[.ref a0,.ref a1,.ref a2,.ref a3,.ref a4,.ref a5,.ref a6,.ref a7] n)]) .nil nn tt om xi ps) ([0]) (.ok (.ok (.ret .none))) ([(x,accO dx #[.ref a0,.ref a1,.ref a2,.ref a3,.ref a4,.ref a5,.ref a6,.ref a7,.ref d] (n+1))]) := by trivial
noncomputable def appI (jx x dx : Nat) (l : List Addr) (a : Addr) (n : Nat) : Inst := ⟨.call (.builtin "list.append") ⟨[.ref x,.ref a],[]⟩,[(jx,x,accR dx l n)],fun ω _ => .ok (.ret .none),fun _ _ => [accR dx (l ++ [a]) (n + 1)],fun _ _ => []⟩
theorem push (w:World) (x dx n L t1 t2 t5:Nat) (a0 a1:Str) (l:List Addr) (hh:Int) (H:NI) (T:NN) (sl:Slots) (nn tt om xi ps):Ends (go w 200 (execs (bodyOf w.params 59) (envAt w.params 59 L)) [3,1,0,0,0,1,0,0,0,1,0,0,0,1,2,3,3,1] ([(x,accR dx l n),(dx,dicO hh t5),(L,frO [en (H 0) "self" (T 0) (.ref x),en (H 1) "fws" (T 1) (.str a0 t1),en (H 2) "string" (T 2) (.str a1 t2)] 3 sl)]) (IL fun nn tt om xi=>[appI 0 x dx l (nn 0) n]) nn tt om xi ps) ([0,1,3]) (.ok .next) ([(x,accR dx (l++[nn 0]) (n+1)),(dx,dicO hh t5),(nn 0,tupO [.str a0 t1,.str a1 t2])]) := by trivial
theorem app_ok {w : World} {C : Around → Prop} (hh : ∀ A,C A → A.handled = none) (jx x dx : Nat) (l : List Addr) (a : Addr) (n : Nat) (hl : l.length ≤ 8) : IOk theP w (MyK w.params) C (appI jx x dx l a n) := by
  have go : ∀ {k : List Addr},k = l → IOk theP w (MyK w.params) C (appI jx x dx k a n) → IOk theP w (MyK w.params) C (appI jx x dx l a n) := fun e h => e ▸ h
  rcases l with _ | ⟨a0,_ | ⟨a1,_ | ⟨a2,_ | ⟨a3,_ | ⟨a4,_ | ⟨a5,_ | ⟨a6,_ | ⟨a7,_ | ⟨a8,l⟩⟩⟩⟩⟩⟩⟩⟩⟩
  · exact segI (I := appI jx x dx [] a n) (app0 w x dx n a) hh noIns fun _ _ _ _ => ⟨fun _ => 0,fun _ => #[],rfl,rfl,rfl⟩
  · exact segI (I := appI jx x dx [_] a n) (app1 w x dx n _ a) hh noIns fun _ _ _ _ => ⟨fun _ => 0,fun _ => #[],rfl,rfl,rfl⟩
  · exact segI (I := appI jx x dx [_,_] a n) (app2 w x dx n _ _ a) hh noIns fun _ _ _ _ => ⟨fun _ => 0,fun _ => #[],rfl,rfl,rfl⟩
  · exact segI (I := appI jx x dx [_,_,_] a n) (app3 w x dx n _ _ _ a) hh noIns fun _ _ _ _ => ⟨fun _ => 0,fun _ => #[],rfl,rfl,rfl⟩
  · exact segI (I := appI jx x dx [_,_,_,_] a n) (app4 w x dx n _ _ _ _ a) hh noIns fun _ _ _ _ => ⟨fun _ => 0,fun _ => #[],rfl,rfl,rfl⟩
  · exact segI (I := appI jx x dx [_,_,_,_,_] a n) (app5 w x dx n _ _ _ _ _ a) hh noIns fun _ _ _ _ => ⟨fun _ => 0,fun _ => #[],rfl,rfl,rfl⟩
  · exact segI (I := appI jx x dx [_,_,_,_,_,_] a n) (app6 w x dx n _ _ _ _ _ _ a) hh noIns fun _ _ _ _ => ⟨fun _ => 0,fun _ => #[],rfl,rfl,rfl⟩
  · exact segI (I := appI jx x dx [_,_,_,_,_,_,_] a n) (app7 w x dx n _ _ _ _ _ _ _ a) hh noIns fun _ _ _ _ => ⟨fun _ => 0,fun _ => #[],rfl,rfl,rfl⟩
  · exact segI (I := appI jx x dx [_,_,_,_,_,_,_,_] a n) (app8 w x dx n _ _ _ _ _ _ _ _ a) hh noIns fun _ _ _ _ => ⟨fun _ => 0,fun _ => #[],rfl,rfl,rfl⟩
  · simp only [List.length_cons] at hl; omega
theorem fn59 (P : Params) : fnOk P 59 := ⟨_,_,_,_,_,rfl,rfl,rfl,rfl,rfl,rfl,rfl⟩
noncomputable def pushI (jx jd x dx : Nat) (l : List Addr) (n : Nat) (hh : Int) (t5 t1 t2 : Tok) (a0 a1 : Str) : Inst := ⟨.call (.ref 59) ⟨[.ref x,.str a0 t1,.str a1 t2],[]⟩,[(jx,x,accR dx l n),(jd,dx,dicO hh t5)],fun ω _ => .ok (.ret .none),fun ω _ => [accR dx (l ++ [ω 0]) (n + 1),dicO hh t5],fun ω _ => [(ω 0,tupO [.str a0 t1,.str a1 t2])]⟩
theorem push_ok (w : World) (jx jd x dx : Nat) (l : List Addr) (hl : l.length ≤ 8) (n : Nat) (hh : Int) (t5 t1 t2 : Tok) (a0 a1 : Str) : IOk theP w (MyK w.params) (AB 850 8000) (pushI jx jd x dx l n hh t5 t1 t2 a0 a1) := by
  refine fnI (C' := AB 851 8003) (f := 59) (args := [.ref x,.str a0 t1,.str a1 t2]) (fr := fun tt => frO [en (hs w.params "self") "self" (tt 0) (.ref x),en (hs w.params "fws") "fws" (tt 0 + 1) (.str a0 t1),en (hs w.params "string") "string" (tt 0 + 2) (.str a1 t2)] 3 #[])
    ⟨fn59 _,60,_,_,(by kernel_rfl),fun nn tt om xi ps => e59 w x t1 t2 a0 a1 nn tt om xi ps⟩ rfl AB.hh (fun A hA => limit_ok (Nat.le_trans hA.2.1 (by decide))) AB.hh (fun A L hA => AB.deep hA) ?_
  intro L T
  exact ⟨200,_,_,_,_,_,push w x dx n L t1 t2 t5 a0 a1 l hh (fun i => match i with | 0 => hs w.params "self" | 1 => hs w.params "fws" | _ => hs w.params "string") (fun i => match i with | 0 => T 0 | 1 => T 0 + 1 | _ => T 0 + 2) #[],
    okIL _ fun nn tt om xi => oneIns (app_ok AB.hh _ _ _ _ _ _ hl) nilIns,fun nn tt om xi => ⟨nn,fun _ => #[],rfl,rfl,rfl⟩⟩
noncomputable def fr52 (x : Addr) (H : Nat → Int) (T : Nat → Nat) (sl : Slots) : Obj := frO [en (H 0) "self" (T 0) (.ref x),en (H 1) "initial_size" (T 1) (.int 0 236)] 2 sl
theorem set52 (w:World) (x dx n L:Nat) (H:NI) (T:NN) (sl:Slots) (nn tt om xi ps):Ends (go w 200 (exec (st52 w.params) (envAt w.params 52 L)) [3,3,1,0,0,0,0,1,0,1,0,1,0,0,0,1,0,2,2,2] ([(x,accO dx #[] n),(dx,⟨.type "dict",none,.dict #[] 0,#[]⟩),(L,fr52 x H T sl)]) .nil nn tt om xi ps) ([0,1,2]) (.ok .next) ([(x,accO dx #[] n),(dx,dicO (hs w.params "_initial_size") (tt 0+1)),(L,fr52 x H T sl)]) := by trivial
theorem supn52 (w:World) (x L:Nat) (H:NI) (T:NN) (sl:Slots) (nn tt om xi ps):Ends (go w 60 (loadName (envAt w.params 52 L) "super") [0,0] ([(L,fr52 x H T sl)]) .nil nn tt om xi ps) ([0]) (.ok (.type "super")) ([(L,fr52 x H T sl)]) := by trivial
theorem cls52 (w:World) (x L:Nat) (H:NI) (T:NN) (sl:Slots) (nn tt om xi ps):Ends (go w 60 (loadName (envAt w.params 52 L) "__class__") [0] ([(L,fr52 x H T sl)]) .nil nn tt om xi ps) ([0]) (.ok (.ref 115)) ([(L,fr52 x H T sl)]) := by trivial
theorem slf52 (w:World) (x L:Nat) (H:NI) (T:NN) (sl:Slots) (nn tt om xi ps):Ends (go w 60 (loadName (envAt w.params 52 L) "self") [1] ([(L,fr52 x H T sl)]) .nil nn tt om xi ps) ([0]) (.ok (.ref x)) ([(L,fr52 x H T sl)]) := by trivial
theorem ginit (w:World) (y dx n t5 so:Nat) (its:Array Value) (hh:Int) (pl:Sem Bool) (nn tt om xi ps):Ends (go w 60 (getMethod (.ref so) "__init__" pl) [3,3,0,3,3,3,3,0,0,0,1,0] ([(y+219,accO dx its n),(dx,dicO hh t5),(so,⟨.type "super",none,.fields #[.ref 115,.ref (y+219),.ref 115],#[]⟩)]) .nil nn tt om xi ps) ([0,1,3]) (.ok (.ref (nn 0),[])) ([(y+219,accO dx its n),(dx,dicO hh t5),(nn 0,⟨.type "method-wrapper",none,.fields #[.builtin "list.__init__",.ref (y+219)],#[]⟩)]) := by trivial
theorem cinit (w:World) (x dx n t5 q:Nat) (pos:Pos) (hh:Int) (nn tt om xi ps):Ends (go w 60 (callWith pos (.ref q) [] [] []) [3,0,3,1,1,1,1] ([(x,accO dx #[] n),(dx,dicO hh t5),(q,⟨.type "method-wrapper",none,.fields #[.builtin "list.__init__",.ref x],#[]⟩)]) .nil nn tt om xi ps) ([0,1]) (.ok .none) ([(x,accO dx #[] n),(dx,dicO hh t5)]) := by trivial
theorem nA (w:World) (nn tt om xi ps):Ends (go w 60 (den (.call (.ref 115) ⟨[],[]⟩)) [0,0] ([]) .nil nn tt om xi ps) ([]) (.ok (.again (.call (.builtin "type.__call__") ⟨[.ref 115],[]⟩))) ([]) := by trivial
theorem nA2 (w:World) (nn tt om xi ps):Ends (go w 60 (den (.call (.builtin "type.__call__") ⟨[.ref 115],[]⟩)) [0] ([]) .nil nn tt om xi ps) ([]) (.ok (.again (.builtin "type.__call__" ⟨[.ref 115],[]⟩))) ([]) := by trivial
noncomputable abbrev dic0 : Obj := ⟨.type "dict",none,.dict #[] 0,#[]⟩
noncomputable def initI (w : World) (jx jd x dx n : Nat) : Inst := ⟨.call (.ref 52) ⟨[.ref x],[]⟩,[(jx,x,accO dx #[] n),(jd,dx,dic0)],fun _ _ => .ok (.ret .none),fun ω _ => [accO dx #[] n,dicO (hs w.params "_initial_size") (ω 0)],fun _ _ => []⟩
theorem nB (w:World) (nn tt om xi ps):Ends (go w 100 (den (.builtin "type.__call__" ⟨[.ref 115],[]⟩)) [0,0,0,0,0,0,0,0,0,0,0,0,0,0,2,0,2,0,0,0,0,1] ([]) (IL fun nn tt om xi=>[initI w 1 0 (nn 0+1) (nn 0) 0]) nn tt om xi ps) ([0,1]) (.ok (.done (.ret (.ref (nn 0+1))))) ([(nn 0,dicO (hs w.params "_initial_size") (om 0 0)),(nn 0+1,accO (nn 0) #[] 0)]) := by trivial
theorem bnd52 (w:World) (x:Nat) (nn tt om xi ps):Ends (go w 60 (bindArgs (fdOf w.params 52) ⟨[.ref x],[]⟩) [0] ([]) .nil nn tt om xi ps) ([]) (.ok [("self",.ref x),("initial_size",.int 0 236)]) ([]) := by trivial
theorem enterFn2 {w : World} {A : Around} {s : Shared} {R : Result → Shared → Prop} {g : Heap} {A0 : List Addr} {led : Led} (f : Nat) (n n0 : Nat) (ora ora0 : List Nat) (args : List Value) (binds : List (Str × Value)) (fr : (Nat → Nat) → Obj)
    (hf : fnOk w.params f) (hb : ∀ nn tt om xi ps,Ends (go w n0 (bindArgs (fdOf w.params f) ⟨args,[]⟩) ora0 [] .nil nn tt om xi ps) [] (.ok binds) []) (hA : A.handled = none) (hroom : A.depth < recursionLimit) (D : Rp (MyK w.params) g A0 s.heap led)
    (e : ∀ nn tt om xi ps,Ends (go w n (nfe w.params f binds) ora [] .nil nn tt om xi ps) [0] (.ok (envAt w.params f (nn 0))) [(nn 0,fr tt)])
    (h : ∀ (L : Nat) tt h' tk',Rp (MyK w.params) g A0 h' (led ++ [(L,fr tt)]) → codeAny (MM w) A (.func (bodyOf w.params f) (envAt w.params f L)) R { s with heap := h',toks := tk' }) :
    codeAny (MM w) A (.call (.ref f) ⟨args,[]⟩) R s := by
  obtain ⟨c,vs,t,od,osl,h1,h2,h3,h4,h5,h6,h7⟩ := hf
  refine codeAny_call_function hroom (D.top _ _ h1) rfl h5 h6 h7 ⟨c,_,vs,t,h2,D.top _ _ h3,rfl,h4⟩ ?_
  refine frag (C := fun A => A.handled = none) n0 ora0 [] .nil [] (fun _ _ _ _ => .ok binds) (fun _ _ _ _ => []) hb (fun _ h => h) hA trivial (Rp.nil D.top) ?_
  intro _ _ _ _ h0 k0 D0
  have D0 := D.more D0
  refine frag (C := fun A => A.handled = none) n ora [] .nil [0] (fun nn _ _ _ => .ok (envAt w.params f (nn 0))) (fun nn tt _ _ => [(nn 0,fr tt)]) e (fun _ h => h) hA trivial (Rp.nil D0.top) ?_
  intro nn tt om xi h' tk' D'
  have D1 := D0.more D'
  rw [List.append_nil] at D1
  exact ⟨nolimit w D'.top,h (nn 0) tt h' tk' D1⟩
theorem fn52 (P : Params) : fnOk P 52 := ⟨_,_,_,_,_,rfl,rfl,rfl,rfl,rfl,rfl,rfl⟩
theorem body52 (P : Params) : bodyOf P 52 = [st52 P,.Expr (.Call (.Attribute (.Call (.Name "super" ⟨52,8,52,13⟩) [] [] ⟨52,8,52,15⟩) "__init__" ⟨52,8,52,24⟩) [] [] ⟨52,8,52,26⟩) ⟨52,8,52,26⟩] := rfl
theorem init_ok (w : World) (jx jd x dx n : Nat) : IOk theP w (MyK w.params) (AB 850 8000) (initI w jx jd x dx n) := by
  intro A s R hA hK hn hd ho hlo hR
  have D := Rp.start _ hK hn hd ho hlo
  obtain ⟨y,rfl⟩ : ∃ y,x = y + 219 := ⟨x - 219,by have : 219 ≤ x := hlo _ (.head _); omega⟩
  refine x_call ?_ (by intro z; cases z)
  refine enterFn2 52 60 60 _ _ [.ref (y + 219)] [("self",.ref (y + 219)),("initial_size",.int 0 236)] (fun tt => fr52 (y + 219) (fun i => match i with | 0 => hs w.params "self" | _ => hs w.params "initial_size") (fun i => match i with | 0 => tt 0 | _ => tt 0 + 1) #[]) (fn52 _) (bnd52 w (y + 219)) hA.1 (limit_ok (Nat.le_trans hA.2.1 (by decide))) D (fun nn tt om xi ps => e52 w (y + 219) nn tt om xi ps) ?_
  intro L tt h1 k1 D1
  have hA' : C0 ((A.mark none).deeper (envAt w.params 52 L)) := hA.1
  refine ks_codeAny_funcAt ?_
  rw [body52]
  refine ks_wpAt_execs_cons (wpAt_of_wpAny ?_)
  refine fragP [0,1,2] [] D1 (set52 w (y + 219) dx n L _ _ #[]) C0.hh hA' noIns ?_
  intro nn2 tt2 _ _ h2 k2 D2
  refine ks_wpAt_execs_cons (ks_wpAt_Expr_any (ks_wpAt_MethodCall ?_) (by kernel_rfl) (by kernel_rfl))
  refine ks_wpAt_super_base (f := 52) (cc := 51) (by kernel_rfl) (by kernel_rfl) (by kernel_rfl) rfl (D2.top _ _ rfl) rfl rfl rfl (D2.top _ _ rfl) rfl rfl (by kernel_rfl) (by kernel_rfl) ?_
  refine fragP [2,0,1] _ D2 (supn52 w (y + 219) L _ _ #[]) C0.hh hA' noIns ?_
  intro _ _ _ _ h2 k2 D2
  refine ⟨rfl,?_⟩
  refine fragP [0,1,2] _ D2 (cls52 w (y + 219) L _ _ #[]) C0.hh hA' noIns ?_
  intro _ _ _ _ h3 k3 D3
  refine fragP [0,1,2] _ D3 (slf52 w (y + 219) L _ _ #[]) C0.hh hA' noIns ?_
  intro _ _ _ _ h4 k4 D4
  refine fragP [0,1,2] _ D4 (isty w) C0.hh hA' noIns ?_
  intro _ _ _ _ h5 k5 D5
  refine ⟨rfl,?_⟩
  refine fragP [1,2] [] D5 (supc w (y + 219) dx n _ _ _) C0.hh hA' noIns ?_
  intro nn _ _ _ h6 k6 D6
  refine fragP [0,1,2] [] D6 (ginit w y dx n _ _ _ _ _) C0.hh hA' noIns ?_
  intro nn _ _ _ h7 k7 D7
  refine fragP [0,1,2] [] D7 (cinit w (y + 219) dx n _ _ _ _) C0.hh hA' noIns ?_
  intro nn tt' _ _ h8 k8 D8
  exact wpAt_of_wpAny (wpAny_pure (wpAny_pure (hR (fun _ => tt2 0 + 1) (fun _ => #[]) h8 k8 rfl (Eff.ofApp (nw := []) D8 rfl))))
noncomputable def newI (w : World) : Inst := ⟨.call (.ref 115) ⟨[],[]⟩,[],fun ω _ => .ok (.ret (.ref (ω 0))),fun _ _ => [],fun ω _ => [(ω 1,dicO (hs w.params "_initial_size") (ω 2)),(ω 0,accO (ω 1) #[] 0)]⟩
theorem AB.under {d u d' u' : Nat} {A : Around} {c : Code} (h : AB d u A) (hw : Nat.ble (d + c.weight) d' = true) (hu : Nat.ble (u + c.cUnits) u' = true) : AB d' u' (A.under c) :=
  ⟨h.1,Nat.le_trans (Nat.add_le_add_right h.2.1 _) (Nat.le_of_ble_eq_true hw),Nat.le_trans (Nat.add_le_add_right h.2.2 _) (Nat.le_of_ble_eq_true hu)⟩
theorem new_ok (w : World) : IOk theP w (MyK w.params) (AB 840 7900) (newI w) := by
  intro A s R hA hK hn hd ho hlo hR
  refine x_call ?_ (by intro z; cases z)
  refine c_code (fun Γ p _ hΓ => ?_)
  refine frag (C := C0) _ _ _ _ _ _ _ (nA w) C0.hh ?_ noIns (Rp.nil hK) ?_ Γ p hΓ
  · exact hA.1
  intro _ _ _ _ h1 k1 D1
  refine ⟨by kernel_rfl,c_code (fun Γ p _ hΓ => ?_)⟩
  refine frag (C := C0) _ _ _ _ _ _ _ (nA2 w) C0.hh ?_ noIns D1 ?_ Γ p hΓ
  · exact hA.1
  intro _ _ _ _ h2 k2 D2
  refine ⟨by kernel_rfl,c_code (fun Γ p _ hΓ => ?_)⟩
  refine frag (C := AB 850 8000) _ _ _ _ _ _ _ (nB w) AB.hh ?_ (okIL _ fun nn tt om xi => oneIns (init_ok w _ _ _ _ _) nilIns) D2 ?_ Γ p hΓ
  · exact AB.under (A := A.mark none) hA (by kernel_rfl) (by kernel_rfl)
  intro nn tt om xi h3 k3 D3
  exact wpAny_pure (hR (fun i => match i with | 0 => nn 0 + 1 | 1 => nn 0 | _ => om 0 0) (fun _ => #[]) h3 k3 rfl (Eff.ofApp (l := []) (os := []) D3 rfl))
noncomputable abbrev iterO (s : List Nat) (t : Tok) (i : Nat) : Obj := ⟨.type "str_ascii_iterator",none,.fields #[.str ⟨⟨s⟩⟩ t,.int (Int.ofNat i) 0],#[]⟩
theorem siter (w:World) (s:List Nat) (t:Nat) (nn tt om xi ps):Ends (go w 40 (Sem.call (.call (.builtin "str.__iter__") ⟨[.str ⟨⟨s⟩⟩ t],[]⟩) none false [] Sem.pure) [0] ([]) .nil nn tt om xi ps) ([0]) (.ok (.ok (.ret (.ref (nn 0))))) ([(nn 0,⟨.type (if (Builtin.Str.isExactStr (.str ⟨⟨s⟩⟩ t) && (⟨s⟩:Array Nat).all (fun x=>decide (x < 128))) = true then "str_ascii_iterator" else "str_iterator"),none,.fields #[.str ⟨⟨s⟩⟩ t,.int 0 0],#[]⟩)]) := by trivial
theorem sn0 (w:World) ( c it t:Nat) (r:List Nat) (nn tt om xi ps):Ends (go w 40 (Sem.call (.call (.builtin "str_ascii_iterator.__next__") ⟨[.ref it],[]⟩) none false [] Sem.pure) [0,1,1,1,1,1] ([(it,iterO (c :: r) t 0)]) .nil nn tt om xi ps) ([0]) (.ok (.ok (.ret (.str ⟨⟨[c]⟩⟩ (tt 0))))) ([(it,iterO (c :: r) t 1)]) := by trivial
theorem sn1 (w:World) (c0 c it t:Nat) (r:List Nat) (nn tt om xi ps):Ends (go w 40 (Sem.call (.call (.builtin "str_ascii_iterator.__next__") ⟨[.ref it],[]⟩) none false [] Sem.pure) [0,1,1,1,1,1] ([(it,iterO (c0 :: c :: r) t 1)]) .nil nn tt om xi ps) ([0]) (.ok (.ok (.ret (.str ⟨⟨[c]⟩⟩ (tt 0))))) ([(it,iterO (c0 :: c :: r) t 2)]) := by trivial
theorem sn2 (w:World) (c0 c1 c it t:Nat) (r:List Nat) (nn tt om xi ps):Ends (go w 40 (Sem.call (.call (.builtin "str_ascii_iterator.__next__") ⟨[.ref it],[]⟩) none false [] Sem.pure) [0,1,1,1,1,1] ([(it,iterO (c0 :: c1 :: c :: r) t 2)]) .nil nn tt om xi ps) ([0]) (.ok (.ok (.ret (.str ⟨⟨[c]⟩⟩ (tt 0))))) ([(it,iterO (c0 :: c1 :: c :: r) t 3)]) := by trivial
theorem sn3 (w:World) (c0 c1 c2 c it t:Nat) (r:List Nat) (nn tt om xi ps):Ends (go w 40 (Sem.call (.call (.builtin "str_ascii_iterator.__next__") ⟨[.ref it],[]⟩) none false [] Sem.pure) [0,1,1,1,1,1] ([(it,iterO (c0 :: c1 :: c2 :: c :: r) t 3)]) .nil nn tt om xi ps) ([0]) (.ok (.ok (.ret (.str ⟨⟨[c]⟩⟩ (tt 0))))) ([(it,iterO (c0 :: c1 :: c2 :: c :: r) t 4)]) := by trivial
theorem sn4 (w:World) (c0 c1 c2 c3 c it t:Nat) (r:List Nat) (nn tt om xi ps):Ends (go w 40 (Sem.call (.call (.builtin "str_ascii_iterator.__next__") ⟨[.ref it],[]⟩) none false [] Sem.pure) [0,1,1,1,1,1] ([(it,iterO (c0 :: c1 :: c2 :: c3 :: c :: r) t 4)]) .nil nn tt om xi ps) ([0]) (.ok (.ok (.ret (.str ⟨⟨[c]⟩⟩ (tt 0))))) ([(it,iterO (c0 :: c1 :: c2 :: c3 :: c :: r) t 5)]) := by trivial
theorem sn5 (w:World) (c0 c1 c2 c3 c4 c it t:Nat) (r:List Nat) (nn tt om xi ps):Ends (go w 40 (Sem.call (.call (.builtin "str_ascii_iterator.__next__") ⟨[.ref it],[]⟩) none false [] Sem.pure) [0,1,1,1,1,1] ([(it,iterO (c0 :: c1 :: c2 :: c3 :: c4 :: c :: r) t 5)]) .nil nn tt om xi ps) ([0]) (.ok (.ok (.ret (.str ⟨⟨[c]⟩⟩ (tt 0))))) ([(it,iterO (c0 :: c1 :: c2 :: c3 :: c4 :: c :: r) t 6)]) := by trivial
theorem sn6 (w:World) (c0 c1 c2 c3 c4 c5 c it t:Nat) (r:List Nat) (nn tt om xi ps):Ends (go w 40 (Sem.call (.call (.builtin "str_ascii_iterator.__next__") ⟨[.ref it],[]⟩) none false [] Sem.pure) [0,1,1,1,1,1] ([(it,iterO (c0 :: c1 :: c2 :: c3 :: c4 :: c5 :: c :: r) t 6)]) .nil nn tt om xi ps) ([0]) (.ok (.ok (.ret (.str ⟨⟨[c]⟩⟩ (tt 0))))) ([(it,iterO (c0 :: c1 :: c2 :: c3 :: c4 :: c5 :: c :: r) t 7)]) := by trivial
theorem sn7 (w:World) (c0 c1 c2 c3 c4 c5 c6 c it t:Nat) (r:List Nat) (nn tt om xi ps):Ends (go w 40 (Sem.call (.call (.builtin "str_ascii_iterator.__next__") ⟨[.ref it],[]⟩) none false [] Sem.pure) [0,1,1,1,1,1] ([(it,iterO (c0 :: c1 :: c2 :: c3 :: c4 :: c5 :: c6 :: c :: r) t 7)]) .nil nn tt om xi ps) ([0]) (.ok (.ok (.ret (.str ⟨⟨[c]⟩⟩ (tt 0))))) ([(it,iterO (c0 :: c1 :: c2 :: c3 :: c4 :: c5 :: c6 :: c :: r) t 8)]) := by trivial
theorem sn8 (w:World) (c0 c1 c2 c3 c4 c5 c6 c7 c it t:Nat) (r:List Nat) (nn tt om xi ps):Ends (go w 40 (Sem.call (.call (.builtin "str_ascii_iterator.__next__") ⟨[.ref it],[]⟩) none false [] Sem.pure) [0,1,1,1,1,1] ([(it,iterO (c0 :: c1 :: c2 :: c3 :: c4 :: c5 :: c6 :: c7 :: c :: r) t 8)]) .nil nn tt om xi ps) ([0]) (.ok (.ok (.ret (.str ⟨⟨[c]⟩⟩ (tt 0))))) ([(it,iterO (c0 :: c1 :: c2 :: c3 :: c4 :: c5 :: c6 :: c7 :: c :: r) t 9)]) := by trivial
noncomputable def nthS (P : Params) (f i : Nat) : Stmt := (bodyOf P f).getD i (.Pass ⟨0,0,0,0⟩)
noncomputable def loopC (st : Stmt) (it : Value) (env : Env) : Code := match st with | .For t _ b o _ => .forLoop t it b o env | _ => .call .none ⟨[],[]⟩
noncomputable def siterI (s : List Nat) (t : Tok) : Inst := ⟨.call (.builtin "str.__iter__") ⟨[.str ⟨⟨s⟩⟩ t],[]⟩,[],fun ω _ => .ok (.ret (.ref (ω 0))),fun _ _ => [],fun ω _ => [(ω 0,iterO s t 0)]⟩
noncomputable def snextI (jt it : Nat) (s : List Nat) (t : Tok) (i c : Nat) : Inst := ⟨.call (.builtin "str_ascii_iterator.__next__") ⟨[.ref it],[]⟩,[(jt,it,iterO s t i)],fun ω _ => .ok (.ret (.str ⟨⟨[c]⟩⟩ (ω 0))),fun _ _ => [iterO s t (i + 1)],fun _ _ => []⟩
section
variable {w : World} {C : Around → Prop} (hh : ∀ A,C A → A.handled = none)
include hh
theorem siter_ok {s : List Nat} {t : Tok} (h : ∀ x ∈ s,x < 128) : IOk theP w (MyK w.params) C (siterI s t) := by
  refine segI (I := siterI s t) (siter w s t) hh noIns fun nn tt om xi => ⟨nn,fun _ => #[],rfl,?_,rfl⟩
  have e : (Builtin.Str.isExactStr (.str ⟨⟨s⟩⟩ t) && (⟨s⟩ : Array Nat).all (fun x => decide (x < 128))) = true := by
    rw [Bool.and_eq_true]
    refine ⟨rfl,?_⟩
    rw [List.all_toArray,List.all_eq_true]
    intro x hx
    exact decide_eq_true (h x hx)
  rw [e]
  rfl
theorem snext_ok {jt it : Nat} {s : List Nat} {t : Tok} {i c : Nat} (h : s[i]? = some c) (hi : i ≤ 8) : IOk theP w (MyK w.params) C (snextI jt it s t i c) := by
  rcases i with _ | _ | _ | _ | _ | _ | _ | _ | _ | i
  · obtain _ | ⟨c0,r⟩ := s
    · cases h
    cases h
    exact segI (I := snextI jt it (c :: r) t 0 c) (sn0 w c it t r) hh noIns fun nn tt om xi => ⟨tt,fun _ => #[],rfl,rfl,rfl⟩
  · obtain _ | ⟨c0,_ | ⟨c1,r⟩⟩ := s
    iterate 2 cases h
    cases h
    exact segI (I := snextI jt it (c0 :: c :: r) t 1 c) (sn1 w c0 c it t r) hh noIns fun nn tt om xi => ⟨tt,fun _ => #[],rfl,rfl,rfl⟩
  · obtain _ | ⟨c0,_ | ⟨c1,_ | ⟨c2,r⟩⟩⟩ := s
    iterate 3 cases h
    cases h
    exact segI (I := snextI jt it (c0 :: c1 :: c :: r) t 2 c) (sn2 w c0 c1 c it t r) hh noIns fun nn tt om xi => ⟨tt,fun _ => #[],rfl,rfl,rfl⟩
  · obtain _ | ⟨c0,_ | ⟨c1,_ | ⟨c2,_ | ⟨c3,r⟩⟩⟩⟩ := s
    iterate 4 cases h
    cases h
    exact segI (I := snextI jt it (c0 :: c1 :: c2 :: c :: r) t 3 c) (sn3 w c0 c1 c2 c it t r) hh noIns fun nn tt om xi => ⟨tt,fun _ => #[],rfl,rfl,rfl⟩
  · obtain _ | ⟨c0,_ | ⟨c1,_ | ⟨c2,_ | ⟨c3,_ | ⟨c4,r⟩⟩⟩⟩⟩ := s
    iterate 5 cases h
    cases h
    exact segI (I := snextI jt it (c0 :: c1 :: c2 :: c3 :: c :: r) t 4 c) (sn4 w c0 c1 c2 c3 c it t r) hh noIns fun nn tt om xi => ⟨tt,fun _ => #[],rfl,rfl,rfl⟩
  · obtain _ | ⟨c0,_ | ⟨c1,_ | ⟨c2,_ | ⟨c3,_ | ⟨c4,_ | ⟨c5,r⟩⟩⟩⟩⟩⟩ := s
    iterate 6 cases h
    cases h
    exact segI (I := snextI jt it (c0 :: c1 :: c2 :: c3 :: c4 :: c :: r) t 5 c) (sn5 w c0 c1 c2 c3 c4 c it t r) hh noIns fun nn tt om xi => ⟨tt,fun _ => #[],rfl,rfl,rfl⟩
  · obtain _ | ⟨c0,_ | ⟨c1,_ | ⟨c2,_ | ⟨c3,_ | ⟨c4,_ | ⟨c5,_ | ⟨c6,r⟩⟩⟩⟩⟩⟩⟩ := s
    iterate 7 cases h
    cases h
    exact segI (I := snextI jt it (c0 :: c1 :: c2 :: c3 :: c4 :: c5 :: c :: r) t 6 c) (sn6 w c0 c1 c2 c3 c4 c5 c it t r) hh noIns fun nn tt om xi => ⟨tt,fun _ => #[],rfl,rfl,rfl⟩
  · obtain _ | ⟨c0,_ | ⟨c1,_ | ⟨c2,_ | ⟨c3,_ | ⟨c4,_ | ⟨c5,_ | ⟨c6,_ | ⟨c7,r⟩⟩⟩⟩⟩⟩⟩⟩ := s
    iterate 8 cases h
    cases h
    exact segI (I := snextI jt it (c0 :: c1 :: c2 :: c3 :: c4 :: c5 :: c6 :: c :: r) t 7 c) (sn7 w c0 c1 c2 c3 c4 c5 c6 c it t r) hh noIns fun nn tt om xi => ⟨tt,fun _ => #[],rfl,rfl,rfl⟩
  · obtain _ | ⟨c0,_ | ⟨c1,_ | ⟨c2,_ | ⟨c3,_ | ⟨c4,_ | ⟨c5,_ | ⟨c6,_ | ⟨c7,_ | ⟨c8,r⟩⟩⟩⟩⟩⟩⟩⟩⟩ := s
    iterate 9 cases h
    cases h
    exact segI (I := snextI jt it (c0 :: c1 :: c2 :: c3 :: c4 :: c5 :: c6 :: c7 :: c :: r) t 8 c) (sn8 w c0 c1 c2 c3 c4 c5 c6 c7 c it t r) hh noIns fun nn tt om xi => ⟨tt,fun _ => #[],rfl,rfl,rfl⟩
  · omega
end
theorem fragQ {w : World} {C : Around → Prop} {g : Heap} {A0 : List Addr} {α : Type} {t : Sem α} {A : Around} {Q : α → Shared → Prop} {E : Value → Shared → Prop} {s : Shared} {led0 : Led}
    (rest : Led) {n : Nat} {ora : List Nat} {led : Led} {ins : ITree} {js : List Nat} {x : (Nat → Nat) → (Nat → Nat) → (Nat → Nat → Nat) → (Nat → Nat → Slots) → Except Value α} {led' : (Nat → Nat) → (Nat → Nat) → (Nat → Nat → Nat) → (Nat → Nat → Slots) → Led}
    (D : Rp (MyK w.params) g A0 s.heap led0) (hp : (led ++ rest).Perm led0)
    (e : ∀ nn tt om xi ps,Ends (go w n t ora led ins nn tt om xi ps) js (x nn tt om xi) (led' nn tt om xi))
    (hh : ∀ A,C A → A.handled = none) (hC : C A) (hI : okT theP w (MyK w.params) C ins)
    (h : ∀ nn tt om xi h' tk',Rp (MyK w.params) g A0 h' (led' nn tt om xi ++ rest) → match x nn tt om xi with | .ok a => Q a { s with heap := h',toks := tk' } | .error e => E e { s with heap := h',toks := tk' }) :
    wpAny (MM w) A t Q E s := by
  have D0 := D.perm hp
  exact frag n ora led ins js x led' e hh hC hI D0.self fun nn tt om xi h' tk' D' => h nn tt om xi h' tk' (D0.glue D')
noncomputable abbrev slcO (a b c : Value) : Obj := ⟨.type "slice",none,.fields #[a,b,c],#[]⟩
noncomputable abbrev abc : List Nat := [97,98,99,100,101,102,103,104,105]
theorem sgA0 (w:World) ( t q tk tk2:Nat) (nn tt om xi ps):Ends (go w 60 (Sem.call (.call (.builtin "str.__getitem__") ⟨[.str ⟨⟨abc⟩⟩ t,.ref q],[]⟩) none false [] Sem.pure) [0,1,1,1,1] ([(q,slcO .none (.int 0 tk) .none)]) .nil nn tt om xi ps) ([0]) (.ok (.ok (.ret (.str ⟨⟨[]⟩⟩ (tt 0))))) ([(q,slcO .none (.int 0 tk) .none)]) := by trivial
theorem sgA1 (w:World) ( t q tk tk2:Nat) (nn tt om xi ps):Ends (go w 60 (Sem.call (.call (.builtin "str.__getitem__") ⟨[.str ⟨⟨abc⟩⟩ t,.ref q],[]⟩) none false [] Sem.pure) [0,1,1,1,1] ([(q,slcO .none (.int 1 tk) .none)]) .nil nn tt om xi ps) ([0]) (.ok (.ok (.ret (.str ⟨⟨[97]⟩⟩ (tt 0))))) ([(q,slcO .none (.int 1 tk) .none)]) := by trivial
theorem sgA2 (w:World) ( t q tk tk2:Nat) (nn tt om xi ps):Ends (go w 60 (Sem.call (.call (.builtin "str.__getitem__") ⟨[.str ⟨⟨abc⟩⟩ t,.ref q],[]⟩) none false [] Sem.pure) [0,1,1,1,1] ([(q,slcO .none (.int 2 tk) .none)]) .nil nn tt om xi ps) ([0]) (.ok (.ok (.ret (.str ⟨⟨[97,98]⟩⟩ (tt 0))))) ([(q,slcO .none (.int 2 tk) .none)]) := by trivial
theorem sgA3 (w:World) ( t q tk tk2:Nat) (nn tt om xi ps):Ends (go w 60 (Sem.call (.call (.builtin "str.__getitem__") ⟨[.str ⟨⟨abc⟩⟩ t,.ref q],[]⟩) none false [] Sem.pure) [0,1,1,1,1] ([(q,slcO .none (.int 3 tk) .none)]) .nil nn tt om xi ps) ([0]) (.ok (.ok (.ret (.str ⟨⟨[97,98,99]⟩⟩ (tt 0))))) ([(q,slcO .none (.int 3 tk) .none)]) := by trivial
theorem sgA4 (w:World) ( t q tk tk2:Nat) (nn tt om xi ps):Ends (go w 60 (Sem.call (.call (.builtin "str.__getitem__") ⟨[.str ⟨⟨abc⟩⟩ t,.ref q],[]⟩) none false [] Sem.pure) [0,1,1,1,1] ([(q,slcO .none (.int 4 tk) .none)]) .nil nn tt om xi ps) ([0]) (.ok (.ok (.ret (.str ⟨⟨[97,98,99,100]⟩⟩ (tt 0))))) ([(q,slcO .none (.int 4 tk) .none)]) := by trivial
theorem sgA5 (w:World) ( t q tk tk2:Nat) (nn tt om xi ps):Ends (go w 60 (Sem.call (.call (.builtin "str.__getitem__") ⟨[.str ⟨⟨abc⟩⟩ t,.ref q],[]⟩) none false [] Sem.pure) [0,1,1,1,1] ([(q,slcO .none (.int 5 tk) .none)]) .nil nn tt om xi ps) ([0]) (.ok (.ok (.ret (.str ⟨⟨[97,98,99,100,101]⟩⟩ (tt 0))))) ([(q,slcO .none (.int 5 tk) .none)]) := by trivial
theorem sgA6 (w:World) ( t q tk tk2:Nat) (nn tt om xi ps):Ends (go w 60 (Sem.call (.call (.builtin "str.__getitem__") ⟨[.str ⟨⟨abc⟩⟩ t,.ref q],[]⟩) none false [] Sem.pure) [0,1,1,1,1] ([(q,slcO .none (.int 6 tk) .none)]) .nil nn tt om xi ps) ([0]) (.ok (.ok (.ret (.str ⟨⟨[97,98,99,100,101,102]⟩⟩ (tt 0))))) ([(q,slcO .none (.int 6 tk) .none)]) := by trivial
theorem sgA7 (w:World) ( t q tk tk2:Nat) (nn tt om xi ps):Ends (go w 60 (Sem.call (.call (.builtin "str.__getitem__") ⟨[.str ⟨⟨abc⟩⟩ t,.ref q],[]⟩) none false [] Sem.pure) [0,1,1,1,1] ([(q,slcO .none (.int 7 tk) .none)]) .nil nn tt om xi ps) ([0]) (.ok (.ok (.ret (.str ⟨⟨[97,98,99,100,101,102,103]⟩⟩ (tt 0))))) ([(q,slcO .none (.int 7 tk) .none)]) := by trivial
theorem sgA8 (w:World) ( t q tk tk2:Nat) (nn tt om xi ps):Ends (go w 60 (Sem.call (.call (.builtin "str.__getitem__") ⟨[.str ⟨⟨abc⟩⟩ t,.ref q],[]⟩) none false [] Sem.pure) [0,1,1,1,1] ([(q,slcO .none (.int 8 tk) .none)]) .nil nn tt om xi ps) ([0]) (.ok (.ok (.ret (.str ⟨⟨[97,98,99,100,101,102,103,104]⟩⟩ (tt 0))))) ([(q,slcO .none (.int 8 tk) .none)]) := by trivial
theorem sgA9 (w:World) ( t q tk tk2:Nat) (nn tt om xi ps):Ends (go w 60 (Sem.call (.call (.builtin "str.__getitem__") ⟨[.str ⟨⟨abc⟩⟩ t,.ref q],[]⟩) none false [] Sem.pure) [0,1,1,1,1] ([(q,slcO .none (.int 9 tk) .none)]) .nil nn tt om xi ps) ([0]) (.ok (.ok (.ret (.str ⟨⟨[97,98,99,100,101,102,103,104,105]⟩⟩ t)))) ([(q,slcO .none (.int 9 tk) .none)]) := by trivial
theorem sgB0 (w:World) ( t q tk tk2:Nat) (nn tt om xi ps):Ends (go w 60 (Sem.call (.call (.builtin "str.__getitem__") ⟨[.str ⟨⟨abc⟩⟩ t,.ref q],[]⟩) none false [] Sem.pure) [0,1,1,1,1] ([(q,slcO (.int 0 tk) .none .none)]) .nil nn tt om xi ps) ([0]) (.ok (.ok (.ret (.str ⟨⟨[97,98,99,100,101,102,103,104,105]⟩⟩ t)))) ([(q,slcO (.int 0 tk) .none .none)]) := by trivial
theorem sgB1 (w:World) ( t q tk tk2:Nat) (nn tt om xi ps):Ends (go w 60 (Sem.call (.call (.builtin "str.__getitem__") ⟨[.str ⟨⟨abc⟩⟩ t,.ref q],[]⟩) none false [] Sem.pure) [0,1,1,1,1] ([(q,slcO (.int 1 tk) .none .none)]) .nil nn tt om xi ps) ([0]) (.ok (.ok (.ret (.str ⟨⟨[98,99,100,101,102,103,104,105]⟩⟩ (tt 0))))) ([(q,slcO (.int 1 tk) .none .none)]) := by trivial
theorem sgB2 (w:World) ( t q tk tk2:Nat) (nn tt om xi ps):Ends (go w 60 (Sem.call (.call (.builtin "str.__getitem__") ⟨[.str ⟨⟨abc⟩⟩ t,.ref q],[]⟩) none false [] Sem.pure) [0,1,1,1,1] ([(q,slcO (.int 2 tk) .none .none)]) .nil nn tt om xi ps) ([0]) (.ok (.ok (.ret (.str ⟨⟨[99,100,101,102,103,104,105]⟩⟩ (tt 0))))) ([(q,slcO (.int 2 tk) .none .none)]) := by trivial
theorem sgB3 (w:World) ( t q tk tk2:Nat) (nn tt om xi ps):Ends (go w 60 (Sem.call (.call (.builtin "str.__getitem__") ⟨[.str ⟨⟨abc⟩⟩ t,.ref q],[]⟩) none false [] Sem.pure) [0,1,1,1,1] ([(q,slcO (.int 3 tk) .none .none)]) .nil nn tt om xi ps) ([0]) (.ok (.ok (.ret (.str ⟨⟨[100,101,102,103,104,105]⟩⟩ (tt 0))))) ([(q,slcO (.int 3 tk) .none .none)]) := by trivial
theorem sgB4 (w:World) ( t q tk tk2:Nat) (nn tt om xi ps):Ends (go w 60 (Sem.call (.call (.builtin "str.__getitem__") ⟨[.str ⟨⟨abc⟩⟩ t,.ref q],[]⟩) none false [] Sem.pure) [0,1,1,1,1] ([(q,slcO (.int 4 tk) .none .none)]) .nil nn tt om xi ps) ([0]) (.ok (.ok (.ret (.str ⟨⟨[101,102,103,104,105]⟩⟩ (tt 0))))) ([(q,slcO (.int 4 tk) .none .none)]) := by trivial
theorem sgB5 (w:World) ( t q tk tk2:Nat) (nn tt om xi ps):Ends (go w 60 (Sem.call (.call (.builtin "str.__getitem__") ⟨[.str ⟨⟨abc⟩⟩ t,.ref q],[]⟩) none false [] Sem.pure) [0,1,1,1,1] ([(q,slcO (.int 5 tk) .none .none)]) .nil nn tt om xi ps) ([0]) (.ok (.ok (.ret (.str ⟨⟨[102,103,104,105]⟩⟩ (tt 0))))) ([(q,slcO (.int 5 tk) .none .none)]) := by trivial
theorem sgB6 (w:World) ( t q tk tk2:Nat) (nn tt om xi ps):Ends (go w 60 (Sem.call (.call (.builtin "str.__getitem__") ⟨[.str ⟨⟨abc⟩⟩ t,.ref q],[]⟩) none false [] Sem.pure) [0,1,1,1,1] ([(q,slcO (.int 6 tk) .none .none)]) .nil nn tt om xi ps) ([0]) (.ok (.ok (.ret (.str ⟨⟨[103,104,105]⟩⟩ (tt 0))))) ([(q,slcO (.int 6 tk) .none .none)]) := by trivial
theorem sgB7 (w:World) ( t q tk tk2:Nat) (nn tt om xi ps):Ends (go w 60 (Sem.call (.call (.builtin "str.__getitem__") ⟨[.str ⟨⟨abc⟩⟩ t,.ref q],[]⟩) none false [] Sem.pure) [0,1,1,1,1] ([(q,slcO (.int 7 tk) .none .none)]) .nil nn tt om xi ps) ([0]) (.ok (.ok (.ret (.str ⟨⟨[104,105]⟩⟩ (tt 0))))) ([(q,slcO (.int 7 tk) .none .none)]) := by trivial
theorem sgB8 (w:World) ( t q tk tk2:Nat) (nn tt om xi ps):Ends (go w 60 (Sem.call (.call (.builtin "str.__getitem__") ⟨[.str ⟨⟨abc⟩⟩ t,.ref q],[]⟩) none false [] Sem.pure) [0,1,1,1,1] ([(q,slcO (.int 8 tk) .none .none)]) .nil nn tt om xi ps) ([0]) (.ok (.ok (.ret (.str ⟨⟨[105]⟩⟩ (tt 0))))) ([(q,slcO (.int 8 tk) .none .none)]) := by trivial
theorem sgB9 (w:World) ( t q tk tk2:Nat) (nn tt om xi ps):Ends (go w 60 (Sem.call (.call (.builtin "str.__getitem__") ⟨[.str ⟨⟨abc⟩⟩ t,.ref q],[]⟩) none false [] Sem.pure) [0,1,1,1,1] ([(q,slcO (.int 9 tk) .none .none)]) .nil nn tt om xi ps) ([0]) (.ok (.ok (.ret (.str ⟨⟨[]⟩⟩ (tt 0))))) ([(q,slcO (.int 9 tk) .none .none)]) := by trivial
theorem sgC0 (w:World) ( t q tk tk2:Nat) (nn tt om xi ps):Ends (go w 60 (Sem.call (.call (.builtin "str.__getitem__") ⟨[.str ⟨⟨[]⟩⟩ t,.ref q],[]⟩) none false [] Sem.pure) [0,1,1,1,1] ([(q,slcO .none .none (.int (-1) tk))]) .nil nn tt om xi ps) ([0]) (.ok (.ok (.ret (.str ⟨⟨[]⟩⟩ (tt 0))))) ([(q,slcO .none .none (.int (-1) tk))]) := by trivial
theorem sgC1 (w:World) (c0 t q tk tk2:Nat) (nn tt om xi ps):Ends (go w 60 (Sem.call (.call (.builtin "str.__getitem__") ⟨[.str ⟨⟨[c0]⟩⟩ t,.ref q],[]⟩) none false [] Sem.pure) [0,1,1,1,1] ([(q,slcO .none .none (.int (-1) tk))]) .nil nn tt om xi ps) ([0]) (.ok (.ok (.ret (.str ⟨⟨[c0]⟩⟩ (tt 0))))) ([(q,slcO .none .none (.int (-1) tk))]) := by trivial
theorem sgC2 (w:World) (c0 c1 t q tk tk2:Nat) (nn tt om xi ps):Ends (go w 60 (Sem.call (.call (.builtin "str.__getitem__") ⟨[.str ⟨⟨[c0,c1]⟩⟩ t,.ref q],[]⟩) none false [] Sem.pure) [0,1,1,1,1] ([(q,slcO .none .none (.int (-1) tk))]) .nil nn tt om xi ps) ([0]) (.ok (.ok (.ret (.str ⟨⟨[c1,c0]⟩⟩ (tt 0))))) ([(q,slcO .none .none (.int (-1) tk))]) := by trivial
theorem sgC3 (w:World) (c0 c1 c2 t q tk tk2:Nat) (nn tt om xi ps):Ends (go w 60 (Sem.call (.call (.builtin "str.__getitem__") ⟨[.str ⟨⟨[c0,c1,c2]⟩⟩ t,.ref q],[]⟩) none false [] Sem.pure) [0,1,1,1,1] ([(q,slcO .none .none (.int (-1) tk))]) .nil nn tt om xi ps) ([0]) (.ok (.ok (.ret (.str ⟨⟨[c2,c1,c0]⟩⟩ (tt 0))))) ([(q,slcO .none .none (.int (-1) tk))]) := by trivial
theorem sgC4 (w:World) (c0 c1 c2 c3 t q tk tk2:Nat) (nn tt om xi ps):Ends (go w 60 (Sem.call (.call (.builtin "str.__getitem__") ⟨[.str ⟨⟨[c0,c1,c2,c3]⟩⟩ t,.ref q],[]⟩) none false [] Sem.pure) [0,1,1,1,1] ([(q,slcO .none .none (.int (-1) tk))]) .nil nn tt om xi ps) ([0]) (.ok (.ok (.ret (.str ⟨⟨[c3,c2,c1,c0]⟩⟩ (tt 0))))) ([(q,slcO .none .none (.int (-1) tk))]) := by trivial
theorem sgC5 (w:World) (c0 c1 c2 c3 c4 t q tk tk2:Nat) (nn tt om xi ps):Ends (go w 60 (Sem.call (.call (.builtin "str.__getitem__") ⟨[.str ⟨⟨[c0,c1,c2,c3,c4]⟩⟩ t,.ref q],[]⟩) none false [] Sem.pure) [0,1,1,1,1] ([(q,slcO .none .none (.int (-1) tk))]) .nil nn tt om xi ps) ([0]) (.ok (.ok (.ret (.str ⟨⟨[c4,c3,c2,c1,c0]⟩⟩ (tt 0))))) ([(q,slcO .none .none (.int (-1) tk))]) := by trivial
theorem sgC6 (w:World) (c0 c1 c2 c3 c4 c5 t q tk tk2:Nat) (nn tt om xi ps):Ends (go w 60 (Sem.call (.call (.builtin "str.__getitem__") ⟨[.str ⟨⟨[c0,c1,c2,c3,c4,c5]⟩⟩ t,.ref q],[]⟩) none false [] Sem.pure) [0,1,1,1,1] ([(q,slcO .none .none (.int (-1) tk))]) .nil nn tt om xi ps) ([0]) (.ok (.ok (.ret (.str ⟨⟨[c5,c4,c3,c2,c1,c0]⟩⟩ (tt 0))))) ([(q,slcO .none .none (.int (-1) tk))]) := by trivial
theorem sgC7 (w:World) (c0 c1 c2 c3 c4 c5 c6 t q tk tk2:Nat) (nn tt om xi ps):Ends (go w 60 (Sem.call (.call (.builtin "str.__getitem__") ⟨[.str ⟨⟨[c0,c1,c2,c3,c4,c5,c6]⟩⟩ t,.ref q],[]⟩) none false [] Sem.pure) [0,1,1,1,1] ([(q,slcO .none .none (.int (-1) tk))]) .nil nn tt om xi ps) ([0]) (.ok (.ok (.ret (.str ⟨⟨[c6,c5,c4,c3,c2,c1,c0]⟩⟩ (tt 0))))) ([(q,slcO .none .none (.int (-1) tk))]) := by trivial
theorem sgC8 (w:World) (c0 c1 c2 c3 c4 c5 c6 c7 t q tk tk2:Nat) (nn tt om xi ps):Ends (go w 60 (Sem.call (.call (.builtin "str.__getitem__") ⟨[.str ⟨⟨[c0,c1,c2,c3,c4,c5,c6,c7]⟩⟩ t,.ref q],[]⟩) none false [] Sem.pure) [0,1,1,1,1] ([(q,slcO .none .none (.int (-1) tk))]) .nil nn tt om xi ps) ([0]) (.ok (.ok (.ret (.str ⟨⟨[c7,c6,c5,c4,c3,c2,c1,c0]⟩⟩ (tt 0))))) ([(q,slcO .none .none (.int (-1) tk))]) := by trivial
theorem sgC9 (w:World) (c0 c1 c2 c3 c4 c5 c6 c7 c8 t q tk tk2:Nat) (nn tt om xi ps):Ends (go w 60 (Sem.call (.call (.builtin "str.__getitem__") ⟨[.str ⟨⟨[c0,c1,c2,c3,c4,c5,c6,c7,c8]⟩⟩ t,.ref q],[]⟩) none false [] Sem.pure) [0,1,1,1,1] ([(q,slcO .none .none (.int (-1) tk))]) .nil nn tt om xi ps) ([0]) (.ok (.ok (.ret (.str ⟨⟨[c8,c7,c6,c5,c4,c3,c2,c1,c0]⟩⟩ (tt 0))))) ([(q,slcO .none .none (.int (-1) tk))]) := by trivial
noncomputable abbrev fe (H : Nat → Int) (T : Nat → Nat) (i : Nat) (x : Str) (v : Value) : DictEntry := en (H i) x (T i) v
noncomputable def fT : Stmt → Expr | .For t _ _ _ _ => t | _ => .Constant .none 0 ⟨0,0,0,0⟩
noncomputable def fI : Stmt → Expr | .For _ i _ _ _ => i | _ => .Constant .none 0 ⟨0,0,0,0⟩
noncomputable def fB : Stmt → List Stmt | .For _ _ b _ _ => b | _ => []
noncomputable def fO : Stmt → List Stmt | .For _ _ _ o _ => o | _ => []
noncomputable def fP : Stmt → Pos | .For _ _ _ _ p => p | _ => ⟨0,0,0,0⟩
noncomputable def itT (st : Stmt) (env : Env) : Sem Value := do { standAt (fP st); let y ← eval (fI st) env; let x ← foldedSetIterable (fI st) env y; standAt (fI st).pos; holding [x] (pyIter x) }
noncomputable abbrev endO (i : Nat) : Obj := ⟨.type "str_ascii_iterator",none,.fields #[.none,.int (Int.ofNat i) 0],#[]⟩
theorem se0 (w:World) ( it t:Nat) (nn tt om xi ps):Ends (go w 60 (Sem.call (.call (.builtin "str_ascii_iterator.__next__") ⟨[.ref it],[]⟩) none false [] Sem.pure) [0,1,1,1,1,1] ([(it,iterO [] t 0)]) .nil nn tt om xi ps) ([0,1,2]) (.ok (.error (.ref (nn 0+1)))) ([(it,endO 0),(nn 0,tupO []),(nn 0+1,⟨.type "StopIteration",none,.fields #[.ref (nn 0),.none,.none,.none,.bool false,.none],#[]⟩)]) := by trivial
theorem se1 (w:World) (c0 it t:Nat) (nn tt om xi ps):Ends (go w 60 (Sem.call (.call (.builtin "str_ascii_iterator.__next__") ⟨[.ref it],[]⟩) none false [] Sem.pure) [0,1,1,1,1,1] ([(it,iterO [c0] t 1)]) .nil nn tt om xi ps) ([0,1,2]) (.ok (.error (.ref (nn 0+1)))) ([(it,endO 1),(nn 0,tupO []),(nn 0+1,⟨.type "StopIteration",none,.fields #[.ref (nn 0),.none,.none,.none,.bool false,.none],#[]⟩)]) := by trivial
theorem se2 (w:World) (c0 c1 it t:Nat) (nn tt om xi ps):Ends (go w 60 (Sem.call (.call (.builtin "str_ascii_iterator.__next__") ⟨[.ref it],[]⟩) none false [] Sem.pure) [0,1,1,1,1,1] ([(it,iterO [c0,c1] t 2)]) .nil nn tt om xi ps) ([0,1,2]) (.ok (.error (.ref (nn 0+1)))) ([(it,endO 2),(nn 0,tupO []),(nn 0+1,⟨.type "StopIteration",none,.fields #[.ref (nn 0),.none,.none,.none,.bool false,.none],#[]⟩)]) := by trivial
theorem se3 (w:World) (c0 c1 c2 it t:Nat) (nn tt om xi ps):Ends (go w 60 (Sem.call (.call (.builtin "str_ascii_iterator.__next__") ⟨[.ref it],[]⟩) none false [] Sem.pure) [0,1,1,1,1,1] ([(it,iterO [c0,c1,c2] t 3)]) .nil nn tt om xi ps) ([0,1,2]) (.ok (.error (.ref (nn 0+1)))) ([(it,endO 3),(nn 0,tupO []),(nn 0+1,⟨.type "StopIteration",none,.fields #[.ref (nn 0),.none,.none,.none,.bool false,.none],#[]⟩)]) := by trivial
theorem se4 (w:World) (c0 c1 c2 c3 it t:Nat) (nn tt om xi ps):Ends (go w 60 (Sem.call (.call (.builtin "str_ascii_iterator.__next__") ⟨[.ref it],[]⟩) none false [] Sem.pure) [0,1,1,1,1,1] ([(it,iterO [c0,c1,c2,c3] t 4)]) .nil nn tt om xi ps) ([0,1,2]) (.ok (.error (.ref (nn 0+1)))) ([(it,endO 4),(nn 0,tupO []),(nn 0+1,⟨.type "StopIteration",none,.fields #[.ref (nn 0),.none,.none,.none,.bool false,.none],#[]⟩)]) := by trivial
theorem se5 (w:World) (c0 c1 c2 c3 c4 it t:Nat) (nn tt om xi ps):Ends (go w 60 (Sem.call (.call (.builtin "str_ascii_iterator.__next__") ⟨[.ref it],[]⟩) none false [] Sem.pure) [0,1,1,1,1,1] ([(it,iterO [c0,c1,c2,c3,c4] t 5)]) .nil nn tt om xi ps) ([0,1,2]) (.ok (.error (.ref (nn 0+1)))) ([(it,endO 5),(nn 0,tupO []),(nn 0+1,⟨.type "StopIteration",none,.fields #[.ref (nn 0),.none,.none,.none,.bool false,.none],#[]⟩)]) := by trivial
theorem se6 (w:World) (c0 c1 c2 c3 c4 c5 it t:Nat) (nn tt om xi ps):Ends (go w 60 (Sem.call (.call (.builtin "str_ascii_iterator.__next__") ⟨[.ref it],[]⟩) none false [] Sem.pure) [0,1,1,1,1,1] ([(it,iterO [c0,c1,c2,c3,c4,c5] t 6)]) .nil nn tt om xi ps) ([0,1,2]) (.ok (.error (.ref (nn 0+1)))) ([(it,endO 6),(nn 0,tupO []),(nn 0+1,⟨.type "StopIteration",none,.fields #[.ref (nn 0),.none,.none,.none,.bool false,.none],#[]⟩)]) := by trivial
theorem se7 (w:World) (c0 c1 c2 c3 c4 c5 c6 it t:Nat) (nn tt om xi ps):Ends (go w 60 (Sem.call (.call (.builtin "str_ascii_iterator.__next__") ⟨[.ref it],[]⟩) none false [] Sem.pure) [0,1,1,1,1,1] ([(it,iterO [c0,c1,c2,c3,c4,c5,c6] t 7)]) .nil nn tt om xi ps) ([0,1,2]) (.ok (.error (.ref (nn 0+1)))) ([(it,endO 7),(nn 0,tupO []),(nn 0+1,⟨.type "StopIteration",none,.fields #[.ref (nn 0),.none,.none,.none,.bool false,.none],#[]⟩)]) := by trivial
theorem se8 (w:World) (c0 c1 c2 c3 c4 c5 c6 c7 it t:Nat) (nn tt om xi ps):Ends (go w 60 (Sem.call (.call (.builtin "str_ascii_iterator.__next__") ⟨[.ref it],[]⟩) none false [] Sem.pure) [0,1,1,1,1,1] ([(it,iterO [c0,c1,c2,c3,c4,c5,c6,c7] t 8)]) .nil nn tt om xi ps) ([0,1,2]) (.ok (.error (.ref (nn 0+1)))) ([(it,endO 8),(nn 0,tupO []),(nn 0+1,⟨.type "StopIteration",none,.fields #[.ref (nn 0),.none,.none,.none,.bool false,.none],#[]⟩)]) := by trivial
theorem se9 (w:World) (c0 c1 c2 c3 c4 c5 c6 c7 c8 it t:Nat) (nn tt om xi ps):Ends (go w 60 (Sem.call (.call (.builtin "str_ascii_iterator.__next__") ⟨[.ref it],[]⟩) none false [] Sem.pure) [0,1,1,1,1,1] ([(it,iterO [c0,c1,c2,c3,c4,c5,c6,c7,c8] t 9)]) .nil nn tt om xi ps) ([0,1,2]) (.ok (.error (.ref (nn 0+1)))) ([(it,endO 9),(nn 0,tupO []),(nn 0+1,⟨.type "StopIteration",none,.fields #[.ref (nn 0),.none,.none,.none,.bool false,.none],#[]⟩)]) := by trivial
noncomputable def sgI (jq q : Nat) (s : List Nat) (t : Tok) (a b c : Value) (r : List Nat) : Inst := ⟨.call (.builtin "str.__getitem__") ⟨[.str ⟨⟨s⟩⟩ t,.ref q],[]⟩,[(jq,q,slcO a b c)],fun ω _ => .ok (.ret (.str ⟨⟨r⟩⟩ (ω 0))),fun _ _ => [slcO a b c],fun _ _ => []⟩
noncomputable def sendI (jt it : Nat) (s : List Nat) (t : Tok) (i : Nat) : Inst := ⟨.call (.builtin "str_ascii_iterator.__next__") ⟨[.ref it],[]⟩,[(jt,it,iterO s t i)],fun ω _ => .error (.ref (ω 1)),fun _ _ => [endO i],fun ω _ => [(ω 0,tupO []),(ω 1,⟨.type "StopIteration",none,.fields #[.ref (ω 0),.none,.none,.none,.bool false,.none],#[]⟩)]⟩
section
variable {w : World} {C : Around → Prop} (hh : ∀ A,C A → A.handled = none)
include hh
theorem sgA_ok {jq q t tk : Nat} {k : Nat} (hk : k ≤ 9) : IOk theP w (MyK w.params) C (sgI jq q abc t .none (.int (Int.ofNat k) tk) .none (abc.take k)) := by
  rcases k with _ | _ | _ | _ | _ | _ | _ | _ | _ | _ | k
  · exact segI (I := sgI jq q abc t .none (.int (Int.ofNat 0) tk) .none (abc.take 0)) (sgA0 w t q tk 0) hh noIns fun nn tt om xi => ⟨fun _ => tt 0,fun _ => #[],rfl,rfl,rfl⟩
  · exact segI (I := sgI jq q abc t .none (.int (Int.ofNat 1) tk) .none (abc.take 1)) (sgA1 w t q tk 0) hh noIns fun nn tt om xi => ⟨fun _ => tt 0,fun _ => #[],rfl,rfl,rfl⟩
  · exact segI (I := sgI jq q abc t .none (.int (Int.ofNat 2) tk) .none (abc.take 2)) (sgA2 w t q tk 0) hh noIns fun nn tt om xi => ⟨fun _ => tt 0,fun _ => #[],rfl,rfl,rfl⟩
  · exact segI (I := sgI jq q abc t .none (.int (Int.ofNat 3) tk) .none (abc.take 3)) (sgA3 w t q tk 0) hh noIns fun nn tt om xi => ⟨fun _ => tt 0,fun _ => #[],rfl,rfl,rfl⟩
  · exact segI (I := sgI jq q abc t .none (.int (Int.ofNat 4) tk) .none (abc.take 4)) (sgA4 w t q tk 0) hh noIns fun nn tt om xi => ⟨fun _ => tt 0,fun _ => #[],rfl,rfl,rfl⟩
  · exact segI (I := sgI jq q abc t .none (.int (Int.ofNat 5) tk) .none (abc.take 5)) (sgA5 w t q tk 0) hh noIns fun nn tt om xi => ⟨fun _ => tt 0,fun _ => #[],rfl,rfl,rfl⟩
  · exact segI (I := sgI jq q abc t .none (.int (Int.ofNat 6) tk) .none (abc.take 6)) (sgA6 w t q tk 0) hh noIns fun nn tt om xi => ⟨fun _ => tt 0,fun _ => #[],rfl,rfl,rfl⟩
  · exact segI (I := sgI jq q abc t .none (.int (Int.ofNat 7) tk) .none (abc.take 7)) (sgA7 w t q tk 0) hh noIns fun nn tt om xi => ⟨fun _ => tt 0,fun _ => #[],rfl,rfl,rfl⟩
  · exact segI (I := sgI jq q abc t .none (.int (Int.ofNat 8) tk) .none (abc.take 8)) (sgA8 w t q tk 0) hh noIns fun nn tt om xi => ⟨fun _ => tt 0,fun _ => #[],rfl,rfl,rfl⟩
  · exact segI (I := sgI jq q abc t .none (.int (Int.ofNat 9) tk) .none (abc.take 9)) (sgA9 w t q tk 0) hh noIns fun nn tt om xi => ⟨fun _ => t,fun _ => #[],rfl,rfl,rfl⟩
  · omega
theorem sgB_ok {jq q t tk : Nat} {k : Nat} (hk : k ≤ 9) : IOk theP w (MyK w.params) C (sgI jq q abc t (.int (Int.ofNat k) tk) .none .none (abc.drop k)) := by
  rcases k with _ | _ | _ | _ | _ | _ | _ | _ | _ | _ | k
  · exact segI (I := sgI jq q abc t (.int (Int.ofNat 0) tk) .none .none (abc.drop 0)) (sgB0 w t q tk 0) hh noIns fun nn tt om xi => ⟨fun _ => t,fun _ => #[],rfl,rfl,rfl⟩
  · exact segI (I := sgI jq q abc t (.int (Int.ofNat 1) tk) .none .none (abc.drop 1)) (sgB1 w t q tk 0) hh noIns fun nn tt om xi => ⟨fun _ => tt 0,fun _ => #[],rfl,rfl,rfl⟩
  · exact segI (I := sgI jq q abc t (.int (Int.ofNat 2) tk) .none .none (abc.drop 2)) (sgB2 w t q tk 0) hh noIns fun nn tt om xi => ⟨fun _ => tt 0,fun _ => #[],rfl,rfl,rfl⟩
  · exact segI (I := sgI jq q abc t (.int (Int.ofNat 3) tk) .none .none (abc.drop 3)) (sgB3 w t q tk 0) hh noIns fun nn tt om xi => ⟨fun _ => tt 0,fun _ => #[],rfl,rfl,rfl⟩
  · exact segI (I := sgI jq q abc t (.int (Int.ofNat 4) tk) .none .none (abc.drop 4)) (sgB4 w t q tk 0) hh noIns fun nn tt om xi => ⟨fun _ => tt 0,fun _ => #[],rfl,rfl,rfl⟩
  · exact segI (I := sgI jq q abc t (.int (Int.ofNat 5) tk) .none .none (abc.drop 5)) (sgB5 w t q tk 0) hh noIns fun nn tt om xi => ⟨fun _ => tt 0,fun _ => #[],rfl,rfl,rfl⟩
  · exact segI (I := sgI jq q abc t (.int (Int.ofNat 6) tk) .none .none (abc.drop 6)) (sgB6 w t q tk 0) hh noIns fun nn tt om xi => ⟨fun _ => tt 0,fun _ => #[],rfl,rfl,rfl⟩
  · exact segI (I := sgI jq q abc t (.int (Int.ofNat 7) tk) .none .none (abc.drop 7)) (sgB7 w t q tk 0) hh noIns fun nn tt om xi => ⟨fun _ => tt 0,fun _ => #[],rfl,rfl,rfl⟩
  · exact segI (I := sgI jq q abc t (.int (Int.ofNat 8) tk) .none .none (abc.drop 8)) (sgB8 w t q tk 0) hh noIns fun nn tt om xi => ⟨fun _ => tt 0,fun _ => #[],rfl,rfl,rfl⟩
  · exact segI (I := sgI jq q abc t (.int (Int.ofNat 9) tk) .none .none (abc.drop 9)) (sgB9 w t q tk 0) hh noIns fun nn tt om xi => ⟨fun _ => tt 0,fun _ => #[],rfl,rfl,rfl⟩
  · omega
theorem sgC_ok {jq q t tk : Nat} {s : List Nat} (hs : s.length ≤ 9) : IOk theP w (MyK w.params) C (sgI jq q s t .none .none (.int (-1) tk) s.reverse) := by
  rcases s with _ | ⟨c0,_ | ⟨c1,_ | ⟨c2,_ | ⟨c3,_ | ⟨c4,_ | ⟨c5,_ | ⟨c6,_ | ⟨c7,_ | ⟨c8,_ | ⟨c9,l⟩⟩⟩⟩⟩⟩⟩⟩⟩⟩
  · exact segI (I := sgI jq q [] t .none .none (.int (-1) tk) []) (sgC0 w  t q tk 0) hh noIns fun nn tt om xi => ⟨tt,fun _ => #[],rfl,rfl,rfl⟩
  · exact segI (I := sgI jq q [c0] t .none .none (.int (-1) tk) [c0]) (sgC1 w c0 t q tk 0) hh noIns fun nn tt om xi => ⟨tt,fun _ => #[],rfl,rfl,rfl⟩
  · exact segI (I := sgI jq q [c0,c1] t .none .none (.int (-1) tk) [c1,c0]) (sgC2 w c0 c1 t q tk 0) hh noIns fun nn tt om xi => ⟨tt,fun _ => #[],rfl,rfl,rfl⟩
  · exact segI (I := sgI jq q [c0,c1,c2] t .none .none (.int (-1) tk) [c2,c1,c0]) (sgC3 w c0 c1 c2 t q tk 0) hh noIns fun nn tt om xi => ⟨tt,fun _ => #[],rfl,rfl,rfl⟩
  · exact segI (I := sgI jq q [c0,c1,c2,c3] t .none .none (.int (-1) tk) [c3,c2,c1,c0]) (sgC4 w c0 c1 c2 c3 t q tk 0) hh noIns fun nn tt om xi => ⟨tt,fun _ => #[],rfl,rfl,rfl⟩
  · exact segI (I := sgI jq q [c0,c1,c2,c3,c4] t .none .none (.int (-1) tk) [c4,c3,c2,c1,c0]) (sgC5 w c0 c1 c2 c3 c4 t q tk 0) hh noIns fun nn tt om xi => ⟨tt,fun _ => #[],rfl,rfl,rfl⟩
  · exact segI (I := sgI jq q [c0,c1,c2,c3,c4,c5] t .none .none (.int (-1) tk) [c5,c4,c3,c2,c1,c0]) (sgC6 w c0 c1 c2 c3 c4 c5 t q tk 0) hh noIns fun nn tt om xi => ⟨tt,fun _ => #[],rfl,rfl,rfl⟩
  · exact segI (I := sgI jq q [c0,c1,c2,c3,c4,c5,c6] t .none .none (.int (-1) tk) [c6,c5,c4,c3,c2,c1,c0]) (sgC7 w c0 c1 c2 c3 c4 c5 c6 t q tk 0) hh noIns fun nn tt om xi => ⟨tt,fun _ => #[],rfl,rfl,rfl⟩
  · exact segI (I := sgI jq q [c0,c1,c2,c3,c4,c5,c6,c7] t .none .none (.int (-1) tk) [c7,c6,c5,c4,c3,c2,c1,c0]) (sgC8 w c0 c1 c2 c3 c4 c5 c6 c7 t q tk 0) hh noIns fun nn tt om xi => ⟨tt,fun _ => #[],rfl,rfl,rfl⟩
  · exact segI (I := sgI jq q [c0,c1,c2,c3,c4,c5,c6,c7,c8] t .none .none (.int (-1) tk) [c8,c7,c6,c5,c4,c3,c2,c1,c0]) (sgC9 w c0 c1 c2 c3 c4 c5 c6 c7 c8 t q tk 0) hh noIns fun nn tt om xi => ⟨tt,fun _ => #[],rfl,rfl,rfl⟩
  · simp only [List.length_cons] at hs; omega
theorem send_ok {jt it t i : Nat} {s : List Nat} (hs : s.length = i) (hi : i ≤ 9) : IOk theP w (MyK w.params) C (sendI jt it s t i) := by
  subst hs
  rcases s with _ | ⟨c0,_ | ⟨c1,_ | ⟨c2,_ | ⟨c3,_ | ⟨c4,_ | ⟨c5,_ | ⟨c6,_ | ⟨c7,_ | ⟨c8,_ | ⟨c9,l⟩⟩⟩⟩⟩⟩⟩⟩⟩⟩
  · exact segI (I := sendI jt it [] t 0) (se0 w  it t) hh noIns fun nn tt om xi => ⟨fun i => match i with | 0 => nn 0 | _ => nn 0 + 1,fun _ => #[],rfl,rfl,rfl⟩
  · exact segI (I := sendI jt it [c0] t 1) (se1 w c0 it t) hh noIns fun nn tt om xi => ⟨fun i => match i with | 0 => nn 0 | _ => nn 0 + 1,fun _ => #[],rfl,rfl,rfl⟩
  · exact segI (I := sendI jt it [c0,c1] t 2) (se2 w c0 c1 it t) hh noIns fun nn tt om xi => ⟨fun i => match i with | 0 => nn 0 | _ => nn 0 + 1,fun _ => #[],rfl,rfl,rfl⟩
  · exact segI (I := sendI jt it [c0,c1,c2] t 3) (se3 w c0 c1 c2 it t) hh noIns fun nn tt om xi => ⟨fun i => match i with | 0 => nn 0 | _ => nn 0 + 1,fun _ => #[],rfl,rfl,rfl⟩
  · exact segI (I := sendI jt it [c0,c1,c2,c3] t 4) (se4 w c0 c1 c2 c3 it t) hh noIns fun nn tt om xi => ⟨fun i => match i with | 0 => nn 0 | _ => nn 0 + 1,fun _ => #[],rfl,rfl,rfl⟩
  · exact segI (I := sendI jt it [c0,c1,c2,c3,c4] t 5) (se5 w c0 c1 c2 c3 c4 it t) hh noIns fun nn tt om xi => ⟨fun i => match i with | 0 => nn 0 | _ => nn 0 + 1,fun _ => #[],rfl,rfl,rfl⟩
  · exact segI (I := sendI jt it [c0,c1,c2,c3,c4,c5] t 6) (se6 w c0 c1 c2 c3 c4 c5 it t) hh noIns fun nn tt om xi => ⟨fun i => match i with | 0 => nn 0 | _ => nn 0 + 1,fun _ => #[],rfl,rfl,rfl⟩
  · exact segI (I := sendI jt it [c0,c1,c2,c3,c4,c5,c6] t 7) (se7 w c0 c1 c2 c3 c4 c5 c6 it t) hh noIns fun nn tt om xi => ⟨fun i => match i with | 0 => nn 0 | _ => nn 0 + 1,fun _ => #[],rfl,rfl,rfl⟩
  · exact segI (I := sendI jt it [c0,c1,c2,c3,c4,c5,c6,c7] t 8) (se8 w c0 c1 c2 c3 c4 c5 c6 c7 it t) hh noIns fun nn tt om xi => ⟨fun i => match i with | 0 => nn 0 | _ => nn 0 + 1,fun _ => #[],rfl,rfl,rfl⟩
  · exact segI (I := sendI jt it [c0,c1,c2,c3,c4,c5,c6,c7,c8] t 9) (se9 w c0 c1 c2 c3 c4 c5 c6 c7 c8 it t) hh noIns fun nn tt om xi => ⟨fun i => match i with | 0 => nn 0 | _ => nn 0 + 1,fun _ => #[],rfl,rfl,rfl⟩
  · simp only [List.length_cons] at hi; omega
end
theorem n178 (w:World) (k tk:Nat) (nn tt om xi ps):Ends (go w 60 (nfe w.params 178 [("count",.int (Int.ofNat k) tk)]) [1,1] ([]) .nil nn tt om xi ps) ([0]) (.ok (envAt w.params 178 (nn 0))) ([(nn 0,frO [en (hs w.params "count") "count" (tt 0) (.int (Int.ofNat k) tk)] 1 #[])]) := by trivial
theorem ps0 (w:World) (L k tk:Nat) (H:NI) (T:NN) (nn tt om xi ps):Ends (go w 100 (exec (nthS w.params 178 0) (envAt w.params 178 L)) [0,0,0,1,1,1] ([(L,frO [fe H T 0 "count" (.int (Int.ofNat k) tk)] 1 #[])]) (IL fun nn tt om xi=>[newI w]) nn tt om xi ps) ([0,1,2]) (.ok .next) ([(L,frO [fe H T 0 "count" (.int (Int.ofNat k) tk),en (hs w.params "dealt") "dealt" (tt 1) (.ref (om 0 0))] 2 #[]),(om 0 1,dicO (hs w.params "_initial_size") (om 0 2)),(om 0 0,accO (om 0 1) #[] 0)]) := by trivial
theorem p1a (w:World) (x x2 dx n L it t i c0 d0 td k tk t5:Nat) (l:List Addr) (s:List Nat) (hh:Int) (H:NI) (T:NN) (sl:Slots) (nn tt om xi ps):Ends (go w 100 (den (loopC (nthS w.params 178 1) (.ref it) (envAt w.params 178 L))) [2,1,1,1,1,3,0,0,0,3,0,0,0,3,0,0,0,0,3,4,1,0,1] ([(L,frO [fe H T 0 "count" (.int (Int.ofNat k) tk),fe H T 1 "dealt" (.ref x)] 2 sl),(it,iterO s t i),(x,accR dx l n),(dx,dicO hh t5)]) (IL fun nn tt om xi=>[snextI 1 it s t i c0,pushI 2 3 x dx l n hh t5 (tt 1+1) (om 0 0) "" ⟨⟨[c0]⟩⟩]) nn tt om xi ps) ([0,1,2,3,4]) (.ok (.again (loopC (nthS w.params 178 1) (.ref it) (envAt w.params 178 L)))) ([(L,frO [fe H T 0 "count" (.int (Int.ofNat k) tk),fe H T 1 "dealt" (.ref x),en (hs w.params "letter") "letter" (tt 1) (.str ⟨⟨[c0]⟩⟩ (om 0 0))] 3 sl),(it,iterO s t (i+1)),(x,accR dx (l++[om 1 0]) (n+1)),(dx,dicO hh t5),(om 1 0,tupO [.str "" (tt 1+1),.str ⟨⟨[c0]⟩⟩ (om 0 0)])]) := by trivial
theorem p1b (w:World) (x x2 dx n L it t i c0 d0 td k tk t5:Nat) (l:List Addr) (s:List Nat) (hh:Int) (H:NI) (T:NN) (sl:Slots) (nn tt om xi ps):Ends (go w 100 (den (loopC (nthS w.params 178 1) (.ref it) (envAt w.params 178 L))) [2,1,1,1,1,3,0,0,0,3,0,0,0,3,0,0,0,0,3,4,1,0,1] ([(L,frO [fe H T 0 "count" (.int (Int.ofNat k) tk),fe H T 1 "dealt" (.ref x),fe H T 2 "letter" (.str ⟨⟨[d0]⟩⟩ td)] 3 sl),(it,iterO s t i),(x,accR dx l n),(dx,dicO hh t5)]) (IL fun nn tt om xi=>[snextI 1 it s t i c0,pushI 2 3 x dx l n hh t5 (tt 1+1) (om 0 0) "" ⟨⟨[c0]⟩⟩]) nn tt om xi ps) ([0,1,2,3,4]) (.ok (.again (loopC (nthS w.params 178 1) (.ref it) (envAt w.params 178 L)))) ([(L,frO [fe H T 0 "count" (.int (Int.ofNat k) tk),fe H T 1 "dealt" (.ref x),fe H T 2 "letter" (.str ⟨⟨[c0]⟩⟩ (om 0 0))] 3 sl),(it,iterO s t (i+1)),(x,accR dx (l++[om 1 0]) (n+1)),(dx,dicO hh t5),(om 1 0,tupO [.str "" (tt 1+1),.str ⟨⟨[c0]⟩⟩ (om 0 0)])]) := by trivial
theorem p2a (w:World) (x x2 dx n L it t i c0 d0 td k tk t5:Nat) (l:List Addr) (s:List Nat) (hh:Int) (H:NI) (T:NN) (sl:Slots) (nn tt om xi ps):Ends (go w 100 (den (loopC (nthS w.params 178 3) (.ref it) (envAt w.params 178 L))) [2,1,1,1,1,3,0,0,0,3,0,0,0,3,0,0,0,0,3,4,1,0,1] ([(L,frO [fe H T 0 "count" (.int (Int.ofNat k) tk),fe H T 1 "dealt" (.ref x),fe H T 2 "others" (.ref x2)] 3 sl),(it,iterO s t i),(x2,accR dx l n),(dx,dicO hh t5)]) (IL fun nn tt om xi=>[snextI 1 it s t i c0,pushI 2 3 x2 dx l n hh t5 (tt 1+1) (om 0 0) "" ⟨⟨[c0]⟩⟩]) nn tt om xi ps) ([0,1,2,3,4]) (.ok (.again (loopC (nthS w.params 178 3) (.ref it) (envAt w.params 178 L)))) ([(L,frO [fe H T 0 "count" (.int (Int.ofNat k) tk),fe H T 1 "dealt" (.ref x),fe H T 2 "others" (.ref x2),en (hs w.params "letter") "letter" (tt 1) (.str ⟨⟨[c0]⟩⟩ (om 0 0))] 4 sl),(it,iterO s t (i+1)),(x2,accR dx (l++[om 1 0]) (n+1)),(dx,dicO hh t5),(om 1 0,tupO [.str "" (tt 1+1),.str ⟨⟨[c0]⟩⟩ (om 0 0)])]) := by trivial
theorem p2b (w:World) (x x2 dx n L it t i c0 d0 td k tk t5:Nat) (l:List Addr) (s:List Nat) (hh:Int) (H:NI) (T:NN) (sl:Slots) (nn tt om xi ps):Ends (go w 100 (den (loopC (nthS w.params 178 3) (.ref it) (envAt w.params 178 L))) [2,1,1,1,1,3,0,0,0,3,0,0,0,3,0,0,0,0,3,4,1,0,1] ([(L,frO [fe H T 0 "count" (.int (Int.ofNat k) tk),fe H T 1 "dealt" (.ref x),fe H T 2 "others" (.ref x2),fe H T 3 "letter" (.str ⟨⟨[d0]⟩⟩ td)] 4 sl),(it,iterO s t i),(x2,accR dx l n),(dx,dicO hh t5)]) (IL fun nn tt om xi=>[snextI 1 it s t i c0,pushI 2 3 x2 dx l n hh t5 (tt 1+1) (om 0 0) "" ⟨⟨[c0]⟩⟩]) nn tt om xi ps) ([0,1,2,3,4]) (.ok (.again (loopC (nthS w.params 178 3) (.ref it) (envAt w.params 178 L)))) ([(L,frO [fe H T 0 "count" (.int (Int.ofNat k) tk),fe H T 1 "dealt" (.ref x),fe H T 2 "others" (.ref x2),fe H T 3 "letter" (.str ⟨⟨[c0]⟩⟩ (om 0 0))] 4 sl),(it,iterO s t (i+1)),(x2,accR dx (l++[om 1 0]) (n+1)),(dx,dicO hh t5),(om 1 0,tupO [.str "" (tt 1+1),.str ⟨⟨[c0]⟩⟩ (om 0 0)])]) := by trivial
theorem p2c (w:World) (x x2 dx n L it t i c0 d0 td k tk t5:Nat) (l:List Addr) (s:List Nat) (hh:Int) (H:NI) (T:NN) (sl:Slots) (nn tt om xi ps):Ends (go w 100 (den (loopC (nthS w.params 178 3) (.ref it) (envAt w.params 178 L))) [2,1,1,1,1,3,0,0,0,3,0,0,0,3,0,0,0,0,3,4,1,0,1] ([(L,frO [fe H T 0 "count" (.int (Int.ofNat k) tk),fe H T 1 "dealt" (.ref x),fe H T 2 "letter" (.str ⟨⟨[d0]⟩⟩ td),fe H T 3 "others" (.ref x2)] 4 sl),(it,iterO s t i),(x2,accR dx l n),(dx,dicO hh t5)]) (IL fun nn tt om xi=>[snextI 1 it s t i c0,pushI 2 3 x2 dx l n hh t5 (tt 1+1) (om 0 0) "" ⟨⟨[c0]⟩⟩]) nn tt om xi ps) ([0,1,2,3,4]) (.ok (.again (loopC (nthS w.params 178 3) (.ref it) (envAt w.params 178 L)))) ([(L,frO [fe H T 0 "count" (.int (Int.ofNat k) tk),fe H T 1 "dealt" (.ref x),fe H T 2 "letter" (.str ⟨⟨[c0]⟩⟩ (om 0 0)),fe H T 3 "others" (.ref x2)] 4 sl),(it,iterO s t (i+1)),(x2,accR dx (l++[om 1 0]) (n+1)),(dx,dicO hh t5),(om 1 0,tupO [.str "" (tt 1+1),.str ⟨⟨[c0]⟩⟩ (om 0 0)])]) := by trivial
theorem pe1 (w:World) (L k tk x:Nat) (r:List Nat) (H:NI) (T:NN) (b c:Bool) (nn tt om xi ps):Ends (go (wf w b c) 100 (itT (nthS (wf w b c).params 178 1) (envAt (wf w b c).params 178 L)) [1,1,1,3] ([(L,frO [fe H T 0 "count" (.int (Int.ofNat k) tk),fe H T 1 "dealt" (.ref x)] 2 #[])]) (IL fun nn tt om xi=>[sgI 1 (nn 0) abc (tt 0) .none (.int (Int.ofNat k) tk) .none r,siterI r (om 0 0)]) nn tt om xi ps) ([0,2]) (.ok (.ref (om 1 0))) ([(L,frO [fe H T 0 "count" (.int (Int.ofNat k) tk),fe H T 1 "dealt" (.ref x)] 2 #[]),(om 1 0,iterO r (om 0 0) 0)]) := by cases b <;> trivial
theorem ps2a (w:World) (L k tk x d0 td:Nat) (H:NI) (T:NN) (sl:Slots) (nn tt om xi ps):Ends (go w 100 (exec (nthS w.params 178 2) (envAt w.params 178 L)) [0,0,0,1,1,1] ([(L,frO [fe H T 0 "count" (.int (Int.ofNat k) tk),fe H T 1 "dealt" (.ref x)] 2 sl)]) (IL fun nn tt om xi=>[newI w]) nn tt om xi ps) ([0,1,2]) (.ok .next) ([(L,frO [fe H T 0 "count" (.int (Int.ofNat k) tk),fe H T 1 "dealt" (.ref x),en (hs w.params "others") "others" (tt 1) (.ref (om 0 0))] 3 sl),(om 0 1,dicO (hs w.params "_initial_size") (om 0 2)),(om 0 0,accO (om 0 1) #[] 0)]) := by trivial
theorem ps2b (w:World) (L k tk x d0 td:Nat) (H:NI) (T:NN) (sl:Slots) (nn tt om xi ps):Ends (go w 100 (exec (nthS w.params 178 2) (envAt w.params 178 L)) [0,0,0,1,1,1] ([(L,frO [fe H T 0 "count" (.int (Int.ofNat k) tk),fe H T 1 "dealt" (.ref x),fe H T 2 "letter" (.str ⟨⟨[d0]⟩⟩ td)] 3 sl)]) (IL fun nn tt om xi=>[newI w]) nn tt om xi ps) ([0,1,2]) (.ok .next) ([(L,frO [fe H T 0 "count" (.int (Int.ofNat k) tk),fe H T 1 "dealt" (.ref x),fe H T 2 "letter" (.str ⟨⟨[d0]⟩⟩ td),en (hs w.params "others") "others" (tt 1) (.ref (om 0 0))] 4 sl),(om 0 1,dicO (hs w.params "_initial_size") (om 0 2)),(om 0 0,accO (om 0 1) #[] 0)]) := by trivial
theorem pe3a (w:World) (L k tk x x2 d0 td:Nat) (r r2:List Nat) (H:NI) (T:NN) (sl:Slots) (b c:Bool) (nn tt om xi ps):Ends (go (wf w b c) 100 (itT (nthS (wf w b c).params 178 3) (envAt (wf w b c).params 178 L)) [1,1,0,1,1,4] ([(L,frO [fe H T 0 "count" (.int (Int.ofNat k) tk),fe H T 1 "dealt" (.ref x),fe H T 2 "others" (.ref x2)] 3 sl)]) (IL fun nn tt om xi=>[sgI 1 (nn 0) abc (tt 0) (.int (Int.ofNat k) tk) .none .none r,sgI 2 (nn 1) r (om 0 0) .none .none (.int (-1) (tt 1+1)) r2,siterI r2 (om 1 0)]) nn tt om xi ps) ([0,3]) (.ok (.ref (om 2 0))) ([(L,frO [fe H T 0 "count" (.int (Int.ofNat k) tk),fe H T 1 "dealt" (.ref x),fe H T 2 "others" (.ref x2)] 3 sl),(om 2 0,iterO r2 (om 1 0) 0)]) := by cases b <;> trivial
theorem pe3b (w:World) (L k tk x x2 d0 td:Nat) (r r2:List Nat) (H:NI) (T:NN) (sl:Slots) (b c:Bool) (nn tt om xi ps):Ends (go (wf w b c) 100 (itT (nthS (wf w b c).params 178 3) (envAt (wf w b c).params 178 L)) [1,1,0,1,1,4] ([(L,frO [fe H T 0 "count" (.int (Int.ofNat k) tk),fe H T 1 "dealt" (.ref x),fe H T 2 "letter" (.str ⟨⟨[d0]⟩⟩ td),fe H T 3 "others" (.ref x2)] 4 sl)]) (IL fun nn tt om xi=>[sgI 1 (nn 0) abc (tt 0) (.int (Int.ofNat k) tk) .none .none r,sgI 2 (nn 1) r (om 0 0) .none .none (.int (-1) (tt 1+1)) r2,siterI r2 (om 1 0)]) nn tt om xi ps) ([0,3]) (.ok (.ref (om 2 0))) ([(L,frO [fe H T 0 "count" (.int (Int.ofNat k) tk),fe H T 1 "dealt" (.ref x),fe H T 2 "letter" (.str ⟨⟨[d0]⟩⟩ td),fe H T 3 "others" (.ref x2)] 4 sl),(om 2 0,iterO r2 (om 1 0) 0)]) := by cases b <;> trivial
theorem px1a (w:World) (x x2 L it t i d0 td k tk:Nat) (s:List Nat) (H:NI) (T:NN) (sl:Slots) (nn tt om xi ps):Ends (go w 100 (den (loopC (nthS w.params 178 1) (.ref it) (envAt w.params 178 L))) [2,1,4] ([(L,frO [fe H T 0 "count" (.int (Int.ofNat k) tk),fe H T 1 "dealt" (.ref x)] 2 sl),(it,iterO s t i)]) (IL fun nn tt om xi=>[sendI 1 it s t i]) nn tt om xi ps) ([0]) (.ok (.again (.block [] (envAt w.params 178 L)))) ([(L,frO [fe H T 0 "count" (.int (Int.ofNat k) tk),fe H T 1 "dealt" (.ref x)] 2 sl)]) := by trivial
theorem px1b (w:World) (x x2 L it t i d0 td k tk:Nat) (s:List Nat) (H:NI) (T:NN) (sl:Slots) (nn tt om xi ps):Ends (go w 100 (den (loopC (nthS w.params 178 1) (.ref it) (envAt w.params 178 L))) [2,1,4] ([(L,frO [fe H T 0 "count" (.int (Int.ofNat k) tk),fe H T 1 "dealt" (.ref x),fe H T 2 "letter" (.str ⟨⟨[d0]⟩⟩ td)] 3 sl),(it,iterO s t i)]) (IL fun nn tt om xi=>[sendI 1 it s t i]) nn tt om xi ps) ([0]) (.ok (.again (.block [] (envAt w.params 178 L)))) ([(L,frO [fe H T 0 "count" (.int (Int.ofNat k) tk),fe H T 1 "dealt" (.ref x),fe H T 2 "letter" (.str ⟨⟨[d0]⟩⟩ td)] 3 sl)]) := by trivial
theorem px2a (w:World) (x x2 L it t i d0 td k tk:Nat) (s:List Nat) (H:NI) (T:NN) (sl:Slots) (nn tt om xi ps):Ends (go w 100 (den (loopC (nthS w.params 178 3) (.ref it) (envAt w.params 178 L))) [2,1,4] ([(L,frO [fe H T 0 "count" (.int (Int.ofNat k) tk),fe H T 1 "dealt" (.ref x),fe H T 2 "others" (.ref x2)] 3 sl),(it,iterO s t i)]) (IL fun nn tt om xi=>[sendI 1 it s t i]) nn tt om xi ps) ([0]) (.ok (.again (.block [] (envAt w.params 178 L)))) ([(L,frO [fe H T 0 "count" (.int (Int.ofNat k) tk),fe H T 1 "dealt" (.ref x),fe H T 2 "others" (.ref x2)] 3 sl)]) := by trivial
theorem px2b (w:World) (x x2 L it t i d0 td k tk:Nat) (s:List Nat) (H:NI) (T:NN) (sl:Slots) (nn tt om xi ps):Ends (go w 100 (den (loopC (nthS w.params 178 3) (.ref it) (envAt w.params 178 L))) [2,1,4] ([(L,frO [fe H T 0 "count" (.int (Int.ofNat k) tk),fe H T 1 "dealt" (.ref x),fe H T 2 "others" (.ref x2),fe H T 3 "letter" (.str ⟨⟨[d0]⟩⟩ td)] 4 sl),(it,iterO s t i)]) (IL fun nn tt om xi=>[sendI 1 it s t i]) nn tt om xi ps) ([0]) (.ok (.again (.block [] (envAt w.params 178 L)))) ([(L,frO [fe H T 0 "count" (.int (Int.ofNat k) tk),fe H T 1 "dealt" (.ref x),fe H T 2 "others" (.ref x2),fe H T 3 "letter" (.str ⟨⟨[d0]⟩⟩ td)] 4 sl)]) := by trivial
theorem px2c (w:World) (x x2 L it t i d0 td k tk:Nat) (s:List Nat) (H:NI) (T:NN) (sl:Slots) (nn tt om xi ps):Ends (go w 100 (den (loopC (nthS w.params 178 3) (.ref it) (envAt w.params 178 L))) [2,1,4] ([(L,frO [fe H T 0 "count" (.int (Int.ofNat k) tk),fe H T 1 "dealt" (.ref x),fe H T 2 "letter" (.str ⟨⟨[d0]⟩⟩ td),fe H T 3 "others" (.ref x2)] 4 sl),(it,iterO s t i)]) (IL fun nn tt om xi=>[sendI 1 it s t i]) nn tt om xi ps) ([0]) (.ok (.again (.block [] (envAt w.params 178 L)))) ([(L,frO [fe H T 0 "count" (.int (Int.ofNat k) tk),fe H T 1 "dealt" (.ref x),fe H T 2 "letter" (.str ⟨⟨[d0]⟩⟩ td),fe H T 3 "others" (.ref x2)] 4 sl)]) := by trivial
theorem pr4a (w:World) (x x2 L d0 td k tk:Nat) (H:NI) (T:NN) (sl:Slots) (nn tt om xi ps):Ends (go w 100 (exec (nthS w.params 178 4) (envAt w.params 178 L)) [1,1] ([(L,frO [fe H T 0 "count" (.int (Int.ofNat k) tk),fe H T 1 "dealt" (.ref x),fe H T 2 "others" (.ref x2)] 3 sl)]) .nil nn tt om xi ps) ([1]) (.ok (.ret (.ref (nn 0)))) ([(nn 0,tupO [.ref x,.ref x2])]) := by trivial
theorem pr4b (w:World) (x x2 L d0 td k tk:Nat) (H:NI) (T:NN) (sl:Slots) (nn tt om xi ps):Ends (go w 100 (exec (nthS w.params 178 4) (envAt w.params 178 L)) [1,1] ([(L,frO [fe H T 0 "count" (.int (Int.ofNat k) tk),fe H T 1 "dealt" (.ref x),fe H T 2 "others" (.ref x2),fe H T 3 "letter" (.str ⟨⟨[d0]⟩⟩ td)] 4 sl)]) .nil nn tt om xi ps) ([1]) (.ok (.ret (.ref (nn 0)))) ([(nn 0,tupO [.ref x,.ref x2])]) := by trivial
theorem pr4c (w:World) (x x2 L d0 td k tk:Nat) (H:NI) (T:NN) (sl:Slots) (nn tt om xi ps):Ends (go w 100 (exec (nthS w.params 178 4) (envAt w.params 178 L)) [1,1] ([(L,frO [fe H T 0 "count" (.int (Int.ofNat k) tk),fe H T 1 "dealt" (.ref x),fe H T 2 "letter" (.str ⟨⟨[d0]⟩⟩ td),fe H T 3 "others" (.ref x2)] 4 sl)]) .nil nn tt om xi ps) ([1]) (.ok (.ret (.ref (nn 0)))) ([(nn 0,tupO [.ref x,.ref x2])]) := by trivial
structure LT where
  a : Addr
  c : Nat
  t0 : Tok
  t1 : Tok
noncomputable abbrev tupL (q : LT) : Addr × Obj := (q.a,tupO [.str "" q.t0,.str ⟨⟨[q.c]⟩⟩ q.t1])
noncomputable abbrev tups (l : List LT) : Led := l.map tupL
theorem codeTurn {w : World} {A : Around} {c : Code} {R : Result → Shared → Prop} {s : Shared} (hc : samA c = true)
    (h : wpAny (MM w) A (den c) (fun fin s' => match fin with | .done f => R (.ok f) s' | .again c' => c'.quiet = true ∧ codeAny (MM w) A c' R s') (fun e s' => R (.error e) s') s) : codeAny (MM w) A c R s := by
  refine c_code (fun Γ p _ hΓ => ?_)
  rw [samA_under hc] at hΓ
  exact h Γ p hΓ
theorem codeBlk {w : World} {A : Around} {env : Env} {R : Result → Shared → Prop} {s : Shared} (h : R (.ok .next) s) : codeAny (MM w) A (.block [] env) R s := by
  exact codeAny_block (wpAny_execs_nil h)
noncomputable def frP (k tk x : Nat) (fr : Obj) : Prop := (∃ H T,fr = frO [fe H T 0 "count" (.int (Int.ofNat k) tk),fe H T 1 "dealt" (.ref x)] 2 #[]) ∨ (∃ H T d0 td,fr = frO [fe H T 0 "count" (.int (Int.ofNat k) tk),fe H T 1 "dealt" (.ref x),fe H T 2 "letter" (.str ⟨⟨[d0]⟩⟩ td)] 3 #[])
noncomputable def ov {β : Type} (f : Nat → β) (j : Nat) (v : β) : Nat → β := fun i => match Nat.beq i j with | true => v | false => f i
theorem loop1 (w : World) {A : Around} {g : Heap} {A0 : List Addr} {R : Result → Shared → Prop} (hA : AB 840 7900 A) (L it t x dx t5 k tk : Nat) (hh : Int) (s : List Nat) (hsl : s.length ≤ 9) (rest : Led) : ∀ (m i n : Nat) (l : List LT) (fr : Obj) (sh : Shared),i + m = s.length → l.length = i →
    frP k tk x fr → Rp (MyK w.params) g A0 sh.heap ([(L,fr),(it,iterO s t i),(x,accR dx (l.map (·.a)) n),(dx,dicO hh t5)] ++ (tups l ++ rest)) →
    (∀ (l' : List LT) n' fr' h' tk',l'.map (·.c) = l.map (·.c) ++ s.drop i → frP k tk x fr' → Rp (MyK w.params) g A0 h' ([(L,fr'),(x,accR dx (l'.map (·.a)) n'),(dx,dicO hh t5)] ++ (tups l' ++ rest)) → R (.ok .next) { sh with heap := h',toks := tk' }) →
    codeAny (MM w) A (loopC (nthS w.params 178 1) (.ref it) (envAt w.params 178 L)) R sh := by
  intro m
  induction m with
  | zero =>
    intro i n l fr sh hi hl hfr D hR
    refine codeTurn rfl ?_
    have e : s.drop i = [] := List.drop_eq_nil_of_le (by omega)
    rcases hfr with ⟨H,T,rfl⟩ | ⟨H,T,d0,td,rfl⟩
    · refine fragQ ([(x,accR dx (l.map (·.a)) n),(dx,dicO hh t5)] ++ (tups l ++ rest)) D (List.Perm.refl _) (px1a w x 0 L it t i 0 0 k tk s H T #[]) AB.hh hA (okIL _ fun nn tt om xi => oneIns (send_ok AB.hh (by omega) (by omega)) nilIns) ?_
      intro _ _ _ _ h' tk' D'
      exact ⟨by kernel_rfl,codeBlk (hR l n _ h' tk' (by rw [e,List.append_nil]) (.inl ⟨H,T,rfl⟩) D')⟩
    · refine fragQ ([(x,accR dx (l.map (·.a)) n),(dx,dicO hh t5)] ++ (tups l ++ rest)) D (List.Perm.refl _) (px1b w x 0 L it t i d0 td k tk s H T #[]) AB.hh hA (okIL _ fun nn tt om xi => oneIns (send_ok AB.hh (by omega) (by omega)) nilIns) ?_
      intro _ _ _ _ h' tk' D'
      exact ⟨by kernel_rfl,codeBlk (hR l n _ h' tk' (by rw [e,List.append_nil]) (.inr ⟨H,T,d0,td,rfl⟩) D')⟩
  | succ m ih =>
    intro i n l fr sh hi hl hfr D hR
    refine codeTurn rfl ?_
    have hlt : i < s.length := by omega
    obtain ⟨c0,hc0⟩ : ∃ c0,s[i]? = some c0 := ⟨_,List.getElem?_eq_getElem hlt⟩
    have hdrop : s.drop i = c0 :: s.drop (i + 1) := by
      rw [List.drop_eq_getElem_cons hlt,(List.getElem?_eq_some_iff.mp hc0).2]
    have hins : okT theP w (MyK w.params) (AB 840 7900) (IL fun nn tt om xi => [snextI 1 it s t i c0,pushI 2 3 x dx (l.map (·.a)) n hh t5 (tt 1 + 1) (om 0 0) "" ⟨⟨[c0]⟩⟩]) := okIL _ fun nn tt om xi => oneIns (snext_ok AB.hh hc0 (by omega)) (oneIns (push_ok w _ _ _ _ _ (by rw [List.length_map]; omega) _ _ _ _ _ _ _).ab nilIns)
    have step : ∀ (q : LT) fr' h' tk',q.c = c0 → frP k tk x fr' → Rp (MyK w.params) g A0 h' ([(L,fr'),(it,iterO s t (i + 1)),(x,accR dx (l.map (·.a) ++ [q.a]) (n + 1)),(dx,dicO hh t5),tupL q] ++ (tups l ++ rest)) → codeAny (MM w) A (loopC (nthS w.params 178 1) (.ref it) (envAt w.params 178 L)) R { sh with heap := h',toks := tk' } := by
      intro q fr' h' tk' hq hfr' D'
      refine ih (i + 1) (n + 1) (l ++ [q]) fr' { sh with heap := h',toks := tk' } (by omega) (by rw [List.length_append,hl]; rfl) hfr' ?_ ?_
      · refine D'.perm ?_
        simp only [List.map_append,List.map_cons,List.map_nil,tups,List.append_assoc,List.cons_append,List.nil_append]
        exact ((((List.perm_middle).cons _).cons _).cons _).cons _
      · intro l' n' fr2 h2 tk2 hl' hfr2 D2
        refine hR l' n' fr2 h2 tk2 ?_ hfr2 D2
        rw [hl',hdrop,List.map_append,List.append_assoc,List.map_cons,List.map_nil,hq]; rfl
    rcases hfr with ⟨H,T,rfl⟩ | ⟨H,T,d0,td,rfl⟩
    · refine fragQ (tups l ++ rest) D (List.Perm.refl _) (p1a w x 0 dx n L it t i c0 0 0 k tk t5 (l.map (·.a)) s hh H T #[]) AB.hh hA hins ?_
      intro nn tt om xi h' tk' D'
      exact ⟨by kernel_rfl,step ⟨om 1 0,c0,tt 1 + 1,om 0 0⟩ _ h' tk' rfl (.inr ⟨ov H 2 (hs w.params "letter"),ov T 2 (tt 1),c0,om 0 0,rfl⟩) D'⟩
    · refine fragQ (tups l ++ rest) D (List.Perm.refl _) (p1b w x 0 dx n L it t i c0 d0 td k tk t5 (l.map (·.a)) s hh H T #[]) AB.hh hA hins ?_
      intro nn tt om xi h' tk' D'
      exact ⟨by kernel_rfl,step ⟨om 1 0,c0,tt 1 + 1,om 0 0⟩ _ h' tk' rfl (.inr ⟨H,T,c0,om 0 0,rfl⟩) D'⟩
noncomputable def frQ (k tk x x2 : Nat) (fr : Obj) : Prop := (∃ H T,fr = frO [fe H T 0 "count" (.int (Int.ofNat k) tk),fe H T 1 "dealt" (.ref x),fe H T 2 "others" (.ref x2)] 3 #[]) ∨ (∃ H T d0 td,fr = frO [fe H T 0 "count" (.int (Int.ofNat k) tk),fe H T 1 "dealt" (.ref x),fe H T 2 "others" (.ref x2),fe H T 3 "letter" (.str ⟨⟨[d0]⟩⟩ td)] 4 #[]) ∨ (∃ H T d0 td,fr = frO [fe H T 0 "count" (.int (Int.ofNat k) tk),fe H T 1 "dealt" (.ref x),fe H T 2 "letter" (.str ⟨⟨[d0]⟩⟩ td),fe H T 3 "others" (.ref x2)] 4 #[])
theorem loop2 (w : World) {A : Around} {g : Heap} {A0 : List Addr} {R : Result → Shared → Prop} (hA : AB 840 7900 A) (L it t x x2 dx t5 k tk : Nat) (hh : Int) (s : List Nat) (hsl : s.length ≤ 9) (rest : Led) : ∀ (m i n : Nat) (l : List LT) (fr : Obj) (sh : Shared),i + m = s.length → l.length = i →
    frQ k tk x x2 fr → Rp (MyK w.params) g A0 sh.heap ([(L,fr),(it,iterO s t i),(x2,accR dx (l.map (·.a)) n),(dx,dicO hh t5)] ++ (tups l ++ rest)) →
    (∀ (l' : List LT) n' fr' h' tk',l'.map (·.c) = l.map (·.c) ++ s.drop i → frQ k tk x x2 fr' → Rp (MyK w.params) g A0 h' ([(L,fr'),(x2,accR dx (l'.map (·.a)) n'),(dx,dicO hh t5)] ++ (tups l' ++ rest)) → R (.ok .next) { sh with heap := h',toks := tk' }) →
    codeAny (MM w) A (loopC (nthS w.params 178 3) (.ref it) (envAt w.params 178 L)) R sh := by
  intro m
  induction m with
  | zero =>
    intro i n l fr sh hi hl hfr D hR
    refine codeTurn rfl ?_
    have e : s.drop i = [] := List.drop_eq_nil_of_le (by omega)
    rcases hfr with ⟨H,T,rfl⟩ | ⟨H,T,d0,td,rfl⟩ | ⟨H,T,d0,td,rfl⟩
    · refine fragQ ([(x2,accR dx (l.map (·.a)) n),(dx,dicO hh t5)] ++ (tups l ++ rest)) D (List.Perm.refl _) (px2a w x x2 L it t i 0 0 k tk s H T #[]) AB.hh hA (okIL _ fun nn tt om xi => oneIns (send_ok AB.hh (by omega) (by omega)) nilIns) ?_
      intro _ _ _ _ h' tk' D'
      exact ⟨by kernel_rfl,codeBlk (hR l n _ h' tk' (by rw [e,List.append_nil]) (.inl ⟨H,T,rfl⟩) D')⟩
    · refine fragQ ([(x2,accR dx (l.map (·.a)) n),(dx,dicO hh t5)] ++ (tups l ++ rest)) D (List.Perm.refl _) (px2b w x x2 L it t i d0 td k tk s H T #[]) AB.hh hA (okIL _ fun nn tt om xi => oneIns (send_ok AB.hh (by omega) (by omega)) nilIns) ?_
      intro _ _ _ _ h' tk' D'
      exact ⟨by kernel_rfl,codeBlk (hR l n _ h' tk' (by rw [e,List.append_nil]) (.inr (.inl ⟨H,T,d0,td,rfl⟩)) D')⟩
    · refine fragQ ([(x2,accR dx (l.map (·.a)) n),(dx,dicO hh t5)] ++ (tups l ++ rest)) D (List.Perm.refl _) (px2c w x x2 L it t i d0 td k tk s H T #[]) AB.hh hA (okIL _ fun nn tt om xi => oneIns (send_ok AB.hh (by omega) (by omega)) nilIns) ?_
      intro _ _ _ _ h' tk' D'
      exact ⟨by kernel_rfl,codeBlk (hR l n _ h' tk' (by rw [e,List.append_nil]) (.inr (.inr ⟨H,T,d0,td,rfl⟩)) D')⟩
  | succ m ih =>
    intro i n l fr sh hi hl hfr D hR
    refine codeTurn rfl ?_
    have hlt : i < s.length := by omega
    obtain ⟨c0,hc0⟩ : ∃ c0,s[i]? = some c0 := ⟨_,List.getElem?_eq_getElem hlt⟩
    have hdrop : s.drop i = c0 :: s.drop (i + 1) := by
      rw [List.drop_eq_getElem_cons hlt,(List.getElem?_eq_some_iff.mp hc0).2]
    have hins : okT theP w (MyK w.params) (AB 840 7900) (IL fun nn tt om xi => [snextI 1 it s t i c0,pushI 2 3 x2 dx (l.map (·.a)) n hh t5 (tt 1 + 1) (om 0 0) "" ⟨⟨[c0]⟩⟩]) := okIL _ fun nn tt om xi => oneIns (snext_ok AB.hh hc0 (by omega)) (oneIns (push_ok w _ _ _ _ _ (by rw [List.length_map]; omega) _ _ _ _ _ _ _).ab nilIns)
    have step : ∀ (q : LT) fr' h' tk',q.c = c0 → frQ k tk x x2 fr' → Rp (MyK w.params) g A0 h' ([(L,fr'),(it,iterO s t (i + 1)),(x2,accR dx (l.map (·.a) ++ [q.a]) (n + 1)),(dx,dicO hh t5),tupL q] ++ (tups l ++ rest)) → codeAny (MM w) A (loopC (nthS w.params 178 3) (.ref it) (envAt w.params 178 L)) R { sh with heap := h',toks := tk' } := by
      intro q fr' h' tk' hq hfr' D'
      refine ih (i + 1) (n + 1) (l ++ [q]) fr' { sh with heap := h',toks := tk' } (by omega) (by rw [List.length_append,hl]; rfl) hfr' ?_ ?_
      · refine D'.perm ?_
        simp only [List.map_append,List.map_cons,List.map_nil,tups,List.append_assoc,List.cons_append,List.nil_append]
        exact ((((List.perm_middle).cons _).cons _).cons _).cons _
      · intro l' n' fr2 h2 tk2 hl' hfr2 D2
        refine hR l' n' fr2 h2 tk2 ?_ hfr2 D2
        rw [hl',hdrop,List.map_append,List.append_assoc,List.map_cons,List.map_nil,hq]; rfl
    rcases hfr with ⟨H,T,rfl⟩ | ⟨H,T,d0,td,rfl⟩ | ⟨H,T,d0,td,rfl⟩
    · refine fragQ (tups l ++ rest) D (List.Perm.refl _) (p2a w x x2 dx n L it t i c0 0 0 k tk t5 (l.map (·.a)) s hh H T #[]) AB.hh hA hins ?_
      intro nn tt om xi h' tk' D'
      exact ⟨by kernel_rfl,step ⟨om 1 0,c0,tt 1 + 1,om 0 0⟩ _ h' tk' rfl (.inr (.inl ⟨ov H 3 (hs w.params "letter"),ov T 3 (tt 1),c0,om 0 0,rfl⟩)) D'⟩
    · refine fragQ (tups l ++ rest) D (List.Perm.refl _) (p2b w x x2 dx n L it t i c0 d0 td k tk t5 (l.map (·.a)) s hh H T #[]) AB.hh hA hins ?_
      intro nn tt om xi h' tk' D'
      exact ⟨by kernel_rfl,step ⟨om 1 0,c0,tt 1 + 1,om 0 0⟩ _ h' tk' rfl (.inr (.inl ⟨H,T,c0,om 0 0,rfl⟩)) D'⟩
    · refine fragQ (tups l ++ rest) D (List.Perm.refl _) (p2c w x x2 dx n L it t i c0 d0 td k tk t5 (l.map (·.a)) s hh H T #[]) AB.hh hA hins ?_
      intro nn tt om xi h' tk' D'
      exact ⟨by kernel_rfl,step ⟨om 1 0,c0,tt 1 + 1,om 0 0⟩ _ h' tk' rfl (.inr (.inr ⟨H,T,c0,om 0 0,rfl⟩)) D'⟩
noncomputable def ltOf (ω : Nat → Nat) : Nat → List Nat → List LT
  | _,[] => []
  | b,c :: cs => ⟨ω b,c,ω (b + 1),ω (b + 2)⟩ :: ltOf ω (b + 3) cs
noncomputable def flat : List LT → List Nat
  | [] => []
  | q :: l => q.a :: q.t0 :: q.t1 :: flat l
theorem look_app (pre : List Nat) (x : Nat) (l : List Nat) : look 0 (pre ++ x :: l) pre.length = x := by
  induction pre with
  | nil => rfl
  | cons y p ih => exact ih
theorem ltOf_flat : ∀ (l : List LT) (pre post : List Nat),ltOf (look 0 (pre ++ (flat l ++ post))) pre.length (l.map (·.c)) = l
  | [],_,_ => rfl
  | q :: l,pre,post => by
    have e0 := look_app pre q.a (q.t0 :: q.t1 :: (flat l ++ post))
    have e1 := look_app (pre ++ [q.a]) q.t0 (q.t1 :: (flat l ++ post))
    have e2 := look_app (pre ++ [q.a,q.t0]) q.t1 (flat l ++ post)
    have e3 := ltOf_flat l (pre ++ [q.a,q.t0,q.t1]) post
    simp only [List.append_assoc,List.cons_append,List.nil_append,List.length_append,List.length_cons,List.length_nil] at e1 e2 e3
    show LT.mk _ _ _ _ :: _ = _
    simp only [flat,List.cons_append]
    rw [e0,e1,e2,e3]
theorem flat_length : ∀ l : List LT,(flat l).length = 3 * l.length
  | [] => rfl
  | q :: l => by
    show (flat l).length + 1 + 1 + 1 = 3 * (l.length + 1)
    rw [flat_length l]; omega
theorem forStmt {M : Model} {A : Around} {E : Value → Shared → Prop} {s : Shared} {env : Env} {st : Stmt} {Q : Flow → Shared → Prop} (hst : st = .For (fT st) (fI st) (fB st) (fO st) (fP st))
    (h : wpAny M A (itT st env) (fun it s₂ => codeAny M A (loopC st it env) (fun r s' => match r with | .ok f => Q f s' | .error e => cameBackBy M A env E e s') s₂) E s) :
    wpAny M A (exec st env) Q E s := by
  have e : exec st env = (itT st env >>= fun it => runOwn (loopC st it env) env) := by
    conv => lhs; rw [hst,exec_For]
    unfold itT
    simp only [bind_assoc]
    rw [hst]
    rfl
  rw [e]
  exact wpAny_bind (wpAny_mono h (fun it s₂ h₂ => wpAny_runOwn h₂) fun _ _ h' => h')
theorem fn178 (P : Params) : fnOk P 178 := ⟨_,_,_,_,_,rfl,rfl,rfl,rfl,rfl,rfl,rfl⟩
theorem body178 (P : Params) : bodyOf P 178 = [nthS P 178 0,nthS P 178 1,nthS P 178 2,nthS P 178 3,nthS P 178 4] := rfl
theorem for178a (P : Params) : nthS P 178 1 = .For (fT (nthS P 178 1)) (fI (nthS P 178 1)) (fB (nthS P 178 1)) (fO (nthS P 178 1)) (fP (nthS P 178 1)) := rfl
theorem for178b (P : Params) : nthS P 178 3 = .For (fT (nthS P 178 3)) (fI (nthS P 178 3)) (fB (nthS P 178 3)) (fO (nthS P 178 3)) (fP (nthS P 178 3)) := rfl
noncomputable def pilNew (w : World) (k : Nat) (ω : Nat → Nat) : Led :=
  [(ω 0,tupO [.ref (ω 1),.ref (ω 2)]),(ω 1,accR (ω 3) ((ltOf ω 9 (abc.take k)).map (·.a)) (ω 5)),(ω 3,dicO (hs w.params "_initial_size") (ω 6)),(ω 2,accR (ω 4) ((ltOf ω (9 + 3 * k) (abc.drop k).reverse).map (·.a)) (ω 7)),(ω 4,dicO (hs w.params "_initial_size") (ω 8))]
    ++ (tups (ltOf ω 9 (abc.take k)) ++ tups (ltOf ω (9 + 3 * k) (abc.drop k).reverse))
noncomputable def pilI (w : World) (k tk : Nat) : Inst := ⟨.call (.ref 178) ⟨[.int (Int.ofNat k) tk],[]⟩,[],fun ω _ => .ok (.ret (.ref (ω 0))),fun _ _ => [],fun ω _ => pilNew w k ω⟩
theorem abc128 : ∀ x ∈ abc,x < 128 := by decide
theorem perm4 {α : Type} (P Q T1 T2 : List α) : (P ++ Q ++ (T1 ++ T2)).Perm (Q ++ (T2 ++ (P ++ T1))) := by
  refine (List.perm_append_comm.append_right (T1 ++ T2)).trans ?_
  have e : Q ++ P ++ (T1 ++ T2) = Q ++ ((P ++ T1) ++ T2) := by simp only [List.append_assoc]
  rw [e]
  exact List.perm_append_comm.append_left Q
theorem pilTail (w : World) (b c : Bool) {A : Around} {g : Heap} {A0 : List Addr} {Q : Flow → Shared → Prop} {E : Value → Shared → Prop} (hA : AB 840 7900 A) (L k tk x dx t5 n1 : Nat) (hk : k ≤ 9) (l1 : List LT) (hl1 : l1.map (·.c) = abc.take k) (fr1 : Obj) (hfr : frP k tk x fr1) (s : Shared)
    (D : Rp (MyK (wf w b c).params) g A0 s.heap ([(L,fr1),(x,accR dx (l1.map (·.a)) n1),(dx,dicO (hs (wf w b c).params "_initial_size") t5)] ++ (tups l1 ++ [])))
    (h : ∀ (x2 dx2 t52 n2 : Nat) (l2 : List LT) (q : Nat),l2.map (·.c) = (abc.drop k).reverse → ∀ h' tk',Rp (MyK (wf w b c).params) g A0 h' ([(q,tupO [.ref x,.ref x2]),(x,accR dx (l1.map (·.a)) n1),(dx,dicO (hs (wf w b c).params "_initial_size") t5),(x2,accR dx2 (l2.map (·.a)) n2),(dx2,dicO (hs (wf w b c).params "_initial_size") t52)] ++ (tups l1 ++ tups l2)) → Q (.ret (.ref q)) { s with heap := h',toks := tk' }) :
    wpAny (MM (wf w b c)) A (execs [nthS (wf w b c).params 178 2,nthS (wf w b c).params 178 3,nthS (wf w b c).params 178 4] (envAt (wf w b c).params 178 L)) Q E s := by
  have hdrop : ((abc.drop k).reverse).length ≤ 9 := by rw [List.length_reverse,List.length_drop]; exact Nat.sub_le _ _
  have h128 : ∀ x ∈ (abc.drop k).reverse,x < 128 := fun x hx => abc128 x (List.mem_of_mem_drop (List.mem_reverse.mp hx))
  have fin : ∀ (x2 dx2 t52 n2 : Nat) (l2 : List LT) (fr2 : Obj) (h' : Heap) (tk' : Nat),l2.map (·.c) = (abc.drop k).reverse → frQ k tk x x2 fr2 → Rp (MyK (wf w b c).params) g A0 h' ([(L,fr2),(x2,accR dx2 (l2.map (·.a)) n2),(dx2,dicO (hs (wf w b c).params "_initial_size") t52)] ++ (tups l2 ++ ([(x,accR dx (l1.map (·.a)) n1),(dx,dicO (hs (wf w b c).params "_initial_size") t5)] ++ tups l1))) →
      wpAny (MM (wf w b c)) A (execs [nthS (wf w b c).params 178 4] (envAt (wf w b c).params 178 L)) Q E { s with heap := h',toks := tk' } := by
    intro x2 dx2 t52 n2 l2 fr2 h' tk' hl2 hfr2 D2
    refine wpAny_execs_cons ?_
    have last : ∀ (q : Nat) h'' tk'',Rp (MyK (wf w b c).params) g A0 h'' ([(q,tupO [.ref x,.ref x2])] ++ ([(x2,accR dx2 (l2.map (·.a)) n2),(dx2,dicO (hs (wf w b c).params "_initial_size") t52)] ++ (tups l2 ++ ([(x,accR dx (l1.map (·.a)) n1),(dx,dicO (hs (wf w b c).params "_initial_size") t5)] ++ tups l1)))) → Q (.ret (.ref q)) { s with heap := h'',toks := tk'' } := by
      intro q h'' tk'' D3
      refine h x2 dx2 t52 n2 l2 q hl2 h'' tk'' (D3.perm ?_)
      exact List.Perm.cons _ (perm4 (α := Addr × Obj) [(x,accR dx (l1.map LT.a) n1),(dx,dicO (hs (wf w b c).params "_initial_size") t5)] [(x2,accR dx2 (l2.map LT.a) n2),(dx2,dicO (hs (wf w b c).params "_initial_size") t52)] (tups l1) (tups l2))
    rcases hfr2 with ⟨H,T,rfl⟩ | ⟨H,T,d0,td,rfl⟩ | ⟨H,T,d0,td,rfl⟩
    · refine fragQ ([(x2,accR dx2 (l2.map (·.a)) n2),(dx2,dicO (hs (wf w b c).params "_initial_size") t52)] ++ (tups l2 ++ ([(x,accR dx (l1.map (·.a)) n1),(dx,dicO (hs (wf w b c).params "_initial_size") t5)] ++ tups l1))) D2 (List.Perm.refl _) (pr4a (wf w b c) x x2 L 0 0 k tk H T #[]) AB.hh hA noIns ?_
      intro nn _ _ _ h'' tk'' D3
      exact last _ h'' tk'' D3
    · refine fragQ ([(x2,accR dx2 (l2.map (·.a)) n2),(dx2,dicO (hs (wf w b c).params "_initial_size") t52)] ++ (tups l2 ++ ([(x,accR dx (l1.map (·.a)) n1),(dx,dicO (hs (wf w b c).params "_initial_size") t5)] ++ tups l1))) D2 (List.Perm.refl _) (pr4b (wf w b c) x x2 L d0 td k tk H T #[]) AB.hh hA noIns ?_
      intro nn _ _ _ h'' tk'' D3
      exact last _ h'' tk'' D3
    · refine fragQ ([(x2,accR dx2 (l2.map (·.a)) n2),(dx2,dicO (hs (wf w b c).params "_initial_size") t52)] ++ (tups l2 ++ ([(x,accR dx (l1.map (·.a)) n1),(dx,dicO (hs (wf w b c).params "_initial_size") t5)] ++ tups l1))) D2 (List.Perm.refl _) (pr4c (wf w b c) x x2 L d0 td k tk H T #[]) AB.hh hA noIns ?_
      intro nn _ _ _ h'' tk'' D3
      exact last _ h'' tk'' D3
  refine wpAny_execs_cons ?_
  rcases hfr with ⟨H,T,rfl⟩ | ⟨H,T,d0,td,rfl⟩
  · refine fragQ ([(x,accR dx (l1.map (·.a)) n1),(dx,dicO (hs (wf w b c).params "_initial_size") t5)] ++ (tups l1 ++ [])) D (List.Perm.refl _) (ps2a (wf w b c) L k tk x 0 0 H T #[]) AB.hh hA (okIL _ fun nn tt om xi => oneIns (new_ok (wf w b c)).ab nilIns) ?_
    intro nn tt om xi h2 k2 D2
    refine wpAny_execs_cons (forStmt (for178b _) ?_)
    refine fragQ ([(om 0 1,dicO (hs (wf w b c).params "_initial_size") (om 0 2)),(om 0 0,accO (om 0 1) #[] 0)] ++ ([(x,accR dx (l1.map (·.a)) n1),(dx,dicO (hs (wf w b c).params "_initial_size") t5)] ++ (tups l1 ++ []))) D2 (List.Perm.refl _) (pe3a w L k tk x (om 0 0) 0 0 (abc.drop k) (abc.drop k).reverse (ov H 2 (hs (wf w b c).params "others")) (ov T 2 (tt 1)) #[] b c) AB.hh hA (okIL _ fun nn tt om xi => oneIns (sgB_ok AB.hh hk) (oneIns (sgC_ok AB.hh (by rw [List.length_drop]; exact Nat.sub_le _ _)) (oneIns (siter_ok AB.hh h128) nilIns))) ?_
    intro nn3 tt3 om3 xi3 h3 k3 D3
    rw [List.append_nil] at D3
    refine loop2 (wf w b c) hA L _ (om3 1 0) x (om 0 0) (om 0 1) (om 0 2) k tk (hs (wf w b c).params "_initial_size") _ hdrop ([(x,accR dx (l1.map (·.a)) n1),(dx,dicO (hs (wf w b c).params "_initial_size") t5)] ++ tups l1) _ 0 0 [] _ _ (Nat.zero_add _) rfl (.inl ⟨ov H 2 (hs (wf w b c).params "others"),ov T 2 (tt 1),rfl⟩) (D3.perm ?_) ?_
    · exact ((List.Perm.swap _ _ _).cons _).cons _
    · intro l2 n2 fr2 h4 k4 hl2 hfr2 D4
      exact fin (om 0 0) (om 0 1) (om 0 2) n2 l2 fr2 h4 k4 hl2 hfr2 D4
  · refine fragQ ([(x,accR dx (l1.map (·.a)) n1),(dx,dicO (hs (wf w b c).params "_initial_size") t5)] ++ (tups l1 ++ [])) D (List.Perm.refl _) (ps2b (wf w b c) L k tk x d0 td H T #[]) AB.hh hA (okIL _ fun nn tt om xi => oneIns (new_ok (wf w b c)).ab nilIns) ?_
    intro nn tt om xi h2 k2 D2
    refine wpAny_execs_cons (forStmt (for178b _) ?_)
    refine fragQ ([(om 0 1,dicO (hs (wf w b c).params "_initial_size") (om 0 2)),(om 0 0,accO (om 0 1) #[] 0)] ++ ([(x,accR dx (l1.map (·.a)) n1),(dx,dicO (hs (wf w b c).params "_initial_size") t5)] ++ (tups l1 ++ []))) D2 (List.Perm.refl _) (pe3b w L k tk x (om 0 0) d0 td (abc.drop k) (abc.drop k).reverse (ov H 3 (hs (wf w b c).params "others")) (ov T 3 (tt 1)) #[] b c) AB.hh hA (okIL _ fun nn tt om xi => oneIns (sgB_ok AB.hh hk) (oneIns (sgC_ok AB.hh (by rw [List.length_drop]; exact Nat.sub_le _ _)) (oneIns (siter_ok AB.hh h128) nilIns))) ?_
    intro nn3 tt3 om3 xi3 h3 k3 D3
    rw [List.append_nil] at D3
    refine loop2 (wf w b c) hA L _ (om3 1 0) x (om 0 0) (om 0 1) (om 0 2) k tk (hs (wf w b c).params "_initial_size") _ hdrop ([(x,accR dx (l1.map (·.a)) n1),(dx,dicO (hs (wf w b c).params "_initial_size") t5)] ++ tups l1) _ 0 0 [] _ _ (Nat.zero_add _) rfl (.inr (.inr ⟨ov H 3 (hs (wf w b c).params "others"),ov T 3 (tt 1),d0,td,rfl⟩)) (D3.perm ?_) ?_
    · exact ((List.Perm.swap _ _ _).cons _).cons _
    · intro l2 n2 fr2 h4 k4 hl2 hfr2 D4
      exact fin (om 0 0) (om 0 1) (om 0 2) n2 l2 fr2 h4 k4 hl2 hfr2 D4
theorem pil_ok (w : World) (b c : Bool) (k tk : Nat) (hk : k ≤ 9) : IOk theP (wf w b c) (MyK (wf w b c).params) (AB 800 7000) (pilI (wf w b c) k tk) := by
  intro A s R hA hK hn hd ho hlo hR
  have D := Rp.start _ hK hn hd ho hlo
  refine x_call ?_ (by intro z; cases z)
  refine enterFn 178 60 _ [.int (Int.ofNat k) tk] [("count",.int (Int.ofNat k) tk)] (fun tt => frO [en (hs (wf w b c).params "count") "count" (tt 0) (.int (Int.ofNat k) tk)] 1 #[]) (fn178 _) (by kernel_rfl) hA.1 (limit_ok (Nat.le_trans hA.2.1 (by decide))) D (fun nn tt om xi ps => n178 (wf w b c) k tk nn tt om xi ps) ?_
  intro L T h1 k1 D1
  have hA' : AB 840 7900 ((A.mark none).deeper (envAt (wf w b c).params 178 L)) := (AB.deep hA).mono (by decide) (by decide)
  refine ks_codeAny_funcAt (wpAt_of_wpAny ?_)
  rw [body178]
  refine wpAny_execs_cons ?_
  refine fragQ [] D1 (List.Perm.refl _) (ps0 (wf w b c) L k tk (fun _ => hs (wf w b c).params "count") (fun _ => T 0)) AB.hh hA' (okIL _ fun nn tt om xi => oneIns (new_ok (wf w b c)).ab nilIns) ?_
  intro nn tt om xi h2 k2 D2
  refine wpAny_execs_cons (forStmt (for178a _) ?_)
  refine fragQ [(om 0 1,dicO (hs (wf w b c).params "_initial_size") (om 0 2)),(om 0 0,accO (om 0 1) #[] 0)] D2 (List.Perm.refl _) (pe1 w L k tk (om 0 0) (abc.take k) (ov (fun _ => hs (wf w b c).params "count") 1 (hs (wf w b c).params "dealt")) (ov (fun _ => T 0) 1 (tt 1)) b c) AB.hh hA' (okIL _ fun nn tt om xi => oneIns (sgA_ok AB.hh hk) (oneIns (siter_ok AB.hh fun x hx => abc128 x (List.mem_of_mem_take hx)) nilIns)) ?_
  intro nn3 tt3 om3 xi3 h3 k3 D3
  refine loop1 (wf w b c) hA' L _ _ (om 0 0) (om 0 1) (om 0 2) k tk (hs (wf w b c).params "_initial_size") (abc.take k) (by rw [List.length_take]; exact Nat.le_trans (Nat.min_le_left _ _) hk) [] _ 0 0 [] _ _ (Nat.zero_add _) rfl (.inl ⟨_,_,rfl⟩) (D3.sel [0,1,3,2] (by decide)) ?_
  intro l1 n1 fr1 h4 k4 hl1 hfr1 D4
  have hl1 : l1.map (·.c) = abc.take k := hl1
  clear D2 D3
  refine pilTail w b c hA' L k tk (om 0 0) (om 0 1) (om 0 2) n1 hk l1 hl1 fr1 hfr1 _ D4 ?_
  intro x2 dx2 t52 n2 l2 q hl2 h5 k5 D5
  have e1 := ltOf_flat l1 [q,om 0 0,x2,om 0 1,dx2,n1,om 0 2,n2,t52] (flat l2 ++ [])
  have e2 := ltOf_flat l2 ([q,om 0 0,x2,om 0 1,dx2,n1,om 0 2,n2,t52] ++ flat l1) []
  have hlen : l1.length = k := by
    have := congrArg List.length hl1
    rw [List.length_map,List.length_take] at this
    rw [this]
    exact Nat.min_eq_left hk
  rw [List.append_assoc,List.length_append,flat_length,hlen,hl2] at e2
  rw [hl1] at e1
  generalize hω : look 0 ([q,om 0 0,x2,om 0 1,dx2,n1,om 0 2,n2,t52] ++ (flat l1 ++ (flat l2 ++ []))) = ω at *
  have w0 : ω 0 = q := by rw [← hω]; rfl
  have w1 : ω 1 = om 0 0 := by rw [← hω]; rfl
  have w2 : ω 2 = x2 := by rw [← hω]; rfl
  have w3 : ω 3 = om 0 1 := by rw [← hω]; rfl
  have w4 : ω 4 = dx2 := by rw [← hω]; rfl
  have w5 : ω 5 = n1 := by rw [← hω]; rfl
  have w6 : ω 6 = om 0 2 := by rw [← hω]; rfl
  have w7 : ω 7 = n2 := by rw [← hω]; rfl
  have w8 : ω 8 = t52 := by rw [← hω]; rfl
  have e1' : ltOf ω 9 (abc.take k) = l1 := e1
  have e2' : ltOf ω (9 + 3 * k) (abc.drop k).reverse = l2 := e2
  have z := hR ω (fun _ => #[]) h5 k5 rfl (Eff.ofApp (l := []) (os := []) (nw := pilNew (wf w b c) k ω) (D5.perm (List.Perm.of_eq ?_)) rfl)
  · have ez : (pilI (wf w b c) k tk).res ω (fun _ => #[]) = .ok (.ret (.ref (ω 0))) := rfl
    rw [ez,w0] at z
    exact wpAny_pure z
  show pilNew (wf w b c) k ω = _
  unfold pilNew
  rw [e1',e2',w0,w1,w2,w3,w4,w5,w6,w7,w8]
noncomputable abbrev fr4 (H : Nat → Int) (T : Nat → Nat) (row : List Nat) (tr k tk x1 x2 : Nat) (sl : Slots) : Obj := frO [fe H T 0 "row" (.str ⟨⟨row⟩⟩ tr),fe H T 1 "count" (.int (Int.ofNat k) tk),fe H T 2 "dealt" (.ref x1),fe H T 3 "others" (.ref x2)] 4 sl
noncomputable abbrev fr5 (H : Nat → Int) (T : Nat → Nat) (row : List Nat) (tr k tk x1 x2 : Nat) (o : List Nat) (to : Nat) (sl : Slots) : Obj := frO [fe H T 0 "row" (.str ⟨⟨row⟩⟩ tr),fe H T 1 "count" (.int (Int.ofNat k) tk),fe H T 2 "dealt" (.ref x1),fe H T 3 "others" (.ref x2),fe H T 4 "order" (.str ⟨⟨o⟩⟩ to)] 5 sl
noncomputable abbrev fr6 (H : Nat → Int) (T : Nat → Nat) (row : List Nat) (tr k tk x1 x2 : Nat) (o : List Nat) (to : Nat) (d0 td : Nat) (sl : Slots) : Obj := frO [fe H T 0 "row" (.str ⟨⟨row⟩⟩ tr),fe H T 1 "count" (.int (Int.ofNat k) tk),fe H T 2 "dealt" (.ref x1),fe H T 3 "others" (.ref x2),fe H T 4 "order" (.str ⟨⟨o⟩⟩ to),fe H T 5 "sign" (.str ⟨⟨[d0]⟩⟩ td)] 6 sl
theorem n185 (w:World) (k tk tr:Nat) (row:List Nat) (nn tt om xi ps):Ends (go w 60 (nfe w.params 185 [("row",.str ⟨⟨row⟩⟩ tr),("count",.int (Int.ofNat k) tk)]) [1,1,1,1] ([]) .nil nn tt om xi ps) ([0]) (.ok (envAt w.params 185 (nn 0))) ([(nn 0,frO [en (hs w.params "row") "row" (tt 0) (.str ⟨⟨row⟩⟩ tr),en (hs w.params "count") "count" (tt 0+1) (.int (Int.ofNat k) tk)] 2 #[])]) := by trivial
theorem r0 (w:World) (L k tk tr:Nat) (row:List Nat) (H:NI) (T:NN) (b c:Bool) (nn tt om xi ps):Ends (go (wf w b c) 300 (exec (nthS (wf w b c).params 185 0) (envAt (wf w b c).params 185 L)) [0,1,0,7,2,2,2,0,2,7,7,0,7,7,7,2,7,7,7,0,7,7,7,2,7,7,7,0,7,7,7,2,7,7,9,1,1,1,1] ([(L,frO [fe H T 0 "row" (.str ⟨⟨row⟩⟩ tr),fe H T 1 "count" (.int (Int.ofNat k) tk)] 2 #[])]) (IL fun nn tt om xi=>[pilI (wf w b c) k tk]) nn tt om xi ps) ([0,2,3,4,5,1009]) (.ok .next) ((L,frO [fe H T 0 "row" (.str ⟨⟨row⟩⟩ tr),fe H T 1 "count" (.int (Int.ofNat k) tk),en (hs (wf w b c).params "dealt") "dealt" (tt 1) (.ref (om 0 1)),en (hs (wf w b c).params "others") "others" (tt 1+1) (.ref (om 0 2))] 4 #[]) :: ledCat (List.tail (pilNew (wf w b c) k (om 0))) []) := by cases b <;> trivial
theorem r1 (w:World) (L k tk tr x1 x2:Nat) (row:List Nat) (H:NI) (T:NN) (sl:Slots) (nn tt om xi ps):Ends (go w 100 (exec (nthS w.params 185 1) (envAt w.params 185 L)) [1,1] ([(L,fr4 H T row tr k tk x1 x2 sl)]) .nil nn tt om xi ps) ([0]) (.ok .next) ([(L,fr5 (ov H 4 (hs w.params "order")) (ov T 4 (tt 0+1)) row tr k tk x1 x2 [] (tt 0) sl)]) := by trivial
theorem r2 (w:World) (L k tk tr x1 x2:Nat) (row:List Nat) (H:NI) (T:NN) (sl:Slots) (o:List Nat) (to:Nat) (r:List Nat) (b c:Bool) (nn tt om xi ps):Ends (go (wf w b c) 100 (itT (nthS (wf w b c).params 185 2) (envAt (wf w b c).params 185 L)) [1,1,1,3] ([(L,fr5 H T row tr k tk x1 x2 o to sl)]) (IL fun nn tt om xi=>[sgI 1 (nn 0) row tr (.int 1 (tt 0)) .none .none r,siterI r (om 0 0)]) nn tt om xi ps) ([0,2]) (.ok (.ref (om 1 0))) ([(L,fr5 H T row tr k tk x1 x2 o to sl),(om 1 0,iterO r (om 0 0) 0)]) := by cases b <;> trivial
theorem r3 (w:World) (L k tk tr x1 x2:Nat) (row:List Nat) (H:NI) (T:NN) (sl:Slots) (o:List Nat) (to d0 td:Nat) (nn tt om xi ps):Ends (go w 100 (exec (nthS w.params 185 3) (envAt w.params 185 L)) [1] ([(L,fr6 H T row tr k tk x1 x2 o to d0 td sl)]) .nil nn tt om xi ps) ([]) (.ok (.ret (.str ⟨⟨o⟩⟩ to))) ([]) := by trivial
theorem rtAa (w:World) (L k tk tr x1 x2 dx1 dx2 n1 n2 t51 t52 it t i c0 d0 td to a t0 t1 ca:Nat) (row s o:List Nat) (l1 l2:List Addr) (h1 h2:Int) (H:NI) (T:NN) (sl:Slots) (b c:Bool) (nn tt om xi ps):Ends (go (wf w b c) 400 (den (loopC (nthS (wf w b c).params 185 2) (.ref it) (envAt (wf w b c).params 185 L))) [2,1,1,1,1,5,0,0,0,5,0,0,0,5,0,0,0,0,5,6,0,1,1,1,1,3,0,0,0,3,0,0,0,3,0,0,0,0,3,4,0,1,7,7,7,0,7,7,0,1,1,1] ([(L,fr5 H T row tr k tk x1 x2 o to sl),(it,iterO s t i),(x1,accR dx1 (l1++[a]) n1),(dx1,dicO h1 t51),(x2,accR dx2 [] n2),(dx2,dicO h2 t52),(a,tupO [.str "" t0,.str ⟨⟨[ca]⟩⟩ t1])]) (IL fun nn tt om xi=>[snextI 1 it s t i c0,cntI 4 5 x2 dx2 ⟨List.map Value.ref []⟩ n2 h2 t52,bI "int.__eq__" [.int (⟨List.map Value.ref []⟩:Array Value).size (om 1 0),.int 0 (tt 2)] (boolR true),popI 2 3 x1 dx1 l1 a n1 h1 t51,bI "str.__add__" [.str ⟨⟨o⟩⟩ to,.str ⟨⟨[ca]⟩⟩ t1] (strR ⟨⟨o++[ca]⟩⟩)]) nn tt om xi ps) ([0,1,2,3,4,5]) (.ok (.again (loopC (nthS (wf w b c).params 185 2) (.ref it) (envAt (wf w b c).params 185 L)))) ([(L,fr6 (ov H 5 (hs (wf w b c).params "sign")) (ov T 5 (tt 1)) row tr k tk x1 x2 (o++[ca]) (om 4 0) c0 (om 0 0) sl),(it,iterO s t (i+1)),(x1,accR dx1 l1 (n1+1)),(dx1,dicO h1 t51),(x2,accR dx2 [] n2),(dx2,dicO h2 t52)]) := by cases b <;> trivial
theorem rtAb (w:World) (L k tk tr x1 x2 dx1 dx2 n1 n2 t51 t52 it t i c0 d0 td to a t0 t1 ca:Nat) (row s o:List Nat) (l1 l2:List Addr) (h1 h2:Int) (H:NI) (T:NN) (sl:Slots) (b c:Bool) (nn tt om xi ps):Ends (go (wf w b c) 400 (den (loopC (nthS (wf w b c).params 185 2) (.ref it) (envAt (wf w b c).params 185 L))) [2,1,1,1,1,5,0,0,0,5,0,0,0,5,0,0,0,0,5,6,0,1,1,1,1,3,0,0,0,3,0,0,0,3,0,0,0,0,3,4,0,1,7,7,7,0,7,7,0,1,1,1] ([(L,fr6 H T row tr k tk x1 x2 o to d0 td sl),(it,iterO s t i),(x1,accR dx1 (l1++[a]) n1),(dx1,dicO h1 t51),(x2,accR dx2 [] n2),(dx2,dicO h2 t52),(a,tupO [.str "" t0,.str ⟨⟨[ca]⟩⟩ t1])]) (IL fun nn tt om xi=>[snextI 1 it s t i c0,cntI 4 5 x2 dx2 ⟨List.map Value.ref []⟩ n2 h2 t52,bI "int.__eq__" [.int (⟨List.map Value.ref []⟩:Array Value).size (om 1 0),.int 0 (tt 2)] (boolR true),popI 2 3 x1 dx1 l1 a n1 h1 t51,bI "str.__add__" [.str ⟨⟨o⟩⟩ to,.str ⟨⟨[ca]⟩⟩ t1] (strR ⟨⟨o++[ca]⟩⟩)]) nn tt om xi ps) ([0,1,2,3,4,5]) (.ok (.again (loopC (nthS (wf w b c).params 185 2) (.ref it) (envAt (wf w b c).params 185 L)))) ([(L,fr6 H T row tr k tk x1 x2 (o++[ca]) (om 4 0) c0 (om 0 0) sl),(it,iterO s t (i+1)),(x1,accR dx1 l1 (n1+1)),(dx1,dicO h1 t51),(x2,accR dx2 [] n2),(dx2,dicO h2 t52)]) := by cases b <;> trivial
theorem rtBa (w:World) (L k tk tr x1 x2 dx1 dx2 n1 n2 t51 t52 it t i c0 d0 td to a t0 t1 ca:Nat) (row s o:List Nat) (l1 l2:List Addr) (h1 h2:Int) (H:NI) (T:NN) (sl:Slots) (b c:Bool) (nn tt om xi ps):Ends (go (wf w b c) 400 (den (loopC (nthS (wf w b c).params 185 2) (.ref it) (envAt (wf w b c).params 185 L))) [2,1,1,1,1,5,0,0,0,5,0,0,0,5,0,0,0,0,5,6,0,1,1,1,1,1,3,0,0,0,3,0,0,0,3,0,0,0,0,3,4,0,1,1,1,1,3,0,0,0,3,0,0,0,3,0,0,0,0,3,4,0,1,7,7,7,0,7,7,0,1,1,1] ([(L,fr5 H T row tr k tk x1 x2 o to sl),(it,iterO s t i),(x1,accR dx1 (l1++[a]) n1),(dx1,dicO h1 t51),(x2,accR dx2 l2 n2),(dx2,dicO h2 t52),(a,tupO [.str "" t0,.str ⟨⟨[ca]⟩⟩ t1])]) (IL fun nn tt om xi=>[snextI 1 it s t i c0,cntI 4 5 x2 dx2 ⟨List.map Value.ref l2⟩ n2 h2 t52,bI "int.__eq__" [.int (⟨List.map Value.ref l2⟩:Array Value).size (om 1 0),.int 0 (tt 2)] (boolR false),bI "str.__contains__" [.str "rwxst" (tt 3),.str ⟨⟨[c0]⟩⟩ (om 0 0)] (boolR true),cntI 2 3 x1 dx1 ⟨List.map Value.ref (l1++[a])⟩ n1 h1 t51,bI "int.__gt__" [.int (⟨List.map Value.ref (l1++[a])⟩:Array Value).size (om 4 0),.int 0 (tt 5)] (boolR true),popI 2 3 x1 dx1 l1 a n1 h1 t51,bI "str.__add__" [.str ⟨⟨o⟩⟩ to,.str ⟨⟨[ca]⟩⟩ t1] (strR ⟨⟨o++[ca]⟩⟩)]) nn tt om xi ps) ([0,1,2,3,4,5]) (.ok (.again (loopC (nthS (wf w b c).params 185 2) (.ref it) (envAt (wf w b c).params 185 L)))) ([(L,fr6 (ov H 5 (hs (wf w b c).params "sign")) (ov T 5 (tt 1)) row tr k tk x1 x2 (o++[ca]) (om 7 0) c0 (om 0 0) sl),(it,iterO s t (i+1)),(x1,accR dx1 l1 (n1+1)),(dx1,dicO h1 t51),(x2,accR dx2 l2 n2),(dx2,dicO h2 t52)]) := by cases b <;> trivial
theorem rtBb (w:World) (L k tk tr x1 x2 dx1 dx2 n1 n2 t51 t52 it t i c0 d0 td to a t0 t1 ca:Nat) (row s o:List Nat) (l1 l2:List Addr) (h1 h2:Int) (H:NI) (T:NN) (sl:Slots) (b c:Bool) (nn tt om xi ps):Ends (go (wf w b c) 400 (den (loopC (nthS (wf w b c).params 185 2) (.ref it) (envAt (wf w b c).params 185 L))) [2,1,1,1,1,5,0,0,0,5,0,0,0,5,0,0,0,0,5,6,0,1,1,1,1,1,3,0,0,0,3,0,0,0,3,0,0,0,0,3,4,0,1,1,1,1,3,0,0,0,3,0,0,0,3,0,0,0,0,3,4,0,1,7,7,7,0,7,7,0,1,1,1] ([(L,fr6 H T row tr k tk x1 x2 o to d0 td sl),(it,iterO s t i),(x1,accR dx1 (l1++[a]) n1),(dx1,dicO h1 t51),(x2,accR dx2 l2 n2),(dx2,dicO h2 t52),(a,tupO [.str "" t0,.str ⟨⟨[ca]⟩⟩ t1])]) (IL fun nn tt om xi=>[snextI 1 it s t i c0,cntI 4 5 x2 dx2 ⟨List.map Value.ref l2⟩ n2 h2 t52,bI "int.__eq__" [.int (⟨List.map Value.ref l2⟩:Array Value).size (om 1 0),.int 0 (tt 2)] (boolR false),bI "str.__contains__" [.str "rwxst" (tt 3),.str ⟨⟨[c0]⟩⟩ (om 0 0)] (boolR true),cntI 2 3 x1 dx1 ⟨List.map Value.ref (l1++[a])⟩ n1 h1 t51,bI "int.__gt__" [.int (⟨List.map Value.ref (l1++[a])⟩:Array Value).size (om 4 0),.int 0 (tt 5)] (boolR true),popI 2 3 x1 dx1 l1 a n1 h1 t51,bI "str.__add__" [.str ⟨⟨o⟩⟩ to,.str ⟨⟨[ca]⟩⟩ t1] (strR ⟨⟨o++[ca]⟩⟩)]) nn tt om xi ps) ([0,1,2,3,4,5]) (.ok (.again (loopC (nthS (wf w b c).params 185 2) (.ref it) (envAt (wf w b c).params 185 L)))) ([(L,fr6 H T row tr k tk x1 x2 (o++[ca]) (om 7 0) c0 (om 0 0) sl),(it,iterO s t (i+1)),(x1,accR dx1 l1 (n1+1)),(dx1,dicO h1 t51),(x2,accR dx2 l2 n2),(dx2,dicO h2 t52)]) := by cases b <;> trivial
theorem rtCa (w:World) (L k tk tr x1 x2 dx1 dx2 n1 n2 t51 t52 it t i c0 d0 td to a t0 t1 ca:Nat) (row s o:List Nat) (l1 l2:List Addr) (h1 h2:Int) (H:NI) (T:NN) (sl:Slots) (b c:Bool) (nn tt om xi ps):Ends (go (wf w b c) 400 (den (loopC (nthS (wf w b c).params 185 2) (.ref it) (envAt (wf w b c).params 185 L))) [2,1,1,1,1,5,0,0,0,5,0,0,0,5,0,0,0,0,5,6,0,1,1,1,1,1,3,0,0,0,3,0,0,0,3,0,0,0,0,3,4,0,1,1,1,1,5,0,0,0,5,0,0,0,5,0,0,0,0,5,6,0,1,7,7,7,0,7,7,0,1,1,1] ([(L,fr5 H T row tr k tk x1 x2 o to sl),(it,iterO s t i),(x1,accR dx1 [] n1),(dx1,dicO h1 t51),(x2,accR dx2 (l2++[a]) n2),(dx2,dicO h2 t52),(a,tupO [.str "" t0,.str ⟨⟨[ca]⟩⟩ t1])]) (IL fun nn tt om xi=>[snextI 1 it s t i c0,cntI 4 5 x2 dx2 ⟨List.map Value.ref (l2++[a])⟩ n2 h2 t52,bI "int.__eq__" [.int (⟨List.map Value.ref (l2++[a])⟩:Array Value).size (om 1 0),.int 0 (tt 2)] (boolR false),bI "str.__contains__" [.str "rwxst" (tt 3),.str ⟨⟨[c0]⟩⟩ (om 0 0)] (boolR true),cntI 2 3 x1 dx1 ⟨List.map Value.ref []⟩ n1 h1 t51,bI "int.__gt__" [.int (⟨List.map Value.ref []⟩:Array Value).size (om 4 0),.int 0 (tt 5)] (boolR false),popI 4 5 x2 dx2 l2 a n2 h2 t52,bI "str.__add__" [.str ⟨⟨o⟩⟩ to,.str ⟨⟨[ca]⟩⟩ t1] (strR ⟨⟨o++[ca]⟩⟩)]) nn tt om xi ps) ([0,1,2,3,4,5]) (.ok (.again (loopC (nthS (wf w b c).params 185 2) (.ref it) (envAt (wf w b c).params 185 L)))) ([(L,fr6 (ov H 5 (hs (wf w b c).params "sign")) (ov T 5 (tt 1)) row tr k tk x1 x2 (o++[ca]) (om 7 0) c0 (om 0 0) sl),(it,iterO s t (i+1)),(x1,accR dx1 [] n1),(dx1,dicO h1 t51),(x2,accR dx2 l2 (n2+1)),(dx2,dicO h2 t52)]) := by cases b <;> trivial
theorem rtCb (w:World) (L k tk tr x1 x2 dx1 dx2 n1 n2 t51 t52 it t i c0 d0 td to a t0 t1 ca:Nat) (row s o:List Nat) (l1 l2:List Addr) (h1 h2:Int) (H:NI) (T:NN) (sl:Slots) (b c:Bool) (nn tt om xi ps):Ends (go (wf w b c) 400 (den (loopC (nthS (wf w b c).params 185 2) (.ref it) (envAt (wf w b c).params 185 L))) [2,1,1,1,1,5,0,0,0,5,0,0,0,5,0,0,0,0,5,6,0,1,1,1,1,1,3,0,0,0,3,0,0,0,3,0,0,0,0,3,4,0,1,1,1,1,5,0,0,0,5,0,0,0,5,0,0,0,0,5,6,0,1,7,7,7,0,7,7,0,1,1,1] ([(L,fr6 H T row tr k tk x1 x2 o to d0 td sl),(it,iterO s t i),(x1,accR dx1 [] n1),(dx1,dicO h1 t51),(x2,accR dx2 (l2++[a]) n2),(dx2,dicO h2 t52),(a,tupO [.str "" t0,.str ⟨⟨[ca]⟩⟩ t1])]) (IL fun nn tt om xi=>[snextI 1 it s t i c0,cntI 4 5 x2 dx2 ⟨List.map Value.ref (l2++[a])⟩ n2 h2 t52,bI "int.__eq__" [.int (⟨List.map Value.ref (l2++[a])⟩:Array Value).size (om 1 0),.int 0 (tt 2)] (boolR false),bI "str.__contains__" [.str "rwxst" (tt 3),.str ⟨⟨[c0]⟩⟩ (om 0 0)] (boolR true),cntI 2 3 x1 dx1 ⟨List.map Value.ref []⟩ n1 h1 t51,bI "int.__gt__" [.int (⟨List.map Value.ref []⟩:Array Value).size (om 4 0),.int 0 (tt 5)] (boolR false),popI 4 5 x2 dx2 l2 a n2 h2 t52,bI "str.__add__" [.str ⟨⟨o⟩⟩ to,.str ⟨⟨[ca]⟩⟩ t1] (strR ⟨⟨o++[ca]⟩⟩)]) nn tt om xi ps) ([0,1,2,3,4,5]) (.ok (.again (loopC (nthS (wf w b c).params 185 2) (.ref it) (envAt (wf w b c).params 185 L)))) ([(L,fr6 H T row tr k tk x1 x2 (o++[ca]) (om 7 0) c0 (om 0 0) sl),(it,iterO s t (i+1)),(x1,accR dx1 [] n1),(dx1,dicO h1 t51),(x2,accR dx2 l2 (n2+1)),(dx2,dicO h2 t52)]) := by cases b <;> trivial
theorem rtDa (w:World) (L k tk tr x1 x2 dx1 dx2 n1 n2 t51 t52 it t i c0 d0 td to a t0 t1 ca:Nat) (row s o:List Nat) (l1 l2:List Addr) (h1 h2:Int) (H:NI) (T:NN) (sl:Slots) (b c:Bool) (nn tt om xi ps):Ends (go (wf w b c) 400 (den (loopC (nthS (wf w b c).params 185 2) (.ref it) (envAt (wf w b c).params 185 L))) [2,1,1,1,1,5,0,0,0,5,0,0,0,5,0,0,0,0,5,6,0,1,1,1,1,1,1,5,0,0,0,5,0,0,0,5,0,0,0,0,5,6,0,1,7,7,7,0,7,7,0,1,1,1] ([(L,fr5 H T row tr k tk x1 x2 o to sl),(it,iterO s t i),(x1,accR dx1 l1 n1),(dx1,dicO h1 t51),(x2,accR dx2 (l2++[a]) n2),(dx2,dicO h2 t52),(a,tupO [.str "" t0,.str ⟨⟨[ca]⟩⟩ t1])]) (IL fun nn tt om xi=>[snextI 1 it s t i c0,cntI 4 5 x2 dx2 ⟨List.map Value.ref (l2++[a])⟩ n2 h2 t52,bI "int.__eq__" [.int (⟨List.map Value.ref (l2++[a])⟩:Array Value).size (om 1 0),.int 0 (tt 2)] (boolR false),bI "str.__contains__" [.str "rwxst" (tt 3),.str ⟨⟨[c0]⟩⟩ (om 0 0)] (boolR false),popI 4 5 x2 dx2 l2 a n2 h2 t52,bI "str.__add__" [.str ⟨⟨o⟩⟩ to,.str ⟨⟨[ca]⟩⟩ t1] (strR ⟨⟨o++[ca]⟩⟩)]) nn tt om xi ps) ([0,1,2,3,4,5]) (.ok (.again (loopC (nthS (wf w b c).params 185 2) (.ref it) (envAt (wf w b c).params 185 L)))) ([(L,fr6 (ov H 5 (hs (wf w b c).params "sign")) (ov T 5 (tt 1)) row tr k tk x1 x2 (o++[ca]) (om 5 0) c0 (om 0 0) sl),(it,iterO s t (i+1)),(x1,accR dx1 l1 n1),(dx1,dicO h1 t51),(x2,accR dx2 l2 (n2+1)),(dx2,dicO h2 t52)]) := by cases b <;> trivial
theorem rtDb (w:World) (L k tk tr x1 x2 dx1 dx2 n1 n2 t51 t52 it t i c0 d0 td to a t0 t1 ca:Nat) (row s o:List Nat) (l1 l2:List Addr) (h1 h2:Int) (H:NI) (T:NN) (sl:Slots) (b c:Bool) (nn tt om xi ps):Ends (go (wf w b c) 400 (den (loopC (nthS (wf w b c).params 185 2) (.ref it) (envAt (wf w b c).params 185 L))) [2,1,1,1,1,5,0,0,0,5,0,0,0,5,0,0,0,0,5,6,0,1,1,1,1,1,1,5,0,0,0,5,0,0,0,5,0,0,0,0,5,6,0,1,7,7,7,0,7,7,0,1,1,1] ([(L,fr6 H T row tr k tk x1 x2 o to d0 td sl),(it,iterO s t i),(x1,accR dx1 l1 n1),(dx1,dicO h1 t51),(x2,accR dx2 (l2++[a]) n2),(dx2,dicO h2 t52),(a,tupO [.str "" t0,.str ⟨⟨[ca]⟩⟩ t1])]) (IL fun nn tt om xi=>[snextI 1 it s t i c0,cntI 4 5 x2 dx2 ⟨List.map Value.ref (l2++[a])⟩ n2 h2 t52,bI "int.__eq__" [.int (⟨List.map Value.ref (l2++[a])⟩:Array Value).size (om 1 0),.int 0 (tt 2)] (boolR false),bI "str.__contains__" [.str "rwxst" (tt 3),.str ⟨⟨[c0]⟩⟩ (om 0 0)] (boolR false),popI 4 5 x2 dx2 l2 a n2 h2 t52,bI "str.__add__" [.str ⟨⟨o⟩⟩ to,.str ⟨⟨[ca]⟩⟩ t1] (strR ⟨⟨o++[ca]⟩⟩)]) nn tt om xi ps) ([0,1,2,3,4,5]) (.ok (.again (loopC (nthS (wf w b c).params 185 2) (.ref it) (envAt (wf w b c).params 185 L)))) ([(L,fr6 H T row tr k tk x1 x2 (o++[ca]) (om 5 0) c0 (om 0 0) sl),(it,iterO s t (i+1)),(x1,accR dx1 l1 n1),(dx1,dicO h1 t51),(x2,accR dx2 l2 (n2+1)),(dx2,dicO h2 t52)]) := by cases b <;> trivial
theorem rx (w:World) (L k tk tr x1 x2 dx1 dx2 n1 n2 t51 t52 it t i c0 d0 td to a t0 t1 ca:Nat) (row s o:List Nat) (l1 l2:List Addr) (h1 h2:Int) (H:NI) (T:NN) (sl:Slots) (nn tt om xi ps):Ends (go w 100 (den (loopC (nthS w.params 185 2) (.ref it) (envAt w.params 185 L))) [2,1,4] ([(L,fr6 H T row tr k tk x1 x2 o to d0 td sl),(it,iterO s t i)]) (IL fun nn tt om xi=>[sendI 1 it s t i]) nn tt om xi ps) ([0]) (.ok (.again (.block [] (envAt w.params 185 L)))) ([(L,fr6 H T row tr k tk x1 x2 o to d0 td sl)]) := by trivial
theorem scn114 (w:World) (t u:Nat) (nn tt om xi ps):Ends (go w 40 (Sem.call (.call (.builtin "str.__contains__") ⟨[.str "rwxst" t,.str ⟨⟨[114]⟩⟩ u],[]⟩) none false [] Sem.pure) [0] ([]) .nil nn tt om xi ps) ([]) (.ok (.ok (.ret (.bool true)))) ([]) := by trivial
theorem scn119 (w:World) (t u:Nat) (nn tt om xi ps):Ends (go w 40 (Sem.call (.call (.builtin "str.__contains__") ⟨[.str "rwxst" t,.str ⟨⟨[119]⟩⟩ u],[]⟩) none false [] Sem.pure) [0] ([]) .nil nn tt om xi ps) ([]) (.ok (.ok (.ret (.bool true)))) ([]) := by trivial
theorem scn120 (w:World) (t u:Nat) (nn tt om xi ps):Ends (go w 40 (Sem.call (.call (.builtin "str.__contains__") ⟨[.str "rwxst" t,.str ⟨⟨[120]⟩⟩ u],[]⟩) none false [] Sem.pure) [0] ([]) .nil nn tt om xi ps) ([]) (.ok (.ok (.ret (.bool true)))) ([]) := by trivial
theorem scn115 (w:World) (t u:Nat) (nn tt om xi ps):Ends (go w 40 (Sem.call (.call (.builtin "str.__contains__") ⟨[.str "rwxst" t,.str ⟨⟨[115]⟩⟩ u],[]⟩) none false [] Sem.pure) [0] ([]) .nil nn tt om xi ps) ([]) (.ok (.ok (.ret (.bool true)))) ([]) := by trivial
theorem scn116 (w:World) (t u:Nat) (nn tt om xi ps):Ends (go w 40 (Sem.call (.call (.builtin "str.__contains__") ⟨[.str "rwxst" t,.str ⟨⟨[116]⟩⟩ u],[]⟩) none false [] Sem.pure) [0] ([]) .nil nn tt om xi ps) ([]) (.ok (.ok (.ret (.bool true)))) ([]) := by trivial
theorem scn45 (w:World) (t u:Nat) (nn tt om xi ps):Ends (go w 40 (Sem.call (.call (.builtin "str.__contains__") ⟨[.str "rwxst" t,.str ⟨⟨[45]⟩⟩ u],[]⟩) none false [] Sem.pure) [0] ([]) .nil nn tt om xi ps) ([]) (.ok (.ok (.ret (.bool false)))) ([]) := by trivial
theorem scn83 (w:World) (t u:Nat) (nn tt om xi ps):Ends (go w 40 (Sem.call (.call (.builtin "str.__contains__") ⟨[.str "rwxst" t,.str ⟨⟨[83]⟩⟩ u],[]⟩) none false [] Sem.pure) [0] ([]) .nil nn tt om xi ps) ([]) (.ok (.ok (.ret (.bool false)))) ([]) := by trivial
theorem scn84 (w:World) (t u:Nat) (nn tt om xi ps):Ends (go w 40 (Sem.call (.call (.builtin "str.__contains__") ⟨[.str "rwxst" t,.str ⟨⟨[84]⟩⟩ u],[]⟩) none false [] Sem.pure) [0] ([]) .nil nn tt om xi ps) ([]) (.ok (.ok (.ret (.bool false)))) ([]) := by trivial
theorem sgD (w:World) (c0 c1 c2 c3 c4 c5 c6 c7 c8 c9 t q tk:Nat) (nn tt om xi ps):Ends (go w 60 (Sem.call (.call (.builtin "str.__getitem__") ⟨[.str ⟨⟨[c0,c1,c2,c3,c4,c5,c6,c7,c8,c9]⟩⟩ t,.ref q],[]⟩) none false [] Sem.pure) [0,1,1,1,1] ([(q,slcO (.int 1 tk) .none .none)]) .nil nn tt om xi ps) ([0]) (.ok (.ok (.ret (.str ⟨⟨[c1,c2,c3,c4,c5,c6,c7,c8,c9]⟩⟩ (tt 0))))) ([(q,slcO (.int 1 tk) .none .none)]) := by trivial
noncomputable def isR (c : Nat) : Bool := c == 114 || c == 119 || c == 120 || c == 115 || c == 116
noncomputable def signs8 : List Nat := [114,119,120,115,116,45,83,84]
section
variable {w : World} {C : Around → Prop} (hh : ∀ A,C A → A.handled = none)
include hh
theorem scont_ok {t u c : Nat} (hc : c ∈ signs8) {r : Bool} (hr : isR c = r) : IOk theP w (MyK w.params) C (bI "str.__contains__" [.str "rwxst" t,.str ⟨⟨[c]⟩⟩ u] (boolR r)) := by
  subst hr
  simp only [signs8,List.mem_cons,List.not_mem_nil,or_false] at hc
  rcases hc with rfl | rfl | rfl | rfl | rfl | rfl | rfl | rfl
  · exact pureI _ (scn114 w t u) hh
  · exact pureI _ (scn119 w t u) hh
  · exact pureI _ (scn120 w t u) hh
  · exact pureI _ (scn115 w t u) hh
  · exact pureI _ (scn116 w t u) hh
  · exact pureI _ (scn45 w t u) hh
  · exact pureI _ (scn83 w t u) hh
  · exact pureI _ (scn84 w t u) hh
theorem sgD_ok {jq q t tk : Nat} {s : List Nat} (hs : s.length = 10) : IOk theP w (MyK w.params) C (sgI jq q s t (.int 1 tk) .none .none s.tail) := by
  rcases s with _ | ⟨c0,_ | ⟨c1,_ | ⟨c2,_ | ⟨c3,_ | ⟨c4,_ | ⟨c5,_ | ⟨c6,_ | ⟨c7,_ | ⟨c8,_ | ⟨c9,_ | ⟨c10,l⟩⟩⟩⟩⟩⟩⟩⟩⟩⟩⟩
  iterate 10 (simp only [List.length_cons,List.length_nil] at hs; omega)
  · exact segI (I := sgI jq q [c0,c1,c2,c3,c4,c5,c6,c7,c8,c9] t (.int 1 tk) .none .none [c1,c2,c3,c4,c5,c6,c7,c8,c9]) (sgD w c0 c1 c2 c3 c4 c5 c6 c7 c8 c9 t q tk) hh noIns fun nn tt om xi => ⟨tt,fun _ => #[],rfl,rfl,rfl⟩
  · simp only [List.length_cons] at hs; omega
end
noncomputable def rif : List Nat → List Nat → List Nat → List Nat
  | [],_,_ => []
  | _ :: cs,y :: d,[] => y :: rif cs d []
  | c :: cs,y :: d,z :: t => match isR c with
    | true => y :: rif cs d (z :: t)
    | false => z :: rif cs (y :: d) t
  | _ :: cs,[],z :: t => z :: rif cs [] t
  | _ :: _,[],[] => []
theorem permMid {α : Type} (P A B : List α) (q : α) : ((P ++ [q]) ++ (A ++ B)).Perm (P ++ ((A ++ [q]) ++ B)) := by
  simp only [List.append_assoc,List.cons_append,List.nil_append]
  exact List.perm_middle.symm.append_left P
theorem permMid2 {α : Type} (P A B D : List α) (q : α) : ((P ++ [q]) ++ (A ++ (B ++ D))).Perm (P ++ (A ++ ((B ++ [q]) ++ D))) := by
  have := permMid P (A ++ B) D q
  simp only [List.append_assoc] at this ⊢
  exact this
theorem szgt (l : List Addr) (a : Addr) : decide (((⟨(l ++ [a]).map Value.ref⟩ : Array Value).size : Int) > 0) = true := by
  rw [decide_eq_true_iff]
  simp only [List.size_toArray,List.length_map,List.length_append,List.length_cons,List.length_nil]
  omega
noncomputable def frR (row : List Nat) (tr k tk x1 x2 : Nat) (o : List Nat) (to i : Nat) (fr : Obj) : Prop := (i = 0 ∧ ∃ H T,fr = fr5 H T row tr k tk x1 x2 o to #[]) ∨ (∃ H T d0 td,fr = fr6 H T row tr k tk x1 x2 o to d0 td #[])
theorem loopR (w : World) (b c : Bool) {A : Around} {g : Heap} {A0 : List Addr} {R : Result → Shared → Prop} (hA : AB 839 6900 A) (L it t x1 dx1 t51 x2 dx2 t52 k tk tr : Nat) (h1 h2 : Int) (row s : List Nat) (hsl : s.length = 9) (hsg : ∀ c ∈ s,c ∈ signs8) (rest : Led) :
    ∀ (m i n1 n2 : Nat) (l1 l2 : List LT) (o : List Nat) (to : Nat) (fr : Obj) (sh : Shared),i + m = s.length → l1.length + l2.length = m → o.length = i → frR row tr k tk x1 x2 o to i fr →
    Rp (MyK (wf w b c).params) g A0 sh.heap ([(L,fr),(it,iterO s t i),(x1,accR dx1 (l1.map (·.a)) n1),(dx1,dicO h1 t51),(x2,accR dx2 (l2.map (·.a)) n2),(dx2,dicO h2 t52)] ++ (tups l1 ++ (tups l2 ++ rest))) →
    (∀ to' H T d0 td h' tk',Rp (MyK (wf w b c).params) g A0 h' [(L,fr6 H T row tr k tk x1 x2 (o ++ rif (s.drop i) (l1.map (·.c)).reverse (l2.map (·.c)).reverse) to' d0 td #[])] → R (.ok .next) { sh with heap := h',toks := tk' }) →
    codeAny (MM (wf w b c)) A (loopC (nthS (wf w b c).params 185 2) (.ref it) (envAt (wf w b c).params 185 L)) R sh := by
  intro m
  induction m with
  | zero =>
    intro i n1 n2 l1 l2 o to fr sh hi hl ho hfr D hR
    refine codeTurn rfl ?_
    have e : s.drop i = [] := List.drop_eq_nil_of_le (by omega)
    rcases hfr with ⟨hi0,_⟩ | ⟨H,T,d0,td,rfl⟩
    · omega
    · refine fragQ ([(x1,accR dx1 (l1.map (·.a)) n1),(dx1,dicO h1 t51),(x2,accR dx2 (l2.map (·.a)) n2),(dx2,dicO h2 t52)] ++ (tups l1 ++ (tups l2 ++ rest))) D (List.Perm.refl _) (rx (wf w b c) L k tk tr x1 x2 0 0 0 0 0 0 it t i 0 d0 td to 0 0 0 0 row s o [] [] 0 0 H T #[]) AB.hh hA (okIL _ fun nn tt om xi => oneIns (send_ok AB.hh (by omega) (by omega)) nilIns) ?_
      intro _ _ _ _ h' tk' D'
      refine ⟨by kernel_rfl,codeBlk (hR to H T d0 td h' tk' ?_)⟩
      rw [e]
      have : o ++ rif [] (l1.map (·.c)).reverse (l2.map (·.c)).reverse = o := by simp [rif]
      rw [this]
      exact D'.sub (List.sublist_append_left _ _)
  | succ m ih =>
    intro i n1 n2 l1 l2 o to fr sh hi hl ho hfr D hR
    refine codeTurn rfl ?_
    have hlt : i < s.length := by omega
    obtain ⟨c0,hc0⟩ : ∃ c0,s[i]? = some c0 := ⟨_,List.getElem?_eq_getElem hlt⟩
    have hdrop : s.drop i = c0 :: s.drop (i + 1) := by
      rw [List.drop_eq_getElem_cons hlt,(List.getElem?_eq_some_iff.mp hc0).2]
    have hcs : c0 ∈ signs8 := hsg _ (List.mem_of_getElem? hc0)
    have hnx : ∀ {j},IOk theP (wf w b c) (MyK (wf w b c).params) (AB 839 6900) (snextI j it s t i c0) := snext_ok AB.hh hc0 (by omega)
    have hct : ∀ jx jd x dx its n hh t5,IOk theP (wf w b c) (MyK (wf w b c).params) (AB 839 6900) (cntI jx jd x dx its n hh t5) := fun jx jd x dx its n hh t5 => (cnt_ok (wf w b c) jx jd x dx its n hh t5).ab
    have hpp : ∀ jx jd x dx l a n hh t5,l.length ≤ 8 → IOk theP (wf w b c) (MyK (wf w b c).params) (AB 839 6900) (popI jx jd x dx l a n hh t5) := fun jx jd x dx l a n hh t5 hl => (pop_ok w b c jx jd x dx l a hl n hh t5).ab
    have hsd : ∀ d t u,IOk theP (wf w b c) (MyK (wf w b c).params) (AB 839 6900) (bI "str.__add__" [.str ⟨⟨o⟩⟩ t,.str ⟨⟨[d]⟩⟩ u] (strR ⟨⟨o ++ [d]⟩⟩)) := fun d t u => sadd_ok AB.hh (by omega)
    have stepD : ∀ (l1' : List LT) (q : LT) (H : Nat → Int) (T : Nat → Nat) to' td' h' tk',l1 = l1' ++ [q] → rif (s.drop i) (l1.map (·.c)).reverse (l2.map (·.c)).reverse = q.c :: rif (s.drop (i + 1)) (l1'.map (·.c)).reverse (l2.map (·.c)).reverse →
        Rp (MyK (wf w b c).params) g A0 h' ([(L,fr6 H T row tr k tk x1 x2 (o ++ [q.c]) to' c0 td' #[]),(it,iterO s t (i + 1)),(x1,accR dx1 (l1'.map (·.a)) (n1 + 1)),(dx1,dicO h1 t51),(x2,accR dx2 (l2.map (·.a)) n2),(dx2,dicO h2 t52)] ++ (tups l1' ++ (tups l2 ++ rest))) →
        codeAny (MM (wf w b c)) A (loopC (nthS (wf w b c).params 185 2) (.ref it) (envAt (wf w b c).params 185 L)) R { sh with heap := h',toks := tk' } := by
      intro l1' q H T to' td' h' tk' el er D'
      subst el
      refine ih (i + 1) (n1 + 1) n2 l1' l2 (o ++ [q.c]) to' _ { sh with heap := h',toks := tk' } (by omega) (by simp only [List.length_append,List.length_cons,List.length_nil] at hl; omega) (by rw [List.length_append,ho]; rfl) (.inr ⟨H,T,c0,td',rfl⟩) D' ?_
      intro to2 H2 T2 d2 td2 h2' tk2 D2
      refine hR to2 H2 T2 d2 td2 h2' tk2 ?_
      rw [er]
      have e2 : o ++ q.c :: rif (s.drop (i + 1)) (l1'.map (·.c)).reverse (l2.map (·.c)).reverse = (o ++ [q.c]) ++ rif (s.drop (i + 1)) (l1'.map (·.c)).reverse (l2.map (·.c)).reverse := by simp
      rw [e2]; exact D2
    have stepO : ∀ (l2' : List LT) (q : LT) (H : Nat → Int) (T : Nat → Nat) to' td' h' tk',l2 = l2' ++ [q] → rif (s.drop i) (l1.map (·.c)).reverse (l2.map (·.c)).reverse = q.c :: rif (s.drop (i + 1)) (l1.map (·.c)).reverse (l2'.map (·.c)).reverse →
        Rp (MyK (wf w b c).params) g A0 h' ([(L,fr6 H T row tr k tk x1 x2 (o ++ [q.c]) to' c0 td' #[]),(it,iterO s t (i + 1)),(x1,accR dx1 (l1.map (·.a)) n1),(dx1,dicO h1 t51),(x2,accR dx2 (l2'.map (·.a)) (n2 + 1)),(dx2,dicO h2 t52)] ++ (tups l1 ++ (tups l2' ++ rest))) →
        codeAny (MM (wf w b c)) A (loopC (nthS (wf w b c).params 185 2) (.ref it) (envAt (wf w b c).params 185 L)) R { sh with heap := h',toks := tk' } := by
      intro l2' q H T to' td' h' tk' el er D'
      subst el
      refine ih (i + 1) n1 (n2 + 1) l1 l2' (o ++ [q.c]) to' _ { sh with heap := h',toks := tk' } (by omega) (by simp only [List.length_append,List.length_cons,List.length_nil] at hl; omega) (by rw [List.length_append,ho]; rfl) (.inr ⟨H,T,c0,td',rfl⟩) D' ?_
      intro to2 H2 T2 d2 td2 h2' tk2 D2
      refine hR to2 H2 T2 d2 td2 h2' tk2 ?_
      rw [er]
      have e2 : o ++ q.c :: rif (s.drop (i + 1)) (l1.map (·.c)).reverse (l2'.map (·.c)).reverse = (o ++ [q.c]) ++ rif (s.drop (i + 1)) (l1.map (·.c)).reverse (l2'.map (·.c)).reverse := by simp
      rw [e2]; exact D2
    rcases List.eq_nil_or_concat l2 with e2 | ⟨l2',q2,e2⟩ <;> rcases List.eq_nil_or_concat l1 with e1 | ⟨l1',q1,e1⟩
    · subst e1; subst e2; simp at hl
    · -- others empty
      rw [List.concat_eq_append] at e1
      subst e2
      have D1 := D
      rw [e1] at D1
      simp only [List.map_append,List.map_cons,List.map_nil,tups] at D1
      have hl1 : (l1'.map (·.a)).length ≤ 8 := by rw [e1] at hl; simp only [List.length_append,List.length_cons,List.length_nil] at hl; rw [List.length_map]; omega
      have er : rif (s.drop i) (l1.map (·.c)).reverse (([] : List LT).map (·.c)).reverse = q1.c :: rif (s.drop (i + 1)) (l1'.map (·.c)).reverse (([] : List LT).map (·.c)).reverse := by
        rw [hdrop,e1]; simp [rif]
      rcases hfr with ⟨_,H,T,rfl⟩ | ⟨H,T,d0,td,rfl⟩
      · refine fragQ (l1'.map tupL ++ ([] ++ rest)) D1 (permMid _ _ _ _) (rtAa w L k tk tr x1 x2 dx1 dx2 n1 n2 t51 t52 it t i c0 0 0 to q1.a q1.t0 q1.t1 q1.c row s o (l1'.map (·.a)) [] h1 h2 H T #[] b c) AB.hh hA (okIL _ fun nn tt om xi => oneIns hnx (oneIns (hct _ _ _ _ _ _ _ _) (oneIns (ieq_ok AB.hh rfl) (oneIns (hpp _ _ _ _ _ _ _ _ _ hl1) (oneIns (hsd _ _ _) nilIns))))) ?_
        intro nn tt om xi h' tk' D'
        exact ⟨by kernel_rfl,stepD l1' q1 _ _ _ _ h' tk' e1 er D'⟩
      · refine fragQ (l1'.map tupL ++ ([] ++ rest)) D1 (permMid _ _ _ _) (rtAb w L k tk tr x1 x2 dx1 dx2 n1 n2 t51 t52 it t i c0 d0 td to q1.a q1.t0 q1.t1 q1.c row s o (l1'.map (·.a)) [] h1 h2 H T #[] b c) AB.hh hA (okIL _ fun nn tt om xi => oneIns hnx (oneIns (hct _ _ _ _ _ _ _ _) (oneIns (ieq_ok AB.hh rfl) (oneIns (hpp _ _ _ _ _ _ _ _ _ hl1) (oneIns (hsd _ _ _) nilIns))))) ?_
        intro nn tt om xi h' tk' D'
        exact ⟨by kernel_rfl,stepD l1' q1 _ _ _ _ h' tk' e1 er D'⟩
    · -- dealt empty
      rw [List.concat_eq_append] at e2
      subst e1
      have D1 := D
      rw [e2] at D1
      simp only [List.map_append,List.map_cons,List.map_nil,tups] at D1
      have hl2 : (l2'.map (·.a)).length ≤ 8 := by rw [e2] at hl; simp only [List.length_append,List.length_cons,List.length_nil] at hl; rw [List.length_map]; omega
      have er : rif (s.drop i) (([] : List LT).map (·.c)).reverse (l2.map (·.c)).reverse = q2.c :: rif (s.drop (i + 1)) (([] : List LT).map (·.c)).reverse (l2'.map (·.c)).reverse := by
        rw [hdrop,e2]; simp [rif]
      cases hr : isR c0 with
      | true =>
        rcases hfr with ⟨_,H,T,rfl⟩ | ⟨H,T,d0,td,rfl⟩
        · refine fragQ ([] ++ (l2'.map tupL ++ rest)) D1 (permMid2 _ _ _ _ _) (rtCa w L k tk tr x1 x2 dx1 dx2 n1 n2 t51 t52 it t i c0 0 0 to q2.a q2.t0 q2.t1 q2.c row s o [] (l2'.map (·.a)) h1 h2 H T #[] b c) AB.hh hA (okIL _ fun nn tt om xi => oneIns hnx (oneIns (hct _ _ _ _ _ _ _ _) (oneIns (ieq_ok AB.hh (szne _ _)) (oneIns (scont_ok AB.hh hcs hr) (oneIns (hct _ _ _ _ _ _ _ _) (oneIns (igt_ok AB.hh rfl) (oneIns (hpp _ _ _ _ _ _ _ _ _ hl2) (oneIns (hsd _ _ _) nilIns)))))))) ?_
          intro nn tt om xi h' tk' D'
          exact ⟨by kernel_rfl,stepO l2' q2 _ _ _ _ h' tk' e2 er D'⟩
        · refine fragQ ([] ++ (l2'.map tupL ++ rest)) D1 (permMid2 _ _ _ _ _) (rtCb w L k tk tr x1 x2 dx1 dx2 n1 n2 t51 t52 it t i c0 d0 td to q2.a q2.t0 q2.t1 q2.c row s o [] (l2'.map (·.a)) h1 h2 H T #[] b c) AB.hh hA (okIL _ fun nn tt om xi => oneIns hnx (oneIns (hct _ _ _ _ _ _ _ _) (oneIns (ieq_ok AB.hh (szne _ _)) (oneIns (scont_ok AB.hh hcs hr) (oneIns (hct _ _ _ _ _ _ _ _) (oneIns (igt_ok AB.hh rfl) (oneIns (hpp _ _ _ _ _ _ _ _ _ hl2) (oneIns (hsd _ _ _) nilIns)))))))) ?_
          intro nn tt om xi h' tk' D'
          exact ⟨by kernel_rfl,stepO l2' q2 _ _ _ _ h' tk' e2 er D'⟩
      | false =>
        rcases hfr with ⟨_,H,T,rfl⟩ | ⟨H,T,d0,td,rfl⟩
        · refine fragQ ([] ++ (l2'.map tupL ++ rest)) D1 (permMid2 _ _ _ _ _) (rtDa w L k tk tr x1 x2 dx1 dx2 n1 n2 t51 t52 it t i c0 0 0 to q2.a q2.t0 q2.t1 q2.c row s o [] (l2'.map (·.a)) h1 h2 H T #[] b c) AB.hh hA (okIL _ fun nn tt om xi => oneIns hnx (oneIns (hct _ _ _ _ _ _ _ _) (oneIns (ieq_ok AB.hh (szne _ _)) (oneIns (scont_ok AB.hh hcs hr) (oneIns (hpp _ _ _ _ _ _ _ _ _ hl2) (oneIns (hsd _ _ _) nilIns)))))) ?_
          intro nn tt om xi h' tk' D'
          exact ⟨by kernel_rfl,stepO l2' q2 _ _ _ _ h' tk' e2 er D'⟩
        · refine fragQ ([] ++ (l2'.map tupL ++ rest)) D1 (permMid2 _ _ _ _ _) (rtDb w L k tk tr x1 x2 dx1 dx2 n1 n2 t51 t52 it t i c0 d0 td to q2.a q2.t0 q2.t1 q2.c row s o [] (l2'.map (·.a)) h1 h2 H T #[] b c) AB.hh hA (okIL _ fun nn tt om xi => oneIns hnx (oneIns (hct _ _ _ _ _ _ _ _) (oneIns (ieq_ok AB.hh (szne _ _)) (oneIns (scont_ok AB.hh hcs hr) (oneIns (hpp _ _ _ _ _ _ _ _ _ hl2) (oneIns (hsd _ _ _) nilIns)))))) ?_
          intro nn tt om xi h' tk' D'
          exact ⟨by kernel_rfl,stepO l2' q2 _ _ _ _ h' tk' e2 er D'⟩
    · -- both have letters
      rw [List.concat_eq_append] at e1 e2
      have hl1 : (l1'.map (·.a)).length ≤ 8 := by rw [e1] at hl; simp only [List.length_append,List.length_cons,List.length_nil] at hl; rw [List.length_map]; omega
      have hl2 : (l2'.map (·.a)).length ≤ 8 := by rw [e2] at hl; simp only [List.length_append,List.length_cons,List.length_nil] at hl; rw [List.length_map]; omega
      cases hr : isR c0 with
      | true =>
        have D1 := D
        rw [e1] at D1
        simp only [List.map_append,List.map_cons,List.map_nil,tups] at D1
        have z2 : l2.map (·.a) = l2'.map (·.a) ++ [q2.a] := by rw [e2]; simp
        have er : rif (s.drop i) (l1.map (·.c)).reverse (l2.map (·.c)).reverse = q1.c :: rif (s.drop (i + 1)) (l1'.map (·.c)).reverse (l2.map (·.c)).reverse := by
          rw [hdrop,e1,e2]; simp [rif,hr]
        rcases hfr with ⟨_,H,T,rfl⟩ | ⟨H,T,d0,td,rfl⟩
        · refine fragQ (l1'.map tupL ++ (l2.map tupL ++ rest)) D1 (permMid _ _ _ _) (rtBa w L k tk tr x1 x2 dx1 dx2 n1 n2 t51 t52 it t i c0 0 0 to q1.a q1.t0 q1.t1 q1.c row s o (l1'.map (·.a)) (l2.map (·.a)) h1 h2 H T #[] b c) AB.hh hA (okIL _ fun nn tt om xi => oneIns hnx (oneIns (hct _ _ _ _ _ _ _ _) (oneIns (ieq_ok AB.hh (by rw [z2]; exact szne _ _)) (oneIns (scont_ok AB.hh hcs hr) (oneIns (hct _ _ _ _ _ _ _ _) (oneIns (igt_ok AB.hh (szgt _ _)) (oneIns (hpp _ _ _ _ _ _ _ _ _ hl1) (oneIns (hsd _ _ _) nilIns)))))))) ?_
          intro nn tt om xi h' tk' D'
          exact ⟨by kernel_rfl,stepD l1' q1 _ _ _ _ h' tk' e1 er D'⟩
        · refine fragQ (l1'.map tupL ++ (l2.map tupL ++ rest)) D1 (permMid _ _ _ _) (rtBb w L k tk tr x1 x2 dx1 dx2 n1 n2 t51 t52 it t i c0 d0 td to q1.a q1.t0 q1.t1 q1.c row s o (l1'.map (·.a)) (l2.map (·.a)) h1 h2 H T #[] b c) AB.hh hA (okIL _ fun nn tt om xi => oneIns hnx (oneIns (hct _ _ _ _ _ _ _ _) (oneIns (ieq_ok AB.hh (by rw [z2]; exact szne _ _)) (oneIns (scont_ok AB.hh hcs hr) (oneIns (hct _ _ _ _ _ _ _ _) (oneIns (igt_ok AB.hh (szgt _ _)) (oneIns (hpp _ _ _ _ _ _ _ _ _ hl1) (oneIns (hsd _ _ _) nilIns)))))))) ?_
          intro nn tt om xi h' tk' D'
          exact ⟨by kernel_rfl,stepD l1' q1 _ _ _ _ h' tk' e1 er D'⟩
      | false =>
        have D1 := D
        rw [e2] at D1
        simp only [List.map_append,List.map_cons,List.map_nil,tups] at D1
        have er : rif (s.drop i) (l1.map (·.c)).reverse (l2.map (·.c)).reverse = q2.c :: rif (s.drop (i + 1)) (l1.map (·.c)).reverse (l2'.map (·.c)).reverse := by
          rw [hdrop,e1,e2]; simp [rif,hr]
        rcases hfr with ⟨_,H,T,rfl⟩ | ⟨H,T,d0,td,rfl⟩
        · refine fragQ (l1.map tupL ++ (l2'.map tupL ++ rest)) D1 (permMid2 _ _ _ _ _) (rtDa w L k tk tr x1 x2 dx1 dx2 n1 n2 t51 t52 it t i c0 0 0 to q2.a q2.t0 q2.t1 q2.c row s o (l1.map (·.a)) (l2'.map (·.a)) h1 h2 H T #[] b c) AB.hh hA (okIL _ fun nn tt om xi => oneIns hnx (oneIns (hct _ _ _ _ _ _ _ _) (oneIns (ieq_ok AB.hh (szne _ _)) (oneIns (scont_ok AB.hh hcs hr) (oneIns (hpp _ _ _ _ _ _ _ _ _ hl2) (oneIns (hsd _ _ _) nilIns)))))) ?_
          intro nn tt om xi h' tk' D'
          exact ⟨by kernel_rfl,stepO l2' q2 _ _ _ _ h' tk' e2 er D'⟩
        · refine fragQ (l1.map tupL ++ (l2'.map tupL ++ rest)) D1 (permMid2 _ _ _ _ _) (rtDb w L k tk tr x1 x2 dx1 dx2 n1 n2 t51 t52 it t i c0 d0 td to q2.a q2.t0 q2.t1 q2.c row s o (l1.map (·.a)) (l2'.map (·.a)) h1 h2 H T #[] b c) AB.hh hA (okIL _ fun nn tt om xi => oneIns hnx (oneIns (hct _ _ _ _ _ _ _ _) (oneIns (ieq_ok AB.hh (szne _ _)) (oneIns (scont_ok AB.hh hcs hr) (oneIns (hpp _ _ _ _ _ _ _ _ _ hl2) (oneIns (hsd _ _ _) nilIns)))))) ?_
          intro nn tt om xi h' tk' D'
          exact ⟨by kernel_rfl,stepO l2' q2 _ _ _ _ h' tk' e2 er D'⟩
theorem fn185 (P : Params) : fnOk P 185 := ⟨_,_,_,_,_,rfl,rfl,rfl,rfl,rfl,rfl,rfl⟩
theorem body185 (P : Params) : bodyOf P 185 = [nthS P 185 0,nthS P 185 1,nthS P 185 2,nthS P 185 3] := rfl
theorem for185 (P : Params) : nthS P 185 2 = .For (fT (nthS P 185 2)) (fI (nthS P 185 2)) (fB (nthS P 185 2)) (fO (nthS P 185 2)) (fP (nthS P 185 2)) := rfl
noncomputable def rifI (row : List Nat) (tr k tk : Nat) : Inst := ⟨.call (.ref 185) ⟨[.str ⟨⟨row⟩⟩ tr,.int (Int.ofNat k) tk],[]⟩,[],fun ω _ => .ok (.ret (.str ⟨⟨rif row.tail (abc.take k).reverse (abc.drop k)⟩⟩ (ω 0))),fun _ _ => [],fun _ _ => []⟩
theorem ltOf_c (ω : Nat → Nat) : ∀ (l : List Nat) (b : Nat),(ltOf ω b l).map (·.c) = l
  | [],_ => rfl
  | c :: l,b => by show c :: (ltOf ω (b + 3) l).map (·.c) = _; rw [ltOf_c ω l]
theorem rif_ok (w : World) (b c : Bool) (row : List Nat) (tr k tk : Nat) (hk : k ≤ 9) (hr : row.length = 10) (hsg : ∀ c ∈ row.tail,c ∈ signs8) : IOk theP (wf w b c) (MyK (wf w b c).params) (AB 790 6000) (rifI row tr k tk) := by
  intro A s R hA hK hn hd ho hlo hR
  have D := Rp.start _ hK hn hd ho hlo
  refine x_call ?_ (by intro z; cases z)
  refine enterFn 185 60 _ [.str ⟨⟨row⟩⟩ tr,.int (Int.ofNat k) tk] [("row",.str ⟨⟨row⟩⟩ tr),("count",.int (Int.ofNat k) tk)] (fun tt => frO [en (hs (wf w b c).params "row") "row" (tt 0) (.str ⟨⟨row⟩⟩ tr),en (hs (wf w b c).params "count") "count" (tt 0 + 1) (.int (Int.ofNat k) tk)] 2 #[]) (fn185 _) (by kernel_rfl) hA.1 (limit_ok (Nat.le_trans hA.2.1 (by decide))) D (fun nn tt om xi ps => n185 (wf w b c) k tk tr row nn tt om xi ps) ?_
  intro L T h1 k1 D1
  have hA' : AB 791 6003 ((A.mark none).deeper (envAt (wf w b c).params 185 L)) := AB.deep hA
  refine ks_codeAny_funcAt (wpAt_of_wpAny ?_)
  rw [body185]
  refine wpAny_execs_cons ?_
  refine fragQ [] D1 (List.Perm.refl _) (r0 w L k tk tr row (fun i => match i with | 0 => hs (wf w b c).params "row" | _ => hs (wf w b c).params "count") (fun i => match i with | 0 => T 0 | _ => T 0 + 1) b c) AB.hh hA' (okIL _ fun nn tt om xi => oneIns (pil_ok w b c k tk hk).ab nilIns) ?_
  intro nn tt om xi h2 k2 D2
  clear D1
  rw [ledCat_eq,List.append_nil] at D2
  refine wpAny_execs_cons ?_
  generalize hω : om 0 = ω at D2
  refine fragQ (List.tail (pilNew (wf w b c) k ω)) (led := [(L,fr4 (fun i => match i with | 0 => hs (wf w b c).params "row" | 1 => hs (wf w b c).params "count" | 2 => hs (wf w b c).params "dealt" | _ => hs (wf w b c).params "others") (fun i => match i with | 0 => T 0 | 1 => T 0 + 1 | 2 => tt 1 | _ => tt 1 + 1) row tr k tk (ω 1) (ω 2) #[])]) D2 (List.Perm.of_eq (by rw [List.append_nil]; rfl)) (r1 (wf w b c) L k tk tr (ω 1) (ω 2) row _ _ #[]) AB.hh hA' noIns ?_
  intro nn3 tt3 om3 xi3 h3 k3 D3
  refine wpAny_execs_cons (forStmt (for185 _) ?_)
  refine fragQ (List.tail (pilNew (wf w b c) k ω)) D3 (List.Perm.refl _) (r2 w L k tk tr (ω 1) (ω 2) row _ _ #[] [] (tt3 0) row.tail b c) AB.hh hA' (okIL _ fun nn tt om xi => oneIns (sgD_ok AB.hh hr) (oneIns (siter_ok AB.hh fun x hx => ?_) nilIns)) ?_
  · have := hsg x hx
    simp only [signs8,List.mem_cons,List.not_mem_nil,or_false] at this
    omega
  intro nn4 tt4 om4 xi4 h4 k4 D4
  have eT : List.tail (pilNew (wf w b c) k ω) = [(ω 1,accR (ω 3) ((ltOf ω 9 (abc.take k)).map (·.a)) (ω 5)),(ω 3,dicO (hs (wf w b c).params "_initial_size") (ω 6)),(ω 2,accR (ω 4) ((ltOf ω (9 + 3 * k) (abc.drop k).reverse).map (·.a)) (ω 7)),(ω 4,dicO (hs (wf w b c).params "_initial_size") (ω 8))] ++ (tups (ltOf ω 9 (abc.take k)) ++ (tups (ltOf ω (9 + 3 * k) (abc.drop k).reverse) ++ [])) := by rw [List.append_nil]; rfl
  rw [eT] at D4
  refine loopR w b c (hA'.mono (by decide) (by decide)) L (om4 1 0) (om4 0 0) (ω 1) (ω 3) (ω 6) (ω 2) (ω 4) (ω 8) k tk tr (hs (wf w b c).params "_initial_size") (hs (wf w b c).params "_initial_size") row row.tail (by rw [List.length_tail,hr]) hsg [] 9 0 (ω 5) (ω 7) (ltOf ω 9 (abc.take k)) (ltOf ω (9 + 3 * k) (abc.drop k).reverse) [] (tt3 0) _ _ (by rw [List.length_tail,hr]) ?_ rfl (.inl ⟨rfl,_,_,rfl⟩) D4 ?_
  · have e1 := congrArg List.length (ltOf_c ω (abc.take k) 9)
    have e2 := congrArg List.length (ltOf_c ω (abc.drop k).reverse (9 + 3 * k))
    rw [List.length_map] at e1 e2
    rw [e1,e2,List.length_take,List.length_reverse,List.length_drop]
    have : abc.length = 9 := rfl
    rw [this]; omega
  · intro to' H T d0 td h5 k5 D5
    rw [ltOf_c,ltOf_c,List.reverse_reverse,List.drop_zero,List.nil_append] at D5
    refine wpAny_execs_cons ?_
    refine fragQ [] D5 (List.Perm.of_eq (List.append_nil _)) (r3 (wf w b c) L k tk tr (ω 1) (ω 2) row H T #[] _ to' d0 td) AB.hh hA' noIns ?_
    intro _ _ _ _ h6 k6 D6
    exact wpAny_pure (hR (fun _ => to') (fun _ => #[]) h6 k6 rfl (Eff.ofApp (l := []) (os := []) (nw := []) D6 rfl))
noncomputable abbrev rngO (i m : Int) : Obj := ⟨.type "range_iterator",none,.fields #[.int i 0,.int m 0,.int 1 0],#[]⟩
noncomputable abbrev bf (H : Nat → Int) (T : Nat → Nat) (r tr k tk : Nat) (es : List DictEntry) (n : Nat) (sl : Slots) : Obj := frO (fe H T 0 "rights" (.int (Int.ofNat r) tr) :: fe H T 1 "count" (.int (Int.ofNat k) tk) :: es) n sl
noncomputable abbrev bf5 (H : Nat → Int) (T : Nat → Nat) (r tr k tk : Nat) (lo hi : Int) (tl th : Nat) (o : List Nat) (to : Nat) (sl : Slots) : Obj := bf H T r tr k tk [fe H T 2 "low" (.int lo tl),fe H T 3 "high" (.int hi th),fe H T 4 "order" (.str ⟨⟨o⟩⟩ to)] 5 sl
noncomputable abbrev bf6 (H : Nat → Int) (T : Nat → Nat) (r tr k tk : Nat) (lo hi : Int) (tl th : Nat) (o : List Nat) (to : Nat) (q : Int) (tq : Nat) (sl : Slots) : Obj := bf H T r tr k tk [fe H T 2 "low" (.int lo tl),fe H T 3 "high" (.int hi th),fe H T 4 "order" (.str ⟨⟨o⟩⟩ to),fe H T 5 "k" (.int q tq)] 6 sl
theorem n192 (w:World) (r tr:Nat) (k tk:Nat) (nn tt om xi ps):Ends (go w 60 (nfe w.params 192 [("rights",.int (Int.ofNat r) tr),("count",.int (Int.ofNat k) tk)]) [1,1,1,1] ([]) .nil nn tt om xi ps) ([0]) (.ok (envAt w.params 192 (nn 0))) ([(nn 0,bf (fun i=>match i with | 0=>hs w.params "rights" | _=>hs w.params "count") (fun i=>match i with | 0=>tt 0 | _=>tt 0+1) r tr k tk [] 2 #[])]) := by trivial
theorem b0 (w:World) (L r tr k tk:Nat) (H:NI) (T:NN) (b c:Bool) (nn tt om xi ps):Ends (go (wf w b c) 100 (exec (nthS (wf w b c).params 192 0) (envAt (wf w b c).params 192 L)) [1,1,1,1] ([(L,bf H T r tr k tk [] 2 #[])]) (IL fun nn tt om xi=>[bI "int.__sub__" [.int (Int.ofNat k) tk,.int 1 (tt 0)] (intR (Int.ofNat k - 1))]) nn tt om xi ps) ([0]) (.ok .next) ([(L,bf H T r tr k tk [en (hs (wf w b c).params "low") "low" (tt 1) (.int (Int.ofNat k - 1) (om 0 0))] 3 #[])]) := by cases b <;> trivial
theorem b1 (w:World) (L r tr k tk:Nat) (H:NI) (T:NN) (lo:Int) (tl:Nat) (nn tt om xi ps):Ends (go w 100 (exec (nthS w.params 192 1) (envAt w.params 192 L)) [1,1,1] ([(L,bf H T r tr k tk [fe H T 2 "low" (.int lo tl)] 3 #[])]) .nil nn tt om xi ps) ([0]) (.ok .next) ([(L,bf H T r tr k tk [fe H T 2 "low" (.int lo tl),en (hs w.params "high") "high" (tt 0) (.int (Int.ofNat k) tk)] 4 #[])]) := by trivial
theorem b2 (w:World) (L r tr k tk:Nat) (H:NI) (T:NN) (lo hi:Int) (tl th:Nat) (nn tt om xi ps):Ends (go w 100 (exec (nthS w.params 192 2) (envAt w.params 192 L)) [1,1] ([(L,bf H T r tr k tk [fe H T 2 "low" (.int lo tl),fe H T 3 "high" (.int hi th)] 4 #[])]) .nil nn tt om xi ps) ([0]) (.ok .next) ([(L,bf H T r tr k tk [fe H T 2 "low" (.int lo tl),fe H T 3 "high" (.int hi th),en (hs w.params "order") "order" (tt 0+1) (.str ⟨⟨[]⟩⟩ (tt 0))] 5 #[])]) := by trivial
theorem b3 (w:World) (L r tr k tk:Nat) (H:NI) (T:NN) (lo hi:Int) (tl th:Nat) (o:List Nat) (to:Nat) (b c:Bool) (nn tt om xi ps):Ends (go (wf w b c) 100 (itT (nthS (wf w b c).params 192 3) (envAt (wf w b c).params 192 L)) [0,0,0,0,2,2,0,2,2,2,2,0,2,2,2,2,3] ([(L,bf5 H T r tr k tk lo hi tl th o to #[])]) .nil nn tt om xi ps) ([0,2]) (.ok (.ref (nn 0+1))) ([(L,bf5 H T r tr k tk lo hi tl th o to #[]),(nn 0+1,rngO 0 9)]) := by cases b <;> trivial
theorem b4 (w:World) (L r tr k tk it i:Nat) (lo hi q:Int) (tl th to tq d:Nat) (o:List Nat) (c1 c2 c3 c4:Int) (H:NI) (T:NN) (nn tt om xi ps):Ends (go w 100 (exec (nthS w.params 192 4) (envAt w.params 192 L)) [1] ([(L,bf6 H T r tr k tk lo hi tl th o to q tq #[])]) .nil nn tt om xi ps) ([]) (.ok (.ret (.str ⟨⟨o⟩⟩ to))) ([]) := by trivial
noncomputable def rnxI (j it : Nat) (i m : Int) : Inst := ⟨.call (.builtin "range_iterator.__next__") ⟨[.ref it],[]⟩,[(j,it,rngO i m)],fun ω _ => .ok (.ret (.int i (ω 0))),fun _ _ => [rngO (i + 1) (m - 1)],fun _ _ => []⟩
theorem btAa (w:World) (L r tr k tk it i:Nat) (lo hi q:Int) (tl th to tq d:Nat) (o:List Nat) (c1 c2 c3 c4:Int) (H:NI) (T:NN) (b c:Bool) (nn tt om xi ps):Ends (go (wf w b c) 400 (den (loopC (nthS (wf w b c).params 192 3) (.ref it) (envAt (wf w b c).params 192 L))) [2,1,1,1,1,1,1,1,1,1,1,1,1,1,1,1] ([(L,bf5 H T r tr k tk lo hi tl th o to #[]),(it,rngO (Int.ofNat i) c4)]) (IL fun nn tt om xi=>[rnxI 1 it (Int.ofNat i) c4,bI "int.__gt__" [.int hi th,.int 8 (tt 1+1)] (boolR true),bI "str.__getitem__" [.str ⟨⟨abc⟩⟩ (tt 2),.int lo tl] (strR ⟨⟨[d]⟩⟩),bI "str.__add__" [.str ⟨⟨o⟩⟩ to,.str ⟨⟨[d]⟩⟩ (om 2 0)] (strR ⟨⟨o++[d]⟩⟩),bI "int.__sub__" [.int lo tl,.int 1 (tt 4+1)] (intR (lo - 1))]) nn tt om xi ps) ([0,1]) (.ok (.again (loopC (nthS (wf w b c).params 192 3) (.ref it) (envAt (wf w b c).params 192 L)))) ([(L,bf6 (ov H 5 (hs (wf w b c).params "k")) (ov T 5 (tt 1)) r tr k tk (lo - 1) hi (om 4 0) th (o++[d]) (om 3 0) (Int.ofNat i) (om 0 0) #[]),(it,rngO (Int.ofNat i+1) (c4 - 1))]) := by cases b <;> trivial
theorem btAb (w:World) (L r tr k tk it i:Nat) (lo hi q:Int) (tl th to tq d:Nat) (o:List Nat) (c1 c2 c3 c4:Int) (H:NI) (T:NN) (b c:Bool) (nn tt om xi ps):Ends (go (wf w b c) 400 (den (loopC (nthS (wf w b c).params 192 3) (.ref it) (envAt (wf w b c).params 192 L))) [2,1,1,1,1,1,1,1,1,1,1,1,1,1,1,1] ([(L,bf6 H T r tr k tk lo hi tl th o to q tq #[]),(it,rngO (Int.ofNat i) c4)]) (IL fun nn tt om xi=>[rnxI 1 it (Int.ofNat i) c4,bI "int.__gt__" [.int hi th,.int 8 (tt 1+1)] (boolR true),bI "str.__getitem__" [.str ⟨⟨abc⟩⟩ (tt 2),.int lo tl] (strR ⟨⟨[d]⟩⟩),bI "str.__add__" [.str ⟨⟨o⟩⟩ to,.str ⟨⟨[d]⟩⟩ (om 2 0)] (strR ⟨⟨o++[d]⟩⟩),bI "int.__sub__" [.int lo tl,.int 1 (tt 4+1)] (intR (lo - 1))]) nn tt om xi ps) ([0,1]) (.ok (.again (loopC (nthS (wf w b c).params 192 3) (.ref it) (envAt (wf w b c).params 192 L)))) ([(L,bf6 H T r tr k tk (lo - 1) hi (om 4 0) th (o++[d]) (om 3 0) (Int.ofNat i) (om 0 0) #[]),(it,rngO (Int.ofNat i+1) (c4 - 1))]) := by cases b <;> trivial
theorem btBa (w:World) (L r tr k tk it i:Nat) (lo hi q:Int) (tl th to tq d:Nat) (o:List Nat) (c1 c2 c3 c4:Int) (H:NI) (T:NN) (b c:Bool) (nn tt om xi ps):Ends (go (wf w b c) 400 (den (loopC (nthS (wf w b c).params 192 3) (.ref it) (envAt (wf w b c).params 192 L))) [2,1,1,1,1,1,1,1,1,1,1,1,1,1,1,1,1,1,1,1,1,1,1,1,1] ([(L,bf5 H T r tr k tk lo hi tl th o to #[]),(it,rngO (Int.ofNat i) c4)]) (IL fun nn tt om xi=>[rnxI 1 it (Int.ofNat i) c4,bI "int.__gt__" [.int hi th,.int 8 (tt 1+1)] (boolR false),bI "int.__sub__" [.int 8 (tt 2+1),.int (Int.ofNat i) (om 0 0)] (intR c1),bI "int.__pow__" [.int 2 (tt 2),.int c1 (om 2 0)] (intR c2),bI "int.__floordiv__" [.int (Int.ofNat r) tr,.int c2 (om 3 0)] (intR c3),bI "int.__mod__" [.int c3 (om 4 0),.int 2 (tt 5)] (intR 1),bI "int.__eq__" [.int 1 (om 5 0),.int 1 (tt 6)] (boolR true),bI "int.__ge__" [.int lo tl,.int 0 (tt 7)] (boolR true),bI "str.__getitem__" [.str ⟨⟨abc⟩⟩ (tt 8),.int lo tl] (strR ⟨⟨[d]⟩⟩),bI "str.__add__" [.str ⟨⟨o⟩⟩ to,.str ⟨⟨[d]⟩⟩ (om 8 0)] (strR ⟨⟨o++[d]⟩⟩),bI "int.__sub__" [.int lo tl,.int 1 (tt 10+1)] (intR (lo - 1))]) nn tt om xi ps) ([0,1]) (.ok (.again (loopC (nthS (wf w b c).params 192 3) (.ref it) (envAt (wf w b c).params 192 L)))) ([(L,bf6 (ov H 5 (hs (wf w b c).params "k")) (ov T 5 (tt 1)) r tr k tk (lo - 1) hi (om 10 0) th (o++[d]) (om 9 0) (Int.ofNat i) (om 0 0) #[]),(it,rngO (Int.ofNat i+1) (c4 - 1))]) := by cases b <;> trivial
theorem btBb (w:World) (L r tr k tk it i:Nat) (lo hi q:Int) (tl th to tq d:Nat) (o:List Nat) (c1 c2 c3 c4:Int) (H:NI) (T:NN) (b c:Bool) (nn tt om xi ps):Ends (go (wf w b c) 400 (den (loopC (nthS (wf w b c).params 192 3) (.ref it) (envAt (wf w b c).params 192 L))) [2,1,1,1,1,1,1,1,1,1,1,1,1,1,1,1,1,1,1,1,1,1,1,1,1] ([(L,bf6 H T r tr k tk lo hi tl th o to q tq #[]),(it,rngO (Int.ofNat i) c4)]) (IL fun nn tt om xi=>[rnxI 1 it (Int.ofNat i) c4,bI "int.__gt__" [.int hi th,.int 8 (tt 1+1)] (boolR false),bI "int.__sub__" [.int 8 (tt 2+1),.int (Int.ofNat i) (om 0 0)] (intR c1),bI "int.__pow__" [.int 2 (tt 2),.int c1 (om 2 0)] (intR c2),bI "int.__floordiv__" [.int (Int.ofNat r) tr,.int c2 (om 3 0)] (intR c3),bI "int.__mod__" [.int c3 (om 4 0),.int 2 (tt 5)] (intR 1),bI "int.__eq__" [.int 1 (om 5 0),.int 1 (tt 6)] (boolR true),bI "int.__ge__" [.int lo tl,.int 0 (tt 7)] (boolR true),bI "str.__getitem__" [.str ⟨⟨abc⟩⟩ (tt 8),.int lo tl] (strR ⟨⟨[d]⟩⟩),bI "str.__add__" [.str ⟨⟨o⟩⟩ to,.str ⟨⟨[d]⟩⟩ (om 8 0)] (strR ⟨⟨o++[d]⟩⟩),bI "int.__sub__" [.int lo tl,.int 1 (tt 10+1)] (intR (lo - 1))]) nn tt om xi ps) ([0,1]) (.ok (.again (loopC (nthS (wf w b c).params 192 3) (.ref it) (envAt (wf w b c).params 192 L)))) ([(L,bf6 H T r tr k tk (lo - 1) hi (om 10 0) th (o++[d]) (om 9 0) (Int.ofNat i) (om 0 0) #[]),(it,rngO (Int.ofNat i+1) (c4 - 1))]) := by cases b <;> trivial
theorem btCa (w:World) (L r tr k tk it i:Nat) (lo hi q:Int) (tl th to tq d:Nat) (o:List Nat) (c1 c2 c3 c4:Int) (H:NI) (T:NN) (b c:Bool) (nn tt om xi ps):Ends (go (wf w b c) 400 (den (loopC (nthS (wf w b c).params 192 3) (.ref it) (envAt (wf w b c).params 192 L))) [2,1,1,1,1,1,1,1,1,1,1,1,1,1,1,1,1,1,1,1,1,1,1,1,1] ([(L,bf5 H T r tr k tk lo hi tl th o to #[]),(it,rngO (Int.ofNat i) c4)]) (IL fun nn tt om xi=>[rnxI 1 it (Int.ofNat i) c4,bI "int.__gt__" [.int hi th,.int 8 (tt 1+1)] (boolR false),bI "int.__sub__" [.int 8 (tt 2+1),.int (Int.ofNat i) (om 0 0)] (intR c1),bI "int.__pow__" [.int 2 (tt 2),.int c1 (om 2 0)] (intR c2),bI "int.__floordiv__" [.int (Int.ofNat r) tr,.int c2 (om 3 0)] (intR c3),bI "int.__mod__" [.int c3 (om 4 0),.int 2 (tt 5)] (intR 1),bI "int.__eq__" [.int 1 (om 5 0),.int 1 (tt 6)] (boolR true),bI "int.__ge__" [.int lo tl,.int 0 (tt 7)] (boolR false),bI "str.__getitem__" [.str ⟨⟨abc⟩⟩ (tt 8),.int hi th] (strR ⟨⟨[d]⟩⟩),bI "str.__add__" [.str ⟨⟨o⟩⟩ to,.str ⟨⟨[d]⟩⟩ (om 8 0)] (strR ⟨⟨o++[d]⟩⟩),bI "int.__add__" [.int hi th,.int 1 (tt 10+1)] (intR (hi+1))]) nn tt om xi ps) ([0,1]) (.ok (.again (loopC (nthS (wf w b c).params 192 3) (.ref it) (envAt (wf w b c).params 192 L)))) ([(L,bf6 (ov H 5 (hs (wf w b c).params "k")) (ov T 5 (tt 1)) r tr k tk lo (hi+1) tl (om 10 0) (o++[d]) (om 9 0) (Int.ofNat i) (om 0 0) #[]),(it,rngO (Int.ofNat i+1) (c4 - 1))]) := by cases b <;> trivial
theorem btCb (w:World) (L r tr k tk it i:Nat) (lo hi q:Int) (tl th to tq d:Nat) (o:List Nat) (c1 c2 c3 c4:Int) (H:NI) (T:NN) (b c:Bool) (nn tt om xi ps):Ends (go (wf w b c) 400 (den (loopC (nthS (wf w b c).params 192 3) (.ref it) (envAt (wf w b c).params 192 L))) [2,1,1,1,1,1,1,1,1,1,1,1,1,1,1,1,1,1,1,1,1,1,1,1,1] ([(L,bf6 H T r tr k tk lo hi tl th o to q tq #[]),(it,rngO (Int.ofNat i) c4)]) (IL fun nn tt om xi=>[rnxI 1 it (Int.ofNat i) c4,bI "int.__gt__" [.int hi th,.int 8 (tt 1+1)] (boolR false),bI "int.__sub__" [.int 8 (tt 2+1),.int (Int.ofNat i) (om 0 0)] (intR c1),bI "int.__pow__" [.int 2 (tt 2),.int c1 (om 2 0)] (intR c2),bI "int.__floordiv__" [.int (Int.ofNat r) tr,.int c2 (om 3 0)] (intR c3),bI "int.__mod__" [.int c3 (om 4 0),.int 2 (tt 5)] (intR 1),bI "int.__eq__" [.int 1 (om 5 0),.int 1 (tt 6)] (boolR true),bI "int.__ge__" [.int lo tl,.int 0 (tt 7)] (boolR false),bI "str.__getitem__" [.str ⟨⟨abc⟩⟩ (tt 8),.int hi th] (strR ⟨⟨[d]⟩⟩),bI "str.__add__" [.str ⟨⟨o⟩⟩ to,.str ⟨⟨[d]⟩⟩ (om 8 0)] (strR ⟨⟨o++[d]⟩⟩),bI "int.__add__" [.int hi th,.int 1 (tt 10+1)] (intR (hi+1))]) nn tt om xi ps) ([0,1]) (.ok (.again (loopC (nthS (wf w b c).params 192 3) (.ref it) (envAt (wf w b c).params 192 L)))) ([(L,bf6 H T r tr k tk lo (hi+1) tl (om 10 0) (o++[d]) (om 9 0) (Int.ofNat i) (om 0 0) #[]),(it,rngO (Int.ofNat i+1) (c4 - 1))]) := by cases b <;> trivial
theorem btDa (w:World) (L r tr k tk it i:Nat) (lo hi q:Int) (tl th to tq d:Nat) (o:List Nat) (c1 c2 c3 c4:Int) (H:NI) (T:NN) (b c:Bool) (nn tt om xi ps):Ends (go (wf w b c) 400 (den (loopC (nthS (wf w b c).params 192 3) (.ref it) (envAt (wf w b c).params 192 L))) [2,1,1,1,1,1,1,1,1,1,1,1,1,1,1,1,1,1,1,1,1,1,1] ([(L,bf5 H T r tr k tk lo hi tl th o to #[]),(it,rngO (Int.ofNat i) c4)]) (IL fun nn tt om xi=>[rnxI 1 it (Int.ofNat i) c4,bI "int.__gt__" [.int hi th,.int 8 (tt 1+1)] (boolR false),bI "int.__sub__" [.int 8 (tt 2+1),.int (Int.ofNat i) (om 0 0)] (intR c1),bI "int.__pow__" [.int 2 (tt 2),.int c1 (om 2 0)] (intR c2),bI "int.__floordiv__" [.int (Int.ofNat r) tr,.int c2 (om 3 0)] (intR c3),bI "int.__mod__" [.int c3 (om 4 0),.int 2 (tt 5)] (intR 0),bI "int.__eq__" [.int 0 (om 5 0),.int 1 (tt 6)] (boolR false),bI "str.__getitem__" [.str ⟨⟨abc⟩⟩ (tt 7),.int hi th] (strR ⟨⟨[d]⟩⟩),bI "str.__add__" [.str ⟨⟨o⟩⟩ to,.str ⟨⟨[d]⟩⟩ (om 7 0)] (strR ⟨⟨o++[d]⟩⟩),bI "int.__add__" [.int hi th,.int 1 (tt 9+1)] (intR (hi+1))]) nn tt om xi ps) ([0,1]) (.ok (.again (loopC (nthS (wf w b c).params 192 3) (.ref it) (envAt (wf w b c).params 192 L)))) ([(L,bf6 (ov H 5 (hs (wf w b c).params "k")) (ov T 5 (tt 1)) r tr k tk lo (hi+1) tl (om 9 0) (o++[d]) (om 8 0) (Int.ofNat i) (om 0 0) #[]),(it,rngO (Int.ofNat i+1) (c4 - 1))]) := by cases b <;> trivial
theorem btDb (w:World) (L r tr k tk it i:Nat) (lo hi q:Int) (tl th to tq d:Nat) (o:List Nat) (c1 c2 c3 c4:Int) (H:NI) (T:NN) (b c:Bool) (nn tt om xi ps):Ends (go (wf w b c) 400 (den (loopC (nthS (wf w b c).params 192 3) (.ref it) (envAt (wf w b c).params 192 L))) [2,1,1,1,1,1,1,1,1,1,1,1,1,1,1,1,1,1,1,1,1,1,1] ([(L,bf6 H T r tr k tk lo hi tl th o to q tq #[]),(it,rngO (Int.ofNat i) c4)]) (IL fun nn tt om xi=>[rnxI 1 it (Int.ofNat i) c4,bI "int.__gt__" [.int hi th,.int 8 (tt 1+1)] (boolR false),bI "int.__sub__" [.int 8 (tt 2+1),.int (Int.ofNat i) (om 0 0)] (intR c1),bI "int.__pow__" [.int 2 (tt 2),.int c1 (om 2 0)] (intR c2),bI "int.__floordiv__" [.int (Int.ofNat r) tr,.int c2 (om 3 0)] (intR c3),bI "int.__mod__" [.int c3 (om 4 0),.int 2 (tt 5)] (intR 0),bI "int.__eq__" [.int 0 (om 5 0),.int 1 (tt 6)] (boolR false),bI "str.__getitem__" [.str ⟨⟨abc⟩⟩ (tt 7),.int hi th] (strR ⟨⟨[d]⟩⟩),bI "str.__add__" [.str ⟨⟨o⟩⟩ to,.str ⟨⟨[d]⟩⟩ (om 7 0)] (strR ⟨⟨o++[d]⟩⟩),bI "int.__add__" [.int hi th,.int 1 (tt 9+1)] (intR (hi+1))]) nn tt om xi ps) ([0,1]) (.ok (.again (loopC (nthS (wf w b c).params 192 3) (.ref it) (envAt (wf w b c).params 192 L)))) ([(L,bf6 H T r tr k tk lo (hi+1) tl (om 9 0) (o++[d]) (om 8 0) (Int.ofNat i) (om 0 0) #[]),(it,rngO (Int.ofNat i+1) (c4 - 1))]) := by cases b <;> trivial
noncomputable def rendI (j it : Nat) (i : Int) : Inst := ⟨.call (.builtin "range_iterator.__next__") ⟨[.ref it],[]⟩,[(j,it,rngO i 0)],fun ω _ => .error (.ref (ω 1)),fun _ _ => [rngO i 0],fun ω _ => [(ω 0,tupO []),(ω 1,⟨.type "StopIteration",none,.fields #[.ref (ω 0),.none,.none,.none,.bool false,.none],#[]⟩)]⟩
theorem bx (w:World) (L r tr k tk it i:Nat) (lo hi q:Int) (tl th to tq d:Nat) (o:List Nat) (c1 c2 c3 c4:Int) (H:NI) (T:NN) (nn tt om xi ps):Ends (go w 100 (den (loopC (nthS w.params 192 3) (.ref it) (envAt w.params 192 L))) [2,1,4] ([(L,bf6 H T r tr k tk lo hi tl th o to q tq #[]),(it,rngO 9 0)]) (IL fun nn tt om xi=>[rendI 1 it 9]) nn tt om xi ps) ([0]) (.ok (.again (.block [] (envAt w.params 192 L)))) ([(L,bf6 H T r tr k tk lo hi tl th o to q tq #[])]) := by trivial
theorem rnx (w:World) (it i m:Nat) (nn tt om xi ps):Ends (go w 40 (Sem.call (.call (.builtin "range_iterator.__next__") ⟨[.ref it],[]⟩) none false [] Sem.pure) [0,1,1,1,1,1,1,1,1] ([(it,rngO (Int.ofNat i) (Int.ofNat (m+1)))]) .nil nn tt om xi ps) ([0]) (.ok (.ok (.ret (.int (Int.ofNat i) (tt 0))))) ([(it,rngO (Int.ofNat i+1) (Int.ofNat (m+1) - 1))]) := by trivial
theorem rnd (w:World) (it i:Nat) (nn tt om xi ps):Ends (go w 40 (Sem.call (.call (.builtin "range_iterator.__next__") ⟨[.ref it],[]⟩) none false [] Sem.pure) [0,1,1,1,1] ([(it,rngO (Int.ofNat i) 0)]) .nil nn tt om xi ps) ([0,1,2]) (.ok (.error (.ref (nn 0+1)))) ([(it,rngO (Int.ofNat i) 0),(nn 0,tupO []),(nn 0+1,⟨.type "StopIteration",none,.fields #[.ref (nn 0),.none,.none,.none,.bool false,.none],#[]⟩)]) := by trivial
theorem ipow0 (w:World) (t u:Nat) (nn tt om xi ps):Ends (go w 40 (Sem.call (.call (.builtin "int.__pow__") ⟨[.int 2 t,.int 0 u],[]⟩) none false [] Sem.pure) [0] ([]) .nil nn tt om xi ps) ([]) (.ok ((intR 1) tt)) ([]) := by trivial
theorem six0 (w:World) (t u:Nat) (nn tt om xi ps):Ends (go w 40 (Sem.call (.call (.builtin "str.__getitem__") ⟨[.str ⟨⟨abc⟩⟩ t,.int 0 u],[]⟩) none false [] Sem.pure) [0] ([]) .nil nn tt om xi ps) ([]) (.ok ((strR ⟨⟨[97]⟩⟩) tt)) ([]) := by trivial
theorem ipow1 (w:World) (t u:Nat) (nn tt om xi ps):Ends (go w 40 (Sem.call (.call (.builtin "int.__pow__") ⟨[.int 2 t,.int 1 u],[]⟩) none false [] Sem.pure) [0] ([]) .nil nn tt om xi ps) ([]) (.ok ((intR 2) tt)) ([]) := by trivial
theorem six1 (w:World) (t u:Nat) (nn tt om xi ps):Ends (go w 40 (Sem.call (.call (.builtin "str.__getitem__") ⟨[.str ⟨⟨abc⟩⟩ t,.int 1 u],[]⟩) none false [] Sem.pure) [0] ([]) .nil nn tt om xi ps) ([]) (.ok ((strR ⟨⟨[98]⟩⟩) tt)) ([]) := by trivial
theorem ipow2 (w:World) (t u:Nat) (nn tt om xi ps):Ends (go w 40 (Sem.call (.call (.builtin "int.__pow__") ⟨[.int 2 t,.int 2 u],[]⟩) none false [] Sem.pure) [0] ([]) .nil nn tt om xi ps) ([]) (.ok ((intR 4) tt)) ([]) := by trivial
theorem six2 (w:World) (t u:Nat) (nn tt om xi ps):Ends (go w 40 (Sem.call (.call (.builtin "str.__getitem__") ⟨[.str ⟨⟨abc⟩⟩ t,.int 2 u],[]⟩) none false [] Sem.pure) [0] ([]) .nil nn tt om xi ps) ([]) (.ok ((strR ⟨⟨[99]⟩⟩) tt)) ([]) := by trivial
theorem ipow3 (w:World) (t u:Nat) (nn tt om xi ps):Ends (go w 40 (Sem.call (.call (.builtin "int.__pow__") ⟨[.int 2 t,.int 3 u],[]⟩) none false [] Sem.pure) [0] ([]) .nil nn tt om xi ps) ([]) (.ok ((intR 8) tt)) ([]) := by trivial
theorem six3 (w:World) (t u:Nat) (nn tt om xi ps):Ends (go w 40 (Sem.call (.call (.builtin "str.__getitem__") ⟨[.str ⟨⟨abc⟩⟩ t,.int 3 u],[]⟩) none false [] Sem.pure) [0] ([]) .nil nn tt om xi ps) ([]) (.ok ((strR ⟨⟨[100]⟩⟩) tt)) ([]) := by trivial
theorem ipow4 (w:World) (t u:Nat) (nn tt om xi ps):Ends (go w 40 (Sem.call (.call (.builtin "int.__pow__") ⟨[.int 2 t,.int 4 u],[]⟩) none false [] Sem.pure) [0] ([]) .nil nn tt om xi ps) ([]) (.ok ((intR 16) tt)) ([]) := by trivial
theorem six4 (w:World) (t u:Nat) (nn tt om xi ps):Ends (go w 40 (Sem.call (.call (.builtin "str.__getitem__") ⟨[.str ⟨⟨abc⟩⟩ t,.int 4 u],[]⟩) none false [] Sem.pure) [0] ([]) .nil nn tt om xi ps) ([]) (.ok ((strR ⟨⟨[101]⟩⟩) tt)) ([]) := by trivial
theorem ipow5 (w:World) (t u:Nat) (nn tt om xi ps):Ends (go w 40 (Sem.call (.call (.builtin "int.__pow__") ⟨[.int 2 t,.int 5 u],[]⟩) none false [] Sem.pure) [0] ([]) .nil nn tt om xi ps) ([]) (.ok ((intR 32) tt)) ([]) := by trivial
theorem six5 (w:World) (t u:Nat) (nn tt om xi ps):Ends (go w 40 (Sem.call (.call (.builtin "str.__getitem__") ⟨[.str ⟨⟨abc⟩⟩ t,.int 5 u],[]⟩) none false [] Sem.pure) [0] ([]) .nil nn tt om xi ps) ([]) (.ok ((strR ⟨⟨[102]⟩⟩) tt)) ([]) := by trivial
theorem ipow6 (w:World) (t u:Nat) (nn tt om xi ps):Ends (go w 40 (Sem.call (.call (.builtin "int.__pow__") ⟨[.int 2 t,.int 6 u],[]⟩) none false [] Sem.pure) [0] ([]) .nil nn tt om xi ps) ([]) (.ok ((intR 64) tt)) ([]) := by trivial
theorem six6 (w:World) (t u:Nat) (nn tt om xi ps):Ends (go w 40 (Sem.call (.call (.builtin "str.__getitem__") ⟨[.str ⟨⟨abc⟩⟩ t,.int 6 u],[]⟩) none false [] Sem.pure) [0] ([]) .nil nn tt om xi ps) ([]) (.ok ((strR ⟨⟨[103]⟩⟩) tt)) ([]) := by trivial
theorem ipow7 (w:World) (t u:Nat) (nn tt om xi ps):Ends (go w 40 (Sem.call (.call (.builtin "int.__pow__") ⟨[.int 2 t,.int 7 u],[]⟩) none false [] Sem.pure) [0] ([]) .nil nn tt om xi ps) ([]) (.ok ((intR 128) tt)) ([]) := by trivial
theorem six7 (w:World) (t u:Nat) (nn tt om xi ps):Ends (go w 40 (Sem.call (.call (.builtin "str.__getitem__") ⟨[.str ⟨⟨abc⟩⟩ t,.int 7 u],[]⟩) none false [] Sem.pure) [0] ([]) .nil nn tt om xi ps) ([]) (.ok ((strR ⟨⟨[104]⟩⟩) tt)) ([]) := by trivial
theorem ipow8 (w:World) (t u:Nat) (nn tt om xi ps):Ends (go w 40 (Sem.call (.call (.builtin "int.__pow__") ⟨[.int 2 t,.int 8 u],[]⟩) none false [] Sem.pure) [0] ([]) .nil nn tt om xi ps) ([]) (.ok ((intR 256) tt)) ([]) := by trivial
theorem six8 (w:World) (t u:Nat) (nn tt om xi ps):Ends (go w 40 (Sem.call (.call (.builtin "str.__getitem__") ⟨[.str ⟨⟨abc⟩⟩ t,.int 8 u],[]⟩) none false [] Sem.pure) [0] ([]) .nil nn tt om xi ps) ([]) (.ok ((strR ⟨⟨[105]⟩⟩) tt)) ([]) := by trivial
noncomputable def abcAt (n : Nat) : Nat := abc.getD n 0
section
variable {w : World} {C : Around → Prop} (hh : ∀ A,C A → A.handled = none)
include hh
theorem ipow_ok {e : Nat} {t u : Nat} (he : e ≤ 8) : IOk theP w (MyK w.params) C (bI "int.__pow__" [.int 2 t,.int (Int.ofNat e) u] (intR (Int.ofNat (2 ^ e)))) := by
  rcases e with _ | _ | _ | _ | _ | _ | _ | _ | _ | e
  · exact pureI _ (ipow0 w t u) hh
  · exact pureI _ (ipow1 w t u) hh
  · exact pureI _ (ipow2 w t u) hh
  · exact pureI _ (ipow3 w t u) hh
  · exact pureI _ (ipow4 w t u) hh
  · exact pureI _ (ipow5 w t u) hh
  · exact pureI _ (ipow6 w t u) hh
  · exact pureI _ (ipow7 w t u) hh
  · exact pureI _ (ipow8 w t u) hh
  · omega
theorem idivp_ok {r e : Nat} {t u : Nat} (he : e ≤ 8) : IOk theP w (MyK w.params) C (bI "int.__floordiv__" [.int (Int.ofNat r) t,.int (Int.ofNat (2 ^ e)) u] (intR (Int.ofNat (r / 2 ^ e)))) := by
  have f : ∀ n : Nat,Int.fdiv (Int.ofNat r) (Int.ofNat n) = Int.ofNat (r / n) := fun n => (Int.ofNat_fdiv r n).symm
  rcases e with _ | _ | _ | _ | _ | _ | _ | _ | _ | e
  · rw [← f]; exact pureI _ (idiv1 w _ t u) hh
  · rw [← f]; exact pureI _ (idiv2 w _ t u) hh
  · rw [← f]; exact pureI _ (idiv4 w _ t u) hh
  · rw [← f]; exact pureI _ (idiv8 w _ t u) hh
  · rw [← f]; exact pureI _ (idiv16 w _ t u) hh
  · rw [← f]; exact pureI _ (idiv32 w _ t u) hh
  · rw [← f]; exact pureI _ (idiv64 w _ t u) hh
  · rw [← f]; exact pureI _ (idiv128 w _ t u) hh
  · rw [← f]; exact pureI _ (idiv256 w _ t u) hh
  · omega
theorem six_ok {e : Nat} {t u : Nat} (he : e ≤ 8) : IOk theP w (MyK w.params) C (bI "str.__getitem__" [.str ⟨⟨abc⟩⟩ t,.int (Int.ofNat e) u] (strR ⟨⟨[abcAt e]⟩⟩)) := by
  rcases e with _ | _ | _ | _ | _ | _ | _ | _ | _ | e
  · exact pureI _ (six0 w t u) hh
  · exact pureI _ (six1 w t u) hh
  · exact pureI _ (six2 w t u) hh
  · exact pureI _ (six3 w t u) hh
  · exact pureI _ (six4 w t u) hh
  · exact pureI _ (six5 w t u) hh
  · exact pureI _ (six6 w t u) hh
  · exact pureI _ (six7 w t u) hh
  · exact pureI _ (six8 w t u) hh
  · omega
theorem rnx_ok {j it i m : Nat} : IOk theP w (MyK w.params) C (rnxI j it (Int.ofNat i) (Int.ofNat (m + 1))) :=
  segI (I := rnxI j it (Int.ofNat i) (Int.ofNat (m + 1))) (rnx w it i m) hh noIns fun nn tt om xi => ⟨tt,fun _ => #[],rfl,rfl,rfl⟩
theorem rend_ok {j it i : Nat} : IOk theP w (MyK w.params) C (rendI j it (Int.ofNat i)) :=
  segI (I := rendI j it (Int.ofNat i)) (rnd w it i) hh noIns fun nn tt om xi => ⟨fun i => match i with | 0 => nn 0 | _ => nn 0 + 1,fun _ => #[],rfl,rfl,rfl⟩
end
noncomputable def bitAt (r i : Nat) : Nat := r / 2 ^ (8 - i) % 2
noncomputable def bitF (r : Nat) : Nat → Nat → Nat → Nat → List Nat
  | 0,_,_,_ => []
  | m + 1,i,0,h => abcAt h :: bitF r m (i + 1) 0 (h + 1)
  | m + 1,i,l + 1,h => match decide (8 < h) || bitAt r i == 1 with
    | true => abcAt l :: bitF r m (i + 1) l h
    | false => abcAt h :: bitF r m (i + 1) (l + 1) (h + 1)
noncomputable def frB (r tr k tk : Nat) (lo hi : Int) (tl th : Nat) (o : List Nat) (to i : Nat) (fr : Obj) : Prop := (i = 0 ∧ ∃ H T,fr = bf5 H T r tr k tk lo hi tl th o to #[]) ∨ (∃ H T q tq,fr = bf6 H T r tr k tk lo hi tl th o to q tq #[])
theorem loopB (w : World) (b c : Bool) {A : Around} {g : Heap} {A0 : List Addr} {R : Result → Shared → Prop} (hA : AB 839 6900 A) (L it k tk r tr : Nat) :
    ∀ (m i l h : Nat) (tl th : Nat) (o : List Nat) (to : Nat) (fr : Obj) (sh : Shared),i + m = 9 → l + (9 - h) = m → h ≤ 9 → o.length = i → frB r tr k tk (Int.ofNat l - 1) (Int.ofNat h) tl th o to i fr →
    Rp (MyK (wf w b c).params) g A0 sh.heap [(L,fr),(it,rngO (Int.ofNat i) (Int.ofNat m))] →
    (∀ to' H T q tq lo hi tl th h' tk',Rp (MyK (wf w b c).params) g A0 h' [(L,bf6 H T r tr k tk lo hi tl th (o ++ bitF r m i l h) to' q tq #[])] → R (.ok .next) { sh with heap := h',toks := tk' }) →
    codeAny (MM (wf w b c)) A (loopC (nthS (wf w b c).params 192 3) (.ref it) (envAt (wf w b c).params 192 L)) R sh := by
  intro m
  induction m with
  | zero =>
    intro i l h tl th o to fr sh hi hl hh9 ho hfr D hR
    refine codeTurn rfl ?_
    have hi : i = 9 := by omega
    subst hi
    rcases hfr with ⟨hi0,_⟩ | ⟨H,T,q,tq,rfl⟩
    · omega
    · refine fragQ [] D (List.Perm.refl _) (bx (wf w b c) L r tr k tk it 9 _ _ q tl th to tq 0 o 0 0 0 0 H T) AB.hh hA (okIL _ fun nn tt om xi => oneIns (rend_ok (i := 9) AB.hh) nilIns) ?_
      intro _ _ _ _ h' tk' D'
      refine ⟨by kernel_rfl,codeBlk (hR to H T q tq (Int.ofNat l - 1) (Int.ofNat h) tl th h' tk' ?_)⟩
      have : o ++ bitF r 0 9 l h = o := by simp [bitF]
      rw [this]
      exact D'
  | succ m ih =>
    intro i l h tl th o to fr sh hi hl hh9 ho hfr D hR
    refine codeTurn rfl ?_
    have hsd : ∀ d t u,IOk theP (wf w b c) (MyK (wf w b c).params) (AB 839 6900) (bI "str.__add__" [.str ⟨⟨o⟩⟩ t,.str ⟨⟨[d]⟩⟩ u] (strR ⟨⟨o ++ [d]⟩⟩)) := fun d t u => sadd_ok AB.hh (by omega)
    have hsi : ∀ t u,IOk theP (wf w b c) (MyK (wf w b c).params) (AB 839 6900) (bI "int.__sub__" [.int 8 t,.int (Int.ofNat i) u] (intR (Int.ofNat (8 - i)))) := fun t u => isub_ok AB.hh (by show (8 : Int) - (i : Int) = ((8 - i : Nat) : Int); omega)
    have hmd : ∀ x t u,x = bitAt r i → IOk theP (wf w b c) (MyK (wf w b c).params) (AB 839 6900) (bI "int.__mod__" [.int (Int.ofNat (r / 2 ^ (8 - i))) t,.int 2 u] (intR (Int.ofNat x))) := fun x t u e => imod_ok (k := 1) AB.hh (by rw [e]; exact (Int.ofNat_fmod _ _).symm)
    have em : (Int.ofNat (m + 1) : Int) - 1 = Int.ofNat m := by show ((m + 1 : Nat) : Int) - 1 = (m : Int); omega
    have stepL : ∀ (l' : Nat) (H : Nat → Int) (T : Nat → Nat) tl' to' tq h' tk',l = l' + 1 → bitF r (m + 1) i l h = abcAt l' :: bitF r m (i + 1) l' h →
        Rp (MyK (wf w b c).params) g A0 h' [(L,bf6 H T r tr k tk (Int.ofNat l - 1 - 1) (Int.ofNat h) tl' th (o ++ [abcAt l']) to' (Int.ofNat i) tq #[]),(it,rngO (Int.ofNat i + 1) (Int.ofNat (m + 1) - 1))] →
        codeAny (MM (wf w b c)) A (loopC (nthS (wf w b c).params 192 3) (.ref it) (envAt (wf w b c).params 192 L)) R { sh with heap := h',toks := tk' } := by
      intro l' H T tl' to' tq h' tk' el er D'
      have e1 : Int.ofNat l - 1 - 1 = Int.ofNat l' - 1 := by show (l : Int) - 1 - 1 = (l' : Int) - 1; omega
      rw [em,e1] at D'
      refine ih (i + 1) l' h tl' th (o ++ [abcAt l']) to' _ { sh with heap := h',toks := tk' } (by omega) (by omega) hh9 (by rw [List.length_append,ho]; rfl) (.inr ⟨H,T,_,tq,rfl⟩) D' ?_
      intro to2 H2 T2 q2 tq2 lo2 hi2 tl2 th2 h2' tk2 D2
      refine hR to2 H2 T2 q2 tq2 lo2 hi2 tl2 th2 h2' tk2 ?_
      rw [er,show o ++ abcAt l' :: bitF r m (i + 1) l' h = (o ++ [abcAt l']) ++ bitF r m (i + 1) l' h from by simp]
      exact D2
    have stepH : ∀ (H : Nat → Int) (T : Nat → Nat) th' to' tq h' tk',h ≤ 8 → bitF r (m + 1) i l h = abcAt h :: bitF r m (i + 1) l (h + 1) →
        Rp (MyK (wf w b c).params) g A0 h' [(L,bf6 H T r tr k tk (Int.ofNat l - 1) (Int.ofNat h + 1) tl th' (o ++ [abcAt h]) to' (Int.ofNat i) tq #[]),(it,rngO (Int.ofNat i + 1) (Int.ofNat (m + 1) - 1))] →
        codeAny (MM (wf w b c)) A (loopC (nthS (wf w b c).params 192 3) (.ref it) (envAt (wf w b c).params 192 L)) R { sh with heap := h',toks := tk' } := by
      intro H T th' to' tq h' tk' h8 er D'
      rw [em] at D'
      refine ih (i + 1) l (h + 1) tl th' (o ++ [abcAt h]) to' _ { sh with heap := h',toks := tk' } (by omega) (by omega) (by omega) (by rw [List.length_append,ho]; rfl) (.inr ⟨H,T,_,tq,rfl⟩) D' ?_
      intro to2 H2 T2 q2 tq2 lo2 hi2 tl2 th2 h2' tk2 D2
      refine hR to2 H2 T2 q2 tq2 lo2 hi2 tl2 th2 h2' tk2 ?_
      rw [er,show o ++ abcAt h :: bitF r m (i + 1) l (h + 1) = (o ++ [abcAt h]) ++ bitF r m (i + 1) l (h + 1) from by simp]
      exact D2
    have hli : ∀ l' t u,l = l' + 1 → IOk theP (wf w b c) (MyK (wf w b c).params) (AB 839 6900) (bI "str.__getitem__" [.str ⟨⟨abc⟩⟩ t,.int (Int.ofNat l - 1) u] (strR ⟨⟨[abcAt l']⟩⟩)) := fun l' t u e => by
      have e1 : Int.ofNat l - 1 = Int.ofNat l' := by show (l : Int) - 1 = (l' : Int); omega
      rw [e1]
      exact six_ok AB.hh (by omega)
    have h8i : 8 < h → decide (Int.ofNat h > 8) = true := fun z => decide_eq_true (by show (8 : Int) < (h : Int); omega)
    have h8n : ¬ 8 < h → decide (Int.ofNat h > 8) = false := fun z => decide_eq_false (by show ¬ (8 : Int) < (h : Int); omega)
    have hb01 : bitAt r i = 0 ∨ bitAt r i = 1 := by unfold bitAt; omega
    by_cases h8 : 8 < h
    · obtain ⟨l',el⟩ : ∃ l',l = l' + 1 := ⟨l - 1,by omega⟩
      have er : bitF r (m + 1) i l h = abcAt l' :: bitF r m (i + 1) l' h := by rw [el]; simp [bitF,h8]
      rcases hfr with ⟨_,H,T,rfl⟩ | ⟨H,T,q,tq,rfl⟩
      · refine fragQ [] D (List.Perm.refl _) (btAa w L r tr k tk it i _ _ 0 tl th to 0 (abcAt l') o 0 0 0 _ H T b c) AB.hh hA (okIL _ fun nn tt om xi => oneIns (rnx_ok AB.hh) (oneIns (igt_ok AB.hh (h8i h8)) (oneIns (hli l' _ _ el) (oneIns (hsd _ _ _) (oneIns (isub_ok AB.hh rfl) nilIns))))) ?_
        intro nn tt om xi h' tk' D'
        exact ⟨by kernel_rfl,stepL l' _ _ _ _ _ h' tk' el er D'⟩
      · refine fragQ [] D (List.Perm.refl _) (btAb w L r tr k tk it i _ _ q tl th to tq (abcAt l') o 0 0 0 _ H T b c) AB.hh hA (okIL _ fun nn tt om xi => oneIns (rnx_ok AB.hh) (oneIns (igt_ok AB.hh (h8i h8)) (oneIns (hli l' _ _ el) (oneIns (hsd _ _ _) (oneIns (isub_ok AB.hh rfl) nilIns))))) ?_
        intro nn tt om xi h' tk' D'
        exact ⟨by kernel_rfl,stepL l' _ _ _ _ _ h' tk' el er D'⟩
    · rcases hb01 with hb | hb
      · have er : bitF r (m + 1) i l h = abcAt h :: bitF r m (i + 1) l (h + 1) := by
          cases l with
          | zero => rfl
          | succ l => simp [bitF,h8,hb]
        rcases hfr with ⟨_,H,T,rfl⟩ | ⟨H,T,q,tq,rfl⟩
        · refine fragQ [] D (List.Perm.refl _) (btDa w L r tr k tk it i _ _ 0 tl th to 0 (abcAt h) o (Int.ofNat (8 - i)) (Int.ofNat (2 ^ (8 - i))) (Int.ofNat (r / 2 ^ (8 - i))) _ H T b c) AB.hh hA (okIL _ fun nn tt om xi => oneIns (rnx_ok AB.hh) (oneIns (igt_ok AB.hh (h8n h8)) (oneIns (hsi _ _) (oneIns (ipow_ok AB.hh (by omega)) (oneIns (idivp_ok AB.hh (by omega)) (oneIns (hmd 0 _ _ hb.symm) (oneIns (ieq_ok AB.hh rfl) (oneIns (six_ok AB.hh (by omega)) (oneIns (hsd _ _ _) (oneIns (iadd_ok AB.hh rfl) nilIns)))))))))) ?_
          intro nn tt om xi h' tk' D'
          exact ⟨by kernel_rfl,stepH _ _ _ _ _ h' tk' (by omega) er D'⟩
        · refine fragQ [] D (List.Perm.refl _) (btDb w L r tr k tk it i _ _ q tl th to tq (abcAt h) o (Int.ofNat (8 - i)) (Int.ofNat (2 ^ (8 - i))) (Int.ofNat (r / 2 ^ (8 - i))) _ H T b c) AB.hh hA (okIL _ fun nn tt om xi => oneIns (rnx_ok AB.hh) (oneIns (igt_ok AB.hh (h8n h8)) (oneIns (hsi _ _) (oneIns (ipow_ok AB.hh (by omega)) (oneIns (idivp_ok AB.hh (by omega)) (oneIns (hmd 0 _ _ hb.symm) (oneIns (ieq_ok AB.hh rfl) (oneIns (six_ok AB.hh (by omega)) (oneIns (hsd _ _ _) (oneIns (iadd_ok AB.hh rfl) nilIns)))))))))) ?_
          intro nn tt om xi h' tk' D'
          exact ⟨by kernel_rfl,stepH _ _ _ _ _ h' tk' (by omega) er D'⟩
      · rcases l with _ | l'
        · have er : bitF r (m + 1) i 0 h = abcAt h :: bitF r m (i + 1) 0 (h + 1) := rfl
          have hge : decide ((Int.ofNat 0 - 1 : Int) ≥ 0) = false := rfl
          rcases hfr with ⟨_,H,T,rfl⟩ | ⟨H,T,q,tq,rfl⟩
          · refine fragQ [] D (List.Perm.refl _) (btCa w L r tr k tk it i _ _ 0 tl th to 0 (abcAt h) o (Int.ofNat (8 - i)) (Int.ofNat (2 ^ (8 - i))) (Int.ofNat (r / 2 ^ (8 - i))) _ H T b c) AB.hh hA (okIL _ fun nn tt om xi => oneIns (rnx_ok AB.hh) (oneIns (igt_ok AB.hh (h8n h8)) (oneIns (hsi _ _) (oneIns (ipow_ok AB.hh (by omega)) (oneIns (idivp_ok AB.hh (by omega)) (oneIns (hmd 1 _ _ hb.symm) (oneIns (ieq_ok AB.hh rfl) (oneIns (ige_ok AB.hh hge) (oneIns (six_ok AB.hh (by omega)) (oneIns (hsd _ _ _) (oneIns (iadd_ok AB.hh rfl) nilIns))))))))))) ?_
            intro nn tt om xi h' tk' D'
            exact ⟨by kernel_rfl,stepH _ _ _ _ _ h' tk' (by omega) er D'⟩
          · refine fragQ [] D (List.Perm.refl _) (btCb w L r tr k tk it i _ _ q tl th to tq (abcAt h) o (Int.ofNat (8 - i)) (Int.ofNat (2 ^ (8 - i))) (Int.ofNat (r / 2 ^ (8 - i))) _ H T b c) AB.hh hA (okIL _ fun nn tt om xi => oneIns (rnx_ok AB.hh) (oneIns (igt_ok AB.hh (h8n h8)) (oneIns (hsi _ _) (oneIns (ipow_ok AB.hh (by omega)) (oneIns (idivp_ok AB.hh (by omega)) (oneIns (hmd 1 _ _ hb.symm) (oneIns (ieq_ok AB.hh rfl) (oneIns (ige_ok AB.hh hge) (oneIns (six_ok AB.hh (by omega)) (oneIns (hsd _ _ _) (oneIns (iadd_ok AB.hh rfl) nilIns))))))))))) ?_
            intro nn tt om xi h' tk' D'
            exact ⟨by kernel_rfl,stepH _ _ _ _ _ h' tk' (by omega) er D'⟩
        · have er : bitF r (m + 1) i (l' + 1) h = abcAt l' :: bitF r m (i + 1) l' h := by simp [bitF,hb]
          have hge : decide ((Int.ofNat (l' + 1) - 1 : Int) ≥ 0) = true := decide_eq_true (by show ((l' + 1 : Nat) : Int) - 1 ≥ 0; omega)
          rcases hfr with ⟨_,H,T,rfl⟩ | ⟨H,T,q,tq,rfl⟩
          · refine fragQ [] D (List.Perm.refl _) (btBa w L r tr k tk it i _ _ 0 tl th to 0 (abcAt l') o (Int.ofNat (8 - i)) (Int.ofNat (2 ^ (8 - i))) (Int.ofNat (r / 2 ^ (8 - i))) _ H T b c) AB.hh hA (okIL _ fun nn tt om xi => oneIns (rnx_ok AB.hh) (oneIns (igt_ok AB.hh (h8n h8)) (oneIns (hsi _ _) (oneIns (ipow_ok AB.hh (by omega)) (oneIns (idivp_ok AB.hh (by omega)) (oneIns (hmd 1 _ _ hb.symm) (oneIns (ieq_ok AB.hh rfl) (oneIns (ige_ok AB.hh hge) (oneIns (hli l' _ _ rfl) (oneIns (hsd _ _ _) (oneIns (isub_ok AB.hh rfl) nilIns))))))))))) ?_
            intro nn tt om xi h' tk' D'
            exact ⟨by kernel_rfl,stepL l' _ _ _ _ _ h' tk' rfl er D'⟩
          · refine fragQ [] D (List.Perm.refl _) (btBb w L r tr k tk it i _ _ q tl th to tq (abcAt l') o (Int.ofNat (8 - i)) (Int.ofNat (2 ^ (8 - i))) (Int.ofNat (r / 2 ^ (8 - i))) _ H T b c) AB.hh hA (okIL _ fun nn tt om xi => oneIns (rnx_ok AB.hh) (oneIns (igt_ok AB.hh (h8n h8)) (oneIns (hsi _ _) (oneIns (ipow_ok AB.hh (by omega)) (oneIns (idivp_ok AB.hh (by omega)) (oneIns (hmd 1 _ _ hb.symm) (oneIns (ieq_ok AB.hh rfl) (oneIns (ige_ok AB.hh hge) (oneIns (hli l' _ _ rfl) (oneIns (hsd _ _ _) (oneIns (isub_ok AB.hh rfl) nilIns))))))))))) ?_
            intro nn tt om xi h' tk' D'
            exact ⟨by kernel_rfl,stepL l' _ _ _ _ _ h' tk' rfl er D'⟩
theorem fn192 (P : Params) : fnOk P 192 := ⟨_,_,_,_,_,rfl,rfl,rfl,rfl,rfl,rfl,rfl⟩
theorem body192 (P : Params) : bodyOf P 192 = [nthS P 192 0,nthS P 192 1,nthS P 192 2,nthS P 192 3,nthS P 192 4] := rfl
theorem for192 (P : Params) : nthS P 192 3 = .For (fT (nthS P 192 3)) (fI (nthS P 192 3)) (fB (nthS P 192 3)) (fO (nthS P 192 3)) (fP (nthS P 192 3)) := rfl
noncomputable def bitI (r tr k tk : Nat) : Inst := ⟨.call (.ref 192) ⟨[.int (Int.ofNat r) tr,.int (Int.ofNat k) tk],[]⟩,[],fun ω _ => .ok (.ret (.str ⟨⟨bitF r 9 0 k k⟩⟩ (ω 0))),fun _ _ => [],fun _ _ => []⟩
theorem bit_ok (w : World) (b c : Bool) (r tr k tk : Nat) (hk : k ≤ 9) : IOk theP (wf w b c) (MyK (wf w b c).params) (AB 790 6000) (bitI r tr k tk) := by
  intro A s R hA hK hn hd ho hlo hR
  have D := Rp.start _ hK hn hd ho hlo
  refine x_call ?_ (by intro z; cases z)
  refine enterFn 192 60 _ [.int (Int.ofNat r) tr,.int (Int.ofNat k) tk] [("rights",.int (Int.ofNat r) tr),("count",.int (Int.ofNat k) tk)] _ (fn192 _) (by kernel_rfl) hA.1 (limit_ok (Nat.le_trans hA.2.1 (by decide))) D (fun nn tt om xi ps => n192 (wf w b c) r tr k tk nn tt om xi ps) ?_
  intro L T h1 k1 D1
  have hA' : AB 791 6003 ((A.mark none).deeper (envAt (wf w b c).params 192 L)) := AB.deep hA
  refine ks_codeAny_funcAt (wpAt_of_wpAny ?_)
  rw [body192]
  refine wpAny_execs_cons ?_
  refine fragQ [] D1 (List.Perm.refl _) (b0 w L r tr k tk _ _ b c) AB.hh hA' (okIL _ fun nn tt om xi => oneIns (isub_ok AB.hh rfl) nilIns) ?_
  intro nn tt om xi h2 k2 D2
  refine wpAny_execs_cons ?_
  refine fragQ [] D2 (List.Perm.refl _) (b1 (wf w b c) L r tr k tk (fun i => match i with | 0 => hs (wf w b c).params "rights" | 1 => hs (wf w b c).params "count" | _ => hs (wf w b c).params "low") (fun i => match i with | 0 => T 0 | 1 => T 0 + 1 | _ => tt 1) (Int.ofNat k - 1) (om 0 0)) AB.hh hA' noIns ?_
  intro nn3 tt3 om3 xi3 h3 k3 D3
  refine wpAny_execs_cons ?_
  refine fragQ [] D3 (List.Perm.refl _) (b2 (wf w b c) L r tr k tk (fun i => match i with | 0 => hs (wf w b c).params "rights" | 1 => hs (wf w b c).params "count" | 2 => hs (wf w b c).params "low" | _ => hs (wf w b c).params "high") (fun i => match i with | 0 => T 0 | 1 => T 0 + 1 | 2 => tt 1 | _ => tt3 0) (Int.ofNat k - 1) (Int.ofNat k) (om 0 0) tk) AB.hh hA' noIns ?_
  intro nn4 tt4 om4 xi4 h4 k4 D4
  refine wpAny_execs_cons (forStmt (for192 _) ?_)
  refine fragQ [] D4 (List.Perm.refl _) (b3 w L r tr k tk (fun i => match i with | 0 => hs (wf w b c).params "rights" | 1 => hs (wf w b c).params "count" | 2 => hs (wf w b c).params "low" | 3 => hs (wf w b c).params "high" | _ => hs (wf w b c).params "order") (fun i => match i with | 0 => T 0 | 1 => T 0 + 1 | 2 => tt 1 | 3 => tt3 0 | _ => tt4 0 + 1) (Int.ofNat k - 1) (Int.ofNat k) (om 0 0) tk [] (tt4 0) b c) AB.hh hA' noIns ?_
  intro nn5 tt5 om5 xi5 h5 k5 D5
  clear D1 D2 D3 D4
  refine loopB w b c (hA'.mono (by decide) (by decide)) L (nn5 0 + 1) k tk r tr 9 0 k k (om 0 0) tk [] (tt4 0) _ _ rfl (by omega) hk rfl (.inl ⟨rfl,_,_,rfl⟩) D5 ?_
  intro to' H T q tq lo hi tl th h6 k6 D6
  refine wpAny_execs_cons ?_
  refine fragQ [] D6 (List.Perm.refl _) (b4 (wf w b c) L r tr k tk 0 0 lo hi q tl th to' tq 0 _ 0 0 0 0 H T) AB.hh hA' noIns ?_
  intro _ _ _ _ h7 k7 D7
  exact wpAny_pure (hR (fun _ => to') (fun _ => #[]) h7 k7 rfl (Eff.ofApp (l := []) (os := []) (nw := []) D7 rfl))
noncomputable abbrev ff (H : Nat → Int) (T : Nat → Nat) (o : List Nat) (to k tk : Nat) (es : List DictEntry) (n : Nat) (sl : Slots) : Obj := frO (fe H T 0 "order" (.str ⟨⟨o⟩⟩ to) :: fe H T 1 "count" (.int (Int.ofNat k) tk) :: es) n sl
noncomputable abbrev ff4 (H : Nat → Int) (T : Nat → Nat) (o : List Nat) (to k tk x1 x2 : Nat) (es : List DictEntry) (n : Nat) : Obj := ff H T o to k tk (fe H T 2 "dealt" (.ref x1) :: fe H T 3 "others" (.ref x2) :: es) n #[]
noncomputable abbrev ff6 (H : Nat → Int) (T : Nat → Nat) (o : List Nat) (to k tk x1 x2 a1 a2 : Nat) : Obj := ff4 H T o to k tk x1 x2 [fe H T 4 "one" (.ref a1),fe H T 5 "two" (.ref a2)] 6
noncomputable abbrev ff7 (H : Nat → Int) (T : Nat → Nat) (o : List Nat) (to k tk x1 x2 a1 a2 d0 td : Nat) : Obj := ff4 H T o to k tk x1 x2 [fe H T 4 "one" (.ref a1),fe H T 5 "two" (.ref a2),fe H T 6 "letter" (.str ⟨⟨[d0]⟩⟩ td)] 7
noncomputable abbrev tupS (s : List Nat) (t0 t1 : Nat) : Obj := tupO [.str "" t0,.str ⟨⟨s⟩⟩ t1]
theorem n199 (w:World) (o:List Nat) (to k tk:Nat) (nn tt om xi ps):Ends (go w 60 (nfe w.params 199 [("order",.str ⟨⟨o⟩⟩ to),("count",.int (Int.ofNat k) tk)]) [1,1,1,1] ([]) .nil nn tt om xi ps) ([0]) (.ok (envAt w.params 199 (nn 0))) ([(nn 0,ff (fun i=>match i with | 0=>hs w.params "order" | _=>hs w.params "count") (fun i=>match i with | 0=>tt 0 | _=>tt 0+1) o to k tk [] 2 #[])]) := by trivial
theorem f0 (w:World) (L:Nat) (o:List Nat) (to k tk:Nat) (H:NI) (T:NN) (b c:Bool) (nn tt om xi ps):Ends (go (wf w b c) 300 (exec (nthS (wf w b c).params 199 0) (envAt (wf w b c).params 199 L)) [0,1,0,7,2,2,2,0,2,7,7,0,7,7,7,2,7,7,7,0,7,7,7,2,7,7,7,0,7,7,7,2,7,7,9,1,1,1,1] ([(L,ff H T o to k tk [] 2 #[])]) (IL fun nn tt om xi=>[pilI (wf w b c) k tk]) nn tt om xi ps) ([0,2,3,4,5,1009]) (.ok .next) ((L,ff H T o to k tk [en (hs (wf w b c).params "dealt") "dealt" (tt 1) (.ref (om 0 1)),en (hs (wf w b c).params "others") "others" (tt 1+1) (.ref (om 0 2))] 4 #[]) :: ledCat (List.tail (pilNew (wf w b c) k (om 0))) []) := by cases b <;> trivial
theorem f1n (w:World) (L:Nat) (o:List Nat) (to k tk x1 x2 dx n t5 a a1:Nat) (l:List Addr) (h5:Int) (H:NI) (T:NN) (nn tt om xi ps):Ends (go w 200 (exec (nthS w.params 199 1) (envAt w.params 199 L)) [1,2,0,0,0,2,0,0,0,2,0,0,0,0,2,3,0,1,1,1] ([(L,ff4 H T o to k tk x1 x2 [] 4),(x1,accR dx (l++[a]) n),(dx,dicO h5 t5)]) (IL fun nn tt om xi=>[popI 1 2 x1 dx l a n h5 t5]) nn tt om xi ps) ([0,1,2]) (.ok .next) ([(L,ff4 H T o to k tk x1 x2 [en (hs w.params "one") "one" (tt 1) (.ref (a))] 5),(x1,accR dx l (n+1)),(dx,dicO h5 t5)]) := by trivial
theorem f1e (w:World) (L:Nat) (o:List Nat) (to k tk x1 x2 dx n t5 a a1:Nat) (l:List Addr) (h5:Int) (H:NI) (T:NN) (nn tt om xi ps):Ends (go w 200 (exec (nthS w.params 199 1) (envAt w.params 199 L)) [1,2,0,0,0,2,0,0,0,2,0,0,0,0,2,3,0,1,1,1] ([(L,ff4 H T o to k tk x1 x2 [] 4),(x1,accR dx [] n),(dx,dicO h5 t5)]) (IL fun nn tt om xi=>[popE 1 2 x1 dx n h5 t5]) nn tt om xi ps) ([0,1,2,3]) (.ok .next) ([(L,ff4 H T o to k tk x1 x2 [en (hs w.params "one") "one" (tt 1) (.ref (om 0 0))] 5),(x1,accR dx [] n),(dx,dicO h5 t5),(om 0 0,tupS [] (om 0 1) (om 0 2))]) := by trivial
theorem f2n (w:World) (L:Nat) (o:List Nat) (to k tk x1 x2 dx n t5 a a1:Nat) (l:List Addr) (h5:Int) (H:NI) (T:NN) (nn tt om xi ps):Ends (go w 200 (exec (nthS w.params 199 2) (envAt w.params 199 L)) [1,2,0,0,0,2,0,0,0,2,0,0,0,0,2,3,0,1,1,1] ([(L,ff4 H T o to k tk x1 x2 [fe H T 4 "one" (.ref a1)] 5),(x2,accR dx (l++[a]) n),(dx,dicO h5 t5)]) (IL fun nn tt om xi=>[popI 1 2 x2 dx l a n h5 t5]) nn tt om xi ps) ([0,1,2]) (.ok .next) ([(L,ff4 H T o to k tk x1 x2 [fe H T 4 "one" (.ref a1),en (hs w.params "two") "two" (tt 1) (.ref (a))] 6),(x2,accR dx l (n+1)),(dx,dicO h5 t5)]) := by trivial
theorem f2e (w:World) (L:Nat) (o:List Nat) (to k tk x1 x2 dx n t5 a a1:Nat) (l:List Addr) (h5:Int) (H:NI) (T:NN) (nn tt om xi ps):Ends (go w 200 (exec (nthS w.params 199 2) (envAt w.params 199 L)) [1,2,0,0,0,2,0,0,0,2,0,0,0,0,2,3,0,1,1,1] ([(L,ff4 H T o to k tk x1 x2 [fe H T 4 "one" (.ref a1)] 5),(x2,accR dx [] n),(dx,dicO h5 t5)]) (IL fun nn tt om xi=>[popE 1 2 x2 dx n h5 t5]) nn tt om xi ps) ([0,1,2,3]) (.ok .next) ([(L,ff4 H T o to k tk x1 x2 [fe H T 4 "one" (.ref a1),en (hs w.params "two") "two" (tt 1) (.ref (om 0 0))] 6),(x2,accR dx [] n),(dx,dicO h5 t5),(om 0 0,tupS [] (om 0 1) (om 0 2))]) := by trivial
theorem f3 (w:World) (L:Nat) (o:List Nat) (to k tk x1 x2 dx n t5 a a1:Nat) (l:List Addr) (h5:Int) (H:NI) (T:NN) (b c:Bool) (nn tt om xi ps):Ends (go (wf w b c) 100 (itT (nthS (wf w b c).params 199 3) (envAt (wf w b c).params 199 L)) [1,1,2] ([(L,ff6 H T o to k tk x1 x2 a a1)]) (IL fun nn tt om xi=>[siterI o to]) nn tt om xi ps) ([0,1]) (.ok (.ref (om 0 0))) ([(L,ff6 H T o to k tk x1 x2 a a1),(om 0 0,iterO o to 0)]) := by cases b <;> trivial
theorem f4 (w:World) (L:Nat) (nn tt om xi ps):Ends (go w 100 (exec (nthS w.params 199 4) (envAt w.params 199 L)) [] ([]) .nil nn tt om xi ps) ([]) (.ok (.ret (.bool true))) ([]) := by trivial
theorem ftAa (w:World) (L:Nat) (o:List Nat) (to k tk x1 x2 dx1 dx2 n1 n2 t51 t52 a a1 a2 t01 t11 t02 t12 it i c0 d0 td:Nat) (l:List Addr) (s1 s2:List Nat) (h1 h2:Int) (H:NI) (T:NN) (b c:Bool) (nn tt om xi ps):Ends (go (wf w b c) 400 (den (loopC (nthS (wf w b c).params 199 3) (.ref it) (envAt (wf w b c).params 199 L))) [2,1,1,1,1,1,3,3,3,0,3,3,1,1,4,0,0,0,4,0,0,0,4,0,0,0,0,4,5,0,1,1,1] ([(L,ff6 H T o to k tk x1 x2 a1 a2),(it,iterO o to i),(a1,tupS s1 t01 t11),(x1,accR dx1 (l++[a]) n1),(dx1,dicO h1 t51)]) (IL fun nn tt om xi=>[snextI 1 it o to i c0,bI "str.__eq__" [.str ⟨⟨[c0]⟩⟩ (om 0 0),.str ⟨⟨s1⟩⟩ t11] (boolR true),popI 3 4 x1 dx1 l a n1 h1 t51]) nn tt om xi ps) ([0,1,3,4]) (.ok (.again (loopC (nthS (wf w b c).params 199 3) (.ref it) (envAt (wf w b c).params 199 L)))) ([(L,ff7 (ov H 6 (hs (wf w b c).params "letter")) (ov T 6 (tt 1)) o to k tk x1 x2 a a2 c0 (om 0 0)),(it,iterO o to (i+1)),(x1,accR dx1 l (n1+1)),(dx1,dicO h1 t51)]) := by cases b <;> trivial
theorem ftAb (w:World) (L:Nat) (o:List Nat) (to k tk x1 x2 dx1 dx2 n1 n2 t51 t52 a a1 a2 t01 t11 t02 t12 it i c0 d0 td:Nat) (l:List Addr) (s1 s2:List Nat) (h1 h2:Int) (H:NI) (T:NN) (b c:Bool) (nn tt om xi ps):Ends (go (wf w b c) 400 (den (loopC (nthS (wf w b c).params 199 3) (.ref it) (envAt (wf w b c).params 199 L))) [2,1,1,1,1,1,3,3,3,0,3,3,1,1,4,0,0,0,4,0,0,0,4,0,0,0,0,4,5,0,1,1,1] ([(L,ff7 H T o to k tk x1 x2 a1 a2 d0 td),(it,iterO o to i),(a1,tupS s1 t01 t11),(x1,accR dx1 (l++[a]) n1),(dx1,dicO h1 t51)]) (IL fun nn tt om xi=>[snextI 1 it o to i c0,bI "str.__eq__" [.str ⟨⟨[c0]⟩⟩ (om 0 0),.str ⟨⟨s1⟩⟩ t11] (boolR true),popI 3 4 x1 dx1 l a n1 h1 t51]) nn tt om xi ps) ([0,1,3,4]) (.ok (.again (loopC (nthS (wf w b c).params 199 3) (.ref it) (envAt (wf w b c).params 199 L)))) ([(L,ff7 H T o to k tk x1 x2 a a2 c0 (om 0 0)),(it,iterO o to (i+1)),(x1,accR dx1 l (n1+1)),(dx1,dicO h1 t51)]) := by cases b <;> trivial
theorem ftBa (w:World) (L:Nat) (o:List Nat) (to k tk x1 x2 dx1 dx2 n1 n2 t51 t52 a a1 a2 t01 t11 t02 t12 it i c0 d0 td:Nat) (l:List Addr) (s1 s2:List Nat) (h1 h2:Int) (H:NI) (T:NN) (b c:Bool) (nn tt om xi ps):Ends (go (wf w b c) 400 (den (loopC (nthS (wf w b c).params 199 3) (.ref it) (envAt (wf w b c).params 199 L))) [2,1,1,1,1,1,3,3,3,0,3,3,1,1,4,0,0,0,4,0,0,0,4,0,0,0,0,4,5,0,1,1,1] ([(L,ff6 H T o to k tk x1 x2 a1 a2),(it,iterO o to i),(a1,tupS s1 t01 t11),(x1,accR dx1 [] n1),(dx1,dicO h1 t51)]) (IL fun nn tt om xi=>[snextI 1 it o to i c0,bI "str.__eq__" [.str ⟨⟨[c0]⟩⟩ (om 0 0),.str ⟨⟨s1⟩⟩ t11] (boolR true),popE 3 4 x1 dx1 n1 h1 t51]) nn tt om xi ps) ([0,1,3,4,5]) (.ok (.again (loopC (nthS (wf w b c).params 199 3) (.ref it) (envAt (wf w b c).params 199 L)))) ([(L,ff7 (ov H 6 (hs (wf w b c).params "letter")) (ov T 6 (tt 1)) o to k tk x1 x2 (om 2 0) a2 c0 (om 0 0)),(it,iterO o to (i+1)),(x1,accR dx1 [] n1),(dx1,dicO h1 t51),(om 2 0,tupS [] (om 2 1) (om 2 2))]) := by cases b <;> trivial
theorem ftBb (w:World) (L:Nat) (o:List Nat) (to k tk x1 x2 dx1 dx2 n1 n2 t51 t52 a a1 a2 t01 t11 t02 t12 it i c0 d0 td:Nat) (l:List Addr) (s1 s2:List Nat) (h1 h2:Int) (H:NI) (T:NN) (b c:Bool) (nn tt om xi ps):Ends (go (wf w b c) 400 (den (loopC (nthS (wf w b c).params 199 3) (.ref it) (envAt (wf w b c).params 199 L))) [2,1,1,1,1,1,3,3,3,0,3,3,1,1,4,0,0,0,4,0,0,0,4,0,0,0,0,4,5,0,1,1,1] ([(L,ff7 H T o to k tk x1 x2 a1 a2 d0 td),(it,iterO o to i),(a1,tupS s1 t01 t11),(x1,accR dx1 [] n1),(dx1,dicO h1 t51)]) (IL fun nn tt om xi=>[snextI 1 it o to i c0,bI "str.__eq__" [.str ⟨⟨[c0]⟩⟩ (om 0 0),.str ⟨⟨s1⟩⟩ t11] (boolR true),popE 3 4 x1 dx1 n1 h1 t51]) nn tt om xi ps) ([0,1,3,4,5]) (.ok (.again (loopC (nthS (wf w b c).params 199 3) (.ref it) (envAt (wf w b c).params 199 L)))) ([(L,ff7 H T o to k tk x1 x2 (om 2 0) a2 c0 (om 0 0)),(it,iterO o to (i+1)),(x1,accR dx1 [] n1),(dx1,dicO h1 t51),(om 2 0,tupS [] (om 2 1) (om 2 2))]) := by cases b <;> trivial
theorem ftCa (w:World) (L:Nat) (o:List Nat) (to k tk x1 x2 dx1 dx2 n1 n2 t51 t52 a a1 a2 t01 t11 t02 t12 it i c0 d0 td:Nat) (l:List Addr) (s1 s2:List Nat) (h1 h2:Int) (H:NI) (T:NN) (b c:Bool) (nn tt om xi ps):Ends (go (wf w b c) 400 (den (loopC (nthS (wf w b c).params 199 3) (.ref it) (envAt (wf w b c).params 199 L))) [2,1,1,1,1,1,3,3,3,0,3,3,1,1,1,4,4,4,0,4,4,1,1,5,0,0,0,5,0,0,0,5,0,0,0,0,5,6,0,1,1,1] ([(L,ff6 H T o to k tk x1 x2 a1 a2),(it,iterO o to i),(a1,tupS s1 t01 t11),(a2,tupS s2 t02 t12),(x2,accR dx2 (l++[a]) n2),(dx2,dicO h2 t52)]) (IL fun nn tt om xi=>[snextI 1 it o to i c0,bI "str.__eq__" [.str ⟨⟨[c0]⟩⟩ (om 0 0),.str ⟨⟨s1⟩⟩ t11] (boolR false),bI "str.__eq__" [.str ⟨⟨[c0]⟩⟩ (om 0 0),.str ⟨⟨s2⟩⟩ t12] (boolR true),popI 4 5 x2 dx2 l a n2 h2 t52]) nn tt om xi ps) ([0,1,2,4,5]) (.ok (.again (loopC (nthS (wf w b c).params 199 3) (.ref it) (envAt (wf w b c).params 199 L)))) ([(L,ff7 (ov H 6 (hs (wf w b c).params "letter")) (ov T 6 (tt 1)) o to k tk x1 x2 a1 a c0 (om 0 0)),(it,iterO o to (i+1)),(a1,tupS s1 t01 t11),(x2,accR dx2 l (n2+1)),(dx2,dicO h2 t52)]) := by cases b <;> trivial
theorem ftCb (w:World) (L:Nat) (o:List Nat) (to k tk x1 x2 dx1 dx2 n1 n2 t51 t52 a a1 a2 t01 t11 t02 t12 it i c0 d0 td:Nat) (l:List Addr) (s1 s2:List Nat) (h1 h2:Int) (H:NI) (T:NN) (b c:Bool) (nn tt om xi ps):Ends (go (wf w b c) 400 (den (loopC (nthS (wf w b c).params 199 3) (.ref it) (envAt (wf w b c).params 199 L))) [2,1,1,1,1,1,3,3,3,0,3,3,1,1,1,4,4,4,0,4,4,1,1,5,0,0,0,5,0,0,0,5,0,0,0,0,5,6,0,1,1,1] ([(L,ff7 H T o to k tk x1 x2 a1 a2 d0 td),(it,iterO o to i),(a1,tupS s1 t01 t11),(a2,tupS s2 t02 t12),(x2,accR dx2 (l++[a]) n2),(dx2,dicO h2 t52)]) (IL fun nn tt om xi=>[snextI 1 it o to i c0,bI "str.__eq__" [.str ⟨⟨[c0]⟩⟩ (om 0 0),.str ⟨⟨s1⟩⟩ t11] (boolR false),bI "str.__eq__" [.str ⟨⟨[c0]⟩⟩ (om 0 0),.str ⟨⟨s2⟩⟩ t12] (boolR true),popI 4 5 x2 dx2 l a n2 h2 t52]) nn tt om xi ps) ([0,1,2,4,5]) (.ok (.again (loopC (nthS (wf w b c).params 199 3) (.ref it) (envAt (wf w b c).params 199 L)))) ([(L,ff7 H T o to k tk x1 x2 a1 a c0 (om 0 0)),(it,iterO o to (i+1)),(a1,tupS s1 t01 t11),(x2,accR dx2 l (n2+1)),(dx2,dicO h2 t52)]) := by cases b <;> trivial
theorem ftDa (w:World) (L:Nat) (o:List Nat) (to k tk x1 x2 dx1 dx2 n1 n2 t51 t52 a a1 a2 t01 t11 t02 t12 it i c0 d0 td:Nat) (l:List Addr) (s1 s2:List Nat) (h1 h2:Int) (H:NI) (T:NN) (b c:Bool) (nn tt om xi ps):Ends (go (wf w b c) 400 (den (loopC (nthS (wf w b c).params 199 3) (.ref it) (envAt (wf w b c).params 199 L))) [2,1,1,1,1,1,3,3,3,0,3,3,1,1,1,4,4,4,0,4,4,1,1,5,0,0,0,5,0,0,0,5,0,0,0,0,5,6,0,1,1,1] ([(L,ff6 H T o to k tk x1 x2 a1 a2),(it,iterO o to i),(a1,tupS s1 t01 t11),(a2,tupS s2 t02 t12),(x2,accR dx2 [] n2),(dx2,dicO h2 t52)]) (IL fun nn tt om xi=>[snextI 1 it o to i c0,bI "str.__eq__" [.str ⟨⟨[c0]⟩⟩ (om 0 0),.str ⟨⟨s1⟩⟩ t11] (boolR false),bI "str.__eq__" [.str ⟨⟨[c0]⟩⟩ (om 0 0),.str ⟨⟨s2⟩⟩ t12] (boolR true),popE 4 5 x2 dx2 n2 h2 t52]) nn tt om xi ps) ([0,1,2,4,5,6]) (.ok (.again (loopC (nthS (wf w b c).params 199 3) (.ref it) (envAt (wf w b c).params 199 L)))) ([(L,ff7 (ov H 6 (hs (wf w b c).params "letter")) (ov T 6 (tt 1)) o to k tk x1 x2 a1 (om 3 0) c0 (om 0 0)),(it,iterO o to (i+1)),(a1,tupS s1 t01 t11),(x2,accR dx2 [] n2),(dx2,dicO h2 t52),(om 3 0,tupS [] (om 3 1) (om 3 2))]) := by cases b <;> trivial
theorem ftDb (w:World) (L:Nat) (o:List Nat) (to k tk x1 x2 dx1 dx2 n1 n2 t51 t52 a a1 a2 t01 t11 t02 t12 it i c0 d0 td:Nat) (l:List Addr) (s1 s2:List Nat) (h1 h2:Int) (H:NI) (T:NN) (b c:Bool) (nn tt om xi ps):Ends (go (wf w b c) 400 (den (loopC (nthS (wf w b c).params 199 3) (.ref it) (envAt (wf w b c).params 199 L))) [2,1,1,1,1,1,3,3,3,0,3,3,1,1,1,4,4,4,0,4,4,1,1,5,0,0,0,5,0,0,0,5,0,0,0,0,5,6,0,1,1,1] ([(L,ff7 H T o to k tk x1 x2 a1 a2 d0 td),(it,iterO o to i),(a1,tupS s1 t01 t11),(a2,tupS s2 t02 t12),(x2,accR dx2 [] n2),(dx2,dicO h2 t52)]) (IL fun nn tt om xi=>[snextI 1 it o to i c0,bI "str.__eq__" [.str ⟨⟨[c0]⟩⟩ (om 0 0),.str ⟨⟨s1⟩⟩ t11] (boolR false),bI "str.__eq__" [.str ⟨⟨[c0]⟩⟩ (om 0 0),.str ⟨⟨s2⟩⟩ t12] (boolR true),popE 4 5 x2 dx2 n2 h2 t52]) nn tt om xi ps) ([0,1,2,4,5,6]) (.ok (.again (loopC (nthS (wf w b c).params 199 3) (.ref it) (envAt (wf w b c).params 199 L)))) ([(L,ff7 H T o to k tk x1 x2 a1 (om 3 0) c0 (om 0 0)),(it,iterO o to (i+1)),(a1,tupS s1 t01 t11),(x2,accR dx2 [] n2),(dx2,dicO h2 t52),(om 3 0,tupS [] (om 3 1) (om 3 2))]) := by cases b <;> trivial
theorem ftEa (w:World) (L:Nat) (o:List Nat) (to k tk x1 x2 dx1 dx2 n1 n2 t51 t52 a a1 a2 t01 t11 t02 t12 it i c0 d0 td:Nat) (l:List Addr) (s1 s2:List Nat) (h1 h2:Int) (H:NI) (T:NN) (b c:Bool) (nn tt om xi ps):Ends (go (wf w b c) 400 (den (loopC (nthS (wf w b c).params 199 3) (.ref it) (envAt (wf w b c).params 199 L))) [2,1,1,1,1,1,3,3,3,0,3,3,1,1,1,4,4,4,0,4,4,1] ([(L,ff6 H T o to k tk x1 x2 a1 a2),(it,iterO o to i),(a1,tupS s1 t01 t11),(a2,tupS s2 t02 t12)]) (IL fun nn tt om xi=>[snextI 1 it o to i c0,bI "str.__eq__" [.str ⟨⟨[c0]⟩⟩ (om 0 0),.str ⟨⟨s1⟩⟩ t11] (boolR false),bI "str.__eq__" [.str ⟨⟨[c0]⟩⟩ (om 0 0),.str ⟨⟨s2⟩⟩ t12] (boolR false)]) nn tt om xi ps) ([]) (.ok (.done (.ret (.bool false)))) ([]) := by cases b <;> trivial
theorem ftEb (w:World) (L:Nat) (o:List Nat) (to k tk x1 x2 dx1 dx2 n1 n2 t51 t52 a a1 a2 t01 t11 t02 t12 it i c0 d0 td:Nat) (l:List Addr) (s1 s2:List Nat) (h1 h2:Int) (H:NI) (T:NN) (b c:Bool) (nn tt om xi ps):Ends (go (wf w b c) 400 (den (loopC (nthS (wf w b c).params 199 3) (.ref it) (envAt (wf w b c).params 199 L))) [2,1,1,1,1,1,3,3,3,0,3,3,1,1,1,4,4,4,0,4,4,1] ([(L,ff7 H T o to k tk x1 x2 a1 a2 d0 td),(it,iterO o to i),(a1,tupS s1 t01 t11),(a2,tupS s2 t02 t12)]) (IL fun nn tt om xi=>[snextI 1 it o to i c0,bI "str.__eq__" [.str ⟨⟨[c0]⟩⟩ (om 0 0),.str ⟨⟨s1⟩⟩ t11] (boolR false),bI "str.__eq__" [.str ⟨⟨[c0]⟩⟩ (om 0 0),.str ⟨⟨s2⟩⟩ t12] (boolR false)]) nn tt om xi ps) ([]) (.ok (.done (.ret (.bool false)))) ([]) := by cases b <;> trivial
theorem fx (w:World) (L:Nat) (o:List Nat) (to k tk x1 x2 dx1 dx2 n1 n2 t51 t52 a a1 a2 t01 t11 t02 t12 it i c0 d0 td:Nat) (l:List Addr) (s1 s2:List Nat) (h1 h2:Int) (H:NI) (T:NN) (nn tt om xi ps):Ends (go w 100 (den (loopC (nthS w.params 199 3) (.ref it) (envAt w.params 199 L))) [1,1,3] ([(it,iterO o to i)]) (IL fun nn tt om xi=>[sendI 0 it o to i]) nn tt om xi ps) ([]) (.ok (.again (.block [] (envAt w.params 199 L)))) ([]) := by trivial
noncomputable def fitG : List Nat → List Nat → List Nat → Bool
  | [],_,_ => true
  | c :: cs,D,T => match D.head? == some c with
    | true => fitG cs D.tail T
    | false => match T.head? == some c with
      | true => fitG cs D T.tail
      | false => false
theorem pmA {α : Type} (f i a1 a2 x d y e : α) (B : List α) : ([f,i,a1,x,d] ++ ([a2,y,e] ++ B)).Perm ([f,i,a1,a2,x,d,y,e] ++ B) := by
  classical
  refine List.perm_iff_count.mpr fun z => ?_
  simp only [List.count_append,List.count_cons,List.count_nil]
  omega
theorem pmA2 {α : Type} (f i a2 x d y e q : α) (A B : List α) : ([f,i,q,a2,x,d,y,e] ++ (A ++ B)).Perm ([f,i,x,d] ++ ([a2,y,e] ++ ((A ++ [q]) ++ B))) := by
  classical
  refine List.perm_iff_count.mpr fun z => ?_
  simp only [List.count_append,List.count_cons,List.count_nil]
  omega
theorem pmB2 {α : Type} (f i a2 x d y e q : α) (B : List α) : ([f,i,q,a2,x,d,y,e] ++ B).Perm ([f,i,x,d,q] ++ ([a2,y,e] ++ B)) := by
  classical
  refine List.perm_iff_count.mpr fun z => ?_
  simp only [List.count_append,List.count_cons,List.count_nil]
  omega
theorem pmC {α : Type} (f i a1 a2 x d y e : α) (B : List α) : ([f,i,a1,a2,y,e] ++ ([x,d] ++ B)).Perm ([f,i,a1,a2,x,d,y,e] ++ B) := by
  classical
  refine List.perm_iff_count.mpr fun z => ?_
  simp only [List.count_append,List.count_cons,List.count_nil]
  omega
theorem pmC2 {α : Type} (f i a1 x d y e q : α) (A B C : List α) : ([f,i,a1,q,x,d,y,e] ++ (A ++ (B ++ C))).Perm ([f,i,a1,y,e] ++ ([x,d] ++ (A ++ ((B ++ [q]) ++ C)))) := by
  classical
  refine List.perm_iff_count.mpr fun z => ?_
  simp only [List.count_append,List.count_cons,List.count_nil]
  omega
theorem pmD2 {α : Type} (f i a1 x d y e q : α) (B : List α) : ([f,i,a1,q,x,d,y,e] ++ B).Perm ([f,i,a1,y,e,q] ++ ([x,d] ++ B)) := by
  classical
  refine List.perm_iff_count.mpr fun z => ?_
  simp only [List.count_append,List.count_cons,List.count_nil]
  omega
noncomputable def frF (o : List Nat) (to k tk x1 x2 a1 a2 : Nat) (fr : Obj) : Prop := (∃ H T,fr = ff6 H T o to k tk x1 x2 a1 a2) ∨ (∃ H T d0 td,fr = ff7 H T o to k tk x1 x2 a1 a2 d0 td)
noncomputable def onT (s : List Nat) (l : List LT) (D : List Nat) : Prop := (∃ c,s = [c] ∧ D = c :: (l.map (·.c)).reverse) ∨ (s = [] ∧ l = [] ∧ D = [])
theorem onT.eq {s : List Nat} {l : List LT} {D : List Nat} (h : onT s l D) (c : Nat) : List.beq [c] s = (D.head? == some c) := by
  rcases h with ⟨d,rfl,rfl⟩ | ⟨rfl,rfl,rfl⟩
  · show (c == d && true) = (some d == some c)
    by_cases e : c = d
    · subst e; simp
    · have e' : ¬ d = c := fun z => e z.symm
      have a1 : (c == d) = false := beq_eq_false_iff_ne.mpr e
      have a2 : (some d == some c) = false := beq_eq_false_iff_ne.mpr fun z => e' (Option.some.inj z)
      rw [a1,a2]; rfl
  · rfl
theorem loopF (w : World) (b c : Bool) {A : Around} {g : Heap} {A0 : List Addr} {R : Result → Shared → Prop} (hA : AB 839 6900 A) (L it to x1 dx1 t51 x2 dx2 t52 k tk : Nat) (h1 h2 : Int) (o : List Nat) (hsl : o.length ≤ 9) (rest : Led) :
    ∀ (m i n1 n2 : Nat) (l1 l2 : List LT) (s1 s2 Ds Ts : List Nat) (a1 a2 t01 t11 t02 t12 : Nat) (fr : Obj) (sh : Shared),i + m = o.length → l1.length ≤ 9 → l2.length ≤ 9 → onT s1 l1 Ds → onT s2 l2 Ts → frF o to k tk x1 x2 a1 a2 fr →
    Rp (MyK (wf w b c).params) g A0 sh.heap ([(L,fr),(it,iterO o to i),(a1,tupS s1 t01 t11),(a2,tupS s2 t02 t12),(x1,accR dx1 (l1.map (·.a)) n1),(dx1,dicO h1 t51),(x2,accR dx2 (l2.map (·.a)) n2),(dx2,dicO h2 t52)] ++ (tups l1 ++ (tups l2 ++ rest))) →
    (∀ h' tk',Rp (MyK (wf w b c).params) g A0 h' [] → R (.ok (match fitG (o.drop i) Ds Ts with | true => .next | false => .ret (.bool false))) { sh with heap := h',toks := tk' }) →
    codeAny (MM (wf w b c)) A (loopC (nthS (wf w b c).params 199 3) (.ref it) (envAt (wf w b c).params 199 L)) R sh := by
  intro m
  induction m with
  | zero =>
    intro i n1 n2 l1 l2 s1 s2 Ds Ts a1 a2 t01 t11 t02 t12 fr sh hi hl1 hl2 ho1 ho2 hfr D hR
    refine codeTurn rfl ?_
    have e : o.drop i = [] := List.drop_eq_nil_of_le (by omega)
    have D1 := D.sub (List.sublist_append_left _ _)
    refine fragQ [] (D1.sel [1] (by decide)) (List.Perm.refl _) (fx (wf w b c) L o to k tk x1 x2 0 0 0 0 0 0 0 0 0 0 0 0 0 it i 0 0 0 [] [] [] 0 0 (fun _ => 0) (fun _ => 0)) AB.hh hA (okIL _ fun nn tt om xi => oneIns (send_ok AB.hh (by omega) (by omega)) nilIns) ?_
    intro _ _ _ _ h' tk' D'
    have z := hR h' tk' D'
    rw [e] at z
    exact ⟨by kernel_rfl,codeBlk z⟩
  | succ m ih =>
    intro i n1 n2 l1 l2 s1 s2 Ds Ts a1 a2 t01 t11 t02 t12 fr sh hi hl1 hl2 ho1 ho2 hfr D hR
    refine codeTurn rfl ?_
    have hlt : i < o.length := by omega
    obtain ⟨c0,hc0⟩ : ∃ c0,o[i]? = some c0 := ⟨_,List.getElem?_eq_getElem hlt⟩
    have hdrop : o.drop i = c0 :: o.drop (i + 1) := by
      rw [List.drop_eq_getElem_cons hlt,(List.getElem?_eq_some_iff.mp hc0).2]
    have hnx : ∀ {j},IOk theP (wf w b c) (MyK (wf w b c).params) (AB 839 6900) (snextI j it o to i c0) := snext_ok AB.hh hc0 (by omega)
    have hpp : ∀ jx jd x dx l a n hh t5,l.length ≤ 8 → IOk theP (wf w b c) (MyK (wf w b c).params) (AB 839 6900) (popI jx jd x dx l a n hh t5) := fun jx jd x dx l a n hh t5 hl => (pop_ok w b c jx jd x dx l a hl n hh t5).ab
    have hpe : ∀ jx jd x dx n hh t5,IOk theP (wf w b c) (MyK (wf w b c).params) (AB 839 6900) (popE jx jd x dx n hh t5) := fun jx jd x dx n hh t5 => (popE_ok w b c jx jd x dx n hh t5).ab
    cases q1 : Ds.head? == some c0 with
    | true =>
      have er : fitG (o.drop i) Ds Ts = fitG (o.drop (i + 1)) Ds.tail Ts := by rw [hdrop]; simp only [fitG,q1]
      rw [er] at hR
      have hq : List.beq [c0] s1 = true := (ho1.eq c0).trans q1
      rcases List.eq_nil_or_concat l1 with e1 | ⟨l1',q,e1⟩
      · subst e1
        have ht : onT [] [] Ds.tail := by
          rcases ho1 with ⟨_,_,e⟩ | ⟨_,_,e⟩ <;> rw [e] <;> exact .inr ⟨rfl,rfl,rfl⟩
        rcases hfr with ⟨H,T,rfl⟩ | ⟨H,T,d0,td,rfl⟩
        · refine fragQ ([(a2,tupS s2 t02 t12),(x2,accR dx2 (l2.map (·.a)) n2),(dx2,dicO h2 t52)] ++ ([] ++ (tups l2 ++ rest))) D (pmA _ _ _ _ _ _ _ _ _) (ftBa w L o to k tk x1 x2 dx1 dx2 n1 n2 t51 t52 0 a1 a2 t01 t11 t02 t12 it i c0 0 0 [] s1 s2 h1 h2 H T b c) AB.hh hA (okIL _ fun nn tt om xi => oneIns hnx (oneIns (seq_ok AB.hh hq) (oneIns (hpe _ _ _ _ _ _ _) nilIns))) ?_
          intro nn tt om xi h' tk' D'
          exact ⟨by kernel_rfl,ih (i + 1) n1 n2 [] l2 [] s2 _ Ts _ a2 _ _ t02 t12 _ { sh with heap := h',toks := tk' } (by omega) (by decide) hl2 ht ho2 (.inr ⟨_,_,_,_,rfl⟩) (D'.perm (pmB2 _ _ _ _ _ _ _ _ _)) hR⟩
        · refine fragQ ([(a2,tupS s2 t02 t12),(x2,accR dx2 (l2.map (·.a)) n2),(dx2,dicO h2 t52)] ++ ([] ++ (tups l2 ++ rest))) D (pmA _ _ _ _ _ _ _ _ _) (ftBb w L o to k tk x1 x2 dx1 dx2 n1 n2 t51 t52 0 a1 a2 t01 t11 t02 t12 it i c0 d0 td [] s1 s2 h1 h2 H T b c) AB.hh hA (okIL _ fun nn tt om xi => oneIns hnx (oneIns (seq_ok AB.hh hq) (oneIns (hpe _ _ _ _ _ _ _) nilIns))) ?_
          intro nn tt om xi h' tk' D'
          exact ⟨by kernel_rfl,ih (i + 1) n1 n2 [] l2 [] s2 _ Ts _ a2 _ _ t02 t12 _ { sh with heap := h',toks := tk' } (by omega) (by decide) hl2 ht ho2 (.inr ⟨_,_,_,_,rfl⟩) (D'.perm (pmB2 _ _ _ _ _ _ _ _ _)) hR⟩
      · rw [List.concat_eq_append] at e1
        have ht : onT [q.c] l1' Ds.tail := by
          rcases ho1 with ⟨_,_,e⟩ | ⟨_,e,_⟩
          · refine .inl ⟨q.c,rfl,?_⟩
            rw [e,e1]; simp
          · rw [e] at e1; simp at e1
        have hl1' : l1'.length ≤ 8 := by rw [e1] at hl1; simp only [List.length_append,List.length_cons,List.length_nil] at hl1; omega
        rw [e1] at D
        simp only [List.map_append,List.map_cons,List.map_nil,tups] at D
        rcases hfr with ⟨H,T,rfl⟩ | ⟨H,T,d0,td,rfl⟩
        · refine fragQ ([(a2,tupS s2 t02 t12),(x2,accR dx2 (l2.map (·.a)) n2),(dx2,dicO h2 t52)] ++ ((l1'.map tupL ++ [tupL q]) ++ (l2.map tupL ++ rest))) D (pmA _ _ _ _ _ _ _ _ _) (ftAa w L o to k tk x1 x2 dx1 dx2 n1 n2 t51 t52 q.a a1 a2 t01 t11 t02 t12 it i c0 0 0 (l1'.map (·.a)) s1 s2 h1 h2 H T b c) AB.hh hA (okIL _ fun nn tt om xi => oneIns hnx (oneIns (seq_ok AB.hh hq) (oneIns (hpp _ _ _ _ _ _ _ _ _ (by rw [List.length_map]; exact hl1')) nilIns))) ?_
          intro nn tt om xi h' tk' D'
          exact ⟨by kernel_rfl,ih (i + 1) (n1 + 1) n2 l1' l2 [q.c] s2 _ Ts q.a a2 q.t0 q.t1 t02 t12 _ { sh with heap := h',toks := tk' } (by omega) (by omega) hl2 ht ho2 (.inr ⟨_,_,_,_,rfl⟩) (D'.perm (pmA2 _ _ _ _ _ _ _ _ _ _)) hR⟩
        · refine fragQ ([(a2,tupS s2 t02 t12),(x2,accR dx2 (l2.map (·.a)) n2),(dx2,dicO h2 t52)] ++ ((l1'.map tupL ++ [tupL q]) ++ (l2.map tupL ++ rest))) D (pmA _ _ _ _ _ _ _ _ _) (ftAb w L o to k tk x1 x2 dx1 dx2 n1 n2 t51 t52 q.a a1 a2 t01 t11 t02 t12 it i c0 d0 td (l1'.map (·.a)) s1 s2 h1 h2 H T b c) AB.hh hA (okIL _ fun nn tt om xi => oneIns hnx (oneIns (seq_ok AB.hh hq) (oneIns (hpp _ _ _ _ _ _ _ _ _ (by rw [List.length_map]; exact hl1')) nilIns))) ?_
          intro nn tt om xi h' tk' D'
          exact ⟨by kernel_rfl,ih (i + 1) (n1 + 1) n2 l1' l2 [q.c] s2 _ Ts q.a a2 q.t0 q.t1 t02 t12 _ { sh with heap := h',toks := tk' } (by omega) (by omega) hl2 ht ho2 (.inr ⟨_,_,_,_,rfl⟩) (D'.perm (pmA2 _ _ _ _ _ _ _ _ _ _)) hR⟩
    | false =>
      have hq : List.beq [c0] s1 = false := (ho1.eq c0).trans q1
      cases q2 : Ts.head? == some c0 with
      | true =>
        have er : fitG (o.drop i) Ds Ts = fitG (o.drop (i + 1)) Ds Ts.tail := by rw [hdrop]; simp only [fitG,q1,q2]
        rw [er] at hR
        have hq2 : List.beq [c0] s2 = true := (ho2.eq c0).trans q2
        rcases List.eq_nil_or_concat l2 with e1 | ⟨l2',q,e1⟩
        · subst e1
          have ht : onT [] [] Ts.tail := by
            rcases ho2 with ⟨_,_,e⟩ | ⟨_,_,e⟩ <;> rw [e] <;> exact .inr ⟨rfl,rfl,rfl⟩
          rcases hfr with ⟨H,T,rfl⟩ | ⟨H,T,d0,td,rfl⟩
          · refine fragQ ([(x1,accR dx1 (l1.map (·.a)) n1),(dx1,dicO h1 t51)] ++ (tups l1 ++ ([] ++ rest))) D (pmC _ _ _ _ _ _ _ _ _) (ftDa w L o to k tk x1 x2 dx1 dx2 n1 n2 t51 t52 0 a1 a2 t01 t11 t02 t12 it i c0 0 0 [] s1 s2 h1 h2 H T b c) AB.hh hA (okIL _ fun nn tt om xi => oneIns hnx (oneIns (seq_ok AB.hh hq) (oneIns (seq_ok AB.hh hq2) (oneIns (hpe _ _ _ _ _ _ _) nilIns)))) ?_
            intro nn tt om xi h' tk' D'
            exact ⟨by kernel_rfl,ih (i + 1) n1 n2 l1 [] s1 [] Ds _ a1 _ t01 t11 _ _ _ { sh with heap := h',toks := tk' } (by omega) hl1 (by decide) ho1 ht (.inr ⟨_,_,_,_,rfl⟩) (D'.perm (pmD2 _ _ _ _ _ _ _ _ _)) hR⟩
          · refine fragQ ([(x1,accR dx1 (l1.map (·.a)) n1),(dx1,dicO h1 t51)] ++ (tups l1 ++ ([] ++ rest))) D (pmC _ _ _ _ _ _ _ _ _) (ftDb w L o to k tk x1 x2 dx1 dx2 n1 n2 t51 t52 0 a1 a2 t01 t11 t02 t12 it i c0 d0 td [] s1 s2 h1 h2 H T b c) AB.hh hA (okIL _ fun nn tt om xi => oneIns hnx (oneIns (seq_ok AB.hh hq) (oneIns (seq_ok AB.hh hq2) (oneIns (hpe _ _ _ _ _ _ _) nilIns)))) ?_
            intro nn tt om xi h' tk' D'
            exact ⟨by kernel_rfl,ih (i + 1) n1 n2 l1 [] s1 [] Ds _ a1 _ t01 t11 _ _ _ { sh with heap := h',toks := tk' } (by omega) hl1 (by decide) ho1 ht (.inr ⟨_,_,_,_,rfl⟩) (D'.perm (pmD2 _ _ _ _ _ _ _ _ _)) hR⟩
        · rw [List.concat_eq_append] at e1
          have ht : onT [q.c] l2' Ts.tail := by
            rcases ho2 with ⟨_,_,e⟩ | ⟨_,e,_⟩
            · refine .inl ⟨q.c,rfl,?_⟩
              rw [e,e1]; simp
            · rw [e] at e1; simp at e1
          have hl2' : l2'.length ≤ 8 := by rw [e1] at hl2; simp only [List.length_append,List.length_cons,List.length_nil] at hl2; omega
          rw [e1] at D
          simp only [List.map_append,List.map_cons,List.map_nil,tups] at D
          rcases hfr with ⟨H,T,rfl⟩ | ⟨H,T,d0,td,rfl⟩
          · refine fragQ ([(x1,accR dx1 (l1.map (·.a)) n1),(dx1,dicO h1 t51)] ++ (l1.map tupL ++ ((l2'.map tupL ++ [tupL q]) ++ rest))) D (pmC _ _ _ _ _ _ _ _ _) (ftCa w L o to k tk x1 x2 dx1 dx2 n1 n2 t51 t52 q.a a1 a2 t01 t11 t02 t12 it i c0 0 0 (l2'.map (·.a)) s1 s2 h1 h2 H T b c) AB.hh hA (okIL _ fun nn tt om xi => oneIns hnx (oneIns (seq_ok AB.hh hq) (oneIns (seq_ok AB.hh hq2) (oneIns (hpp _ _ _ _ _ _ _ _ _ (by rw [List.length_map]; exact hl2')) nilIns)))) ?_
            intro nn tt om xi h' tk' D'
            exact ⟨by kernel_rfl,ih (i + 1) n1 (n2 + 1) l1 l2' s1 [q.c] Ds _ a1 q.a t01 t11 q.t0 q.t1 _ { sh with heap := h',toks := tk' } (by omega) hl1 (by omega) ho1 ht (.inr ⟨_,_,_,_,rfl⟩) (D'.perm (pmC2 _ _ _ _ _ _ _ _ _ _ _)) hR⟩
          · refine fragQ ([(x1,accR dx1 (l1.map (·.a)) n1),(dx1,dicO h1 t51)] ++ (l1.map tupL ++ ((l2'.map tupL ++ [tupL q]) ++ rest))) D (pmC _ _ _ _ _ _ _ _ _) (ftCb w L o to k tk x1 x2 dx1 dx2 n1 n2 t51 t52 q.a a1 a2 t01 t11 t02 t12 it i c0 d0 td (l2'.map (·.a)) s1 s2 h1 h2 H T b c) AB.hh hA (okIL _ fun nn tt om xi => oneIns hnx (oneIns (seq_ok AB.hh hq) (oneIns (seq_ok AB.hh hq2) (oneIns (hpp _ _ _ _ _ _ _ _ _ (by rw [List.length_map]; exact hl2')) nilIns)))) ?_
            intro nn tt om xi h' tk' D'
            exact ⟨by kernel_rfl,ih (i + 1) n1 (n2 + 1) l1 l2' s1 [q.c] Ds _ a1 q.a t01 t11 q.t0 q.t1 _ { sh with heap := h',toks := tk' } (by omega) hl1 (by omega) ho1 ht (.inr ⟨_,_,_,_,rfl⟩) (D'.perm (pmC2 _ _ _ _ _ _ _ _ _ _ _)) hR⟩
      | false =>
        have er : fitG (o.drop i) Ds Ts = false := by rw [hdrop]; simp only [fitG,q1,q2]
        rw [er] at hR
        have hq2 : List.beq [c0] s2 = false := (ho2.eq c0).trans q2
        have D1 := D.sub (List.sublist_append_left _ _)
        rcases hfr with ⟨H,T,rfl⟩ | ⟨H,T,d0,td,rfl⟩
        · refine fragQ [] (D1.sel [0,1,2,3] (by decide)) (List.Perm.refl _) (ftEa w L o to k tk x1 x2 dx1 dx2 n1 n2 t51 t52 0 a1 a2 t01 t11 t02 t12 it i c0 0 0 [] s1 s2 h1 h2 H T b c) AB.hh hA (okIL _ fun nn tt om xi => oneIns hnx (oneIns (seq_ok AB.hh hq) (oneIns (seq_ok AB.hh hq2) nilIns))) ?_
          intro nn tt om xi h' tk' D'
          exact hR h' tk' D'
        · refine fragQ [] (D1.sel [0,1,2,3] (by decide)) (List.Perm.refl _) (ftEb w L o to k tk x1 x2 dx1 dx2 n1 n2 t51 t52 0 a1 a2 t01 t11 t02 t12 it i c0 d0 td [] s1 s2 h1 h2 H T b c) AB.hh hA (okIL _ fun nn tt om xi => oneIns hnx (oneIns (seq_ok AB.hh hq) (oneIns (seq_ok AB.hh hq2) nilIns))) ?_
          intro nn tt om xi h' tk' D'
          exact hR h' tk' D'
theorem fn199 (P : Params) : fnOk P 199 := ⟨_,_,_,_,_,rfl,rfl,rfl,rfl,rfl,rfl,rfl⟩
theorem body199 (P : Params) : bodyOf P 199 = [nthS P 199 0,nthS P 199 1,nthS P 199 2,nthS P 199 3,nthS P 199 4] := rfl
theorem for199 (P : Params) : nthS P 199 3 = .For (fT (nthS P 199 3)) (fI (nthS P 199 3)) (fB (nthS P 199 3)) (fO (nthS P 199 3)) (fP (nthS P 199 3)) := rfl
noncomputable def fitI (o : List Nat) (to k tk : Nat) : Inst := ⟨.call (.ref 199) ⟨[.str ⟨⟨o⟩⟩ to,.int (Int.ofNat k) tk],[]⟩,[],fun ω _ => .ok (.ret (.bool (fitG o (abc.take k).reverse (abc.drop k)))),fun _ _ => [],fun _ _ => []⟩
theorem pm1 {α : Type} (f x d y e : α) (B : List α) : ([f,x,d] ++ ([y,e] ++ B)).Perm ([f,x,d,y,e] ++ B) := List.Perm.refl _
theorem pm2 {α : Type} (f x d y e q : α) (B : List α) : ([f,y,e] ++ ([q,x,d] ++ B)).Perm ([f,q,x,d,y,e] ++ B) := by
  classical
  refine List.perm_iff_count.mpr fun z => ?_
  simp only [List.count_append,List.count_cons,List.count_nil]
  omega
theorem pm1a {α : Type} (f x d y e q : α) (A B : List α) : ([f,q,x,d,y,e] ++ (A ++ B)).Perm ([f,x,d] ++ ([y,e] ++ ((A ++ [q]) ++ B))) := by
  classical
  refine List.perm_iff_count.mpr fun z => ?_
  simp only [List.count_append,List.count_cons,List.count_nil]
  omega
theorem pm1b {α : Type} (f x d y e q : α) (B : List α) : ([f,q,x,d,y,e] ++ B).Perm ([f,x,d,q] ++ ([y,e] ++ B)) := by
  classical
  refine List.perm_iff_count.mpr fun z => ?_
  simp only [List.count_append,List.count_cons,List.count_nil]
  omega
theorem pm2a {α : Type} (f x d y e p q : α) (A B C : List α) : ([f,p,q,x,d,y,e] ++ (A ++ (B ++ C))).Perm ([f,y,e] ++ ([p,x,d] ++ (A ++ ((B ++ [q]) ++ C)))) := by
  classical
  refine List.perm_iff_count.mpr fun z => ?_
  simp only [List.count_append,List.count_cons,List.count_nil]
  omega
theorem pm2b {α : Type} (f x d y e p q : α) (B : List α) : ([f,p,q,x,d,y,e] ++ B).Perm ([f,y,e,q] ++ ([p,x,d] ++ B)) := by
  classical
  refine List.perm_iff_count.mpr fun z => ?_
  simp only [List.count_append,List.count_cons,List.count_nil]
  omega
theorem fpop1 (w : World) (b c : Bool) {A : Around} {g : Heap} {A0 : List Addr} {Q : Flow → Shared → Prop} {E : Value → Shared → Prop} {s : Shared} (hA : AB 839 6900 A) (L to x1 dx1 t51 x2 dx2 t52 k tk n1 n2 : Nat) (h1 h2 : Int) (o : List Nat) (l1 l2 : List LT) (hl1 : l1.length ≤ 9) (H : Nat → Int) (T : Nat → Nat) (rest : Led)
    (D : Rp (MyK (wf w b c).params) g A0 s.heap ([(L,ff4 H T o to k tk x1 x2 [] 4),(x1,accR dx1 (l1.map (·.a)) n1),(dx1,dicO h1 t51),(x2,accR dx2 (l2.map (·.a)) n2),(dx2,dicO h2 t52)] ++ (tups l1 ++ (tups l2 ++ rest))))
    (h : ∀ (H' : Nat → Int) (T' : Nat → Nat) (a1 t0 t1 : Nat) (s1 : List Nat) (n1' : Nat) (l1' : List LT) h' tk',l1'.length ≤ 9 → onT s1 l1' (l1.map (·.c)).reverse → Rp (MyK (wf w b c).params) g A0 h' ([(L,ff4 H' T' o to k tk x1 x2 [fe H' T' 4 "one" (.ref a1)] 5),(a1,tupS s1 t0 t1),(x1,accR dx1 (l1'.map (·.a)) n1'),(dx1,dicO h1 t51),(x2,accR dx2 (l2.map (·.a)) n2),(dx2,dicO h2 t52)] ++ (tups l1' ++ (tups l2 ++ rest))) → Q .next { s with heap := h',toks := tk' }) :
    wpAny (MM (wf w b c)) A (exec (nthS (wf w b c).params 199 1) (envAt (wf w b c).params 199 L)) Q E s := by
  rcases List.eq_nil_or_concat l1 with e1 | ⟨l1',q,e1⟩
  · subst e1
    refine fragQ ([(x2,accR dx2 (l2.map (·.a)) n2),(dx2,dicO h2 t52)] ++ ([] ++ (tups l2 ++ rest))) D (pm1 _ _ _ _ _ _) (f1e (wf w b c) L o to k tk x1 x2 dx1 n1 t51 0 0 [] h1 H T) AB.hh hA (okIL _ fun nn tt om xi => oneIns (popE_ok w b c _ _ _ _ _ _ _).ab nilIns) ?_
    intro nn tt om xi h' tk' D'
    exact h (ov H 4 (hs (wf w b c).params "one")) (ov T 4 (tt 1)) (om 0 0) (om 0 1) (om 0 2) [] n1 [] h' tk' (by decide) (.inr ⟨rfl,rfl,rfl⟩) (D'.perm (pm1b _ _ _ _ _ _ _))
  · rw [List.concat_eq_append] at e1
    have hl1' : l1'.length ≤ 8 := by rw [e1] at hl1; simp only [List.length_append,List.length_cons,List.length_nil] at hl1; omega
    rw [e1] at D
    simp only [List.map_append,List.map_cons,List.map_nil,tups] at D
    refine fragQ ([(x2,accR dx2 (l2.map (·.a)) n2),(dx2,dicO h2 t52)] ++ ((l1'.map tupL ++ [tupL q]) ++ (l2.map tupL ++ rest))) D (pm1 _ _ _ _ _ _) (f1n (wf w b c) L o to k tk x1 x2 dx1 n1 t51 q.a 0 (l1'.map (·.a)) h1 H T) AB.hh hA (okIL _ fun nn tt om xi => oneIns (pop_ok w b c _ _ _ _ _ _ (by rw [List.length_map]; exact hl1') _ _ _).ab nilIns) ?_
    intro nn tt om xi h' tk' D'
    exact h (ov H 4 (hs (wf w b c).params "one")) (ov T 4 (tt 1)) q.a q.t0 q.t1 [q.c] (n1 + 1) l1' h' tk' (by omega) (.inl ⟨q.c,rfl,by rw [e1]; simp⟩) (D'.perm (pm1a _ _ _ _ _ _ _ _))
theorem fpop2 (w : World) (b c : Bool) {A : Around} {g : Heap} {A0 : List Addr} {Q : Flow → Shared → Prop} {E : Value → Shared → Prop} {s : Shared} (hA : AB 839 6900 A) (L to x1 dx1 t51 x2 dx2 t52 k tk n1 n2 a1 t01 t11 : Nat) (s1 : List Nat) (h1 h2 : Int) (o : List Nat) (l1 l2 : List LT) (hl2 : l2.length ≤ 9) (H : Nat → Int) (T : Nat → Nat) (rest : Led)
    (D : Rp (MyK (wf w b c).params) g A0 s.heap ([(L,ff4 H T o to k tk x1 x2 [fe H T 4 "one" (.ref a1)] 5),(a1,tupS s1 t01 t11),(x1,accR dx1 (l1.map (·.a)) n1),(dx1,dicO h1 t51),(x2,accR dx2 (l2.map (·.a)) n2),(dx2,dicO h2 t52)] ++ (tups l1 ++ (tups l2 ++ rest))))
    (h : ∀ (H' : Nat → Int) (T' : Nat → Nat) (a2 t0 t1 : Nat) (s2 : List Nat) (n2' : Nat) (l2' : List LT) h' tk',l2'.length ≤ 9 → onT s2 l2' (l2.map (·.c)).reverse → Rp (MyK (wf w b c).params) g A0 h' ([(L,ff6 H' T' o to k tk x1 x2 a1 a2),(a1,tupS s1 t01 t11),(a2,tupS s2 t0 t1),(x1,accR dx1 (l1.map (·.a)) n1),(dx1,dicO h1 t51),(x2,accR dx2 (l2'.map (·.a)) n2'),(dx2,dicO h2 t52)] ++ (tups l1 ++ (tups l2' ++ rest))) → Q .next { s with heap := h',toks := tk' }) :
    wpAny (MM (wf w b c)) A (exec (nthS (wf w b c).params 199 2) (envAt (wf w b c).params 199 L)) Q E s := by
  rcases List.eq_nil_or_concat l2 with e1 | ⟨l2',q,e1⟩
  · subst e1
    refine fragQ ([(a1,tupS s1 t01 t11),(x1,accR dx1 (l1.map (·.a)) n1),(dx1,dicO h1 t51)] ++ (tups l1 ++ ([] ++ rest))) D (pm2 _ _ _ _ _ _ _) (f2e (wf w b c) L o to k tk x1 x2 dx2 n2 t52 0 a1 [] h2 H T) AB.hh hA (okIL _ fun nn tt om xi => oneIns (popE_ok w b c _ _ _ _ _ _ _).ab nilIns) ?_
    intro nn tt om xi h' tk' D'
    exact h (ov H 5 (hs (wf w b c).params "two")) (ov T 5 (tt 1)) (om 0 0) (om 0 1) (om 0 2) [] n2 [] h' tk' (by decide) (.inr ⟨rfl,rfl,rfl⟩) (D'.perm (pm2b _ _ _ _ _ _ _ _))
  · rw [List.concat_eq_append] at e1
    have hl2' : l2'.length ≤ 8 := by rw [e1] at hl2; simp only [List.length_append,List.length_cons,List.length_nil] at hl2; omega
    rw [e1] at D
    simp only [List.map_append,List.map_cons,List.map_nil,tups] at D
    refine fragQ ([(a1,tupS s1 t01 t11),(x1,accR dx1 (l1.map (·.a)) n1),(dx1,dicO h1 t51)] ++ (l1.map tupL ++ ((l2'.map tupL ++ [tupL q]) ++ rest))) D (pm2 _ _ _ _ _ _ _) (f2n (wf w b c) L o to k tk x1 x2 dx2 n2 t52 q.a a1 (l2'.map (·.a)) h2 H T) AB.hh hA (okIL _ fun nn tt om xi => oneIns (pop_ok w b c _ _ _ _ _ _ (by rw [List.length_map]; exact hl2') _ _ _).ab nilIns) ?_
    intro nn tt om xi h' tk' D'
    exact h (ov H 5 (hs (wf w b c).params "two")) (ov T 5 (tt 1)) q.a q.t0 q.t1 [q.c] (n2 + 1) l2' h' tk' (by omega) (.inl ⟨q.c,rfl,by rw [e1]; simp⟩) (D'.perm (pm2a _ _ _ _ _ _ _ _ _ _))
theorem pm3 {α : Type} (f p q x d y e i : α) (B : List α) : ([f,i,p,q,x,d,y,e] ++ B).Perm ([f,i] ++ ([p,q,x,d,y,e] ++ B)) := List.Perm.refl _
theorem fit_ok (w : World) (b c : Bool) (o : List Nat) (to k tk : Nat) (hk : k ≤ 9) (hl : o.length ≤ 9) (h128 : ∀ x ∈ o,x < 128) : IOk theP (wf w b c) (MyK (wf w b c).params) (AB 790 6000) (fitI o to k tk) := by
  intro A s R hA hK hn hd ho hlo hR
  have D := Rp.start _ hK hn hd ho hlo
  refine x_call ?_ (by intro z; cases z)
  refine enterFn 199 60 _ [.str ⟨⟨o⟩⟩ to,.int (Int.ofNat k) tk] [("order",.str ⟨⟨o⟩⟩ to),("count",.int (Int.ofNat k) tk)] _ (fn199 _) (by kernel_rfl) hA.1 (limit_ok (Nat.le_trans hA.2.1 (by decide))) D (fun nn tt om xi ps => n199 (wf w b c) o to k tk nn tt om xi ps) ?_
  intro L T h1 k1 D1
  have hA' : AB 791 6003 ((A.mark none).deeper (envAt (wf w b c).params 199 L)) := AB.deep hA
  have hA2 : AB 839 6900 ((A.mark none).deeper (envAt (wf w b c).params 199 L)) := hA'.mono (by decide) (by decide)
  refine ks_codeAny_funcAt (wpAt_of_wpAny ?_)
  rw [body199]
  refine wpAny_execs_cons ?_
  refine fragQ [] D1 (List.Perm.refl _) (f0 w L o to k tk _ _ b c) AB.hh hA' (okIL _ fun nn tt om xi => oneIns (pil_ok w b c k tk hk).ab nilIns) ?_
  intro nn tt om xi h2 k2 D2
  clear D1
  rw [ledCat_eq,List.append_nil] at D2
  refine wpAny_execs_cons ?_
  generalize hω : om 0 = ω at D2
  have eT : List.tail (pilNew (wf w b c) k ω) = [(ω 1,accR (ω 3) ((ltOf ω 9 (abc.take k)).map (·.a)) (ω 5)),(ω 3,dicO (hs (wf w b c).params "_initial_size") (ω 6)),(ω 2,accR (ω 4) ((ltOf ω (9 + 3 * k) (abc.drop k).reverse).map (·.a)) (ω 7)),(ω 4,dicO (hs (wf w b c).params "_initial_size") (ω 8))] ++ (tups (ltOf ω 9 (abc.take k)) ++ (tups (ltOf ω (9 + 3 * k) (abc.drop k).reverse) ++ [])) := by rw [List.append_nil]; rfl
  rw [eT,List.append_nil] at D2
  have e1 := congrArg List.length (ltOf_c ω (abc.take k) 9)
  have e2 := congrArg List.length (ltOf_c ω (abc.drop k).reverse (9 + 3 * k))
  rw [List.length_map] at e1 e2
  have h9 : abc.length = 9 := rfl
  rw [List.length_take] at e1
  rw [List.length_reverse,List.length_drop] at e2
  refine fpop1 w b c hA2 L to (ω 1) (ω 3) (ω 6) (ω 2) (ω 4) (ω 8) k tk (ω 5) (ω 7) _ _ o (ltOf ω 9 (abc.take k)) (ltOf ω (9 + 3 * k) (abc.drop k).reverse) (by omega) (fun i => match i with | 0 => hs (wf w b c).params "order" | 1 => hs (wf w b c).params "count" | 2 => hs (wf w b c).params "dealt" | _ => hs (wf w b c).params "others") (fun i => match i with | 0 => T 0 | 1 => T 0 + 1 | 2 => tt 1 | _ => tt 1 + 1) [] D2 ?_
  clear D2
  intro H3 T3 a1 t01 t11 s1 n1 l1 h3 k3 hl1 ho1 D3
  refine wpAny_execs_cons ?_
  refine fpop2 w b c hA2 L to _ _ _ _ _ _ k tk n1 (ω 7) a1 t01 t11 s1 _ _ o l1 _ (by omega) H3 T3 [] D3 ?_
  clear D3
  intro H4 T4 a2 t02 t12 s2 n2 l2 h4 k4 hl2 ho2 D4
  refine wpAny_execs_cons (forStmt (for199 _) ?_)
  refine fragQ ([(a1,tupS s1 t01 t11),(a2,tupS s2 t02 t12),(ω 1,accR (ω 3) (l1.map (·.a)) n1),(ω 3,dicO (hs (wf w b c).params "_initial_size") (ω 6)),(ω 2,accR (ω 4) (l2.map (·.a)) n2),(ω 4,dicO (hs (wf w b c).params "_initial_size") (ω 8))] ++ (tups l1 ++ (tups l2 ++ []))) D4 (List.Perm.refl _) (f3 w L o to k tk (ω 1) (ω 2) 0 0 0 a1 a2 [] 0 H4 T4 b c) AB.hh hA' (okIL _ fun nn tt om xi => oneIns (siter_ok AB.hh h128) nilIns) ?_
  intro nn5 tt5 om5 xi5 h5 k5 D5
  clear D4
  refine loopF w b c hA2 L (om5 0 0) to (ω 1) (ω 3) (ω 6) (ω 2) (ω 4) (ω 8) k tk _ _ o hl [] o.length 0 n1 n2 l1 l2 s1 s2 _ _ a1 a2 t01 t11 t02 t12 _ _ (Nat.zero_add _) hl1 hl2 ho1 ho2 (.inl ⟨H4,T4,rfl⟩) D5 ?_
  intro h6 k6 D6
  rw [ltOf_c,ltOf_c,List.reverse_reverse,List.drop_zero]
  have z := fun h7 k7 (D7 : Rp (MyK (wf w b c).params) s.heap (adrs (fitI o to k tk).need) h7 []) => hR (fun _ => 0) (fun _ => #[]) h7 k7 rfl (Eff.ofApp (l := []) (os := []) (nw := []) D7 rfl)
  have ez : (fitI o to k tk).res (fun _ => 0) (fun _ => #[]) = .ok (.ret (.bool (fitG o (abc.take k).reverse (abc.drop k)))) := rfl
  rw [ez] at z
  cases q : fitG o (abc.take k).reverse (abc.drop k) with
  | false =>
    rw [q] at z
    exact wpAny_pure (z h6 k6 D6)
  | true =>
    rw [q] at z
    refine wpAny_execs_cons ?_
    refine fragQ [] D6 (List.Perm.refl _) (f4 (wf w b c) L) AB.hh hA' noIns ?_
    intro _ _ _ _ h7 k7 D7
    exact wpAny_pure (z h7 k7 D7)
noncomputable abbrev litO (ls i : Nat) : Obj := ⟨.type "list_iterator",none,.fields #[.ref ls,.int (Int.ofNat i) 0],#[]⟩
theorem ln0 (w:World) (ls it n:Nat) (v0:Value) (r:List Value) (nn tt om xi ps):Ends (go w 40 (Sem.call (.call (.builtin "list_iterator.__next__") ⟨[.ref it],[]⟩) none false [] Sem.pure) [0,2,2,2,1,2,2] ([(ls,lstO (v0 :: r) n),(it,litO ls 0)]) .nil nn tt om xi ps) ([0,1]) (.ok (.ok (.ret v0))) ([(ls,lstO (v0 :: r) n),(it,litO ls 1)]) := by trivial
theorem ln1 (w:World) (ls it n:Nat) (v0 v1:Value) (r:List Value) (nn tt om xi ps):Ends (go w 40 (Sem.call (.call (.builtin "list_iterator.__next__") ⟨[.ref it],[]⟩) none false [] Sem.pure) [0,2,2,2,1,2,2] ([(ls,lstO (v0 :: v1 :: r) n),(it,litO ls 1)]) .nil nn tt om xi ps) ([0,1]) (.ok (.ok (.ret v1))) ([(ls,lstO (v0 :: v1 :: r) n),(it,litO ls 2)]) := by trivial
theorem ln2 (w:World) (ls it n:Nat) (v0 v1 v2:Value) (r:List Value) (nn tt om xi ps):Ends (go w 40 (Sem.call (.call (.builtin "list_iterator.__next__") ⟨[.ref it],[]⟩) none false [] Sem.pure) [0,2,2,2,1,2,2] ([(ls,lstO (v0 :: v1 :: v2 :: r) n),(it,litO ls 2)]) .nil nn tt om xi ps) ([0,1]) (.ok (.ok (.ret v2))) ([(ls,lstO (v0 :: v1 :: v2 :: r) n),(it,litO ls 3)]) := by trivial
theorem ln3 (w:World) (ls it n:Nat) (v0 v1 v2 v3:Value) (r:List Value) (nn tt om xi ps):Ends (go w 40 (Sem.call (.call (.builtin "list_iterator.__next__") ⟨[.ref it],[]⟩) none false [] Sem.pure) [0,2,2,2,1,2,2] ([(ls,lstO (v0 :: v1 :: v2 :: v3 :: r) n),(it,litO ls 3)]) .nil nn tt om xi ps) ([0,1]) (.ok (.ok (.ret v3))) ([(ls,lstO (v0 :: v1 :: v2 :: v3 :: r) n),(it,litO ls 4)]) := by trivial
theorem ln4 (w:World) (ls it n:Nat) (v0 v1 v2 v3 v4:Value) (r:List Value) (nn tt om xi ps):Ends (go w 40 (Sem.call (.call (.builtin "list_iterator.__next__") ⟨[.ref it],[]⟩) none false [] Sem.pure) [0,2,2,2,1,2,2] ([(ls,lstO (v0 :: v1 :: v2 :: v3 :: v4 :: r) n),(it,litO ls 4)]) .nil nn tt om xi ps) ([0,1]) (.ok (.ok (.ret v4))) ([(ls,lstO (v0 :: v1 :: v2 :: v3 :: v4 :: r) n),(it,litO ls 5)]) := by trivial
theorem ln5 (w:World) (ls it n:Nat) (v0 v1 v2 v3 v4 v5:Value) (r:List Value) (nn tt om xi ps):Ends (go w 40 (Sem.call (.call (.builtin "list_iterator.__next__") ⟨[.ref it],[]⟩) none false [] Sem.pure) [0,2,2,2,1,2,2] ([(ls,lstO (v0 :: v1 :: v2 :: v3 :: v4 :: v5 :: r) n),(it,litO ls 5)]) .nil nn tt om xi ps) ([0,1]) (.ok (.ok (.ret v5))) ([(ls,lstO (v0 :: v1 :: v2 :: v3 :: v4 :: v5 :: r) n),(it,litO ls 6)]) := by trivial
theorem ln6 (w:World) (ls it n:Nat) (v0 v1 v2 v3 v4 v5 v6:Value) (r:List Value) (nn tt om xi ps):Ends (go w 40 (Sem.call (.call (.builtin "list_iterator.__next__") ⟨[.ref it],[]⟩) none false [] Sem.pure) [0,2,2,2,1,2,2] ([(ls,lstO (v0 :: v1 :: v2 :: v3 :: v4 :: v5 :: v6 :: r) n),(it,litO ls 6)]) .nil nn tt om xi ps) ([0,1]) (.ok (.ok (.ret v6))) ([(ls,lstO (v0 :: v1 :: v2 :: v3 :: v4 :: v5 :: v6 :: r) n),(it,litO ls 7)]) := by trivial
theorem ln7 (w:World) (ls it n:Nat) (v0 v1 v2 v3 v4 v5 v6 v7:Value) (r:List Value) (nn tt om xi ps):Ends (go w 40 (Sem.call (.call (.builtin "list_iterator.__next__") ⟨[.ref it],[]⟩) none false [] Sem.pure) [0,2,2,2,1,2,2] ([(ls,lstO (v0 :: v1 :: v2 :: v3 :: v4 :: v5 :: v6 :: v7 :: r) n),(it,litO ls 7)]) .nil nn tt om xi ps) ([0,1]) (.ok (.ok (.ret v7))) ([(ls,lstO (v0 :: v1 :: v2 :: v3 :: v4 :: v5 :: v6 :: v7 :: r) n),(it,litO ls 8)]) := by trivial
theorem ln8 (w:World) (ls it n:Nat) (v0 v1 v2 v3 v4 v5 v6 v7 v8:Value) (r:List Value) (nn tt om xi ps):Ends (go w 40 (Sem.call (.call (.builtin "list_iterator.__next__") ⟨[.ref it],[]⟩) none false [] Sem.pure) [0,2,2,2,1,2,2] ([(ls,lstO (v0 :: v1 :: v2 :: v3 :: v4 :: v5 :: v6 :: v7 :: v8 :: r) n),(it,litO ls 8)]) .nil nn tt om xi ps) ([0,1]) (.ok (.ok (.ret v8))) ([(ls,lstO (v0 :: v1 :: v2 :: v3 :: v4 :: v5 :: v6 :: v7 :: v8 :: r) n),(it,litO ls 9)]) := by trivial
theorem le0 (w:World) (ls it n:Nat) (nn tt om xi ps):Ends (go w 40 (Sem.call (.call (.builtin "list_iterator.__next__") ⟨[.ref it],[]⟩) none false [] Sem.pure) [0,2,2,2,1,2,2] ([(ls,lstO ([]) n),(it,litO ls 0)]) .nil nn tt om xi ps) ([0,1,2,3]) (.ok (.error (.ref (nn 0+1)))) ([(ls,lstO ([]) n),(it,⟨.type "list_iterator",none,.fields #[.none,.int 0 0],#[]⟩),(nn 0,tupO []),(nn 0+1,⟨.type "StopIteration",none,.fields #[.ref (nn 0),.none,.none,.none,.bool false,.none],#[]⟩)]) := by trivial
theorem le1 (w:World) (ls it n:Nat) (v0:Value) (nn tt om xi ps):Ends (go w 40 (Sem.call (.call (.builtin "list_iterator.__next__") ⟨[.ref it],[]⟩) none false [] Sem.pure) [0,2,2,2,1,2,2] ([(ls,lstO ([v0]) n),(it,litO ls 1)]) .nil nn tt om xi ps) ([0,1,2,3]) (.ok (.error (.ref (nn 0+1)))) ([(ls,lstO ([v0]) n),(it,⟨.type "list_iterator",none,.fields #[.none,.int 1 0],#[]⟩),(nn 0,tupO []),(nn 0+1,⟨.type "StopIteration",none,.fields #[.ref (nn 0),.none,.none,.none,.bool false,.none],#[]⟩)]) := by trivial
theorem le2 (w:World) (ls it n:Nat) (v0 v1:Value) (nn tt om xi ps):Ends (go w 40 (Sem.call (.call (.builtin "list_iterator.__next__") ⟨[.ref it],[]⟩) none false [] Sem.pure) [0,2,2,2,1,2,2] ([(ls,lstO ([v0,v1]) n),(it,litO ls 2)]) .nil nn tt om xi ps) ([0,1,2,3]) (.ok (.error (.ref (nn 0+1)))) ([(ls,lstO ([v0,v1]) n),(it,⟨.type "list_iterator",none,.fields #[.none,.int 2 0],#[]⟩),(nn 0,tupO []),(nn 0+1,⟨.type "StopIteration",none,.fields #[.ref (nn 0),.none,.none,.none,.bool false,.none],#[]⟩)]) := by trivial
theorem le3 (w:World) (ls it n:Nat) (v0 v1 v2:Value) (nn tt om xi ps):Ends (go w 40 (Sem.call (.call (.builtin "list_iterator.__next__") ⟨[.ref it],[]⟩) none false [] Sem.pure) [0,2,2,2,1,2,2] ([(ls,lstO ([v0,v1,v2]) n),(it,litO ls 3)]) .nil nn tt om xi ps) ([0,1,2,3]) (.ok (.error (.ref (nn 0+1)))) ([(ls,lstO ([v0,v1,v2]) n),(it,⟨.type "list_iterator",none,.fields #[.none,.int 3 0],#[]⟩),(nn 0,tupO []),(nn 0+1,⟨.type "StopIteration",none,.fields #[.ref (nn 0),.none,.none,.none,.bool false,.none],#[]⟩)]) := by trivial
theorem le4 (w:World) (ls it n:Nat) (v0 v1 v2 v3:Value) (nn tt om xi ps):Ends (go w 40 (Sem.call (.call (.builtin "list_iterator.__next__") ⟨[.ref it],[]⟩) none false [] Sem.pure) [0,2,2,2,1,2,2] ([(ls,lstO ([v0,v1,v2,v3]) n),(it,litO ls 4)]) .nil nn tt om xi ps) ([0,1,2,3]) (.ok (.error (.ref (nn 0+1)))) ([(ls,lstO ([v0,v1,v2,v3]) n),(it,⟨.type "list_iterator",none,.fields #[.none,.int 4 0],#[]⟩),(nn 0,tupO []),(nn 0+1,⟨.type "StopIteration",none,.fields #[.ref (nn 0),.none,.none,.none,.bool false,.none],#[]⟩)]) := by trivial
theorem le5 (w:World) (ls it n:Nat) (v0 v1 v2 v3 v4:Value) (nn tt om xi ps):Ends (go w 40 (Sem.call (.call (.builtin "list_iterator.__next__") ⟨[.ref it],[]⟩) none false [] Sem.pure) [0,2,2,2,1,2,2] ([(ls,lstO ([v0,v1,v2,v3,v4]) n),(it,litO ls 5)]) .nil nn tt om xi ps) ([0,1,2,3]) (.ok (.error (.ref (nn 0+1)))) ([(ls,lstO ([v0,v1,v2,v3,v4]) n),(it,⟨.type "list_iterator",none,.fields #[.none,.int 5 0],#[]⟩),(nn 0,tupO []),(nn 0+1,⟨.type "StopIteration",none,.fields #[.ref (nn 0),.none,.none,.none,.bool false,.none],#[]⟩)]) := by trivial
theorem le6 (w:World) (ls it n:Nat) (v0 v1 v2 v3 v4 v5:Value) (nn tt om xi ps):Ends (go w 40 (Sem.call (.call (.builtin "list_iterator.__next__") ⟨[.ref it],[]⟩) none false [] Sem.pure) [0,2,2,2,1,2,2] ([(ls,lstO ([v0,v1,v2,v3,v4,v5]) n),(it,litO ls 6)]) .nil nn tt om xi ps) ([0,1,2,3]) (.ok (.error (.ref (nn 0+1)))) ([(ls,lstO ([v0,v1,v2,v3,v4,v5]) n),(it,⟨.type "list_iterator",none,.fields #[.none,.int 6 0],#[]⟩),(nn 0,tupO []),(nn 0+1,⟨.type "StopIteration",none,.fields #[.ref (nn 0),.none,.none,.none,.bool false,.none],#[]⟩)]) := by trivial
theorem le7 (w:World) (ls it n:Nat) (v0 v1 v2 v3 v4 v5 v6:Value) (nn tt om xi ps):Ends (go w 40 (Sem.call (.call (.builtin "list_iterator.__next__") ⟨[.ref it],[]⟩) none false [] Sem.pure) [0,2,2,2,1,2,2] ([(ls,lstO ([v0,v1,v2,v3,v4,v5,v6]) n),(it,litO ls 7)]) .nil nn tt om xi ps) ([0,1,2,3]) (.ok (.error (.ref (nn 0+1)))) ([(ls,lstO ([v0,v1,v2,v3,v4,v5,v6]) n),(it,⟨.type "list_iterator",none,.fields #[.none,.int 7 0],#[]⟩),(nn 0,tupO []),(nn 0+1,⟨.type "StopIteration",none,.fields #[.ref (nn 0),.none,.none,.none,.bool false,.none],#[]⟩)]) := by trivial
theorem le8 (w:World) (ls it n:Nat) (v0 v1 v2 v3 v4 v5 v6 v7:Value) (nn tt om xi ps):Ends (go w 40 (Sem.call (.call (.builtin "list_iterator.__next__") ⟨[.ref it],[]⟩) none false [] Sem.pure) [0,2,2,2,1,2,2] ([(ls,lstO ([v0,v1,v2,v3,v4,v5,v6,v7]) n),(it,litO ls 8)]) .nil nn tt om xi ps) ([0,1,2,3]) (.ok (.error (.ref (nn 0+1)))) ([(ls,lstO ([v0,v1,v2,v3,v4,v5,v6,v7]) n),(it,⟨.type "list_iterator",none,.fields #[.none,.int 8 0],#[]⟩),(nn 0,tupO []),(nn 0+1,⟨.type "StopIteration",none,.fields #[.ref (nn 0),.none,.none,.none,.bool false,.none],#[]⟩)]) := by trivial
theorem le9 (w:World) (ls it n:Nat) (v0 v1 v2 v3 v4 v5 v6 v7 v8:Value) (nn tt om xi ps):Ends (go w 40 (Sem.call (.call (.builtin "list_iterator.__next__") ⟨[.ref it],[]⟩) none false [] Sem.pure) [0,2,2,2,1,2,2] ([(ls,lstO ([v0,v1,v2,v3,v4,v5,v6,v7,v8]) n),(it,litO ls 9)]) .nil nn tt om xi ps) ([0,1,2,3]) (.ok (.error (.ref (nn 0+1)))) ([(ls,lstO ([v0,v1,v2,v3,v4,v5,v6,v7,v8]) n),(it,⟨.type "list_iterator",none,.fields #[.none,.int 9 0],#[]⟩),(nn 0,tupO []),(nn 0+1,⟨.type "StopIteration",none,.fields #[.ref (nn 0),.none,.none,.none,.bool false,.none],#[]⟩)]) := by trivial
theorem callI_of {M : Model} {A : Around} {f : Value} {args : List Value} {R : Result → Shared → Prop} {E : Value → Shared → Prop} {s : Shared}
    (h : wpAny M A (call f args) (fun v s' => R (.ok (.ret v)) s') (fun e s' => R (.error e) s') s) : wpAny M A (Sem.call (.call f ⟨args,[]⟩) none false [] Sem.pure) R E s := fun Γ p hΓ => by
  have z := h Γ p hΓ
  refine wpCode_mono (fun r s' q => ?_) z
  cases r with
  | error e => exact q
  | ok fl => cases fl <;> first | exact q | exact q.elim
noncomputable def lnextI (jl jt ls it : Nat) (vs : List Value) (n i : Nat) (v : Value) : Inst := ⟨.call (.builtin "list_iterator.__next__") ⟨[.ref it],[]⟩,[(jl,ls,lstO vs n),(jt,it,litO ls i)],fun ω _ => .ok (.ret v),fun _ _ => [lstO vs n,litO ls (i + 1)],fun _ _ => []⟩
noncomputable def lendI (jl jt ls it : Nat) (vs : List Value) (n i : Nat) : Inst := ⟨.call (.builtin "list_iterator.__next__") ⟨[.ref it],[]⟩,[(jl,ls,lstO vs n),(jt,it,litO ls i)],fun ω _ => .error (.ref (ω 1)),fun _ _ => [lstO vs n,⟨.type "list_iterator",none,.fields #[.none,.int (Int.ofNat i) 0],#[]⟩],fun ω _ => [(ω 0,tupO []),(ω 1,⟨.type "StopIteration",none,.fields #[.ref (ω 0),.none,.none,.none,.bool false,.none],#[]⟩)]⟩
noncomputable def iv : List Int → (Nat → Nat) → List Value
  | [],_ => []
  | n :: ns,t => .int n (t 0) :: iv ns (fun i => t (i + 1))
theorem iv_length : ∀ (ns : List Int) (t : Nat → Nat),(iv ns t).length = ns.length
  | [],_ => rfl
  | _ :: ns,t => by show (iv ns _).length + 1 = _; rw [iv_length ns]; rfl
theorem iv_are : ∀ (ns : List Int) (t : Nat → Nat),IntsAre (iv ns t) ns
  | [],_ => .nil
  | _ :: ns,t => .cons _ _ (iv_are ns _)
theorem are_iv {vs : List Value} {ns : List Int} (h : IntsAre vs ns) : ∃ t,vs = iv ns t := by
  induction h with
  | nil => exact ⟨fun _ => 0,rfl⟩
  | cons n tk _ ih =>
    obtain ⟨t,e⟩ := ih
    exact ⟨fun i => match i with | 0 => tk | i + 1 => t i,by rw [e]; rfl⟩
noncomputable def sortI (jl l : Nat) (vs : List Value) (n : Nat) (ns : List Int) : Inst := ⟨.call (.builtin "sorted") ⟨[.ref l],[]⟩,[(jl,l,lstO vs n)],fun ω _ => .ok (.ret (.ref (ω 0))),fun _ _ => [lstO vs n],fun ω _ => [(ω 0,lstO (iv ns fun i => ω (i + 2)) (ω 1))]⟩
theorem sort_ok {w : World} {C : Around → Prop} {jl l : Nat} {vs : List Value} {n : Nat} {ms ns : List Int} (hv : IntsAre vs ms) (h64 : vs.length < 64) (hp : ns.Perm ms) (hs : ns.Pairwise (· ≤ ·)) : IOk theP w (MyK w.params) C (sortI jl l vs n ns) := by
  intro A s R hA hK hn hd ho hlo hR
  have h0 : s.heap.get? l = some (lstO vs n) := hn _ (.head _)
  refine callI_of (sorted_ints (vs := vs) (ns := ms) ⟨_,h0,rfl,n,rfl⟩ hv h64 fun out ns' a1 a2 a3 => ?_)
  obtain ⟨e,he⟩ := sortedAll_at s.heap vs out
  have eq : ns' = ns := List.Perm.eq_of_pairwise (le := fun a b => decide (a ≤ b)) (by intro a b _ _ h1 h2; exact Int.le_antisymm (of_decide_eq_true h1) (of_decide_eq_true h2)) (a3.imp fun h => decide_eq_true h) (hs.imp fun h => decide_eq_true h) (a2.trans hp.symm)
  subst eq
  obtain ⟨t,et⟩ := are_iv a1
  have hsz : 219 ≤ s.heap.objs.size := bigK w s.heap hK
  refine hR (fun i => match i with | 0 => s.heap.objs.size + 1 | 1 => e | i + 2 => t i) (fun _ => #[]) _ s.toks rfl ⟨fun p hp => ?_,fun p hp => ?_,by simp [sortI],fun b o hb _ => sortedAll_old hb⟩
  · rw [List.mem_singleton.mp hp]
    exact sortedAll_old h0
  · rw [List.mem_singleton.mp hp]
    refine ⟨?_,Heap.get?_none_of_le (Nat.le_succ _),Nat.le_succ_of_le hsz⟩
    show (sortedAll s.heap vs out).get? (s.heap.objs.size + 1) = some (lstO (iv ns' t) e)
    rw [he,← et]
noncomputable def mmI (nm : String) (jl l : Nat) (vs : List Value) (n : Nat) (m : Int) : Inst := ⟨.call (.builtin nm) ⟨[.ref l],[]⟩,[(jl,l,lstO vs n)],fun ω _ => .ok (.ret (.int m (ω 0))),fun _ _ => [lstO vs n],fun _ _ => []⟩
theorem min_ok {w : World} {C : Around → Prop} (hh : ∀ A,C A → A.handled = none) {jl l : Nat} {vs : List Value} {n : Nat} {ns : List Int} {m : Int} (hi : IntsAre vs ns) (hm : m ∈ ns) (hs : ∀ a ∈ ns,m ≤ a) : IOk theP w (MyK w.params) C (mmI "min" jl l vs n m) := by
  intro A s R hA hK hn hd ho hlo hR
  have h0 : s.heap.get? l = some (lstO vs n) := hn _ (.head _)
  refine callI_of ?_
  obtain ⟨xs,e⟩ := hi.allInts.items
  have hns : ns = xs.toList.map (·.1) := by
    rw [← hi.numsOf,← nums_intItems,← e]
  have hsz : 0 < xs.size := by
    have h3 := List.length_pos_of_mem hm; rw [hns,List.length_map,Array.length_toList] at h3; exact h3
  have hl : s.heap.IsList l (intItems xs) := by rw [← e]; exact ⟨_,h0,rfl,n,rfl⟩
  refine min_intList (hh A hA) hl hsz fun v h' tk hv hk => ?_
  obtain ⟨t,rfl⟩ := intItems_at hv
  obtain ⟨h1,h2⟩ := argBest_lt (numAt xs) (xs.size - 1)
  have em : numAt xs (argBest (fun i j => decide (numAt xs i < numAt xs j)) (xs.size - 1)) = m := by
    refine Int.le_antisymm ?_ (hs _ ?_)
    · rw [hns] at hm
      obtain ⟨j,hj,rfl⟩ := mem_getD hm
      rw [List.length_map,Array.length_toList] at hj
      rw [← numAt_eq]; exact h2 j (by omega)
    · rw [hns,numAt_eq]; exact getD_mem (by rw [List.length_map,Array.length_toList]; omega)
  rw [em]
  refine hR (fun _ => t) (fun _ => #[]) h' tk rfl ⟨fun p hp => ?_,fun p hp => (nomatch hp),List.nodup_nil,fun b o hb _ => hk b o hb⟩
  rw [List.mem_singleton.mp hp]
  exact hk _ _ h0
theorem max_ok {w : World} {C : Around → Prop} (hh : ∀ A,C A → A.handled = none) {jl l : Nat} {vs : List Value} {n : Nat} {ns : List Int} {m : Int} (hi : IntsAre vs ns) (hm : m ∈ ns) (hs : ∀ a ∈ ns,a ≤ m) : IOk theP w (MyK w.params) C (mmI "max" jl l vs n m) := by
  intro A s R hA hK hn hd ho hlo hR
  have h0 : s.heap.get? l = some (lstO vs n) := hn _ (.head _)
  refine callI_of ?_
  obtain ⟨xs,e⟩ := hi.allInts.items
  have hns : ns = xs.toList.map (·.1) := by
    rw [← hi.numsOf,← nums_intItems,← e]
  have hsz : 0 < xs.size := by
    have h3 := List.length_pos_of_mem hm; rw [hns,List.length_map,Array.length_toList] at h3; exact h3
  have hl : s.heap.IsList l (intItems xs) := by rw [← e]; exact ⟨_,h0,rfl,n,rfl⟩
  refine max_intList (hh A hA) hl hsz fun v h' tk hv hk => ?_
  obtain ⟨t,rfl⟩ := intItems_at hv
  obtain ⟨h1,h2⟩ := argBest_gt (numAt xs) (xs.size - 1)
  have em : numAt xs (argBest (fun i j => decide (numAt xs i > numAt xs j)) (xs.size - 1)) = m := by
    refine Int.le_antisymm (hs _ ?_) ?_
    · rw [hns,numAt_eq]; exact getD_mem (by rw [List.length_map,Array.length_toList]; omega)
    · rw [hns] at hm
      obtain ⟨j,hj,rfl⟩ := mem_getD hm
      rw [List.length_map,Array.length_toList] at hj
      rw [← numAt_eq]; exact h2 j (by omega)
  rw [em]
  refine hR (fun _ => t) (fun _ => #[]) h' tk rfl ⟨fun p hp => ?_,fun p hp => (nomatch hp),List.nodup_nil,fun b o hb _ => hk b o hb⟩
  rw [List.mem_singleton.mp hp]
  exact hk _ _ h0
theorem saddG_ok {w : World} {C : Around → Prop} {a b : List Nat} {t u : Nat} (h : a.length + b.length ≤ 100) : IOk theP w (MyK w.params) C (bI "str.__add__" [.str ⟨⟨a⟩⟩ t,.str ⟨⟨b⟩⟩ u] (strR ⟨⟨a ++ b⟩⟩)) := by
  intro A s R hA hK hn hd ho hlo hR
  refine callI_of (call_str_add (fun t' tk => ?_) ?_)
  · have e : (⟨⟨a⟩⟩ : Str) ++ ⟨⟨b⟩⟩ = ⟨⟨a ++ b⟩⟩ := by
      show Str.mk (_ ++ _) = _
      simp
    rw [e]
    exact hR (fun _ => t') (fun _ => #[]) s.heap tk rfl ⟨fun p hp => (nomatch hp),fun p hp => (nomatch hp),List.nodup_nil,fun b o hb _ => hb⟩
  · show a.length + b.length ≤ sizeLine
    rw [sizeLine_eq]; omega
noncomputable def sort2I (jl l : Nat) (a : Int) (ta : Nat) (b : Int) (tb : Nat) (lo hi : Int) : Inst := ⟨.call (.builtin "sorted") ⟨[.ref l],[]⟩,[(jl,l,lstO [.int a ta,.int b tb] 0)],fun ω _ => .ok (.ret (.ref (ω 0))),fun _ _ => [lstO [.int a ta,.int b tb] 0],fun ω _ => [(ω 0,lstO [.int lo (ω 1),.int hi (ω 2)] (ω 3))]⟩
theorem IOk.conv {w : World} {C : Around → Prop} {I J : Inst} (h : IOk theP w (MyK w.params) C I) (hc : J.code = I.code) (hn : J.need = I.need) (hr : ∀ ω ξ,∃ ω',J.res ω' ξ = I.res ω ξ ∧ J.upd ω' ξ = I.upd ω ξ ∧ J.new ω' ξ = I.new ω ξ) : IOk theP w (MyK w.params) C J := by
  intro A s R hA hK h1 h2 h3 h4 hR
  rw [hn] at h1 h2 h3 h4
  rw [hc]
  refine h A s R hA hK h1 h2 h3 h4 fun ω ξ h' tk' a b => ?_
  obtain ⟨ω',e1,e2,e3⟩ := hr ω ξ
  rw [← e1]
  refine hR ω' ξ h' tk' (by rw [e2,hn]; exact a) ?_
  rw [e2,e3,hn]; exact b
theorem sort2_ok {w : World} {C : Around → Prop} {jl l : Nat} {a b lo hi : Int} {ta tb : Nat} (hp : [lo,hi].Perm [a,b]) (hs : lo ≤ hi) : IOk theP w (MyK w.params) C (sort2I jl l a ta b tb lo hi) :=
  (sort_ok (jl := jl) (l := l) (vs := [.int a ta,.int b tb]) (n := 0) (ms := [a,b]) (ns := [lo,hi]) (.cons _ _ (.cons _ _ .nil)) (by show 2 < 64; decide) hp (by simp [hs])).conv rfl rfl fun ω ξ => ⟨fun i => match i with | 0 => ω 0 | 1 => ω 2 | 2 => ω 3 | _ => ω 1,rfl,rfl,rfl⟩
section
variable {w : World} {C : Around → Prop} (hh : ∀ A,C A → A.handled = none)
include hh
theorem lnext_ok {jl jt ls it : Nat} {vs : List Value} {n i : Nat} {v : Value} (h : vs[i]? = some v) (hi : i ≤ 8) : IOk theP w (MyK w.params) C (lnextI jl jt ls it vs n i v) := by
  rcases i with _ | _ | _ | _ | _ | _ | _ | _ | _ | i
  · obtain _ | ⟨v0,r⟩ := vs
    iterate 1 cases h
    cases h
    exact segI (I := lnextI jl jt ls it (v :: r) n 0 v) (ln0 w ls it n  v r) hh noIns fun nn tt om xi => ⟨tt,fun _ => #[],rfl,rfl,rfl⟩
  · obtain _ | ⟨v0,_ | ⟨v1,r⟩⟩ := vs
    iterate 2 cases h
    cases h
    exact segI (I := lnextI jl jt ls it (v0 :: v :: r) n 1 v) (ln1 w ls it n v0 v r) hh noIns fun nn tt om xi => ⟨tt,fun _ => #[],rfl,rfl,rfl⟩
  · obtain _ | ⟨v0,_ | ⟨v1,_ | ⟨v2,r⟩⟩⟩ := vs
    iterate 3 cases h
    cases h
    exact segI (I := lnextI jl jt ls it (v0 :: v1 :: v :: r) n 2 v) (ln2 w ls it n v0 v1 v r) hh noIns fun nn tt om xi => ⟨tt,fun _ => #[],rfl,rfl,rfl⟩
  · obtain _ | ⟨v0,_ | ⟨v1,_ | ⟨v2,_ | ⟨v3,r⟩⟩⟩⟩ := vs
    iterate 4 cases h
    cases h
    exact segI (I := lnextI jl jt ls it (v0 :: v1 :: v2 :: v :: r) n 3 v) (ln3 w ls it n v0 v1 v2 v r) hh noIns fun nn tt om xi => ⟨tt,fun _ => #[],rfl,rfl,rfl⟩
  · obtain _ | ⟨v0,_ | ⟨v1,_ | ⟨v2,_ | ⟨v3,_ | ⟨v4,r⟩⟩⟩⟩⟩ := vs
    iterate 5 cases h
    cases h
    exact segI (I := lnextI jl jt ls it (v0 :: v1 :: v2 :: v3 :: v :: r) n 4 v) (ln4 w ls it n v0 v1 v2 v3 v r) hh noIns fun nn tt om xi => ⟨tt,fun _ => #[],rfl,rfl,rfl⟩
  · obtain _ | ⟨v0,_ | ⟨v1,_ | ⟨v2,_ | ⟨v3,_ | ⟨v4,_ | ⟨v5,r⟩⟩⟩⟩⟩⟩ := vs
    iterate 6 cases h
    cases h
    exact segI (I := lnextI jl jt ls it (v0 :: v1 :: v2 :: v3 :: v4 :: v :: r) n 5 v) (ln5 w ls it n v0 v1 v2 v3 v4 v r) hh noIns fun nn tt om xi => ⟨tt,fun _ => #[],rfl,rfl,rfl⟩
  · obtain _ | ⟨v0,_ | ⟨v1,_ | ⟨v2,_ | ⟨v3,_ | ⟨v4,_ | ⟨v5,_ | ⟨v6,r⟩⟩⟩⟩⟩⟩⟩ := vs
    iterate 7 cases h
    cases h
    exact segI (I := lnextI jl jt ls it (v0 :: v1 :: v2 :: v3 :: v4 :: v5 :: v :: r) n 6 v) (ln6 w ls it n v0 v1 v2 v3 v4 v5 v r) hh noIns fun nn tt om xi => ⟨tt,fun _ => #[],rfl,rfl,rfl⟩
  · obtain _ | ⟨v0,_ | ⟨v1,_ | ⟨v2,_ | ⟨v3,_ | ⟨v4,_ | ⟨v5,_ | ⟨v6,_ | ⟨v7,r⟩⟩⟩⟩⟩⟩⟩⟩ := vs
    iterate 8 cases h
    cases h
    exact segI (I := lnextI jl jt ls it (v0 :: v1 :: v2 :: v3 :: v4 :: v5 :: v6 :: v :: r) n 7 v) (ln7 w ls it n v0 v1 v2 v3 v4 v5 v6 v r) hh noIns fun nn tt om xi => ⟨tt,fun _ => #[],rfl,rfl,rfl⟩
  · obtain _ | ⟨v0,_ | ⟨v1,_ | ⟨v2,_ | ⟨v3,_ | ⟨v4,_ | ⟨v5,_ | ⟨v6,_ | ⟨v7,_ | ⟨v8,r⟩⟩⟩⟩⟩⟩⟩⟩⟩ := vs
    iterate 9 cases h
    cases h
    exact segI (I := lnextI jl jt ls it (v0 :: v1 :: v2 :: v3 :: v4 :: v5 :: v6 :: v7 :: v :: r) n 8 v) (ln8 w ls it n v0 v1 v2 v3 v4 v5 v6 v7 v r) hh noIns fun nn tt om xi => ⟨tt,fun _ => #[],rfl,rfl,rfl⟩
  · omega
theorem lend_ok {jl jt ls it : Nat} {vs : List Value} {n i : Nat} (hs : vs.length = i) (hi : i ≤ 9) : IOk theP w (MyK w.params) C (lendI jl jt ls it vs n i) := by
  subst hs
  rcases vs with _ | ⟨v0,_ | ⟨v1,_ | ⟨v2,_ | ⟨v3,_ | ⟨v4,_ | ⟨v5,_ | ⟨v6,_ | ⟨v7,_ | ⟨v8,_ | ⟨v9,l⟩⟩⟩⟩⟩⟩⟩⟩⟩⟩
  · exact segI (I := lendI jl jt ls it [] n 0) (le0 w ls it n ) hh noIns fun nn tt om xi => ⟨fun i => match i with | 0 => nn 0 | _ => nn 0 + 1,fun _ => #[],rfl,rfl,rfl⟩
  · exact segI (I := lendI jl jt ls it [v0] n 1) (le1 w ls it n v0) hh noIns fun nn tt om xi => ⟨fun i => match i with | 0 => nn 0 | _ => nn 0 + 1,fun _ => #[],rfl,rfl,rfl⟩
  · exact segI (I := lendI jl jt ls it [v0,v1] n 2) (le2 w ls it n v0 v1) hh noIns fun nn tt om xi => ⟨fun i => match i with | 0 => nn 0 | _ => nn 0 + 1,fun _ => #[],rfl,rfl,rfl⟩
  · exact segI (I := lendI jl jt ls it [v0,v1,v2] n 3) (le3 w ls it n v0 v1 v2) hh noIns fun nn tt om xi => ⟨fun i => match i with | 0 => nn 0 | _ => nn 0 + 1,fun _ => #[],rfl,rfl,rfl⟩
  · exact segI (I := lendI jl jt ls it [v0,v1,v2,v3] n 4) (le4 w ls it n v0 v1 v2 v3) hh noIns fun nn tt om xi => ⟨fun i => match i with | 0 => nn 0 | _ => nn 0 + 1,fun _ => #[],rfl,rfl,rfl⟩
  · exact segI (I := lendI jl jt ls it [v0,v1,v2,v3,v4] n 5) (le5 w ls it n v0 v1 v2 v3 v4) hh noIns fun nn tt om xi => ⟨fun i => match i with | 0 => nn 0 | _ => nn 0 + 1,fun _ => #[],rfl,rfl,rfl⟩
  · exact segI (I := lendI jl jt ls it [v0,v1,v2,v3,v4,v5] n 6) (le6 w ls it n v0 v1 v2 v3 v4 v5) hh noIns fun nn tt om xi => ⟨fun i => match i with | 0 => nn 0 | _ => nn 0 + 1,fun _ => #[],rfl,rfl,rfl⟩
  · exact segI (I := lendI jl jt ls it [v0,v1,v2,v3,v4,v5,v6] n 7) (le7 w ls it n v0 v1 v2 v3 v4 v5 v6) hh noIns fun nn tt om xi => ⟨fun i => match i with | 0 => nn 0 | _ => nn 0 + 1,fun _ => #[],rfl,rfl,rfl⟩
  · exact segI (I := lendI jl jt ls it [v0,v1,v2,v3,v4,v5,v6,v7] n 8) (le8 w ls it n v0 v1 v2 v3 v4 v5 v6 v7) hh noIns fun nn tt om xi => ⟨fun i => match i with | 0 => nn 0 | _ => nn 0 + 1,fun _ => #[],rfl,rfl,rfl⟩
  · exact segI (I := lendI jl jt ls it [v0,v1,v2,v3,v4,v5,v6,v7,v8] n 9) (le9 w ls it n v0 v1 v2 v3 v4 v5 v6 v7 v8) hh noIns fun nn tt om xi => ⟨fun i => match i with | 0 => nn 0 | _ => nn 0 + 1,fun _ => #[],rfl,rfl,rfl⟩
  · simp only [List.length_cons] at hi; omega
end
noncomputable abbrev cf2 (H : Nat → Int) (T : Nat → Nat) (o : List Nat) (to ls : Nat) : Obj := frO [fe H T 0 "order" (.str ⟨⟨o⟩⟩ to),fe H T 1 "swaps" (.ref ls)] 2 #[]
noncomputable abbrev cf5 (H : Nat → Int) (T : Nat → Nat) (o : List Nat) (to ls : Nat) (v1 v2 v3 : Value) : Obj := frO [fe H T 0 "order" (.str ⟨⟨o⟩⟩ to),fe H T 1 "swaps" (.ref ls),fe H T 2 "swap" v1,fe H T 3 "one" v2,fe H T 4 "two" v3] 5 #[]
theorem n211 (w:World) (o:List Nat) (to ls:Nat) (nn tt om xi ps):Ends (go w 60 (nfe w.params 211 [("order",.str ⟨⟨o⟩⟩ to),("swaps",.ref ls)]) [1,1,1,1] ([]) .nil nn tt om xi ps) ([0]) (.ok (envAt w.params 211 (nn 0))) ([(nn 0,cf2 (fun i=>match i with | 0=>hs w.params "order" | _=>hs w.params "swaps") (fun i=>match i with | 0=>tt 0 | _=>tt 0+1) o to ls)]) := by trivial
theorem c0 (w:World) (L to ls n:Nat) (o:List Nat) (vs:List Value) (H:NI) (T:NN) (b c:Bool) (nn tt om xi ps):Ends (go (wf w b c) 60 (itT (nthS (wf w b c).params 211 0) (envAt (wf w b c).params 211 L)) [1,2,2,0,2,3] ([(L,cf2 H T o to ls),(ls,lstO vs n)]) .nil nn tt om xi ps) ([0,1,2]) (.ok (.ref (nn 0))) ([(L,cf2 H T o to ls),(ls,lstO vs n),(nn 0,litO ls 0)]) := by cases b <;> trivial
theorem c1a (w:World) (L to ls:Nat) (o:List Nat) (H:NI) (T:NN) (nn tt om xi ps):Ends (go w 60 (exec (nthS w.params 211 1) (envAt w.params 211 L)) [1] ([(L,cf2 H T o to ls)]) .nil nn tt om xi ps) ([]) (.ok (.ret (.str ⟨⟨o⟩⟩ to))) ([]) := by trivial
theorem c1b (w:World) (L to ls:Nat) (o:List Nat) (v1 v2 v3:Value) (H:NI) (T:NN) (nn tt om xi ps):Ends (go w 60 (exec (nthS w.params 211 1) (envAt w.params 211 L)) [1] ([(L,cf5 H T o to ls v1 v2 v3)]) .nil nn tt om xi ps) ([]) (.ok (.ret (.str ⟨⟨o⟩⟩ to))) ([]) := by trivial
theorem ctAa (w:World) (L to ls n it i sv st:Nat) (o:List Nat) (vs:List Value) (v1 v2 v3:Value) (a9 b9 lo hi:Nat) (r1 r2 r3:List Nat) (d1 d2:Nat) (H:NI) (T:NN) (b c:Bool) (nn tt om xi ps):Ends (go (wf w b c) 600 (den (loopC (nthS (wf w b c).params 211 0) (.ref it) (envAt (wf w b c).params 211 L))) [3,1,1,1,0,0,1,1,1,1,1,5,5,5,0,5,6,6,0,6,6,6,5,6,6,6,0,6,6,6,5,6,6,6,0,6,6,6,5,6,6,8,1,1,1,1,1,1,1,1,1,1,1,1,1,1,1,1,1,1,1,1,1,1,1,1,1,1,1,1,1,1,1] ([(L,cf2 H T o to ls),(ls,lstO vs n),(it,litO ls i)]) (IL fun nn tt om xi=>[lnextI 1 2 ls it vs n i (.int (Int.ofNat sv) st),bI "int.__floordiv__" [.int (Int.ofNat sv) st,.int 9 (tt 1+1)] (intR (Int.ofNat a9)),bI "int.__mod__" [.int (Int.ofNat sv) st,.int 9 (tt 2)] (intR (Int.ofNat b9)),sort2I 3 (nn 3) (Int.ofNat a9) (om 1 0) (Int.ofNat b9) (om 2 0) (Int.ofNat lo) (Int.ofNat hi),bI "int.__lt__" [.int (Int.ofNat lo) (om 3 1),.int (Int.ofNat hi) (om 3 2)] (boolR true),sgI 8 (nn 5) o to .none (.int (Int.ofNat lo) (om 3 1)) .none r1,bI "str.__getitem__" [.str ⟨⟨o⟩⟩ to,.int (Int.ofNat hi) (om 3 2)] (strR ⟨⟨[d1]⟩⟩),bI "str.__add__" [.str ⟨⟨r1⟩⟩ (om 5 0),.str ⟨⟨[d1]⟩⟩ (om 6 0)] (strR ⟨⟨r1++[d1]⟩⟩),bI "int.__add__" [.int (Int.ofNat lo) (om 3 1),.int 1 (tt 8)] (intR (Int.ofNat lo+1)),sgI 9 (nn 9) o to (.int (Int.ofNat lo+1) (om 8 0)) (.int (Int.ofNat hi) (om 3 2)) .none r2,bI "str.__add__" [.str ⟨⟨r1++[d1]⟩⟩ (om 7 0),.str ⟨⟨r2⟩⟩ (om 9 0)] (strR ⟨⟨r1++[d1]++r2⟩⟩),bI "str.__getitem__" [.str ⟨⟨o⟩⟩ to,.int (Int.ofNat lo) (om 3 1)] (strR ⟨⟨[d2]⟩⟩),bI "str.__add__" [.str ⟨⟨r1++[d1]++r2⟩⟩ (om 10 0),.str ⟨⟨[d2]⟩⟩ (om 11 0)] (strR ⟨⟨r1++[d1]++r2++[d2]⟩⟩),bI "int.__add__" [.int (Int.ofNat hi) (om 3 2),.int 1 (tt 13)] (intR (Int.ofNat hi+1)),sgI 10 (nn 14) o to (.int (Int.ofNat hi+1) (om 13 0)) .none .none r3,bI "str.__add__" [.str ⟨⟨r1++[d1]++r2++[d2]⟩⟩ (om 12 0),.str ⟨⟨r3⟩⟩ (om 14 0)] (strR ⟨⟨r1++[d1]++r2++[d2]++r3⟩⟩)]) nn tt om xi ps) ([0,1,2]) (.ok (.again (loopC (nthS (wf w b c).params 211 0) (.ref it) (envAt (wf w b c).params 211 L)))) ([(L,cf5 (ov (ov (ov H 2 (hs (wf w b c).params "swap")) 3 (hs (wf w b c).params "one")) 4 (hs (wf w b c).params "two")) (ov (ov (ov T 2 (tt 1)) 3 (tt 4)) 4 (tt 4+1)) (r1++[d1]++r2++[d2]++r3) (om 15 0) ls (.int (Int.ofNat sv) st) (.int (Int.ofNat lo) (om 3 1)) (.int (Int.ofNat hi) (om 3 2))),(ls,lstO vs n),(it,litO ls (i+1))]) := by cases b <;> trivial
theorem ctAb (w:World) (L to ls n it i sv st:Nat) (o:List Nat) (vs:List Value) (v1 v2 v3:Value) (a9 b9 lo hi:Nat) (r1 r2 r3:List Nat) (d1 d2:Nat) (H:NI) (T:NN) (b c:Bool) (nn tt om xi ps):Ends (go (wf w b c) 600 (den (loopC (nthS (wf w b c).params 211 0) (.ref it) (envAt (wf w b c).params 211 L))) [3,1,1,1,0,0,1,1,1,1,1,5,5,5,0,5,6,6,0,6,6,6,5,6,6,6,0,6,6,6,5,6,6,6,0,6,6,6,5,6,6,8,1,1,1,1,1,1,1,1,1,1,1,1,1,1,1,1,1,1,1,1,1,1,1,1,1,1,1,1,1,1,1] ([(L,cf5 H T o to ls v1 v2 v3),(ls,lstO vs n),(it,litO ls i)]) (IL fun nn tt om xi=>[lnextI 1 2 ls it vs n i (.int (Int.ofNat sv) st),bI "int.__floordiv__" [.int (Int.ofNat sv) st,.int 9 (tt 1+1)] (intR (Int.ofNat a9)),bI "int.__mod__" [.int (Int.ofNat sv) st,.int 9 (tt 2)] (intR (Int.ofNat b9)),sort2I 3 (nn 3) (Int.ofNat a9) (om 1 0) (Int.ofNat b9) (om 2 0) (Int.ofNat lo) (Int.ofNat hi),bI "int.__lt__" [.int (Int.ofNat lo) (om 3 1),.int (Int.ofNat hi) (om 3 2)] (boolR true),sgI 8 (nn 5) o to .none (.int (Int.ofNat lo) (om 3 1)) .none r1,bI "str.__getitem__" [.str ⟨⟨o⟩⟩ to,.int (Int.ofNat hi) (om 3 2)] (strR ⟨⟨[d1]⟩⟩),bI "str.__add__" [.str ⟨⟨r1⟩⟩ (om 5 0),.str ⟨⟨[d1]⟩⟩ (om 6 0)] (strR ⟨⟨r1++[d1]⟩⟩),bI "int.__add__" [.int (Int.ofNat lo) (om 3 1),.int 1 (tt 8)] (intR (Int.ofNat lo+1)),sgI 9 (nn 9) o to (.int (Int.ofNat lo+1) (om 8 0)) (.int (Int.ofNat hi) (om 3 2)) .none r2,bI "str.__add__" [.str ⟨⟨r1++[d1]⟩⟩ (om 7 0),.str ⟨⟨r2⟩⟩ (om 9 0)] (strR ⟨⟨r1++[d1]++r2⟩⟩),bI "str.__getitem__" [.str ⟨⟨o⟩⟩ to,.int (Int.ofNat lo) (om 3 1)] (strR ⟨⟨[d2]⟩⟩),bI "str.__add__" [.str ⟨⟨r1++[d1]++r2⟩⟩ (om 10 0),.str ⟨⟨[d2]⟩⟩ (om 11 0)] (strR ⟨⟨r1++[d1]++r2++[d2]⟩⟩),bI "int.__add__" [.int (Int.ofNat hi) (om 3 2),.int 1 (tt 13)] (intR (Int.ofNat hi+1)),sgI 10 (nn 14) o to (.int (Int.ofNat hi+1) (om 13 0)) .none .none r3,bI "str.__add__" [.str ⟨⟨r1++[d1]++r2++[d2]⟩⟩ (om 12 0),.str ⟨⟨r3⟩⟩ (om 14 0)] (strR ⟨⟨r1++[d1]++r2++[d2]++r3⟩⟩)]) nn tt om xi ps) ([0,1,2]) (.ok (.again (loopC (nthS (wf w b c).params 211 0) (.ref it) (envAt (wf w b c).params 211 L)))) ([(L,cf5 H T (r1++[d1]++r2++[d2]++r3) (om 15 0) ls (.int (Int.ofNat sv) st) (.int (Int.ofNat lo) (om 3 1)) (.int (Int.ofNat hi) (om 3 2))),(ls,lstO vs n),(it,litO ls (i+1))]) := by cases b <;> trivial
theorem ctBa (w:World) (L to ls n it i sv st:Nat) (o:List Nat) (vs:List Value) (v1 v2 v3:Value) (a9 b9 lo hi:Nat) (r1 r2 r3:List Nat) (d1 d2:Nat) (H:NI) (T:NN) (b c:Bool) (nn tt om xi ps):Ends (go (wf w b c) 600 (den (loopC (nthS (wf w b c).params 211 0) (.ref it) (envAt (wf w b c).params 211 L))) [3,1,1,1,0,0,1,1,1,1,1,5,5,5,0,5,6,6,0,6,6,6,5,6,6,6,0,6,6,6,5,6,6,6,0,6,6,6,5,6,6,8,1,1,1,1,1,1,1] ([(L,cf2 H T o to ls),(ls,lstO vs n),(it,litO ls i)]) (IL fun nn tt om xi=>[lnextI 1 2 ls it vs n i (.int (Int.ofNat sv) st),bI "int.__floordiv__" [.int (Int.ofNat sv) st,.int 9 (tt 1+1)] (intR (Int.ofNat a9)),bI "int.__mod__" [.int (Int.ofNat sv) st,.int 9 (tt 2)] (intR (Int.ofNat b9)),sort2I 3 (nn 3) (Int.ofNat a9) (om 1 0) (Int.ofNat b9) (om 2 0) (Int.ofNat lo) (Int.ofNat hi),bI "int.__lt__" [.int (Int.ofNat lo) (om 3 1),.int (Int.ofNat hi) (om 3 2)] (boolR false)]) nn tt om xi ps) ([0,1,2]) (.ok (.again (loopC (nthS (wf w b c).params 211 0) (.ref it) (envAt (wf w b c).params 211 L)))) ([(L,cf5 (ov (ov (ov H 2 (hs (wf w b c).params "swap")) 3 (hs (wf w b c).params "one")) 4 (hs (wf w b c).params "two")) (ov (ov (ov T 2 (tt 1)) 3 (tt 4)) 4 (tt 4+1)) o to ls (.int (Int.ofNat sv) st) (.int (Int.ofNat lo) (om 3 1)) (.int (Int.ofNat hi) (om 3 2))),(ls,lstO vs n),(it,litO ls (i+1))]) := by cases b <;> trivial
theorem ctBb (w:World) (L to ls n it i sv st:Nat) (o:List Nat) (vs:List Value) (v1 v2 v3:Value) (a9 b9 lo hi:Nat) (r1 r2 r3:List Nat) (d1 d2:Nat) (H:NI) (T:NN) (b c:Bool) (nn tt om xi ps):Ends (go (wf w b c) 600 (den (loopC (nthS (wf w b c).params 211 0) (.ref it) (envAt (wf w b c).params 211 L))) [3,1,1,1,0,0,1,1,1,1,1,5,5,5,0,5,6,6,0,6,6,6,5,6,6,6,0,6,6,6,5,6,6,6,0,6,6,6,5,6,6,8,1,1,1,1,1,1,1] ([(L,cf5 H T o to ls v1 v2 v3),(ls,lstO vs n),(it,litO ls i)]) (IL fun nn tt om xi=>[lnextI 1 2 ls it vs n i (.int (Int.ofNat sv) st),bI "int.__floordiv__" [.int (Int.ofNat sv) st,.int 9 (tt 1+1)] (intR (Int.ofNat a9)),bI "int.__mod__" [.int (Int.ofNat sv) st,.int 9 (tt 2)] (intR (Int.ofNat b9)),sort2I 3 (nn 3) (Int.ofNat a9) (om 1 0) (Int.ofNat b9) (om 2 0) (Int.ofNat lo) (Int.ofNat hi),bI "int.__lt__" [.int (Int.ofNat lo) (om 3 1),.int (Int.ofNat hi) (om 3 2)] (boolR false)]) nn tt om xi ps) ([0,1,2]) (.ok (.again (loopC (nthS (wf w b c).params 211 0) (.ref it) (envAt (wf w b c).params 211 L)))) ([(L,cf5 H T o to ls (.int (Int.ofNat sv) st) (.int (Int.ofNat lo) (om 3 1)) (.int (Int.ofNat hi) (om 3 2))),(ls,lstO vs n),(it,litO ls (i+1))]) := by cases b <;> trivial
theorem cx (w:World) (L to ls n it i sv st:Nat) (o:List Nat) (vs:List Value) (v1 v2 v3:Value) (a9 b9 lo hi:Nat) (r1 r2 r3:List Nat) (d1 d2:Nat) (H:NI) (T:NN) (nn tt om xi ps):Ends (go w 100 (den (loopC (nthS w.params 211 0) (.ref it) (envAt w.params 211 L))) [2,1,4] ([(ls,lstO vs n),(it,litO ls i)]) (IL fun nn tt om xi=>[lendI 0 1 ls it vs n i]) nn tt om xi ps) ([0]) (.ok (.again (.block [] (envAt w.params 211 L)))) ([(ls,lstO vs n)]) := by trivial
theorem chA0 (w:World) (c0 c1 c2 c3 c4 c5 c6 c7 c8 t q tk tk2:Nat) (nn tt om xi ps):Ends (go w 60 (Sem.call (.call (.builtin "str.__getitem__") ⟨[.str ⟨⟨[c0,c1,c2,c3,c4,c5,c6,c7,c8]⟩⟩ t,.ref q],[]⟩) none false [] Sem.pure) [0,1,1,1,1] ([(q,slcO .none (.int 0 tk) .none)]) .nil nn tt om xi ps) ([0]) (.ok (.ok (.ret (.str ⟨⟨[]⟩⟩ (tt 0))))) ([(q,slcO .none (.int 0 tk) .none)]) := by trivial
theorem chI0 (w:World) (c0 c1 c2 c3 c4 c5 c6 c7 c8 t q tk tk2:Nat) (nn tt om xi ps):Ends (go w 60 (Sem.call (.call (.builtin "str.__getitem__") ⟨[.str ⟨⟨[c0,c1,c2,c3,c4,c5,c6,c7,c8]⟩⟩ t,.int 0 tk],[]⟩) none false [] Sem.pure) [0] ([]) .nil nn tt om xi ps) ([]) (.ok (.ok (.ret (.str ⟨⟨[c0]⟩⟩ (tt 0))))) ([]) := by trivial
theorem chB0 (w:World) (c0 c1 c2 c3 c4 c5 c6 c7 c8 t q tk tk2:Nat) (nn tt om xi ps):Ends (go w 60 (Sem.call (.call (.builtin "str.__getitem__") ⟨[.str ⟨⟨[c0,c1,c2,c3,c4,c5,c6,c7,c8]⟩⟩ t,.ref q],[]⟩) none false [] Sem.pure) [0,1,1,1,1] ([(q,slcO (.int 1 tk) .none .none)]) .nil nn tt om xi ps) ([0]) (.ok (.ok (.ret (.str ⟨⟨[c1,c2,c3,c4,c5,c6,c7,c8]⟩⟩ (tt 0))))) ([(q,slcO (.int 1 tk) .none .none)]) := by trivial
theorem chC01 (w:World) (c0 c1 c2 c3 c4 c5 c6 c7 c8 t q tk tk2:Nat) (nn tt om xi ps):Ends (go w 60 (Sem.call (.call (.builtin "str.__getitem__") ⟨[.str ⟨⟨[c0,c1,c2,c3,c4,c5,c6,c7,c8]⟩⟩ t,.ref q],[]⟩) none false [] Sem.pure) [0,1,1,1,1] ([(q,slcO (.int 1 tk) (.int 1 tk2) .none)]) .nil nn tt om xi ps) ([0]) (.ok (.ok (.ret (.str ⟨⟨[]⟩⟩ (tt 0))))) ([(q,slcO (.int 1 tk) (.int 1 tk2) .none)]) := by trivial
theorem chC02 (w:World) (c0 c1 c2 c3 c4 c5 c6 c7 c8 t q tk tk2:Nat) (nn tt om xi ps):Ends (go w 60 (Sem.call (.call (.builtin "str.__getitem__") ⟨[.str ⟨⟨[c0,c1,c2,c3,c4,c5,c6,c7,c8]⟩⟩ t,.ref q],[]⟩) none false [] Sem.pure) [0,1,1,1,1] ([(q,slcO (.int 1 tk) (.int 2 tk2) .none)]) .nil nn tt om xi ps) ([0]) (.ok (.ok (.ret (.str ⟨⟨[c1]⟩⟩ (tt 0))))) ([(q,slcO (.int 1 tk) (.int 2 tk2) .none)]) := by trivial
theorem chC03 (w:World) (c0 c1 c2 c3 c4 c5 c6 c7 c8 t q tk tk2:Nat) (nn tt om xi ps):Ends (go w 60 (Sem.call (.call (.builtin "str.__getitem__") ⟨[.str ⟨⟨[c0,c1,c2,c3,c4,c5,c6,c7,c8]⟩⟩ t,.ref q],[]⟩) none false [] Sem.pure) [0,1,1,1,1] ([(q,slcO (.int 1 tk) (.int 3 tk2) .none)]) .nil nn tt om xi ps) ([0]) (.ok (.ok (.ret (.str ⟨⟨[c1,c2]⟩⟩ (tt 0))))) ([(q,slcO (.int 1 tk) (.int 3 tk2) .none)]) := by trivial
theorem chC04 (w:World) (c0 c1 c2 c3 c4 c5 c6 c7 c8 t q tk tk2:Nat) (nn tt om xi ps):Ends (go w 60 (Sem.call (.call (.builtin "str.__getitem__") ⟨[.str ⟨⟨[c0,c1,c2,c3,c4,c5,c6,c7,c8]⟩⟩ t,.ref q],[]⟩) none false [] Sem.pure) [0,1,1,1,1] ([(q,slcO (.int 1 tk) (.int 4 tk2) .none)]) .nil nn tt om xi ps) ([0]) (.ok (.ok (.ret (.str ⟨⟨[c1,c2,c3]⟩⟩ (tt 0))))) ([(q,slcO (.int 1 tk) (.int 4 tk2) .none)]) := by trivial
theorem chC05 (w:World) (c0 c1 c2 c3 c4 c5 c6 c7 c8 t q tk tk2:Nat) (nn tt om xi ps):Ends (go w 60 (Sem.call (.call (.builtin "str.__getitem__") ⟨[.str ⟨⟨[c0,c1,c2,c3,c4,c5,c6,c7,c8]⟩⟩ t,.ref q],[]⟩) none false [] Sem.pure) [0,1,1,1,1] ([(q,slcO (.int 1 tk) (.int 5 tk2) .none)]) .nil nn tt om xi ps) ([0]) (.ok (.ok (.ret (.str ⟨⟨[c1,c2,c3,c4]⟩⟩ (tt 0))))) ([(q,slcO (.int 1 tk) (.int 5 tk2) .none)]) := by trivial
theorem chC06 (w:World) (c0 c1 c2 c3 c4 c5 c6 c7 c8 t q tk tk2:Nat) (nn tt om xi ps):Ends (go w 60 (Sem.call (.call (.builtin "str.__getitem__") ⟨[.str ⟨⟨[c0,c1,c2,c3,c4,c5,c6,c7,c8]⟩⟩ t,.ref q],[]⟩) none false [] Sem.pure) [0,1,1,1,1] ([(q,slcO (.int 1 tk) (.int 6 tk2) .none)]) .nil nn tt om xi ps) ([0]) (.ok (.ok (.ret (.str ⟨⟨[c1,c2,c3,c4,c5]⟩⟩ (tt 0))))) ([(q,slcO (.int 1 tk) (.int 6 tk2) .none)]) := by trivial
theorem chC07 (w:World) (c0 c1 c2 c3 c4 c5 c6 c7 c8 t q tk tk2:Nat) (nn tt om xi ps):Ends (go w 60 (Sem.call (.call (.builtin "str.__getitem__") ⟨[.str ⟨⟨[c0,c1,c2,c3,c4,c5,c6,c7,c8]⟩⟩ t,.ref q],[]⟩) none false [] Sem.pure) [0,1,1,1,1] ([(q,slcO (.int 1 tk) (.int 7 tk2) .none)]) .nil nn tt om xi ps) ([0]) (.ok (.ok (.ret (.str ⟨⟨[c1,c2,c3,c4,c5,c6]⟩⟩ (tt 0))))) ([(q,slcO (.int 1 tk) (.int 7 tk2) .none)]) := by trivial
theorem chC08 (w:World) (c0 c1 c2 c3 c4 c5 c6 c7 c8 t q tk tk2:Nat) (nn tt om xi ps):Ends (go w 60 (Sem.call (.call (.builtin "str.__getitem__") ⟨[.str ⟨⟨[c0,c1,c2,c3,c4,c5,c6,c7,c8]⟩⟩ t,.ref q],[]⟩) none false [] Sem.pure) [0,1,1,1,1] ([(q,slcO (.int 1 tk) (.int 8 tk2) .none)]) .nil nn tt om xi ps) ([0]) (.ok (.ok (.ret (.str ⟨⟨[c1,c2,c3,c4,c5,c6,c7]⟩⟩ (tt 0))))) ([(q,slcO (.int 1 tk) (.int 8 tk2) .none)]) := by trivial
theorem chA1 (w:World) (c0 c1 c2 c3 c4 c5 c6 c7 c8 t q tk tk2:Nat) (nn tt om xi ps):Ends (go w 60 (Sem.call (.call (.builtin "str.__getitem__") ⟨[.str ⟨⟨[c0,c1,c2,c3,c4,c5,c6,c7,c8]⟩⟩ t,.ref q],[]⟩) none false [] Sem.pure) [0,1,1,1,1] ([(q,slcO .none (.int 1 tk) .none)]) .nil nn tt om xi ps) ([0]) (.ok (.ok (.ret (.str ⟨⟨[c0]⟩⟩ (tt 0))))) ([(q,slcO .none (.int 1 tk) .none)]) := by trivial
theorem chI1 (w:World) (c0 c1 c2 c3 c4 c5 c6 c7 c8 t q tk tk2:Nat) (nn tt om xi ps):Ends (go w 60 (Sem.call (.call (.builtin "str.__getitem__") ⟨[.str ⟨⟨[c0,c1,c2,c3,c4,c5,c6,c7,c8]⟩⟩ t,.int 1 tk],[]⟩) none false [] Sem.pure) [0] ([]) .nil nn tt om xi ps) ([]) (.ok (.ok (.ret (.str ⟨⟨[c1]⟩⟩ (tt 0))))) ([]) := by trivial
theorem chB1 (w:World) (c0 c1 c2 c3 c4 c5 c6 c7 c8 t q tk tk2:Nat) (nn tt om xi ps):Ends (go w 60 (Sem.call (.call (.builtin "str.__getitem__") ⟨[.str ⟨⟨[c0,c1,c2,c3,c4,c5,c6,c7,c8]⟩⟩ t,.ref q],[]⟩) none false [] Sem.pure) [0,1,1,1,1] ([(q,slcO (.int 2 tk) .none .none)]) .nil nn tt om xi ps) ([0]) (.ok (.ok (.ret (.str ⟨⟨[c2,c3,c4,c5,c6,c7,c8]⟩⟩ (tt 0))))) ([(q,slcO (.int 2 tk) .none .none)]) := by trivial
theorem chC12 (w:World) (c0 c1 c2 c3 c4 c5 c6 c7 c8 t q tk tk2:Nat) (nn tt om xi ps):Ends (go w 60 (Sem.call (.call (.builtin "str.__getitem__") ⟨[.str ⟨⟨[c0,c1,c2,c3,c4,c5,c6,c7,c8]⟩⟩ t,.ref q],[]⟩) none false [] Sem.pure) [0,1,1,1,1] ([(q,slcO (.int 2 tk) (.int 2 tk2) .none)]) .nil nn tt om xi ps) ([0]) (.ok (.ok (.ret (.str ⟨⟨[]⟩⟩ (tt 0))))) ([(q,slcO (.int 2 tk) (.int 2 tk2) .none)]) := by trivial
theorem chC13 (w:World) (c0 c1 c2 c3 c4 c5 c6 c7 c8 t q tk tk2:Nat) (nn tt om xi ps):Ends (go w 60 (Sem.call (.call (.builtin "str.__getitem__") ⟨[.str ⟨⟨[c0,c1,c2,c3,c4,c5,c6,c7,c8]⟩⟩ t,.ref q],[]⟩) none false [] Sem.pure) [0,1,1,1,1] ([(q,slcO (.int 2 tk) (.int 3 tk2) .none)]) .nil nn tt om xi ps) ([0]) (.ok (.ok (.ret (.str ⟨⟨[c2]⟩⟩ (tt 0))))) ([(q,slcO (.int 2 tk) (.int 3 tk2) .none)]) := by trivial
theorem chC14 (w:World) (c0 c1 c2 c3 c4 c5 c6 c7 c8 t q tk tk2:Nat) (nn tt om xi ps):Ends (go w 60 (Sem.call (.call (.builtin "str.__getitem__") ⟨[.str ⟨⟨[c0,c1,c2,c3,c4,c5,c6,c7,c8]⟩⟩ t,.ref q],[]⟩) none false [] Sem.pure) [0,1,1,1,1] ([(q,slcO (.int 2 tk) (.int 4 tk2) .none)]) .nil nn tt om xi ps) ([0]) (.ok (.ok (.ret (.str ⟨⟨[c2,c3]⟩⟩ (tt 0))))) ([(q,slcO (.int 2 tk) (.int 4 tk2) .none)]) := by trivial
theorem chC15 (w:World) (c0 c1 c2 c3 c4 c5 c6 c7 c8 t q tk tk2:Nat) (nn tt om xi ps):Ends (go w 60 (Sem.call (.call (.builtin "str.__getitem__") ⟨[.str ⟨⟨[c0,c1,c2,c3,c4,c5,c6,c7,c8]⟩⟩ t,.ref q],[]⟩) none false [] Sem.pure) [0,1,1,1,1] ([(q,slcO (.int 2 tk) (.int 5 tk2) .none)]) .nil nn tt om xi ps) ([0]) (.ok (.ok (.ret (.str ⟨⟨[c2,c3,c4]⟩⟩ (tt 0))))) ([(q,slcO (.int 2 tk) (.int 5 tk2) .none)]) := by trivial
theorem chC16 (w:World) (c0 c1 c2 c3 c4 c5 c6 c7 c8 t q tk tk2:Nat) (nn tt om xi ps):Ends (go w 60 (Sem.call (.call (.builtin "str.__getitem__") ⟨[.str ⟨⟨[c0,c1,c2,c3,c4,c5,c6,c7,c8]⟩⟩ t,.ref q],[]⟩) none false [] Sem.pure) [0,1,1,1,1] ([(q,slcO (.int 2 tk) (.int 6 tk2) .none)]) .nil nn tt om xi ps) ([0]) (.ok (.ok (.ret (.str ⟨⟨[c2,c3,c4,c5]⟩⟩ (tt 0))))) ([(q,slcO (.int 2 tk) (.int 6 tk2) .none)]) := by trivial
theorem chC17 (w:World) (c0 c1 c2 c3 c4 c5 c6 c7 c8 t q tk tk2:Nat) (nn tt om xi ps):Ends (go w 60 (Sem.call (.call (.builtin "str.__getitem__") ⟨[.str ⟨⟨[c0,c1,c2,c3,c4,c5,c6,c7,c8]⟩⟩ t,.ref q],[]⟩) none false [] Sem.pure) [0,1,1,1,1] ([(q,slcO (.int 2 tk) (.int 7 tk2) .none)]) .nil nn tt om xi ps) ([0]) (.ok (.ok (.ret (.str ⟨⟨[c2,c3,c4,c5,c6]⟩⟩ (tt 0))))) ([(q,slcO (.int 2 tk) (.int 7 tk2) .none)]) := by trivial
theorem chC18 (w:World) (c0 c1 c2 c3 c4 c5 c6 c7 c8 t q tk tk2:Nat) (nn tt om xi ps):Ends (go w 60 (Sem.call (.call (.builtin "str.__getitem__") ⟨[.str ⟨⟨[c0,c1,c2,c3,c4,c5,c6,c7,c8]⟩⟩ t,.ref q],[]⟩) none false [] Sem.pure) [0,1,1,1,1] ([(q,slcO (.int 2 tk) (.int 8 tk2) .none)]) .nil nn tt om xi ps) ([0]) (.ok (.ok (.ret (.str ⟨⟨[c2,c3,c4,c5,c6,c7]⟩⟩ (tt 0))))) ([(q,slcO (.int 2 tk) (.int 8 tk2) .none)]) := by trivial
theorem chA2 (w:World) (c0 c1 c2 c3 c4 c5 c6 c7 c8 t q tk tk2:Nat) (nn tt om xi ps):Ends (go w 60 (Sem.call (.call (.builtin "str.__getitem__") ⟨[.str ⟨⟨[c0,c1,c2,c3,c4,c5,c6,c7,c8]⟩⟩ t,.ref q],[]⟩) none false [] Sem.pure) [0,1,1,1,1] ([(q,slcO .none (.int 2 tk) .none)]) .nil nn tt om xi ps) ([0]) (.ok (.ok (.ret (.str ⟨⟨[c0,c1]⟩⟩ (tt 0))))) ([(q,slcO .none (.int 2 tk) .none)]) := by trivial
theorem chI2 (w:World) (c0 c1 c2 c3 c4 c5 c6 c7 c8 t q tk tk2:Nat) (nn tt om xi ps):Ends (go w 60 (Sem.call (.call (.builtin "str.__getitem__") ⟨[.str ⟨⟨[c0,c1,c2,c3,c4,c5,c6,c7,c8]⟩⟩ t,.int 2 tk],[]⟩) none false [] Sem.pure) [0] ([]) .nil nn tt om xi ps) ([]) (.ok (.ok (.ret (.str ⟨⟨[c2]⟩⟩ (tt 0))))) ([]) := by trivial
theorem chB2 (w:World) (c0 c1 c2 c3 c4 c5 c6 c7 c8 t q tk tk2:Nat) (nn tt om xi ps):Ends (go w 60 (Sem.call (.call (.builtin "str.__getitem__") ⟨[.str ⟨⟨[c0,c1,c2,c3,c4,c5,c6,c7,c8]⟩⟩ t,.ref q],[]⟩) none false [] Sem.pure) [0,1,1,1,1] ([(q,slcO (.int 3 tk) .none .none)]) .nil nn tt om xi ps) ([0]) (.ok (.ok (.ret (.str ⟨⟨[c3,c4,c5,c6,c7,c8]⟩⟩ (tt 0))))) ([(q,slcO (.int 3 tk) .none .none)]) := by trivial
theorem chC23 (w:World) (c0 c1 c2 c3 c4 c5 c6 c7 c8 t q tk tk2:Nat) (nn tt om xi ps):Ends (go w 60 (Sem.call (.call (.builtin "str.__getitem__") ⟨[.str ⟨⟨[c0,c1,c2,c3,c4,c5,c6,c7,c8]⟩⟩ t,.ref q],[]⟩) none false [] Sem.pure) [0,1,1,1,1] ([(q,slcO (.int 3 tk) (.int 3 tk2) .none)]) .nil nn tt om xi ps) ([0]) (.ok (.ok (.ret (.str ⟨⟨[]⟩⟩ (tt 0))))) ([(q,slcO (.int 3 tk) (.int 3 tk2) .none)]) := by trivial
theorem chC24 (w:World) (c0 c1 c2 c3 c4 c5 c6 c7 c8 t q tk tk2:Nat) (nn tt om xi ps):Ends (go w 60 (Sem.call (.call (.builtin "str.__getitem__") ⟨[.str ⟨⟨[c0,c1,c2,c3,c4,c5,c6,c7,c8]⟩⟩ t,.ref q],[]⟩) none false [] Sem.pure) [0,1,1,1,1] ([(q,slcO (.int 3 tk) (.int 4 tk2) .none)]) .nil nn tt om xi ps) ([0]) (.ok (.ok (.ret (.str ⟨⟨[c3]⟩⟩ (tt 0))))) ([(q,slcO (.int 3 tk) (.int 4 tk2) .none)]) := by trivial
theorem chC25 (w:World) (c0 c1 c2 c3 c4 c5 c6 c7 c8 t q tk tk2:Nat) (nn tt om xi ps):Ends (go w 60 (Sem.call (.call (.builtin "str.__getitem__") ⟨[.str ⟨⟨[c0,c1,c2,c3,c4,c5,c6,c7,c8]⟩⟩ t,.ref q],[]⟩) none false [] Sem.pure) [0,1,1,1,1] ([(q,slcO (.int 3 tk) (.int 5 tk2) .none)]) .nil nn tt om xi ps) ([0]) (.ok (.ok (.ret (.str ⟨⟨[c3,c4]⟩⟩ (tt 0))))) ([(q,slcO (.int 3 tk) (.int 5 tk2) .none)]) := by trivial
theorem chC26 (w:World) (c0 c1 c2 c3 c4 c5 c6 c7 c8 t q tk tk2:Nat) (nn tt om xi ps):Ends (go w 60 (Sem.call (.call (.builtin "str.__getitem__") ⟨[.str ⟨⟨[c0,c1,c2,c3,c4,c5,c6,c7,c8]⟩⟩ t,.ref q],[]⟩) none false [] Sem.pure) [0,1,1,1,1] ([(q,slcO (.int 3 tk) (.int 6 tk2) .none)]) .nil nn tt om xi ps) ([0]) (.ok (.ok (.ret (.str ⟨⟨[c3,c4,c5]⟩⟩ (tt 0))))) ([(q,slcO (.int 3 tk) (.int 6 tk2) .none)]) := by trivial
theorem chC27 (w:World) (c0 c1 c2 c3 c4 c5 c6 c7 c8 t q tk tk2:Nat) (nn tt om xi ps):Ends (go w 60 (Sem.call (.call (.builtin "str.__getitem__") ⟨[.str ⟨⟨[c0,c1,c2,c3,c4,c5,c6,c7,c8]⟩⟩ t,.ref q],[]⟩) none false [] Sem.pure) [0,1,1,1,1] ([(q,slcO (.int 3 tk) (.int 7 tk2) .none)]) .nil nn tt om xi ps) ([0]) (.ok (.ok (.ret (.str ⟨⟨[c3,c4,c5,c6]⟩⟩ (tt 0))))) ([(q,slcO (.int 3 tk) (.int 7 tk2) .none)]) := by trivial
theorem chC28 (w:World) (c0 c1 c2 c3 c4 c5 c6 c7 c8 t q tk tk2:Nat) (nn tt om xi ps):Ends (go w 60 (Sem.call (.call (.builtin "str.__getitem__") ⟨[.str ⟨⟨[c0,c1,c2,c3,c4,c5,c6,c7,c8]⟩⟩ t,.ref q],[]⟩) none false [] Sem.pure) [0,1,1,1,1] ([(q,slcO (.int 3 tk) (.int 8 tk2) .none)]) .nil nn tt om xi ps) ([0]) (.ok (.ok (.ret (.str ⟨⟨[c3,c4,c5,c6,c7]⟩⟩ (tt 0))))) ([(q,slcO (.int 3 tk) (.int 8 tk2) .none)]) := by trivial
theorem chA3 (w:World) (c0 c1 c2 c3 c4 c5 c6 c7 c8 t q tk tk2:Nat) (nn tt om xi ps):Ends (go w 60 (Sem.call (.call (.builtin "str.__getitem__") ⟨[.str ⟨⟨[c0,c1,c2,c3,c4,c5,c6,c7,c8]⟩⟩ t,.ref q],[]⟩) none false [] Sem.pure) [0,1,1,1,1] ([(q,slcO .none (.int 3 tk) .none)]) .nil nn tt om xi ps) ([0]) (.ok (.ok (.ret (.str ⟨⟨[c0,c1,c2]⟩⟩ (tt 0))))) ([(q,slcO .none (.int 3 tk) .none)]) := by trivial
theorem chI3 (w:World) (c0 c1 c2 c3 c4 c5 c6 c7 c8 t q tk tk2:Nat) (nn tt om xi ps):Ends (go w 60 (Sem.call (.call (.builtin "str.__getitem__") ⟨[.str ⟨⟨[c0,c1,c2,c3,c4,c5,c6,c7,c8]⟩⟩ t,.int 3 tk],[]⟩) none false [] Sem.pure) [0] ([]) .nil nn tt om xi ps) ([]) (.ok (.ok (.ret (.str ⟨⟨[c3]⟩⟩ (tt 0))))) ([]) := by trivial
theorem chB3 (w:World) (c0 c1 c2 c3 c4 c5 c6 c7 c8 t q tk tk2:Nat) (nn tt om xi ps):Ends (go w 60 (Sem.call (.call (.builtin "str.__getitem__") ⟨[.str ⟨⟨[c0,c1,c2,c3,c4,c5,c6,c7,c8]⟩⟩ t,.ref q],[]⟩) none false [] Sem.pure) [0,1,1,1,1] ([(q,slcO (.int 4 tk) .none .none)]) .nil nn tt om xi ps) ([0]) (.ok (.ok (.ret (.str ⟨⟨[c4,c5,c6,c7,c8]⟩⟩ (tt 0))))) ([(q,slcO (.int 4 tk) .none .none)]) := by trivial
theorem chC34 (w:World) (c0 c1 c2 c3 c4 c5 c6 c7 c8 t q tk tk2:Nat) (nn tt om xi ps):Ends (go w 60 (Sem.call (.call (.builtin "str.__getitem__") ⟨[.str ⟨⟨[c0,c1,c2,c3,c4,c5,c6,c7,c8]⟩⟩ t,.ref q],[]⟩) none false [] Sem.pure) [0,1,1,1,1] ([(q,slcO (.int 4 tk) (.int 4 tk2) .none)]) .nil nn tt om xi ps) ([0]) (.ok (.ok (.ret (.str ⟨⟨[]⟩⟩ (tt 0))))) ([(q,slcO (.int 4 tk) (.int 4 tk2) .none)]) := by trivial
theorem chC35 (w:World) (c0 c1 c2 c3 c4 c5 c6 c7 c8 t q tk tk2:Nat) (nn tt om xi ps):Ends (go w 60 (Sem.call (.call (.builtin "str.__getitem__") ⟨[.str ⟨⟨[c0,c1,c2,c3,c4,c5,c6,c7,c8]⟩⟩ t,.ref q],[]⟩) none false [] Sem.pure) [0,1,1,1,1] ([(q,slcO (.int 4 tk) (.int 5 tk2) .none)]) .nil nn tt om xi ps) ([0]) (.ok (.ok (.ret (.str ⟨⟨[c4]⟩⟩ (tt 0))))) ([(q,slcO (.int 4 tk) (.int 5 tk2) .none)]) := by trivial
theorem chC36 (w:World) (c0 c1 c2 c3 c4 c5 c6 c7 c8 t q tk tk2:Nat) (nn tt om xi ps):Ends (go w 60 (Sem.call (.call (.builtin "str.__getitem__") ⟨[.str ⟨⟨[c0,c1,c2,c3,c4,c5,c6,c7,c8]⟩⟩ t,.ref q],[]⟩) none false [] Sem.pure) [0,1,1,1,1] ([(q,slcO (.int 4 tk) (.int 6 tk2) .none)]) .nil nn tt om xi ps) ([0]) (.ok (.ok (.ret (.str ⟨⟨[c4,c5]⟩⟩ (tt 0))))) ([(q,slcO (.int 4 tk) (.int 6 tk2) .none)]) := by trivial
theorem chC37 (w:World) (c0 c1 c2 c3 c4 c5 c6 c7 c8 t q tk tk2:Nat) (nn tt om xi ps):Ends (go w 60 (Sem.call (.call (.builtin "str.__getitem__") ⟨[.str ⟨⟨[c0,c1,c2,c3,c4,c5,c6,c7,c8]⟩⟩ t,.ref q],[]⟩) none false [] Sem.pure) [0,1,1,1,1] ([(q,slcO (.int 4 tk) (.int 7 tk2) .none)]) .nil nn tt om xi ps) ([0]) (.ok (.ok (.ret (.str ⟨⟨[c4,c5,c6]⟩⟩ (tt 0))))) ([(q,slcO (.int 4 tk) (.int 7 tk2) .none)]) := by trivial
theorem chC38 (w:World) (c0 c1 c2 c3 c4 c5 c6 c7 c8 t q tk tk2:Nat) (nn tt om xi ps):Ends (go w 60 (Sem.call (.call (.builtin "str.__getitem__") ⟨[.str ⟨⟨[c0,c1,c2,c3,c4,c5,c6,c7,c8]⟩⟩ t,.ref q],[]⟩) none false [] Sem.pure) [0,1,1,1,1] ([(q,slcO (.int 4 tk) (.int 8 tk2) .none)]) .nil nn tt om xi ps) ([0]) (.ok (.ok (.ret (.str ⟨⟨[c4,c5,c6,c7]⟩⟩ (tt 0))))) ([(q,slcO (.int 4 tk) (.int 8 tk2) .none)]) := by trivial
theorem chA4 (w:World) (c0 c1 c2 c3 c4 c5 c6 c7 c8 t q tk tk2:Nat) (nn tt om xi ps):Ends (go w 60 (Sem.call (.call (.builtin "str.__getitem__") ⟨[.str ⟨⟨[c0,c1,c2,c3,c4,c5,c6,c7,c8]⟩⟩ t,.ref q],[]⟩) none false [] Sem.pure) [0,1,1,1,1] ([(q,slcO .none (.int 4 tk) .none)]) .nil nn tt om xi ps) ([0]) (.ok (.ok (.ret (.str ⟨⟨[c0,c1,c2,c3]⟩⟩ (tt 0))))) ([(q,slcO .none (.int 4 tk) .none)]) := by trivial
theorem chI4 (w:World) (c0 c1 c2 c3 c4 c5 c6 c7 c8 t q tk tk2:Nat) (nn tt om xi ps):Ends (go w 60 (Sem.call (.call (.builtin "str.__getitem__") ⟨[.str ⟨⟨[c0,c1,c2,c3,c4,c5,c6,c7,c8]⟩⟩ t,.int 4 tk],[]⟩) none false [] Sem.pure) [0] ([]) .nil nn tt om xi ps) ([]) (.ok (.ok (.ret (.str ⟨⟨[c4]⟩⟩ (tt 0))))) ([]) := by trivial
theorem chB4 (w:World) (c0 c1 c2 c3 c4 c5 c6 c7 c8 t q tk tk2:Nat) (nn tt om xi ps):Ends (go w 60 (Sem.call (.call (.builtin "str.__getitem__") ⟨[.str ⟨⟨[c0,c1,c2,c3,c4,c5,c6,c7,c8]⟩⟩ t,.ref q],[]⟩) none false [] Sem.pure) [0,1,1,1,1] ([(q,slcO (.int 5 tk) .none .none)]) .nil nn tt om xi ps) ([0]) (.ok (.ok (.ret (.str ⟨⟨[c5,c6,c7,c8]⟩⟩ (tt 0))))) ([(q,slcO (.int 5 tk) .none .none)]) := by trivial
theorem chC45 (w:World) (c0 c1 c2 c3 c4 c5 c6 c7 c8 t q tk tk2:Nat) (nn tt om xi ps):Ends (go w 60 (Sem.call (.call (.builtin "str.__getitem__") ⟨[.str ⟨⟨[c0,c1,c2,c3,c4,c5,c6,c7,c8]⟩⟩ t,.ref q],[]⟩) none false [] Sem.pure) [0,1,1,1,1] ([(q,slcO (.int 5 tk) (.int 5 tk2) .none)]) .nil nn tt om xi ps) ([0]) (.ok (.ok (.ret (.str ⟨⟨[]⟩⟩ (tt 0))))) ([(q,slcO (.int 5 tk) (.int 5 tk2) .none)]) := by trivial
theorem chC46 (w:World) (c0 c1 c2 c3 c4 c5 c6 c7 c8 t q tk tk2:Nat) (nn tt om xi ps):Ends (go w 60 (Sem.call (.call (.builtin "str.__getitem__") ⟨[.str ⟨⟨[c0,c1,c2,c3,c4,c5,c6,c7,c8]⟩⟩ t,.ref q],[]⟩) none false [] Sem.pure) [0,1,1,1,1] ([(q,slcO (.int 5 tk) (.int 6 tk2) .none)]) .nil nn tt om xi ps) ([0]) (.ok (.ok (.ret (.str ⟨⟨[c5]⟩⟩ (tt 0))))) ([(q,slcO (.int 5 tk) (.int 6 tk2) .none)]) := by trivial
theorem chC47 (w:World) (c0 c1 c2 c3 c4 c5 c6 c7 c8 t q tk tk2:Nat) (nn tt om xi ps):Ends (go w 60 (Sem.call (.call (.builtin "str.__getitem__") ⟨[.str ⟨⟨[c0,c1,c2,c3,c4,c5,c6,c7,c8]⟩⟩ t,.ref q],[]⟩) none false [] Sem.pure) [0,1,1,1,1] ([(q,slcO (.int 5 tk) (.int 7 tk2) .none)]) .nil nn tt om xi ps) ([0]) (.ok (.ok (.ret (.str ⟨⟨[c5,c6]⟩⟩ (tt 0))))) ([(q,slcO (.int 5 tk) (.int 7 tk2) .none)]) := by trivial
theorem chC48 (w:World) (c0 c1 c2 c3 c4 c5 c6 c7 c8 t q tk tk2:Nat) (nn tt om xi ps):Ends (go w 60 (Sem.call (.call (.builtin "str.__getitem__") ⟨[.str ⟨⟨[c0,c1,c2,c3,c4,c5,c6,c7,c8]⟩⟩ t,.ref q],[]⟩) none false [] Sem.pure) [0,1,1,1,1] ([(q,slcO (.int 5 tk) (.int 8 tk2) .none)]) .nil nn tt om xi ps) ([0]) (.ok (.ok (.ret (.str ⟨⟨[c5,c6,c7]⟩⟩ (tt 0))))) ([(q,slcO (.int 5 tk) (.int 8 tk2) .none)]) := by trivial
theorem chA5 (w:World) (c0 c1 c2 c3 c4 c5 c6 c7 c8 t q tk tk2:Nat) (nn tt om xi ps):Ends (go w 60 (Sem.call (.call (.builtin "str.__getitem__") ⟨[.str ⟨⟨[c0,c1,c2,c3,c4,c5,c6,c7,c8]⟩⟩ t,.ref q],[]⟩) none false [] Sem.pure) [0,1,1,1,1] ([(q,slcO .none (.int 5 tk) .none)]) .nil nn tt om xi ps) ([0]) (.ok (.ok (.ret (.str ⟨⟨[c0,c1,c2,c3,c4]⟩⟩ (tt 0))))) ([(q,slcO .none (.int 5 tk) .none)]) := by trivial
theorem chI5 (w:World) (c0 c1 c2 c3 c4 c5 c6 c7 c8 t q tk tk2:Nat) (nn tt om xi ps):Ends (go w 60 (Sem.call (.call (.builtin "str.__getitem__") ⟨[.str ⟨⟨[c0,c1,c2,c3,c4,c5,c6,c7,c8]⟩⟩ t,.int 5 tk],[]⟩) none false [] Sem.pure) [0] ([]) .nil nn tt om xi ps) ([]) (.ok (.ok (.ret (.str ⟨⟨[c5]⟩⟩ (tt 0))))) ([]) := by trivial
theorem chB5 (w:World) (c0 c1 c2 c3 c4 c5 c6 c7 c8 t q tk tk2:Nat) (nn tt om xi ps):Ends (go w 60 (Sem.call (.call (.builtin "str.__getitem__") ⟨[.str ⟨⟨[c0,c1,c2,c3,c4,c5,c6,c7,c8]⟩⟩ t,.ref q],[]⟩) none false [] Sem.pure) [0,1,1,1,1] ([(q,slcO (.int 6 tk) .none .none)]) .nil nn tt om xi ps) ([0]) (.ok (.ok (.ret (.str ⟨⟨[c6,c7,c8]⟩⟩ (tt 0))))) ([(q,slcO (.int 6 tk) .none .none)]) := by trivial
theorem chC56 (w:World) (c0 c1 c2 c3 c4 c5 c6 c7 c8 t q tk tk2:Nat) (nn tt om xi ps):Ends (go w 60 (Sem.call (.call (.builtin "str.__getitem__") ⟨[.str ⟨⟨[c0,c1,c2,c3,c4,c5,c6,c7,c8]⟩⟩ t,.ref q],[]⟩) none false [] Sem.pure) [0,1,1,1,1] ([(q,slcO (.int 6 tk) (.int 6 tk2) .none)]) .nil nn tt om xi ps) ([0]) (.ok (.ok (.ret (.str ⟨⟨[]⟩⟩ (tt 0))))) ([(q,slcO (.int 6 tk) (.int 6 tk2) .none)]) := by trivial
theorem chC57 (w:World) (c0 c1 c2 c3 c4 c5 c6 c7 c8 t q tk tk2:Nat) (nn tt om xi ps):Ends (go w 60 (Sem.call (.call (.builtin "str.__getitem__") ⟨[.str ⟨⟨[c0,c1,c2,c3,c4,c5,c6,c7,c8]⟩⟩ t,.ref q],[]⟩) none false [] Sem.pure) [0,1,1,1,1] ([(q,slcO (.int 6 tk) (.int 7 tk2) .none)]) .nil nn tt om xi ps) ([0]) (.ok (.ok (.ret (.str ⟨⟨[c6]⟩⟩ (tt 0))))) ([(q,slcO (.int 6 tk) (.int 7 tk2) .none)]) := by trivial
theorem chC58 (w:World) (c0 c1 c2 c3 c4 c5 c6 c7 c8 t q tk tk2:Nat) (nn tt om xi ps):Ends (go w 60 (Sem.call (.call (.builtin "str.__getitem__") ⟨[.str ⟨⟨[c0,c1,c2,c3,c4,c5,c6,c7,c8]⟩⟩ t,.ref q],[]⟩) none false [] Sem.pure) [0,1,1,1,1] ([(q,slcO (.int 6 tk) (.int 8 tk2) .none)]) .nil nn tt om xi ps) ([0]) (.ok (.ok (.ret (.str ⟨⟨[c6,c7]⟩⟩ (tt 0))))) ([(q,slcO (.int 6 tk) (.int 8 tk2) .none)]) := by trivial
theorem chA6 (w:World) (c0 c1 c2 c3 c4 c5 c6 c7 c8 t q tk tk2:Nat) (nn tt om xi ps):Ends (go w 60 (Sem.call (.call (.builtin "str.__getitem__") ⟨[.str ⟨⟨[c0,c1,c2,c3,c4,c5,c6,c7,c8]⟩⟩ t,.ref q],[]⟩) none false [] Sem.pure) [0,1,1,1,1] ([(q,slcO .none (.int 6 tk) .none)]) .nil nn tt om xi ps) ([0]) (.ok (.ok (.ret (.str ⟨⟨[c0,c1,c2,c3,c4,c5]⟩⟩ (tt 0))))) ([(q,slcO .none (.int 6 tk) .none)]) := by trivial
theorem chI6 (w:World) (c0 c1 c2 c3 c4 c5 c6 c7 c8 t q tk tk2:Nat) (nn tt om xi ps):Ends (go w 60 (Sem.call (.call (.builtin "str.__getitem__") ⟨[.str ⟨⟨[c0,c1,c2,c3,c4,c5,c6,c7,c8]⟩⟩ t,.int 6 tk],[]⟩) none false [] Sem.pure) [0] ([]) .nil nn tt om xi ps) ([]) (.ok (.ok (.ret (.str ⟨⟨[c6]⟩⟩ (tt 0))))) ([]) := by trivial
theorem chB6 (w:World) (c0 c1 c2 c3 c4 c5 c6 c7 c8 t q tk tk2:Nat) (nn tt om xi ps):Ends (go w 60 (Sem.call (.call (.builtin "str.__getitem__") ⟨[.str ⟨⟨[c0,c1,c2,c3,c4,c5,c6,c7,c8]⟩⟩ t,.ref q],[]⟩) none false [] Sem.pure) [0,1,1,1,1] ([(q,slcO (.int 7 tk) .none .none)]) .nil nn tt om xi ps) ([0]) (.ok (.ok (.ret (.str ⟨⟨[c7,c8]⟩⟩ (tt 0))))) ([(q,slcO (.int 7 tk) .none .none)]) := by trivial
theorem chC67 (w:World) (c0 c1 c2 c3 c4 c5 c6 c7 c8 t q tk tk2:Nat) (nn tt om xi ps):Ends (go w 60 (Sem.call (.call (.builtin "str.__getitem__") ⟨[.str ⟨⟨[c0,c1,c2,c3,c4,c5,c6,c7,c8]⟩⟩ t,.ref q],[]⟩) none false [] Sem.pure) [0,1,1,1,1] ([(q,slcO (.int 7 tk) (.int 7 tk2) .none)]) .nil nn tt om xi ps) ([0]) (.ok (.ok (.ret (.str ⟨⟨[]⟩⟩ (tt 0))))) ([(q,slcO (.int 7 tk) (.int 7 tk2) .none)]) := by trivial
theorem chC68 (w:World) (c0 c1 c2 c3 c4 c5 c6 c7 c8 t q tk tk2:Nat) (nn tt om xi ps):Ends (go w 60 (Sem.call (.call (.builtin "str.__getitem__") ⟨[.str ⟨⟨[c0,c1,c2,c3,c4,c5,c6,c7,c8]⟩⟩ t,.ref q],[]⟩) none false [] Sem.pure) [0,1,1,1,1] ([(q,slcO (.int 7 tk) (.int 8 tk2) .none)]) .nil nn tt om xi ps) ([0]) (.ok (.ok (.ret (.str ⟨⟨[c7]⟩⟩ (tt 0))))) ([(q,slcO (.int 7 tk) (.int 8 tk2) .none)]) := by trivial
theorem chA7 (w:World) (c0 c1 c2 c3 c4 c5 c6 c7 c8 t q tk tk2:Nat) (nn tt om xi ps):Ends (go w 60 (Sem.call (.call (.builtin "str.__getitem__") ⟨[.str ⟨⟨[c0,c1,c2,c3,c4,c5,c6,c7,c8]⟩⟩ t,.ref q],[]⟩) none false [] Sem.pure) [0,1,1,1,1] ([(q,slcO .none (.int 7 tk) .none)]) .nil nn tt om xi ps) ([0]) (.ok (.ok (.ret (.str ⟨⟨[c0,c1,c2,c3,c4,c5,c6]⟩⟩ (tt 0))))) ([(q,slcO .none (.int 7 tk) .none)]) := by trivial
theorem chI7 (w:World) (c0 c1 c2 c3 c4 c5 c6 c7 c8 t q tk tk2:Nat) (nn tt om xi ps):Ends (go w 60 (Sem.call (.call (.builtin "str.__getitem__") ⟨[.str ⟨⟨[c0,c1,c2,c3,c4,c5,c6,c7,c8]⟩⟩ t,.int 7 tk],[]⟩) none false [] Sem.pure) [0] ([]) .nil nn tt om xi ps) ([]) (.ok (.ok (.ret (.str ⟨⟨[c7]⟩⟩ (tt 0))))) ([]) := by trivial
theorem chB7 (w:World) (c0 c1 c2 c3 c4 c5 c6 c7 c8 t q tk tk2:Nat) (nn tt om xi ps):Ends (go w 60 (Sem.call (.call (.builtin "str.__getitem__") ⟨[.str ⟨⟨[c0,c1,c2,c3,c4,c5,c6,c7,c8]⟩⟩ t,.ref q],[]⟩) none false [] Sem.pure) [0,1,1,1,1] ([(q,slcO (.int 8 tk) .none .none)]) .nil nn tt om xi ps) ([0]) (.ok (.ok (.ret (.str ⟨⟨[c8]⟩⟩ (tt 0))))) ([(q,slcO (.int 8 tk) .none .none)]) := by trivial
theorem chC78 (w:World) (c0 c1 c2 c3 c4 c5 c6 c7 c8 t q tk tk2:Nat) (nn tt om xi ps):Ends (go w 60 (Sem.call (.call (.builtin "str.__getitem__") ⟨[.str ⟨⟨[c0,c1,c2,c3,c4,c5,c6,c7,c8]⟩⟩ t,.ref q],[]⟩) none false [] Sem.pure) [0,1,1,1,1] ([(q,slcO (.int 8 tk) (.int 8 tk2) .none)]) .nil nn tt om xi ps) ([0]) (.ok (.ok (.ret (.str ⟨⟨[]⟩⟩ (tt 0))))) ([(q,slcO (.int 8 tk) (.int 8 tk2) .none)]) := by trivial
theorem chA8 (w:World) (c0 c1 c2 c3 c4 c5 c6 c7 c8 t q tk tk2:Nat) (nn tt om xi ps):Ends (go w 60 (Sem.call (.call (.builtin "str.__getitem__") ⟨[.str ⟨⟨[c0,c1,c2,c3,c4,c5,c6,c7,c8]⟩⟩ t,.ref q],[]⟩) none false [] Sem.pure) [0,1,1,1,1] ([(q,slcO .none (.int 8 tk) .none)]) .nil nn tt om xi ps) ([0]) (.ok (.ok (.ret (.str ⟨⟨[c0,c1,c2,c3,c4,c5,c6,c7]⟩⟩ (tt 0))))) ([(q,slcO .none (.int 8 tk) .none)]) := by trivial
theorem chI8 (w:World) (c0 c1 c2 c3 c4 c5 c6 c7 c8 t q tk tk2:Nat) (nn tt om xi ps):Ends (go w 60 (Sem.call (.call (.builtin "str.__getitem__") ⟨[.str ⟨⟨[c0,c1,c2,c3,c4,c5,c6,c7,c8]⟩⟩ t,.int 8 tk],[]⟩) none false [] Sem.pure) [0] ([]) .nil nn tt om xi ps) ([]) (.ok (.ok (.ret (.str ⟨⟨[c8]⟩⟩ (tt 0))))) ([]) := by trivial
theorem chB8 (w:World) (c0 c1 c2 c3 c4 c5 c6 c7 c8 t q tk tk2:Nat) (nn tt om xi ps):Ends (go w 60 (Sem.call (.call (.builtin "str.__getitem__") ⟨[.str ⟨⟨[c0,c1,c2,c3,c4,c5,c6,c7,c8]⟩⟩ t,.ref q],[]⟩) none false [] Sem.pure) [0,1,1,1,1] ([(q,slcO (.int 9 tk) .none .none)]) .nil nn tt om xi ps) ([0]) (.ok (.ok (.ret (.str ⟨⟨[]⟩⟩ (tt 0))))) ([(q,slcO (.int 9 tk) .none .none)]) := by trivial
theorem nine {o : List Nat} (h : o.length = 9) : ∃ c0 c1 c2 c3 c4 c5 c6 c7 c8,o = [c0,c1,c2,c3,c4,c5,c6,c7,c8] := by
  rcases o with _ | ⟨c0,_ | ⟨c1,_ | ⟨c2,_ | ⟨c3,_ | ⟨c4,_ | ⟨c5,_ | ⟨c6,_ | ⟨c7,_ | ⟨c8,_ | ⟨c9,l⟩⟩⟩⟩⟩⟩⟩⟩⟩⟩
  iterate 9 (simp only [List.length_cons,List.length_nil] at h; omega)
  · exact ⟨c0,c1,c2,c3,c4,c5,c6,c7,c8,rfl⟩
  · simp only [List.length_cons] at h; omega
section
variable {w : World} {C : Around → Prop} (hh : ∀ A,C A → A.handled = none)
include hh
theorem chA_ok {jq q t tk k : Nat} {o : List Nat} (h : o.length = 9) (hk : k ≤ 8) : IOk theP w (MyK w.params) C (sgI jq q o t .none (.int (Int.ofNat k) tk) .none (o.take k)) := by
  obtain ⟨c0,c1,c2,c3,c4,c5,c6,c7,c8,rfl⟩ := nine h
  rcases k with _ | _ | _ | _ | _ | _ | _ | _ | _ | k
  · exact segI (I := sgI jq q [c0,c1,c2,c3,c4,c5,c6,c7,c8] t .none (.int (Int.ofNat 0) tk) .none []) (chA0 w c0 c1 c2 c3 c4 c5 c6 c7 c8 t q tk 0) hh noIns fun nn tt om xi => ⟨tt,fun _ => #[],rfl,rfl,rfl⟩
  · exact segI (I := sgI jq q [c0,c1,c2,c3,c4,c5,c6,c7,c8] t .none (.int (Int.ofNat 1) tk) .none [c0]) (chA1 w c0 c1 c2 c3 c4 c5 c6 c7 c8 t q tk 0) hh noIns fun nn tt om xi => ⟨tt,fun _ => #[],rfl,rfl,rfl⟩
  · exact segI (I := sgI jq q [c0,c1,c2,c3,c4,c5,c6,c7,c8] t .none (.int (Int.ofNat 2) tk) .none [c0,c1]) (chA2 w c0 c1 c2 c3 c4 c5 c6 c7 c8 t q tk 0) hh noIns fun nn tt om xi => ⟨tt,fun _ => #[],rfl,rfl,rfl⟩
  · exact segI (I := sgI jq q [c0,c1,c2,c3,c4,c5,c6,c7,c8] t .none (.int (Int.ofNat 3) tk) .none [c0,c1,c2]) (chA3 w c0 c1 c2 c3 c4 c5 c6 c7 c8 t q tk 0) hh noIns fun nn tt om xi => ⟨tt,fun _ => #[],rfl,rfl,rfl⟩
  · exact segI (I := sgI jq q [c0,c1,c2,c3,c4,c5,c6,c7,c8] t .none (.int (Int.ofNat 4) tk) .none [c0,c1,c2,c3]) (chA4 w c0 c1 c2 c3 c4 c5 c6 c7 c8 t q tk 0) hh noIns fun nn tt om xi => ⟨tt,fun _ => #[],rfl,rfl,rfl⟩
  · exact segI (I := sgI jq q [c0,c1,c2,c3,c4,c5,c6,c7,c8] t .none (.int (Int.ofNat 5) tk) .none [c0,c1,c2,c3,c4]) (chA5 w c0 c1 c2 c3 c4 c5 c6 c7 c8 t q tk 0) hh noIns fun nn tt om xi => ⟨tt,fun _ => #[],rfl,rfl,rfl⟩
  · exact segI (I := sgI jq q [c0,c1,c2,c3,c4,c5,c6,c7,c8] t .none (.int (Int.ofNat 6) tk) .none [c0,c1,c2,c3,c4,c5]) (chA6 w c0 c1 c2 c3 c4 c5 c6 c7 c8 t q tk 0) hh noIns fun nn tt om xi => ⟨tt,fun _ => #[],rfl,rfl,rfl⟩
  · exact segI (I := sgI jq q [c0,c1,c2,c3,c4,c5,c6,c7,c8] t .none (.int (Int.ofNat 7) tk) .none [c0,c1,c2,c3,c4,c5,c6]) (chA7 w c0 c1 c2 c3 c4 c5 c6 c7 c8 t q tk 0) hh noIns fun nn tt om xi => ⟨tt,fun _ => #[],rfl,rfl,rfl⟩
  · exact segI (I := sgI jq q [c0,c1,c2,c3,c4,c5,c6,c7,c8] t .none (.int (Int.ofNat 8) tk) .none [c0,c1,c2,c3,c4,c5,c6,c7]) (chA8 w c0 c1 c2 c3 c4 c5 c6 c7 c8 t q tk 0) hh noIns fun nn tt om xi => ⟨tt,fun _ => #[],rfl,rfl,rfl⟩
  · omega
theorem chI_ok {t u k : Nat} {o : List Nat} (h : o.length = 9) (hk : k ≤ 8) : IOk theP w (MyK w.params) C (bI "str.__getitem__" [.str ⟨⟨o⟩⟩ t,.int (Int.ofNat k) u] (strR ⟨⟨[o.getD k 0]⟩⟩)) := by
  obtain ⟨c0,c1,c2,c3,c4,c5,c6,c7,c8,rfl⟩ := nine h
  rcases k with _ | _ | _ | _ | _ | _ | _ | _ | _ | k
  · exact pureI _ (chI0 w c0 c1 c2 c3 c4 c5 c6 c7 c8 t 0 u 0) hh
  · exact pureI _ (chI1 w c0 c1 c2 c3 c4 c5 c6 c7 c8 t 0 u 0) hh
  · exact pureI _ (chI2 w c0 c1 c2 c3 c4 c5 c6 c7 c8 t 0 u 0) hh
  · exact pureI _ (chI3 w c0 c1 c2 c3 c4 c5 c6 c7 c8 t 0 u 0) hh
  · exact pureI _ (chI4 w c0 c1 c2 c3 c4 c5 c6 c7 c8 t 0 u 0) hh
  · exact pureI _ (chI5 w c0 c1 c2 c3 c4 c5 c6 c7 c8 t 0 u 0) hh
  · exact pureI _ (chI6 w c0 c1 c2 c3 c4 c5 c6 c7 c8 t 0 u 0) hh
  · exact pureI _ (chI7 w c0 c1 c2 c3 c4 c5 c6 c7 c8 t 0 u 0) hh
  · exact pureI _ (chI8 w c0 c1 c2 c3 c4 c5 c6 c7 c8 t 0 u 0) hh
  · omega
theorem chB_ok {jq q t tk k : Nat} {o : List Nat} (h : o.length = 9) (hk : k ≤ 8) : IOk theP w (MyK w.params) C (sgI jq q o t (.int (Int.ofNat k + 1) tk) .none .none (o.drop (k + 1))) := by
  obtain ⟨c0,c1,c2,c3,c4,c5,c6,c7,c8,rfl⟩ := nine h
  rcases k with _ | _ | _ | _ | _ | _ | _ | _ | _ | k
  · exact segI (I := sgI jq q [c0,c1,c2,c3,c4,c5,c6,c7,c8] t (.int (Int.ofNat 0 + 1) tk) .none .none [c1,c2,c3,c4,c5,c6,c7,c8]) (chB0 w c0 c1 c2 c3 c4 c5 c6 c7 c8 t q tk 0) hh noIns fun nn tt om xi => ⟨tt,fun _ => #[],rfl,rfl,rfl⟩
  · exact segI (I := sgI jq q [c0,c1,c2,c3,c4,c5,c6,c7,c8] t (.int (Int.ofNat 1 + 1) tk) .none .none [c2,c3,c4,c5,c6,c7,c8]) (chB1 w c0 c1 c2 c3 c4 c5 c6 c7 c8 t q tk 0) hh noIns fun nn tt om xi => ⟨tt,fun _ => #[],rfl,rfl,rfl⟩
  · exact segI (I := sgI jq q [c0,c1,c2,c3,c4,c5,c6,c7,c8] t (.int (Int.ofNat 2 + 1) tk) .none .none [c3,c4,c5,c6,c7,c8]) (chB2 w c0 c1 c2 c3 c4 c5 c6 c7 c8 t q tk 0) hh noIns fun nn tt om xi => ⟨tt,fun _ => #[],rfl,rfl,rfl⟩
  · exact segI (I := sgI jq q [c0,c1,c2,c3,c4,c5,c6,c7,c8] t (.int (Int.ofNat 3 + 1) tk) .none .none [c4,c5,c6,c7,c8]) (chB3 w c0 c1 c2 c3 c4 c5 c6 c7 c8 t q tk 0) hh noIns fun nn tt om xi => ⟨tt,fun _ => #[],rfl,rfl,rfl⟩
  · exact segI (I := sgI jq q [c0,c1,c2,c3,c4,c5,c6,c7,c8] t (.int (Int.ofNat 4 + 1) tk) .none .none [c5,c6,c7,c8]) (chB4 w c0 c1 c2 c3 c4 c5 c6 c7 c8 t q tk 0) hh noIns fun nn tt om xi => ⟨tt,fun _ => #[],rfl,rfl,rfl⟩
  · exact segI (I := sgI jq q [c0,c1,c2,c3,c4,c5,c6,c7,c8] t (.int (Int.ofNat 5 + 1) tk) .none .none [c6,c7,c8]) (chB5 w c0 c1 c2 c3 c4 c5 c6 c7 c8 t q tk 0) hh noIns fun nn tt om xi => ⟨tt,fun _ => #[],rfl,rfl,rfl⟩
  · exact segI (I := sgI jq q [c0,c1,c2,c3,c4,c5,c6,c7,c8] t (.int (Int.ofNat 6 + 1) tk) .none .none [c7,c8]) (chB6 w c0 c1 c2 c3 c4 c5 c6 c7 c8 t q tk 0) hh noIns fun nn tt om xi => ⟨tt,fun _ => #[],rfl,rfl,rfl⟩
  · exact segI (I := sgI jq q [c0,c1,c2,c3,c4,c5,c6,c7,c8] t (.int (Int.ofNat 7 + 1) tk) .none .none [c8]) (chB7 w c0 c1 c2 c3 c4 c5 c6 c7 c8 t q tk 0) hh noIns fun nn tt om xi => ⟨tt,fun _ => #[],rfl,rfl,rfl⟩
  · exact segI (I := sgI jq q [c0,c1,c2,c3,c4,c5,c6,c7,c8] t (.int (Int.ofNat 8 + 1) tk) .none .none []) (chB8 w c0 c1 c2 c3 c4 c5 c6 c7 c8 t q tk 0) hh noIns fun nn tt om xi => ⟨tt,fun _ => #[],rfl,rfl,rfl⟩
  · omega
theorem chC_ok {jq q t tk tk2 lo hi : Nat} {o : List Nat} (h : o.length = 9) (hl : lo < hi) (hk : hi ≤ 8) : IOk theP w (MyK w.params) C (sgI jq q o t (.int (Int.ofNat lo + 1) tk) (.int (Int.ofNat hi) tk2) .none ((o.take hi).drop (lo + 1))) := by
  obtain ⟨c0,c1,c2,c3,c4,c5,c6,c7,c8,rfl⟩ := nine h
  rcases lo with _ | _ | _ | _ | _ | _ | _ | _ | lo
  · rcases hi with _ | _ | _ | _ | _ | _ | _ | _ | _ | hi
    · omega
    · exact segI (I := sgI jq q [c0,c1,c2,c3,c4,c5,c6,c7,c8] t (.int (Int.ofNat 0 + 1) tk) (.int (Int.ofNat 1) tk2) .none []) (chC01 w c0 c1 c2 c3 c4 c5 c6 c7 c8 t q tk tk2) hh noIns fun nn tt om xi => ⟨tt,fun _ => #[],rfl,rfl,rfl⟩
    · exact segI (I := sgI jq q [c0,c1,c2,c3,c4,c5,c6,c7,c8] t (.int (Int.ofNat 0 + 1) tk) (.int (Int.ofNat 2) tk2) .none [c1]) (chC02 w c0 c1 c2 c3 c4 c5 c6 c7 c8 t q tk tk2) hh noIns fun nn tt om xi => ⟨tt,fun _ => #[],rfl,rfl,rfl⟩
    · exact segI (I := sgI jq q [c0,c1,c2,c3,c4,c5,c6,c7,c8] t (.int (Int.ofNat 0 + 1) tk) (.int (Int.ofNat 3) tk2) .none [c1,c2]) (chC03 w c0 c1 c2 c3 c4 c5 c6 c7 c8 t q tk tk2) hh noIns fun nn tt om xi => ⟨tt,fun _ => #[],rfl,rfl,rfl⟩
    · exact segI (I := sgI jq q [c0,c1,c2,c3,c4,c5,c6,c7,c8] t (.int (Int.ofNat 0 + 1) tk) (.int (Int.ofNat 4) tk2) .none [c1,c2,c3]) (chC04 w c0 c1 c2 c3 c4 c5 c6 c7 c8 t q tk tk2) hh noIns fun nn tt om xi => ⟨tt,fun _ => #[],rfl,rfl,rfl⟩
    · exact segI (I := sgI jq q [c0,c1,c2,c3,c4,c5,c6,c7,c8] t (.int (Int.ofNat 0 + 1) tk) (.int (Int.ofNat 5) tk2) .none [c1,c2,c3,c4]) (chC05 w c0 c1 c2 c3 c4 c5 c6 c7 c8 t q tk tk2) hh noIns fun nn tt om xi => ⟨tt,fun _ => #[],rfl,rfl,rfl⟩
    · exact segI (I := sgI jq q [c0,c1,c2,c3,c4,c5,c6,c7,c8] t (.int (Int.ofNat 0 + 1) tk) (.int (Int.ofNat 6) tk2) .none [c1,c2,c3,c4,c5]) (chC06 w c0 c1 c2 c3 c4 c5 c6 c7 c8 t q tk tk2) hh noIns fun nn tt om xi => ⟨tt,fun _ => #[],rfl,rfl,rfl⟩
    · exact segI (I := sgI jq q [c0,c1,c2,c3,c4,c5,c6,c7,c8] t (.int (Int.ofNat 0 + 1) tk) (.int (Int.ofNat 7) tk2) .none [c1,c2,c3,c4,c5,c6]) (chC07 w c0 c1 c2 c3 c4 c5 c6 c7 c8 t q tk tk2) hh noIns fun nn tt om xi => ⟨tt,fun _ => #[],rfl,rfl,rfl⟩
    · exact segI (I := sgI jq q [c0,c1,c2,c3,c4,c5,c6,c7,c8] t (.int (Int.ofNat 0 + 1) tk) (.int (Int.ofNat 8) tk2) .none [c1,c2,c3,c4,c5,c6,c7]) (chC08 w c0 c1 c2 c3 c4 c5 c6 c7 c8 t q tk tk2) hh noIns fun nn tt om xi => ⟨tt,fun _ => #[],rfl,rfl,rfl⟩
    · omega
  · rcases hi with _ | _ | _ | _ | _ | _ | _ | _ | _ | hi
    · omega
    · omega
    · exact segI (I := sgI jq q [c0,c1,c2,c3,c4,c5,c6,c7,c8] t (.int (Int.ofNat 1 + 1) tk) (.int (Int.ofNat 2) tk2) .none []) (chC12 w c0 c1 c2 c3 c4 c5 c6 c7 c8 t q tk tk2) hh noIns fun nn tt om xi => ⟨tt,fun _ => #[],rfl,rfl,rfl⟩
    · exact segI (I := sgI jq q [c0,c1,c2,c3,c4,c5,c6,c7,c8] t (.int (Int.ofNat 1 + 1) tk) (.int (Int.ofNat 3) tk2) .none [c2]) (chC13 w c0 c1 c2 c3 c4 c5 c6 c7 c8 t q tk tk2) hh noIns fun nn tt om xi => ⟨tt,fun _ => #[],rfl,rfl,rfl⟩
    · exact segI (I := sgI jq q [c0,c1,c2,c3,c4,c5,c6,c7,c8] t (.int (Int.ofNat 1 + 1) tk) (.int (Int.ofNat 4) tk2) .none [c2,c3]) (chC14 w c0 c1 c2 c3 c4 c5 c6 c7 c8 t q tk tk2) hh noIns fun nn tt om xi => ⟨tt,fun _ => #[],rfl,rfl,rfl⟩
    · exact segI (I := sgI jq q [c0,c1,c2,c3,c4,c5,c6,c7,c8] t (.int (Int.ofNat 1 + 1) tk) (.int (Int.ofNat 5) tk2) .none [c2,c3,c4]) (chC15 w c0 c1 c2 c3 c4 c5 c6 c7 c8 t q tk tk2) hh noIns fun nn tt om xi => ⟨tt,fun _ => #[],rfl,rfl,rfl⟩
    · exact segI (I := sgI jq q [c0,c1,c2,c3,c4,c5,c6,c7,c8] t (.int (Int.ofNat 1 + 1) tk) (.int (Int.ofNat 6) tk2) .none [c2,c3,c4,c5]) (chC16 w c0 c1 c2 c3 c4 c5 c6 c7 c8 t q tk tk2) hh noIns fun nn tt om xi => ⟨tt,fun _ => #[],rfl,rfl,rfl⟩
    · exact segI (I := sgI jq q [c0,c1,c2,c3,c4,c5,c6,c7,c8] t (.int (Int.ofNat 1 + 1) tk) (.int (Int.ofNat 7) tk2) .none [c2,c3,c4,c5,c6]) (chC17 w c0 c1 c2 c3 c4 c5 c6 c7 c8 t q tk tk2) hh noIns fun nn tt om xi => ⟨tt,fun _ => #[],rfl,rfl,rfl⟩
    · exact segI (I := sgI jq q [c0,c1,c2,c3,c4,c5,c6,c7,c8] t (.int (Int.ofNat 1 + 1) tk) (.int (Int.ofNat 8) tk2) .none [c2,c3,c4,c5,c6,c7]) (chC18 w c0 c1 c2 c3 c4 c5 c6 c7 c8 t q tk tk2) hh noIns fun nn tt om xi => ⟨tt,fun _ => #[],rfl,rfl,rfl⟩
    · omega
  · rcases hi with _ | _ | _ | _ | _ | _ | _ | _ | _ | hi
    · omega
    · omega
    · omega
    · exact segI (I := sgI jq q [c0,c1,c2,c3,c4,c5,c6,c7,c8] t (.int (Int.ofNat 2 + 1) tk) (.int (Int.ofNat 3) tk2) .none []) (chC23 w c0 c1 c2 c3 c4 c5 c6 c7 c8 t q tk tk2) hh noIns fun nn tt om xi => ⟨tt,fun _ => #[],rfl,rfl,rfl⟩
    · exact segI (I := sgI jq q [c0,c1,c2,c3,c4,c5,c6,c7,c8] t (.int (Int.ofNat 2 + 1) tk) (.int (Int.ofNat 4) tk2) .none [c3]) (chC24 w c0 c1 c2 c3 c4 c5 c6 c7 c8 t q tk tk2) hh noIns fun nn tt om xi => ⟨tt,fun _ => #[],rfl,rfl,rfl⟩
    · exact segI (I := sgI jq q [c0,c1,c2,c3,c4,c5,c6,c7,c8] t (.int (Int.ofNat 2 + 1) tk) (.int (Int.ofNat 5) tk2) .none [c3,c4]) (chC25 w c0 c1 c2 c3 c4 c5 c6 c7 c8 t q tk tk2) hh noIns fun nn tt om xi => ⟨tt,fun _ => #[],rfl,rfl,rfl⟩
    · exact segI (I := sgI jq q [c0,c1,c2,c3,c4,c5,c6,c7,c8] t (.int (Int.ofNat 2 + 1) tk) (.int (Int.ofNat 6) tk2) .none [c3,c4,c5]) (chC26 w c0 c1 c2 c3 c4 c5 c6 c7 c8 t q tk tk2) hh noIns fun nn tt om xi => ⟨tt,fun _ => #[],rfl,rfl,rfl⟩
    · exact segI (I := sgI jq q [c0,c1,c2,c3,c4,c5,c6,c7,c8] t (.int (Int.ofNat 2 + 1) tk) (.int (Int.ofNat 7) tk2) .none [c3,c4,c5,c6]) (chC27 w c0 c1 c2 c3 c4 c5 c6 c7 c8 t q tk tk2) hh noIns fun nn tt om xi => ⟨tt,fun _ => #[],rfl,rfl,rfl⟩
    · exact segI (I := sgI jq q [c0,c1,c2,c3,c4,c5,c6,c7,c8] t (.int (Int.ofNat 2 + 1) tk) (.int (Int.ofNat 8) tk2) .none [c3,c4,c5,c6,c7]) (chC28 w c0 c1 c2 c3 c4 c5 c6 c7 c8 t q tk tk2) hh noIns fun nn tt om xi => ⟨tt,fun _ => #[],rfl,rfl,rfl⟩
    · omega
  · rcases hi with _ | _ | _ | _ | _ | _ | _ | _ | _ | hi
    · omega
    · omega
    · omega
    · omega
    · exact segI (I := sgI jq q [c0,c1,c2,c3,c4,c5,c6,c7,c8] t (.int (Int.ofNat 3 + 1) tk) (.int (Int.ofNat 4) tk2) .none []) (chC34 w c0 c1 c2 c3 c4 c5 c6 c7 c8 t q tk tk2) hh noIns fun nn tt om xi => ⟨tt,fun _ => #[],rfl,rfl,rfl⟩
    · exact segI (I := sgI jq q [c0,c1,c2,c3,c4,c5,c6,c7,c8] t (.int (Int.ofNat 3 + 1) tk) (.int (Int.ofNat 5) tk2) .none [c4]) (chC35 w c0 c1 c2 c3 c4 c5 c6 c7 c8 t q tk tk2) hh noIns fun nn tt om xi => ⟨tt,fun _ => #[],rfl,rfl,rfl⟩
    · exact segI (I := sgI jq q [c0,c1,c2,c3,c4,c5,c6,c7,c8] t (.int (Int.ofNat 3 + 1) tk) (.int (Int.ofNat 6) tk2) .none [c4,c5]) (chC36 w c0 c1 c2 c3 c4 c5 c6 c7 c8 t q tk tk2) hh noIns fun nn tt om xi => ⟨tt,fun _ => #[],rfl,rfl,rfl⟩
    · exact segI (I := sgI jq q [c0,c1,c2,c3,c4,c5,c6,c7,c8] t (.int (Int.ofNat 3 + 1) tk) (.int (Int.ofNat 7) tk2) .none [c4,c5,c6]) (chC37 w c0 c1 c2 c3 c4 c5 c6 c7 c8 t q tk tk2) hh noIns fun nn tt om xi => ⟨tt,fun _ => #[],rfl,rfl,rfl⟩
    · exact segI (I := sgI jq q [c0,c1,c2,c3,c4,c5,c6,c7,c8] t (.int (Int.ofNat 3 + 1) tk) (.int (Int.ofNat 8) tk2) .none [c4,c5,c6,c7]) (chC38 w c0 c1 c2 c3 c4 c5 c6 c7 c8 t q tk tk2) hh noIns fun nn tt om xi => ⟨tt,fun _ => #[],rfl,rfl,rfl⟩
    · omega
  · rcases hi with _ | _ | _ | _ | _ | _ | _ | _ | _ | hi
    · omega
    · omega
    · omega
    · omega
    · omega
    · exact segI (I := sgI jq q [c0,c1,c2,c3,c4,c5,c6,c7,c8] t (.int (Int.ofNat 4 + 1) tk) (.int (Int.ofNat 5) tk2) .none []) (chC45 w c0 c1 c2 c3 c4 c5 c6 c7 c8 t q tk tk2) hh noIns fun nn tt om xi => ⟨tt,fun _ => #[],rfl,rfl,rfl⟩
    · exact segI (I := sgI jq q [c0,c1,c2,c3,c4,c5,c6,c7,c8] t (.int (Int.ofNat 4 + 1) tk) (.int (Int.ofNat 6) tk2) .none [c5]) (chC46 w c0 c1 c2 c3 c4 c5 c6 c7 c8 t q tk tk2) hh noIns fun nn tt om xi => ⟨tt,fun _ => #[],rfl,rfl,rfl⟩
    · exact segI (I := sgI jq q [c0,c1,c2,c3,c4,c5,c6,c7,c8] t (.int (Int.ofNat 4 + 1) tk) (.int (Int.ofNat 7) tk2) .none [c5,c6]) (chC47 w c0 c1 c2 c3 c4 c5 c6 c7 c8 t q tk tk2) hh noIns fun nn tt om xi => ⟨tt,fun _ => #[],rfl,rfl,rfl⟩
    · exact segI (I := sgI jq q [c0,c1,c2,c3,c4,c5,c6,c7,c8] t (.int (Int.ofNat 4 + 1) tk) (.int (Int.ofNat 8) tk2) .none [c5,c6,c7]) (chC48 w c0 c1 c2 c3 c4 c5 c6 c7 c8 t q tk tk2) hh noIns fun nn tt om xi => ⟨tt,fun _ => #[],rfl,rfl,rfl⟩
    · omega
  · rcases hi with _ | _ | _ | _ | _ | _ | _ | _ | _ | hi
    · omega
    · omega
    · omega
    · omega
    · omega
    · omega
    · exact segI (I := sgI jq q [c0,c1,c2,c3,c4,c5,c6,c7,c8] t (.int (Int.ofNat 5 + 1) tk) (.int (Int.ofNat 6) tk2) .none []) (chC56 w c0 c1 c2 c3 c4 c5 c6 c7 c8 t q tk tk2) hh noIns fun nn tt om xi => ⟨tt,fun _ => #[],rfl,rfl,rfl⟩
    · exact segI (I := sgI jq q [c0,c1,c2,c3,c4,c5,c6,c7,c8] t (.int (Int.ofNat 5 + 1) tk) (.int (Int.ofNat 7) tk2) .none [c6]) (chC57 w c0 c1 c2 c3 c4 c5 c6 c7 c8 t q tk tk2) hh noIns fun nn tt om xi => ⟨tt,fun _ => #[],rfl,rfl,rfl⟩
    · exact segI (I := sgI jq q [c0,c1,c2,c3,c4,c5,c6,c7,c8] t (.int (Int.ofNat 5 + 1) tk) (.int (Int.ofNat 8) tk2) .none [c6,c7]) (chC58 w c0 c1 c2 c3 c4 c5 c6 c7 c8 t q tk tk2) hh noIns fun nn tt om xi => ⟨tt,fun _ => #[],rfl,rfl,rfl⟩
    · omega
  · rcases hi with _ | _ | _ | _ | _ | _ | _ | _ | _ | hi
    · omega
    · omega
    · omega
    · omega
    · omega
    · omega
    · omega
    · exact segI (I := sgI jq q [c0,c1,c2,c3,c4,c5,c6,c7,c8] t (.int (Int.ofNat 6 + 1) tk) (.int (Int.ofNat 7) tk2) .none []) (chC67 w c0 c1 c2 c3 c4 c5 c6 c7 c8 t q tk tk2) hh noIns fun nn tt om xi => ⟨tt,fun _ => #[],rfl,rfl,rfl⟩
    · exact segI (I := sgI jq q [c0,c1,c2,c3,c4,c5,c6,c7,c8] t (.int (Int.ofNat 6 + 1) tk) (.int (Int.ofNat 8) tk2) .none [c7]) (chC68 w c0 c1 c2 c3 c4 c5 c6 c7 c8 t q tk tk2) hh noIns fun nn tt om xi => ⟨tt,fun _ => #[],rfl,rfl,rfl⟩
    · omega
  · rcases hi with _ | _ | _ | _ | _ | _ | _ | _ | _ | hi
    · omega
    · omega
    · omega
    · omega
    · omega
    · omega
    · omega
    · omega
    · exact segI (I := sgI jq q [c0,c1,c2,c3,c4,c5,c6,c7,c8] t (.int (Int.ofNat 7 + 1) tk) (.int (Int.ofNat 8) tk2) .none []) (chC78 w c0 c1 c2 c3 c4 c5 c6 c7 c8 t q tk tk2) hh noIns fun nn tt om xi => ⟨tt,fun _ => #[],rfl,rfl,rfl⟩
    · omega
  · omega
end
noncomputable def swp (o : List Nat) (s : Nat) : List Nat := match decide (min (s / 9) (s % 9) < max (s / 9) (s % 9)) with
  | true => o.take (min (s / 9) (s % 9)) ++ [o.getD (max (s / 9) (s % 9)) 0] ++ (o.take (max (s / 9) (s % 9))).drop (min (s / 9) (s % 9) + 1) ++ [o.getD (min (s / 9) (s % 9)) 0] ++ o.drop (max (s / 9) (s % 9) + 1)
  | false => o
noncomputable def chgF : List Nat → List Nat → List Nat
  | o,[] => o
  | o,s :: ss => chgF (swp o s) ss
theorem swp_length {o : List Nat} {s : Nat} (h : o.length = 9) (hs : s < 81) : (swp o s).length = 9 := by
  unfold swp
  split
  · rename_i e
    have e := of_decide_eq_true e
    simp only [List.length_append,List.length_take,List.length_drop,List.length_cons,List.length_nil,h]
    have : max (s / 9) (s % 9) ≤ 8 := by omega
    omega
  · exact h
theorem iv_get : ∀ (ns : List Int) (t : Nat → Nat) (i : Nat),(iv ns t)[i]? = (ns[i]?).map fun n => .int n (t i)
  | [],_,_ => rfl
  | _ :: _,_,0 => rfl
  | _ :: ns,t,i + 1 => by
    show (iv ns fun i => t (i + 1))[i]? = _
    rw [iv_get ns _ i]
    rfl
noncomputable def frC (o : List Nat) (to ls : Nat) (fr : Obj) : Prop := (∃ H T,fr = cf2 H T o to ls) ∨ (∃ H T v1 v2 v3,fr = cf5 H T o to ls v1 v2 v3)
theorem loopC1 (w : World) (b c : Bool) {A : Around} {g : Heap} {A0 : List Addr} {R : Result → Shared → Prop} (hA : AB 839 6900 A) (L it ls n : Nat) (sw : List Nat) (ts : Nat → Nat) (hsl : sw.length ≤ 8) (h81 : ∀ s ∈ sw,s < 81) :
    ∀ (m i : Nat) (o : List Nat) (to : Nat) (fr : Obj) (sh : Shared),i + m = sw.length → o.length = 9 → frC o to ls fr →
    Rp (MyK (wf w b c).params) g A0 sh.heap [(L,fr),(ls,lstO (iv (sw.map Int.ofNat) ts) n),(it,litO ls i)] →
    (∀ to' fr' h' tk',frC (chgF o (sw.drop i)) to' ls fr' → Rp (MyK (wf w b c).params) g A0 h' [(L,fr'),(ls,lstO (iv (sw.map Int.ofNat) ts) n)] → R (.ok .next) { sh with heap := h',toks := tk' }) →
    codeAny (MM (wf w b c)) A (loopC (nthS (wf w b c).params 211 0) (.ref it) (envAt (wf w b c).params 211 L)) R sh := by
  intro m
  induction m with
  | zero =>
    intro i o to fr sh hi ho hfr D hR
    refine codeTurn rfl ?_
    have e : sw.drop i = [] := List.drop_eq_nil_of_le (by omega)
    have hlen : (iv (sw.map Int.ofNat) ts).length = i := by rw [iv_length,List.length_map]; omega
    refine fragQ [(L,fr)] D (List.perm_append_comm (l₁ := [_,_]) (l₂ := [_])) (cx (wf w b c) L to ls n it i 0 0 o (iv (sw.map Int.ofNat) ts) .none .none .none 0 0 0 0 [] [] [] 0 0 (fun _ => 0) (fun _ => 0)) AB.hh hA (okIL _ fun nn tt om xi => oneIns (lend_ok AB.hh hlen (by omega)) nilIns) ?_
    intro nn tt om xi h' tk' D'
    refine ⟨by kernel_rfl,codeBlk (hR to fr h' tk' (by rw [e]; exact hfr) ?_)⟩
    exact D'.perm (List.Perm.swap _ _ _)
  | succ m ih =>
    intro i o to fr sh hi ho hfr D hR
    refine codeTurn rfl ?_
    have hlt : i < sw.length := by omega
    obtain ⟨sv,hsv⟩ : ∃ sv,sw[i]? = some sv := ⟨_,List.getElem?_eq_getElem hlt⟩
    have hdrop : sw.drop i = sv :: sw.drop (i + 1) := by
      rw [List.drop_eq_getElem_cons hlt,(List.getElem?_eq_some_iff.mp hsv).2]
    have hs81 : sv < 81 := h81 _ (List.mem_of_getElem? hsv)
    have hget : (iv (sw.map Int.ofNat) ts)[i]? = some (.int (Int.ofNat sv) (ts i)) := by
      rw [iv_get,List.getElem?_map,hsv]; rfl
    have hdv : ∀ t u,IOk theP (wf w b c) (MyK (wf w b c).params) (AB 839 6900) (bI "int.__floordiv__" [.int (Int.ofNat sv) t,.int 9 u] (intR (Int.ofNat (sv / 9)))) := fun t u => by
      have f : Int.fdiv (Int.ofNat sv) 9 = Int.ofNat (sv / 9) := (Int.ofNat_fdiv sv 9).symm
      rw [← f]; exact pureI _ (idiv9 _ _ t u) AB.hh
    have hmd : ∀ t u,IOk theP (wf w b c) (MyK (wf w b c).params) (AB 839 6900) (bI "int.__mod__" [.int (Int.ofNat sv) t,.int 9 u] (intR (Int.ofNat (sv % 9)))) := fun t u => imod_ok (k := 8) AB.hh (Int.ofNat_fmod _ _).symm
    have hst : ∀ jl l ta tb,IOk theP (wf w b c) (MyK (wf w b c).params) (AB 839 6900) (sort2I jl l (Int.ofNat (sv / 9)) ta (Int.ofNat (sv % 9)) tb (Int.ofNat (min (sv / 9) (sv % 9))) (Int.ofNat (max (sv / 9) (sv % 9)))) := fun jl l ta tb => by
      refine sort2_ok ?_ ?_
      · rcases Nat.le_total (sv / 9) (sv % 9) with z | z
        · rw [Nat.min_eq_left z,Nat.max_eq_right z]
        · rw [Nat.min_eq_right z,Nat.max_eq_left z]; exact List.Perm.swap _ _ _
      · exact Int.ofNat_le.mpr (by omega)
    have hm8 : max (sv / 9) (sv % 9) ≤ 8 := by omega
    have step : ∀ (o' : List Nat) to' fr' h' tk',swp o sv = o' → frC o' to' ls fr' → Rp (MyK (wf w b c).params) g A0 h' [(L,fr'),(ls,lstO (iv (sw.map Int.ofNat) ts) n),(it,litO ls (i + 1))] →
        codeAny (MM (wf w b c)) A (loopC (nthS (wf w b c).params 211 0) (.ref it) (envAt (wf w b c).params 211 L)) R { sh with heap := h',toks := tk' } := by
      intro o' to' fr' h' tk' eo hfr' D'
      refine ih (i + 1) o' to' fr' { sh with heap := h',toks := tk' } (by omega) (by rw [← eo]; exact swp_length ho hs81) hfr' D' ?_
      intro to2 fr2 h2 tk2 hfr2 D2
      refine hR to2 fr2 h2 tk2 ?_ D2
      rw [hdrop]
      show frC (chgF (swp o sv) _) _ _ _
      rw [eo]; exact hfr2
    cases hlo : decide (min (sv / 9) (sv % 9) < max (sv / 9) (sv % 9)) with
    | true =>
      have eo : swp o sv = o.take (min (sv / 9) (sv % 9)) ++ [o.getD (max (sv / 9) (sv % 9)) 0] ++ (o.take (max (sv / 9) (sv % 9))).drop (min (sv / 9) (sv % 9) + 1) ++ [o.getD (min (sv / 9) (sv % 9)) 0] ++ o.drop (max (sv / 9) (sv % 9) + 1) := by
        unfold swp; rw [hlo]
      have hlt' : decide (Int.ofNat (min (sv / 9) (sv % 9)) < Int.ofNat (max (sv / 9) (sv % 9))) = true := decide_eq_true (Int.ofNat_lt.mpr (of_decide_eq_true hlo))
      have hlo' := of_decide_eq_true hlo
      rcases hfr with ⟨H,T,rfl⟩ | ⟨H,T,v1,v2,v3,rfl⟩
      · refine fragQ [] D (List.Perm.refl _) (ctAa w L to ls n it i sv (ts i) o (iv (sw.map Int.ofNat) ts) .none .none .none (sv / 9) (sv % 9) (min (sv / 9) (sv % 9)) (max (sv / 9) (sv % 9)) (o.take (min (sv / 9) (sv % 9))) ((o.take (max (sv / 9) (sv % 9))).drop ((min (sv / 9) (sv % 9)) + 1)) (o.drop ((max (sv / 9) (sv % 9)) + 1)) (o.getD (max (sv / 9) (sv % 9)) 0) (o.getD (min (sv / 9) (sv % 9)) 0) H T b c) AB.hh hA (okIL _ fun nn tt om xi => oneIns (lnext_ok AB.hh hget (by omega)) (oneIns (hdv _ _) (oneIns (hmd _ _) (oneIns (hst _ _ _ _) (oneIns (ilt_ok AB.hh hlt') (oneIns (chA_ok AB.hh ho (by omega)) (oneIns (chI_ok AB.hh ho hm8) (oneIns (saddG_ok (by simp only [List.length_append,List.length_take,List.length_drop,List.length_cons,List.length_nil,ho]; omega)) (oneIns (iadd_ok AB.hh rfl) (oneIns (chC_ok AB.hh ho hlo' hm8) (oneIns (saddG_ok (by simp only [List.length_append,List.length_take,List.length_drop,List.length_cons,List.length_nil,ho]; omega)) (oneIns (chI_ok AB.hh ho (by omega)) (oneIns (saddG_ok (by simp only [List.length_append,List.length_take,List.length_drop,List.length_cons,List.length_nil,ho]; omega)) (oneIns (iadd_ok AB.hh rfl) (oneIns (chB_ok AB.hh ho hm8) (oneIns (saddG_ok (by simp only [List.length_append,List.length_take,List.length_drop,List.length_cons,List.length_nil,ho]; omega)) nilIns)))))))))))))))) ?_
        intro nn tt om xi h' tk' D'
        exact ⟨by kernel_rfl,step _ _ _ h' tk' eo (.inr ⟨_,_,_,_,_,rfl⟩) D'⟩
      · refine fragQ [] D (List.Perm.refl _) (ctAb w L to ls n it i sv (ts i) o (iv (sw.map Int.ofNat) ts) v1 v2 v3 (sv / 9) (sv % 9) (min (sv / 9) (sv % 9)) (max (sv / 9) (sv % 9)) (o.take (min (sv / 9) (sv % 9))) ((o.take (max (sv / 9) (sv % 9))).drop ((min (sv / 9) (sv % 9)) + 1)) (o.drop ((max (sv / 9) (sv % 9)) + 1)) (o.getD (max (sv / 9) (sv % 9)) 0) (o.getD (min (sv / 9) (sv % 9)) 0) H T b c) AB.hh hA (okIL _ fun nn tt om xi => oneIns (lnext_ok AB.hh hget (by omega)) (oneIns (hdv _ _) (oneIns (hmd _ _) (oneIns (hst _ _ _ _) (oneIns (ilt_ok AB.hh hlt') (oneIns (chA_ok AB.hh ho (by omega)) (oneIns (chI_ok AB.hh ho hm8) (oneIns (saddG_ok (by simp only [List.length_append,List.length_take,List.length_drop,List.length_cons,List.length_nil,ho]; omega)) (oneIns (iadd_ok AB.hh rfl) (oneIns (chC_ok AB.hh ho hlo' hm8) (oneIns (saddG_ok (by simp only [List.length_append,List.length_take,List.length_drop,List.length_cons,List.length_nil,ho]; omega)) (oneIns (chI_ok AB.hh ho (by omega)) (oneIns (saddG_ok (by simp only [List.length_append,List.length_take,List.length_drop,List.length_cons,List.length_nil,ho]; omega)) (oneIns (iadd_ok AB.hh rfl) (oneIns (chB_ok AB.hh ho hm8) (oneIns (saddG_ok (by simp only [List.length_append,List.length_take,List.length_drop,List.length_cons,List.length_nil,ho]; omega)) nilIns)))))))))))))))) ?_
        intro nn tt om xi h' tk' D'
        exact ⟨by kernel_rfl,step _ _ _ h' tk' eo (.inr ⟨_,_,_,_,_,rfl⟩) D'⟩
    | false =>
      have eo : swp o sv = o := by unfold swp; rw [hlo]
      have hlt' : decide (Int.ofNat (min (sv / 9) (sv % 9)) < Int.ofNat (max (sv / 9) (sv % 9))) = false := decide_eq_false fun z => of_decide_eq_false hlo (Int.ofNat_lt.mp z)
      rcases hfr with ⟨H,T,rfl⟩ | ⟨H,T,v1,v2,v3,rfl⟩
      · refine fragQ [] D (List.Perm.refl _) (ctBa w L to ls n it i sv (ts i) o (iv (sw.map Int.ofNat) ts) .none .none .none (sv / 9) (sv % 9) (min (sv / 9) (sv % 9)) (max (sv / 9) (sv % 9)) (o.take (min (sv / 9) (sv % 9))) ((o.take (max (sv / 9) (sv % 9))).drop ((min (sv / 9) (sv % 9)) + 1)) (o.drop ((max (sv / 9) (sv % 9)) + 1)) (o.getD (max (sv / 9) (sv % 9)) 0) (o.getD (min (sv / 9) (sv % 9)) 0) H T b c) AB.hh hA (okIL _ fun nn tt om xi => oneIns (lnext_ok AB.hh hget (by omega)) (oneIns (hdv _ _) (oneIns (hmd _ _) (oneIns (hst _ _ _ _) (oneIns (ilt_ok AB.hh hlt') nilIns))))) ?_
        intro nn tt om xi h' tk' D'
        exact ⟨by kernel_rfl,step _ _ _ h' tk' eo (.inr ⟨_,_,_,_,_,rfl⟩) D'⟩
      · refine fragQ [] D (List.Perm.refl _) (ctBb w L to ls n it i sv (ts i) o (iv (sw.map Int.ofNat) ts) v1 v2 v3 (sv / 9) (sv % 9) (min (sv / 9) (sv % 9)) (max (sv / 9) (sv % 9)) (o.take (min (sv / 9) (sv % 9))) ((o.take (max (sv / 9) (sv % 9))).drop ((min (sv / 9) (sv % 9)) + 1)) (o.drop ((max (sv / 9) (sv % 9)) + 1)) (o.getD (max (sv / 9) (sv % 9)) 0) (o.getD (min (sv / 9) (sv % 9)) 0) H T b c) AB.hh hA (okIL _ fun nn tt om xi => oneIns (lnext_ok AB.hh hget (by omega)) (oneIns (hdv _ _) (oneIns (hmd _ _) (oneIns (hst _ _ _ _) (oneIns (ilt_ok AB.hh hlt') nilIns))))) ?_
        intro nn tt om xi h' tk' D'
        exact ⟨by kernel_rfl,step _ _ _ h' tk' eo (.inr ⟨_,_,_,_,_,rfl⟩) D'⟩
theorem fn211 (P : Params) : fnOk P 211 := ⟨_,_,_,_,_,rfl,rfl,rfl,rfl,rfl,rfl,rfl⟩
theorem body211 (P : Params) : bodyOf P 211 = [nthS P 211 0,nthS P 211 1] := rfl
theorem for211 (P : Params) : nthS P 211 0 = .For (fT (nthS P 211 0)) (fI (nthS P 211 0)) (fB (nthS P 211 0)) (fO (nthS P 211 0)) (fP (nthS P 211 0)) := rfl
noncomputable def chgI (jl : Nat) (o : List Nat) (to ls : Nat) (sw : List Nat) (ts : Nat → Nat) (n : Nat) : Inst := ⟨.call (.ref 211) ⟨[.str ⟨⟨o⟩⟩ to,.ref ls],[]⟩,[(jl,ls,lstO (iv (sw.map Int.ofNat) ts) n)],fun ω _ => .ok (.ret (.str ⟨⟨chgF o sw⟩⟩ (ω 0))),fun _ _ => [lstO (iv (sw.map Int.ofNat) ts) n],fun _ _ => []⟩
theorem chg_ok (w : World) (b c : Bool) (jl : Nat) (o : List Nat) (to ls : Nat) (sw : List Nat) (ts : Nat → Nat) (n : Nat) (ho : o.length = 9) (hsl : sw.length ≤ 8) (h81 : ∀ s ∈ sw,s < 81) : IOk theP (wf w b c) (MyK (wf w b c).params) (AB 790 6000) (chgI jl o to ls sw ts n) := by
  intro A s R hA hK hn hd hof hlo hR
  have D := Rp.start _ hK hn hd hof hlo
  refine x_call ?_ (by intro z; cases z)
  refine enterFn 211 60 _ [.str ⟨⟨o⟩⟩ to,.ref ls] [("order",.str ⟨⟨o⟩⟩ to),("swaps",.ref ls)] _ (fn211 _) (by kernel_rfl) hA.1 (limit_ok (Nat.le_trans hA.2.1 (by decide))) D (fun nn tt om xi ps => n211 (wf w b c) o to ls nn tt om xi ps) ?_
  intro L T h1 k1 D1
  have hA' : AB 791 6003 ((A.mark none).deeper (envAt (wf w b c).params 211 L)) := AB.deep hA
  refine ks_codeAny_funcAt (wpAt_of_wpAny ?_)
  rw [body211]
  refine wpAny_execs_cons (forStmt (for211 _) ?_)
  refine fragQ [] D1 (List.Perm.swap _ _ _) (c0 w L to ls n o (iv (sw.map Int.ofNat) ts) _ _ b c) AB.hh hA' noIns ?_
  intro nn tt om xi h2 k2 D2
  refine loopC1 w b c (hA'.mono (by decide) (by decide)) L (nn 0) ls n sw ts hsl h81 sw.length 0 o to _ _ (Nat.zero_add _) ho (.inl ⟨_,_,rfl⟩) D2 ?_
  intro to' fr' h3 k3 hfr' D3
  rw [List.drop_zero] at hfr'
  refine wpAny_execs_cons ?_
  rcases hfr' with ⟨H,T,rfl⟩ | ⟨H,T,v1,v2,v3,rfl⟩
  · refine fragQ [(ls,lstO (iv (sw.map Int.ofNat) ts) n)] D3 (List.Perm.refl _) (c1a (wf w b c) L to' ls _ H T) AB.hh hA' noIns ?_
    intro _ _ _ _ h4 k4 D4
    exact wpAny_pure (hR (fun _ => to') (fun _ => #[]) h4 k4 rfl (Eff.ofApp (nw := []) D4 rfl))
  · refine fragQ [(ls,lstO (iv (sw.map Int.ofNat) ts) n)] D3 (List.Perm.refl _) (c1b (wf w b c) L to' ls _ v1 v2 v3 H T) AB.hh hA' noIns ?_
    intro _ _ _ _ h4 k4 D4
    exact wpAny_pure (hR (fun _ => to') (fun _ => #[]) h4 k4 rfl (Eff.ofApp (nw := []) D4 rfl))
theorem Eff.one {g h' : Heap} {a : Addr} {o o' : Obj} (hs : Heap.SameBut a g h') (ho' : h'.get? a = some o') : Eff g h' [(a,o')] [] :=
  ⟨fun p hp => by rw [List.mem_singleton.mp hp]; exact ho',fun p hp => (nomatch hp),List.nodup_nil,fun b o hb hn => by
    have : b ≠ a := fun e => hn (by rw [e]; simp)
    exact (hs.2 b this).trans hb⟩
noncomputable def lappI (jl l : Nat) (vs : List Value) (n : Nat) (x : Value) : Inst := ⟨.call (.builtin "list.append") ⟨[.ref l,x],[]⟩,[(jl,l,lstO vs n)],fun ω _ => .ok (.ret .none),fun _ _ => [lstO (vs ++ [x]) (n + 1)],fun _ _ => []⟩
theorem lapp_ok {w : World} {C : Around → Prop} {jl l : Nat} {vs : List Value} {n : Nat} {x : Value} (h : vs.length ≤ 100) : IOk theP w (MyK w.params) C (lappI jl l vs n x) := by
  intro A s R hA hK hn hd ho hlo hR
  have h0 : s.heap.get? l = some (lstO vs n) := hn _ (.head _)
  refine callI_of (append_at h0 (fun h' hs ho' => ?_) ?_)
  · refine hR (fun _ => 0) (fun _ => #[]) h' s.toks rfl (Eff.one (o := lstO vs n) hs ?_)
    rw [ho']
    show some (Obj.mk _ _ (Data.seq (vs.toArray.push x) _) _) = _
    rw [List.push_toArray]
  · rw [List.size_toArray,sizeLine_eq]; omega
noncomputable def lslI (jl jq ls q : Nat) (vs : List Value) (n : Nat) (vl vu : Value) (r : List Value) : Inst := ⟨.call (.builtin "list.__getitem__") ⟨[.ref ls,.ref q],[]⟩,[(jl,ls,lstO vs n),(jq,q,slcO vl vu .none)],fun ω _ => .ok (.ret (.ref (ω 0))),fun _ _ => [lstO vs n,slcO vl vu .none],fun ω _ => [(ω 0,lstO r 0)]⟩
theorem lsl_ok {w : World} {C : Around → Prop} {jl jq ls q : Nat} {vs r : List Value} {n : Nat} {vl vu : Value} {lo hi : Option Int} (pl : IsPart vl lo) (pu : IsPart vu hi) (hr : slicePick vs.toArray lo hi none = r.toArray) (hv : vs.length ≤ 1000) : IOk theP w (MyK w.params) C (lslI jl jq ls q vs n vl vu r) := by
  intro A s R hA hK hn hd ho hlo hR
  have h0 : s.heap.get? ls = some (lstO vs n) := hn _ (.head _)
  have h1 : s.heap.get? q = some (slcO vl vu .none) := hn _ (.tail _ (.head _))
  have hT : s.TypeIs (.ref q) "slice" := ⟨_,h1,rfl⟩
  have hL : s.TypeIs (.ref ls) "list" := ⟨_,h0,rfl⟩
  have hsz : 219 ≤ s.heap.objs.size := bigK w s.heap hK
  refine callI_of (wpAny_call_entry slot_list_getitem hL entry_list_getitem ?_ (args_list_getitem _ _))
  show wpAny _ _ (Builtin.List.listSubscript? (.ref q) >>= _) _ _ s
  unfold Builtin.List.listSubscript?
  refine wpAny_bind (wpAny_bind (wpAny_specialOf hT slice_no_index ?_))
  simp only [Option.isNone_none,if_true]
  refine wpAny_pure ?_
  show wpAny _ _ (typeOf (.ref q) >>= _) _ _ s
  refine wpAny_bind (wpAny_typeOf hT ?_)
  rw [if_neg (by decide),listSliceParts_eq]
  refine wpAny_bind (wpAny_bind (wpAny_field h1 rfl (x := .none) rfl (wpAny_bind (wpAny_listPart .none ?_))))
  rw [if_neg (by exact Bool.false_ne_true)]
  refine wpAny_bind (wpAny_field h1 rfl (x := vl) rfl (wpAny_bind (wpAny_listPart pl ?_)))
  refine wpAny_bind (wpAny_field h1 rfl (x := vu) rfl (wpAny_bind (wpAny_listPart pu (wpAny_pure ?_))))
  refine wpAny_bind (listItems_at h0 rfl ?_)
  refine wpAny_bind (wpAny_of_eq (sliceIndices_raw lo hi none _ (by simp)) ?_)
  refine wpAny_bind (wpAny_newObj_type (wpAny_pure ⟨_,rfl,?_⟩) (Nat.le_trans (slicePick_size_le vs.toArray lo hi none) (by rw [List.size_toArray,sizeLine_eq]; omega)))
  refine hR (fun _ => s.heap.objs.size) (fun _ => #[]) _ s.toks rfl ⟨fun p hp => ?_,fun p hp => ?_,by simp [lslI],fun b o hb _ => Heap.get?_push_of_some _ hb⟩
  · rcases List.mem_cons.mp hp with e | hp
    · rw [e]; exact Heap.get?_push_of_some _ h0
    · rw [List.mem_singleton.mp hp]; exact Heap.get?_push_of_some _ h1
  · rw [List.mem_singleton.mp hp]
    refine ⟨?_,Heap.get?_none_of_le (Nat.le_refl _),hsz⟩
    show (s.heap.push { cls := .type "list",data := .seq (slicePick vs.toArray lo hi none) }).get? s.heap.objs.size = some (lstO r 0)
    rw [hr]
    exact Heap.get?_push_size _ rfl
noncomputable abbrev df (H : Nat → Int) (T : Nat → Nat) (s : Nat) (es : List DictEntry) (n : Nat) : Obj := frO (fe H T 0 "script" (.ref s) :: es) n #[]
noncomputable abbrev enO (a : Value) (it : Nat) (i : Int) (x : Value) : Obj := ⟨.type "enumerate",none,.fields #[a,.bool false,.ref it,rawInt i,.none,x],#[]⟩
noncomputable def fbody (st : Stmt) (env : Env) : Sem Flow := match st with | .For _ _ b _ _ => execs b env | _ => pure .next
noncomputable def fasg (st : Stmt) (env : Env) (v : Value) : Sem Unit := match st with | .For t _ _ _ _ => assign t env v | _ => pure ()
theorem n171 (w:World) (s:Nat) (nn tt om xi ps):Ends (go w 60 (nfe w.params 171 [("script",.ref s)]) [1,1] ([]) .nil nn tt om xi ps) ([0]) (.ok (envAt w.params 171 (nn 0))) ([(nn 0,df (fun i=>hs w.params "script") (fun i=>tt 0) s [] 1)]) := by trivial
theorem d0 (w:World) (L s:Nat) (H:NI) (T:NN) (nn tt om xi ps):Ends (go w 60 (exec (nthS w.params 171 0) (envAt w.params 171 L)) [1,1] ([(L,df H T s [] 1)]) .nil nn tt om xi ps) ([0,1]) (.ok .next) ([(L,df H T s [en (hs w.params "cells") "cells" (tt 0+2) (.ref (nn 0))] 2),(nn 0,lstO [.int 34933 (tt 0),.int 4 (tt 0+1)] 0)]) := by trivial
theorem d1 (w:World) (L s cl n:Nat) (vs r:List Value) (H:NI) (T:NN) (b c:Bool) (nn tt om xi ps):Ends (go (wf w b c) 200 (itT (nthS (wf w b c).params 171 1) (envAt (wf w b c).params 171 L)) [0,0,1,2,2,2,1,0,0,4,4,0,4,5,6,6,0,6,6,6,6,0,6,6] ([(L,df H T s [fe H T 1 "cells" (.ref cl)] 2),(s,lstO vs n)]) (IL fun nn tt om xi=>[lslI 1 2 s (nn 0) vs n .none (.int 2 (tt 0)) r]) nn tt om xi ps) ([0,1,3,4,5]) (.ok (.ref (nn 1+1))) ([(L,df H T s [fe H T 1 "cells" (.ref cl)] 2),(s,lstO vs n),(om 0 0,lstO r 0),(nn 1,litO (om 0 0) 0),(nn 1+1,enO .none (nn 1) 0 .none)]) := by cases b <;> trivial
theorem dn01 (w:World) (l it e:Nat) (v0 v1 z:Value) (nn tt om xi ps):Ends (go w 200 (pyNext (.ref e)) [3,0,3,3,2,0,2,2,2,1,2,2,3,3,3,3,3,3,3,3,3,3,3,3,3,3] ([(l,lstO [v0] 0),(it,litO l 0),(e,enO .none it 0 z)]) .nil nn tt om xi ps) ([0,1,2,3]) (.ok (some (.ref (nn 0)))) ([(l,lstO [v0] 0),(it,litO l 1),(e,enO (rawInt (nn 0)) it 1 v0),(nn 0,tupO [.int 0 (tt 0),v0])]) := by trivial
theorem dn02 (w:World) (l it e:Nat) (v0 v1 z:Value) (nn tt om xi ps):Ends (go w 200 (pyNext (.ref e)) [3,0,3,3,2,0,2,2,2,1,2,2,3,3,3,3,3,3,3,3,3,3,3,3,3,3] ([(l,lstO [v0,v1] 0),(it,litO l 0),(e,enO .none it 0 z)]) .nil nn tt om xi ps) ([0,1,2,3]) (.ok (some (.ref (nn 0)))) ([(l,lstO [v0,v1] 0),(it,litO l 1),(e,enO (rawInt (nn 0)) it 1 v0),(nn 0,tupO [.int 0 (tt 0),v0])]) := by trivial
theorem dn12 (w:World) (l it e:Nat) (v0 v1 z:Value) (nn tt om xi ps):Ends (go w 200 (pyNext (.ref e)) [3,0,3,3,2,0,2,2,2,1,2,2,3,3,3,3,3,3,3,3,3,3,3,3,3,3] ([(l,lstO [v0,v1] 0),(it,litO l 1),(e,enO .none it 1 z)]) .nil nn tt om xi ps) ([0,1,2,3]) (.ok (some (.ref (nn 0)))) ([(l,lstO [v0,v1] 0),(it,litO l 2),(e,enO (rawInt (nn 0)) it 2 v1),(nn 0,tupO [.int 1 (tt 0),v1])]) := by trivial
theorem de0 (w:World) (l it e:Nat) (v0 v1 z:Value) (nn tt om xi ps):Ends (go w 200 (pyNext (.ref e)) [3,0,3,3,2,0,2,2,2,1,2,2,5] ([(l,lstO [] 0),(it,litO l 0),(e,enO .none it 0 z)]) .nil nn tt om xi ps) ([]) (.ok none) ([]) := by trivial
theorem de1 (w:World) (l it e:Nat) (v0 v1 z:Value) (nn tt om xi ps):Ends (go w 200 (pyNext (.ref e)) [3,0,3,3,2,0,2,2,2,1,2,2,5] ([(l,lstO [v0] 0),(it,litO l 1),(e,enO .none it 1 z)]) .nil nn tt om xi ps) ([]) (.ok none) ([]) := by trivial
theorem de2 (w:World) (l it e:Nat) (v0 v1 z:Value) (nn tt om xi ps):Ends (go w 200 (pyNext (.ref e)) [3,0,3,3,2,0,2,2,2,1,2,2,5] ([(l,lstO [v0,v1] 0),(it,litO l 2),(e,enO .none it 2 z)]) .nil nn tt om xi ps) ([]) (.ok none) ([]) := by trivial
theorem da0 (w:World) (L s cl a:Nat) (t0 tx:Nat) (x:Value) (ys:List Value) (H:NI) (T:NN) (vx:Int) (b c:Bool) (nn tt om xi ps):Ends (go (wf w b c) 200 (fasg (nthS (wf w b c).params 171 1) (envAt (wf w b c).params 171 L) (.ref a)) [2,2,2,0,2,3,3,0,3,3,3,2,3,3,3,0,3,3,3,2,3,3,3,0,3,3,3,2,3,3,5,1,1,1,1] ([(L,df H T s [fe H T 1 "cells" (.ref cl)] 2),(a,tupO [.int 0 t0,.int vx tx])]) .nil nn tt om xi ps) ([0]) (.ok ()) ([(L,df H T s [fe H T 1 "cells" (.ref cl),en (hs (wf w b c).params "k") "k" (tt 0) (.int 0 t0),en (hs (wf w b c).params "x") "x" (tt 0+1) (.int vx tx)] 4)]) := by cases b <;> trivial
theorem da1 (w:World) (L s cl a:Nat) (t0 tx:Nat) (x:Value) (ys:List Value) (H:NI) (T:NN) (vx:Int) (k0 x0:Value) (b c:Bool) (nn tt om xi ps):Ends (go (wf w b c) 200 (fasg (nthS (wf w b c).params 171 1) (envAt (wf w b c).params 171 L) (.ref a)) [2,2,2,0,2,3,3,0,3,3,3,2,3,3,3,0,3,3,3,2,3,3,3,0,3,3,3,2,3,3,5,1,1,1,1] ([(L,df H T s [fe H T 1 "cells" (.ref cl),fe H T 2 "k" k0,fe H T 3 "x" x0] 4),(a,tupO [.int 1 t0,.int vx tx])]) .nil nn tt om xi ps) ([0]) (.ok ()) ([(L,df H T s [fe H T 1 "cells" (.ref cl),fe H T 2 "k" (.int 1 t0),fe H T 3 "x" (.int vx tx)] 4)]) := by cases b <;> trivial
theorem db0 (w:World) (L s cl tk tx tc td cn:Nat) (ce de x m a:Int) (H:NI) (T:NN) (b c:Bool) (nn tt om xi ps):Ends (go (wf w b c) 300 (fbody (nthS (wf w b c).params 171 1) (envAt (wf w b c).params 171 L)) [1,1,2,2,0,2,2,1,1,1,2,2,0,2,2,2,2] ([(L,df H T s [fe H T 1 "cells" (.ref cl),fe H T 2 "k" (.int 0 tk),fe H T 3 "x" (.int x tx)] 4),(cl,lstO [.int ce tc,.int de td] cn)]) (IL fun nn tt om xi=>[bI "int.__mod__" [.int x tx,.int 655360 (tt 0)] (intR m),bI "int.__add__" [.int ce tc,.int m (om 0 0)] (intR a)]) nn tt om xi ps) ([0,1]) (.ok .next) ([(L,df H T s [fe H T 1 "cells" (.ref cl),fe H T 2 "k" (.int 0 tk),fe H T 3 "x" (.int x tx)] 4),(cl,lstO [.int a (om 1 0),.int de td] cn)]) := by cases b <;> trivial
theorem db1 (w:World) (L s cl tk tx tc td cn:Nat) (ce de x m a:Int) (H:NI) (T:NN) (b c:Bool) (nn tt om xi ps):Ends (go (wf w b c) 300 (fbody (nthS (wf w b c).params 171 1) (envAt (wf w b c).params 171 L)) [1,1,2,2,0,2,2,1,1,1,2,2,0,2,2,2,2] ([(L,df H T s [fe H T 1 "cells" (.ref cl),fe H T 2 "k" (.int 1 tk),fe H T 3 "x" (.int x tx)] 4),(cl,lstO [.int de td,.int ce tc] cn)]) (IL fun nn tt om xi=>[bI "int.__mod__" [.int x tx,.int 655360 (tt 0)] (intR m),bI "int.__add__" [.int ce tc,.int m (om 0 0)] (intR a)]) nn tt om xi ps) ([0,1]) (.ok .next) ([(L,df H T s [fe H T 1 "cells" (.ref cl),fe H T 2 "k" (.int 1 tk),fe H T 3 "x" (.int x tx)] 4),(cl,lstO [.int de td,.int a (om 1 0)] cn)]) := by cases b <;> trivial
noncomputable def lc171 (P : Params) : Expr := match nthS P 171 2 with | .Return (some (.Tuple [_,_,e] _ _)) _ => e | _ => .Name "x" ⟨0,0,0,0⟩
noncomputable def lcScope (e : Expr) : Scope := match e with | .ListComp _ _ s _ => s | _ => ⟨.function,[],false,false,[]⟩
noncomputable def cenvAt (P : Params) (f L Lc : Nat) (e : Expr) (cells : List (Str × Addr)) : Env := { scope := lcScope e,locals := Lc,globals := (fdOf P f).globals,cells := cells,qual := (fdOf P f).qualname ++ (".<locals>." : Str),func := none,code := (fdOf P f).code,frame := some L,builtins := (fdOf P f).builtins }
noncomputable abbrev cdO (es : List DictEntry) (n : Nat) : Obj := ⟨.type "dict",none,.dict es.toArray n,#[]⟩
noncomputable abbrev lieO (i : Nat) : Obj := ⟨.type "list_iterator",none,.fields #[.none,.int (Int.ofNat i) 0],#[]⟩
theorem dcs (w:World) (L Lc it acc ls n i:Nat) (b:Bool) (nn tt om xi ps):Ends (go (wf w b true) 100 (den (.compStart (lc171 (wf w b true).params) 0 (.ref it) (.ref acc) (cenvAt (wf w b true).params 171 L Lc (lc171 (wf w b true).params) []))) [] ([(it,litO ls 0)]) .nil nn tt om xi ps) ([0]) (.ok (.again (.compLoop (lc171 (wf w b true).params) 0 (.ref it) (.ref acc) (cenvAt (wf w b true).params 171 L Lc (lc171 (wf w b true).params) [])))) ([(it,litO ls 0)]) := by cases b <;> trivial
theorem dcf (w:World) (L Lc it acc ls n i:Nat) (b:Bool) (nn tt om xi ps):Ends (go (wf w b false) 100 (den (.compStart (lc171 (wf w b false).params) 0 (.ref it) (.ref acc) (cenvAt (wf w b false).params 171 L Lc (lc171 (wf w b false).params) []))) [1,1,0,1,1] ([(it,litO ls 0)]) .nil nn tt om xi ps) ([0]) (.ok (.again (.compLoop (lc171 (wf w b false).params) 0 (.ref it) (.ref acc) (cenvAt (wf w b false).params 171 L Lc (lc171 (wf w b false).params) [])))) ([(it,litO ls 0)]) := by cases b <;> trivial
theorem dcla (w:World) (L Lc it acc ls n i na:Nat) (vs us:List Value) (x m:Int) (tx:Nat) (y:Value) (H:NI) (T:NN) (b c:Bool) (nn tt om xi ps):Ends (go (wf w b c) 200 (den (.compLoop (lc171 (wf w b c).params) 0 (.ref it) (.ref acc) (cenvAt (wf w b c).params 171 L Lc (lc171 (wf w b c).params) []))) [3,1,1,1,1,1,1] ([(Lc,cdO [] 0),(ls,lstO vs n),(it,litO ls i),(acc,lstO us na)]) (IL fun nn tt om xi=>[lnextI 1 2 ls it vs n i (.int x tx),bI "int.__mod__" [.int x tx,.int 81 (tt 1+1)] (intR m),lappI 3 acc us na (.int m (om 1 0))]) nn tt om xi ps) ([0,1,2,3]) (.ok (.again (.compLoop (lc171 (wf w b c).params) 0 (.ref it) (.ref acc) (cenvAt (wf w b c).params 171 L Lc (lc171 (wf w b c).params) [])))) ([(Lc,cdO [en (hs (wf w b c).params "x") "x" (tt 1) (.int x tx)] 1),(ls,lstO vs n),(it,litO ls (i+1)),(acc,lstO (us++[.int m (om 1 0)]) (na+1))]) := by cases b <;> trivial
theorem dclb (w:World) (L Lc it acc ls n i na:Nat) (vs us:List Value) (x m:Int) (tx:Nat) (y:Value) (H:NI) (T:NN) (b c:Bool) (nn tt om xi ps):Ends (go (wf w b c) 200 (den (.compLoop (lc171 (wf w b c).params) 0 (.ref it) (.ref acc) (cenvAt (wf w b c).params 171 L Lc (lc171 (wf w b c).params) []))) [3,1,1,1,1,1,1] ([(Lc,cdO [fe H T 0 "x" y] 1),(ls,lstO vs n),(it,litO ls i),(acc,lstO us na)]) (IL fun nn tt om xi=>[lnextI 1 2 ls it vs n i (.int x tx),bI "int.__mod__" [.int x tx,.int 81 (tt 1+1)] (intR m),lappI 3 acc us na (.int m (om 1 0))]) nn tt om xi ps) ([0,1,2,3]) (.ok (.again (.compLoop (lc171 (wf w b c).params) 0 (.ref it) (.ref acc) (cenvAt (wf w b c).params 171 L Lc (lc171 (wf w b c).params) [])))) ([(Lc,cdO [fe H T 0 "x" (.int x tx)] 1),(ls,lstO vs n),(it,litO ls (i+1)),(acc,lstO (us++[.int m (om 1 0)]) (na+1))]) := by cases b <;> trivial
theorem dce (w:World) (L Lc it acc ls n i na:Nat) (vs us:List Value) (x m:Int) (tx:Nat) (y:Value) (H:NI) (T:NN) (nn tt om xi ps):Ends (go w 100 (den (.compLoop (lc171 w.params) 0 (.ref it) (.ref acc) (cenvAt w.params 171 L Lc (lc171 w.params) []))) [2,1,4] ([(ls,lstO vs n),(it,litO ls i)]) (IL fun nn tt om xi=>[lendI 0 1 ls it vs n i]) nn tt om xi ps) ([0,1]) (.ok (.done .next)) ([(ls,lstO vs n),(it,lieO i)]) := by trivial
theorem d2a0 (w:World) (L s cl n cn:Nat) (c0 c1 m0 m1:Int) (t0 t1:Nat) (vs r:List Value) (us:(Nat → Nat) → List Value) (ai:Nat) (k0 x0:Value) (zx:(Nat → Nat) → Value) (H:NI) (T:NN) (b c:Bool) (nn tt om xi ps):Ends (go (wf w b c) 400 (exec (nthS (wf w b c).params 171 2) (envAt (wf w b c).params 171 L)) [1,3,3,3,0,3,3,1,1,3,3,3,0,3,3,1,1,2,2,2,1,5,5,0,5,6,1,8] ([(L,df H T s [fe H T 1 "cells" (.ref cl)] 2),(s,lstO vs n),(cl,lstO [.int c0 t0,.int c1 t1] cn)]) (IL fun nn tt om xi=>[bI "int.__mod__" [.int c0 t0,.int 65536 (tt 0+1)] (intR m0),bI "int.__mod__" [.int c1 t1,.int 10 (tt 1+1)] (intR m1),lslI 1 3 s (nn 2) vs n (.int 2 (tt 2)) (.int 10 (tt 2+1)) r,⟨.compStart (lc171 (wf w b c).params) 0 (.ref (nn 3)) (.ref (nn 3+1)) (cenvAt (wf w b c).params 171 L (nn 3+2) (lc171 (wf w b c).params) []),[(4,om 2 0,lstO r 0),(5,nn 3,litO (om 2 0) 0),(6,nn 3+1,lstO [] 0),(7,nn 3+2,cdO [] 0)],fun _ _=>.ok .next,fun ω _=>[lstO r 0,lieO ai,lstO (us ω) (ω 1),cdO [] 0],fun _ _=>[]⟩]) nn tt om xi ps) ([1,6,8]) (.ok (.ret (.ref (nn 4)))) ([(s,lstO vs n),(nn 3+1,lstO (us (om 3)) (om 3 1)),(nn 4,tupO [.int m0 (om 0 0),.int m1 (om 1 0),.ref (nn 3+1)])]) := by cases b <;> trivial
theorem d2a1 (w:World) (L s cl n cn:Nat) (c0 c1 m0 m1:Int) (t0 t1:Nat) (vs r:List Value) (us:(Nat → Nat) → List Value) (ai:Nat) (k0 x0:Value) (zx:(Nat → Nat) → Value) (H:NI) (T:NN) (b c:Bool) (nn tt om xi ps):Ends (go (wf w b c) 400 (exec (nthS (wf w b c).params 171 2) (envAt (wf w b c).params 171 L)) [1,3,3,3,0,3,3,1,1,3,3,3,0,3,3,1,1,2,2,2,1,5,5,0,5,6,1,8,8,8] ([(L,df H T s [fe H T 1 "cells" (.ref cl)] 2),(s,lstO vs n),(cl,lstO [.int c0 t0,.int c1 t1] cn)]) (IL fun nn tt om xi=>[bI "int.__mod__" [.int c0 t0,.int 65536 (tt 0+1)] (intR m0),bI "int.__mod__" [.int c1 t1,.int 10 (tt 1+1)] (intR m1),lslI 1 3 s (nn 2) vs n (.int 2 (tt 2)) (.int 10 (tt 2+1)) r,⟨.compStart (lc171 (wf w b c).params) 0 (.ref (nn 3)) (.ref (nn 3+1)) (cenvAt (wf w b c).params 171 L (nn 3+2) (lc171 (wf w b c).params) []),[(4,om 2 0,lstO r 0),(5,nn 3,litO (om 2 0) 0),(6,nn 3+1,lstO [] 0),(7,nn 3+2,cdO [] 0)],fun _ _=>.ok .next,fun ω _=>[lstO r 0,lieO ai,lstO (us ω) (ω 1),cdO [⟨hs (wf w b c).params "x",.str "x" (ω 0),zx ω⟩] 1],fun _ _=>[]⟩]) nn tt om xi ps) ([1,6,8]) (.ok (.ret (.ref (nn 4)))) ([(s,lstO vs n),(nn 3+1,lstO (us (om 3)) (om 3 1)),(nn 4,tupO [.int m0 (om 0 0),.int m1 (om 1 0),.ref (nn 3+1)])]) := by cases b <;> trivial
theorem d2b0 (w:World) (L s cl n cn:Nat) (c0 c1 m0 m1:Int) (t0 t1:Nat) (vs r:List Value) (us:(Nat → Nat) → List Value) (ai:Nat) (k0 x0:Value) (zx:(Nat → Nat) → Value) (H:NI) (T:NN) (b c:Bool) (nn tt om xi ps):Ends (go (wf w b c) 400 (exec (nthS (wf w b c).params 171 2) (envAt (wf w b c).params 171 L)) [1,3,3,3,0,3,3,1,1,3,3,3,0,3,3,1,1,2,2,2,1,5,5,0,5,6,1,8] ([(L,df H T s [fe H T 1 "cells" (.ref cl),fe H T 2 "k" k0,fe H T 3 "x" x0] 4),(s,lstO vs n),(cl,lstO [.int c0 t0,.int c1 t1] cn)]) (IL fun nn tt om xi=>[bI "int.__mod__" [.int c0 t0,.int 65536 (tt 0+1)] (intR m0),bI "int.__mod__" [.int c1 t1,.int 10 (tt 1+1)] (intR m1),lslI 1 3 s (nn 2) vs n (.int 2 (tt 2)) (.int 10 (tt 2+1)) r,⟨.compStart (lc171 (wf w b c).params) 0 (.ref (nn 3)) (.ref (nn 3+1)) (cenvAt (wf w b c).params 171 L (nn 3+2) (lc171 (wf w b c).params) []),[(4,om 2 0,lstO r 0),(5,nn 3,litO (om 2 0) 0),(6,nn 3+1,lstO [] 0),(7,nn 3+2,cdO [] 0)],fun _ _=>.ok .next,fun ω _=>[lstO r 0,lieO ai,lstO (us ω) (ω 1),cdO [] 0],fun _ _=>[]⟩]) nn tt om xi ps) ([1,6,8]) (.ok (.ret (.ref (nn 4)))) ([(s,lstO vs n),(nn 3+1,lstO (us (om 3)) (om 3 1)),(nn 4,tupO [.int m0 (om 0 0),.int m1 (om 1 0),.ref (nn 3+1)])]) := by cases b <;> trivial
theorem d2b1 (w:World) (L s cl n cn:Nat) (c0 c1 m0 m1:Int) (t0 t1:Nat) (vs r:List Value) (us:(Nat → Nat) → List Value) (ai:Nat) (k0 x0:Value) (zx:(Nat → Nat) → Value) (H:NI) (T:NN) (b c:Bool) (nn tt om xi ps):Ends (go (wf w b c) 400 (exec (nthS (wf w b c).params 171 2) (envAt (wf w b c).params 171 L)) [1,3,3,3,0,3,3,1,1,3,3,3,0,3,3,1,1,2,2,2,1,5,5,0,5,6,1,8,8,8] ([(L,df H T s [fe H T 1 "cells" (.ref cl),fe H T 2 "k" k0,fe H T 3 "x" x0] 4),(s,lstO vs n),(cl,lstO [.int c0 t0,.int c1 t1] cn)]) (IL fun nn tt om xi=>[bI "int.__mod__" [.int c0 t0,.int 65536 (tt 0+1)] (intR m0),bI "int.__mod__" [.int c1 t1,.int 10 (tt 1+1)] (intR m1),lslI 1 3 s (nn 2) vs n (.int 2 (tt 2)) (.int 10 (tt 2+1)) r,⟨.compStart (lc171 (wf w b c).params) 0 (.ref (nn 3)) (.ref (nn 3+1)) (cenvAt (wf w b c).params 171 L (nn 3+2) (lc171 (wf w b c).params) []),[(4,om 2 0,lstO r 0),(5,nn 3,litO (om 2 0) 0),(6,nn 3+1,lstO [] 0),(7,nn 3+2,cdO [] 0)],fun _ _=>.ok .next,fun ω _=>[lstO r 0,lieO ai,lstO (us ω) (ω 1),cdO [⟨hs (wf w b c).params "x",.str "x" (ω 0),zx ω⟩] 1],fun _ _=>[]⟩]) nn tt om xi ps) ([1,6,8]) (.ok (.ret (.ref (nn 4)))) ([(s,lstO vs n),(nn 3+1,lstO (us (om 3)) (om 3 1)),(nn 4,tupO [.int m0 (om 0 0),.int m1 (om 1 0),.ref (nn 3+1)])]) := by cases b <;> trivial
theorem Rp.set {K : Frag} {g h h' : Heap} {A0 : List Addr} {a : Addr} {o o' : Obj} {rest : Led} (D : Rp K g A0 h ((a,o) :: rest)) (hs : Heap.SameBut a h h') (ho : h'.get? a = some o') : Rp K g A0 h' ((a,o') :: rest) := by
  have nd := D.nod
  rw [List.map_cons,List.nodup_cons] at nd
  have hr : ∀ p ∈ rest,p.1 ≠ a := fun p hp e => nd.1 (by
    have : p.1 ∈ rest.map (·.1) := List.mem_map_of_mem hp
    rw [e] at this; exact this)
  refine ⟨fun b o1 e => (hs.2 b fun z => ?_).trans (D.top b o1 e),?_,?_,?_,?_,?_,fun b o1 e q => (hs.2 b fun z => ?_).trans (D.keep b o1 e q)⟩
  · have := D.off (a,o) (.head _)
    rw [z,this] at e; cases e
  · intro p hp
    rcases List.mem_cons.mp hp with e | hp
    · rw [e]; exact ho
    · exact (hs.2 _ (hr p hp)).trans (D.has p (.tail _ hp))
  · rw [List.map_cons,List.nodup_cons]; exact nd
  · intro p hp
    rcases List.mem_cons.mp hp with e | hp
    · rw [e]; exact D.off (a,o) (.head _)
    · exact D.off p (.tail _ hp)
  · intro p hp
    rcases List.mem_cons.mp hp with e | hp
    · rw [e]; exact D.mine (a,o) (.head _)
    · exact D.mine p (.tail _ hp)
  · intro p hp
    rcases List.mem_cons.mp hp with e | hp
    · rw [e]; exact D.low (a,o) (.head _)
    · exact D.low p (.tail _ hp)
  · rcases D.mine (a,o) (.head _) with y | y
    · exact q (z ▸ y)
    · rw [z] at e; rw [e] at y; cases y
theorem forTurn1 {w : World} {A : Around} {s : Shared} {R : Result → Shared → Prop} {target : Expr} {it : Value} {body orelse : List Stmt} {env : Env}
    (h : wpAny (MM w) A (pyNext it) (fun r s₁ => match r with
      | none => codeAny (MM w) A (.block orelse env) R s₁
      | some v => wpAny (MM w) A (letOwnedTupleGo target it v) (fun _ s₂ => wpAny (MM w) A (assign target env v) (fun _ s₃ => wpAny (MM w) A (execs body env) (fun f s₄ => match f with
          | .next | .cont => codeAny (MM w) A (.forLoop target it body orelse env) R s₄
          | .brk => R (.ok .next) s₄
          | .ret v => R (.ok (.ret v)) s₄) (fun _ _ => False) s₃) (fun _ _ => False) s₂) (fun _ _ => False) s₁) (fun _ _ => False) s) :
    codeAny (MM w) A (.forLoop target it body orelse env) R s := by
  refine codeAny_of_tree ?_
  show wpAny _ A ((forTurn target it body orelse env).onRaise (fun x => do noteFrame x env; theTreesLotGoes x)) _ _ s
  refine wpAny_noted ?_
  simp only [forTurn]
  refine wpAny_bind (wpAny_standAt (wpAny_bind (wpAny_onRaise (wpAny_mono h (fun r s₁ h₁ => ?_) fun _ _ z => z.elim))))
  cases r with
  | none => exact wpAny_pure ⟨rfl,h₁⟩
  | some v =>
    refine wpAny_bind (wpAny_mono h₁ (fun _ s₂ h₂ => ?_) fun _ _ z => z.elim)
    refine wpAny_bind (wpAny_mono h₂ (fun _ s₃ h₃ => wpAny_bind (wpAny_mono h₃ (fun f s₄ h₄ => ?_) fun _ _ z => z.elim)) fun _ _ z => z.elim)
    cases f with
    | next => exact wpAny_pure ⟨rfl,h₄⟩
    | cont => exact wpAny_pure ⟨rfl,h₄⟩
    | brk => exact wpAny_pure h₄
    | ret v => exact wpAny_pure h₄
theorem letGoEn {w : World} {A : Around} {g : Heap} {A0 : List Addr} {Q : Unit → Shared → Prop} {E : Value → Shared → Prop} {s : Shared} {elts : List Expr} {x1 : Nat} {pos : Pos} {e it a : Nat} {i : Int} {item : Value} {rest : Led}
    (D : Rp (MyK w.params) g A0 s.heap ((e,enO (rawInt a) it i item) :: rest))
    (h : ∀ h',Rp (MyK w.params) g A0 h' ((e,enO .none it i item) :: rest) → Q () { s with heap := h' }) : wpAny (MM w) A (letOwnedTupleGo (.Tuple elts x1 pos) (.ref e) (.ref a)) Q E s :=
  wpAny_letOwnedTupleGo_enum (D.has _ (.head _)) fun h' he hs => h h' (D.set hs he)
theorem loopC_for {t i : Expr} {b o : List Stmt} {p : Pos} {it : Value} {env : Env} : loopC (.For t i b o p) it env = .forLoop t it b o env := rfl
noncomputable def fTe (st : Stmt) : List Expr := match st with | .For (.Tuple e _ _) _ _ _ _ => e | _ => []
noncomputable def fTk (st : Stmt) : Nat := match st with | .For (.Tuple _ k _) _ _ _ _ => k | _ => 0
noncomputable def fTp (st : Stmt) : Pos := match st with | .For (.Tuple _ _ p) _ _ _ _ => p | _ => ⟨0,0,0,0⟩
theorem enTurn {w : World} {A : Around} {s : Shared} {R : Result → Shared → Prop} {st : Stmt} {e : Nat} {env : Env} {g : Heap} {A0 : List Addr}
    (hst : st = .For (.Tuple (fTe st) (fTk st) (fTp st)) (fI st) (fB st) (fO st) (fP st))
    (h : wpAny (MM w) A (pyNext (.ref e)) (fun r s₁ => match r with
      | none => codeAny (MM w) A (.block (fO st) env) R s₁
      | some v => ∃ a it i item rest,v = .ref a ∧ Rp (MyK w.params) g A0 s₁.heap ((e,enO (rawInt a) it i item) :: rest) ∧
          ∀ h',Rp (MyK w.params) g A0 h' ((e,enO .none it i item) :: rest) → wpAny (MM w) A (fasg st env (.ref a)) (fun _ s₃ => wpAny (MM w) A (fbody st env) (fun f s₄ => match f with
          | .next | .cont => codeAny (MM w) A (loopC st (.ref e) env) R s₄
          | .brk => R (.ok .next) s₄
          | .ret v => R (.ok (.ret v)) s₄) (fun _ _ => False) s₃) (fun _ _ => False) { s₁ with heap := h' }) (fun _ _ => False) s) :
    codeAny (MM w) A (loopC st (.ref e) env) R s := by
  rw [hst,loopC_for]
  refine forTurn1 (wpAny_mono h (fun r s₁ h₁ => ?_) fun _ _ z => z)
  cases r with
  | none => exact h₁
  | some v =>
    obtain ⟨a,it,i,item,rest,rfl,D,hk⟩ := h₁
    refine letGoEn D fun h' D' => ?_
    have z := hk h' D'
    rw [hst] at z
    exact z
theorem are_app {us : List Value} {ms : List Int} (h : IntsAre us ms) (m : Int) (t : Tok) : IntsAre (us ++ [.int m t]) (ms ++ [m]) := by
  induction h with
  | nil => exact .cons _ _ .nil
  | cons n tk _ ih => exact .cons _ _ ih
theorem pickTo (vs : List Value) (b : Nat) : slicePick vs.toArray none (some (Int.ofNat b)) none = (vs.take b).toArray := by
  by_cases h : b ≤ vs.toArray.size
  · exact slicePick_upto _ b h
  · have e : sliceBounds none (some (Int.ofNat b)) none vs.toArray.size = sliceBounds none (some ((vs.toArray.size : Nat) : Int)) none vs.toArray.size := by
      simp only [sliceBounds,Option.getD_none]
      have h1 : ¬ ((Int.ofNat b) < 0) := by show ¬ ((b : Int) < 0); omega
      have h2 : ¬ (((vs.toArray.size : Nat) : Int) < 0) := by omega
      simp only [h1,h2,if_false,show (1 : Int) > 0 by decide,if_true]
      congr 2
      show max 0 (min (b : Int) _) = _
      omega
    have z := slicePick_upto vs.toArray vs.toArray.size (Nat.le_refl _)
    unfold slicePick at z ⊢
    rw [e,z]
    congr 1
    show vs.take vs.length = vs.take b
    have hb : vs.length ≤ b := by have : vs.toArray.size = vs.length := List.size_toArray; omega
    rw [List.take_of_length_le (Nat.le_refl _),List.take_of_length_le hb]
theorem pickFT (vs : List Value) (a b : Nat) (hab : a ≤ b) : slicePick vs.toArray (some (Int.ofNat a)) (some (Int.ofNat b)) none = ((vs.drop a).take (b - a)).toArray := by
  have hs : vs.toArray.size = vs.length := List.size_toArray
  have e : sliceBounds (some (Int.ofNat a)) (some (Int.ofNat b)) none vs.toArray.size = sliceBounds (some ((min a vs.toArray.size : Nat) : Int)) (some ((min b vs.toArray.size : Nat) : Int)) none vs.toArray.size := by
    simp only [sliceBounds,Option.getD_none]
    have h1 : ¬ ((Int.ofNat a) < 0) := by show ¬ ((a : Int) < 0); omega
    have h2 : ¬ ((Int.ofNat b) < 0) := by show ¬ ((b : Int) < 0); omega
    have h3 : ¬ (((min a vs.toArray.size : Nat) : Int) < 0) := by omega
    have h4 : ¬ (((min b vs.toArray.size : Nat) : Int) < 0) := by omega
    simp only [h1,h2,h3,h4,if_false,show (1 : Int) > 0 by decide,if_true]
    congr 1
    · show max 0 (min (a : Int) _) = _
      omega
    · congr 1
      show max 0 (min (b : Int) _) = _
      omega
  have z := slicePick_run vs.toArray (min a vs.toArray.size) (min b vs.toArray.size) (Nat.min_le_right _ _) (by omega)
  unfold slicePick at z ⊢
  rw [e,z]
  congr 1
  show (vs.drop (min a vs.toArray.size)).take _ = _
  rw [hs]
  by_cases h1 : vs.length ≤ a
  · rw [Nat.min_eq_right h1,List.drop_eq_nil_of_le (Nat.le_refl _),List.drop_eq_nil_of_le h1,List.take_nil,List.take_nil]
  · rw [Nat.min_eq_left (show a ≤ vs.length by omega)]
    by_cases h2 : vs.length ≤ b
    · rw [Nat.min_eq_right h2,List.take_of_length_le (by rw [List.length_drop]; omega),List.take_of_length_le (by rw [List.length_drop]; omega)]
    · rw [Nat.min_eq_left (show b ≤ vs.length by omega)]
noncomputable def mods (k : Nat) (xs : List Int) : List Int := xs.map fun x => Int.fmod x (Int.ofNat (k + 1))
noncomputable def cmpD (w : World) (b c : Bool) (L : Nat) (jl jt ja jd ls it acc Lc : Nat) (r : List Value) (ms : List Int) (z : Nat) (zx : Value) : Inst :=
  ⟨.compStart (lc171 (wf w b c).params) 0 (.ref it) (.ref acc) (cenvAt (wf w b c).params 171 L Lc (lc171 (wf w b c).params) []),[(jl,ls,lstO r 0),(jt,it,litO ls 0),(ja,acc,lstO [] 0),(jd,Lc,cdO [] 0)],fun _ _ => .ok .next,
   fun ω _ => [lstO r 0,lieO r.length,lstO (iv ms fun i => ω (i + 2)) (ω 1),cdO (match z with | 0 => [] | _ => [⟨hs (wf w b c).params "x",.str "x" (ω 0),zx⟩]) z],fun _ _ => []⟩
theorem loopD (w : World) (b c : Bool) {A : Around} {g : Heap} {A0 : List Addr} {R : Result → Shared → Prop} (hA : AB 839 6900 A) (L Lc it acc ls : Nat) (r : List Value) (xs : List Int) (hr : IntsAre r xs) (hl : xs.length ≤ 8) :
    ∀ (m i na : Nat) (us : List Value) (fr : Obj) (sh : Shared),i + m = xs.length → IntsAre us (mods 80 (xs.take i)) →
    ((i = 0 ∧ fr = cdO [] 0) ∨ (0 < i ∧ ∃ t,fr = cdO [⟨hs (wf w b c).params "x",.str "x" t,r.getLastD .none⟩] 1 ∧ i = xs.length) ∨ (0 < i ∧ ∃ t y,fr = cdO [⟨hs (wf w b c).params "x",.str "x" t,y⟩] 1 ∧ i < xs.length)) →
    Rp (MyK (wf w b c).params) g A0 sh.heap [(Lc,fr),(ls,lstO r 0),(it,litO ls i),(acc,lstO us na)] →
    (∀ na' us' fr' h' tk',IntsAre us' (mods 80 xs) → ((xs = [] ∧ fr' = cdO [] 0) ∨ (xs ≠ [] ∧ ∃ t,fr' = cdO [⟨hs (wf w b c).params "x",.str "x" t,r.getLastD .none⟩] 1)) → Rp (MyK (wf w b c).params) g A0 h' [(ls,lstO r 0),(it,lieO xs.length),(acc,lstO us' na'),(Lc,fr')] → R (.ok .next) { sh with heap := h',toks := tk' }) →
    codeAny (MM (wf w b c)) A (.compLoop (lc171 (wf w b c).params) 0 (.ref it) (.ref acc) (cenvAt (wf w b c).params 171 L Lc (lc171 (wf w b c).params) [])) R sh := by
  have hlen : r.length = xs.length := hr.length
  intro m
  induction m with
  | zero =>
    intro i na us fr sh hi hus hfr D hR
    refine codeTurn (by kernel_rfl) ?_
    have hi : i = xs.length := by omega
    refine fragQ [(acc,lstO us na),(Lc,fr)] (D.sel [1,2,3,0] (by decide)) (List.Perm.refl _) (dce (wf w b c) L Lc it acc ls 0 i 0 r [] 0 0 0 .none (fun _ => 0) (fun _ => 0)) AB.hh hA (okIL _ fun nn tt om xi => oneIns (lend_ok AB.hh (by omega) (by omega)) nilIns) ?_
    intro nn tt om xi h' tk' D'
    rw [hi,List.take_of_length_le (Nat.le_refl _)] at hus
    subst hi
    refine hR na us fr h' tk' hus ?_ D'
    rcases hfr with ⟨h0,e⟩ | ⟨h0,t,e,_⟩ | ⟨_,_,_,_,h0⟩
    · exact .inl ⟨List.eq_nil_of_length_eq_zero h0,e⟩
    · exact .inr ⟨fun z => by rw [z] at h0; exact absurd h0 (Nat.lt_irrefl _),t,e⟩
    · exact absurd h0 (Nat.lt_irrefl _)
  | succ m ih =>
    intro i na us fr sh hi hus hfr D hR
    refine codeTurn (by kernel_rfl) ?_
    have hlt : i < xs.length := by omega
    obtain ⟨x,hx⟩ : ∃ x,xs[i]? = some x := ⟨_,List.getElem?_eq_getElem hlt⟩
    obtain ⟨ts,er⟩ := are_iv hr
    have hget : r[i]? = some (.int x (ts i)) := by rw [er,iv_get,hx]; rfl
    have hins : ∀ jl jt,IOk theP (wf w b c) (MyK (wf w b c).params) (AB 839 6900) (lnextI jl jt ls it r 0 i (.int x (ts i))) := fun jl jt => lnext_ok AB.hh hget (by omega)
    have step : ∀ (t' t : Tok) h' tk',Rp (MyK (wf w b c).params) g A0 h' [(Lc,cdO [⟨hs (wf w b c).params "x",.str "x" t,.int x (ts i)⟩] 1),(ls,lstO r 0),(it,litO ls (i + 1)),(acc,lstO (us ++ [.int (Int.fmod x (Int.ofNat (80 + 1))) t']) (na + 1))] →
        codeAny (MM (wf w b c)) A (.compLoop (lc171 (wf w b c).params) 0 (.ref it) (.ref acc) (cenvAt (wf w b c).params 171 L Lc (lc171 (wf w b c).params) [])) R { sh with heap := h',toks := tk' } := by
      intro t' t h' tk' D'
      refine ih (i + 1) (na + 1) _ _ { sh with heap := h',toks := tk' } (by omega) ?_ ?_ D' hR
      · have z := are_app hus (Int.fmod x (Int.ofNat (80 + 1))) t'
        rw [List.take_add_one,hx]
        show IntsAre _ (List.map _ (_ ++ [x]))
        rw [List.map_append]
        exact z
      · by_cases q : i + 1 = xs.length
        · refine .inr (.inl ⟨Nat.succ_pos _,t,?_,q⟩)
          have : r.getLastD .none = .int x (ts i) := by
            rw [List.getLastD_eq_getLast?,List.getLast?_eq_getElem?,hlen,← q]
            show (r[i]?).getD _ = _
            rw [hget]; rfl
          rw [this]
        · exact .inr (.inr ⟨Nat.succ_pos _,t,_,rfl,by omega⟩)
    have hlu : us.length ≤ 100 := by have := hus.length; rw [this]; simp only [mods,List.length_map,List.length_take]; omega
    have hmd : ∀ t u,IOk theP (wf w b c) (MyK (wf w b c).params) (AB 839 6900) (bI "int.__mod__" [.int x t,.int 81 u] (intR (Int.fmod x (Int.ofNat (80 + 1))))) := fun t u => imod_ok (k := 80) AB.hh rfl
    have two : ∀ t y,fr = cdO [⟨hs (wf w b c).params "x",.str "x" t,y⟩] 1 → wpAny (MM (wf w b c)) A (den (.compLoop (lc171 (wf w b c).params) 0 (.ref it) (.ref acc) (cenvAt (wf w b c).params 171 L Lc (lc171 (wf w b c).params) []))) (fun fin s' => match fin with | .done f => R (.ok f) s' | .again c' => c'.quiet = true ∧ codeAny (MM (wf w b c)) A c' R s') (fun e s' => R (.error e) s') sh := by
      intro t y e
      rw [e] at D
      refine fragQ [] D (List.Perm.refl _) (dclb w L Lc it acc ls 0 i na r us x (Int.fmod x (Int.ofNat (80 + 1))) (ts i) y (fun _ => hs (wf w b c).params "x") (fun _ => t) b c) AB.hh hA (okIL _ fun nn tt om xi => oneIns (hins _ _) (oneIns (hmd _ _) (oneIns (lapp_ok hlu) nilIns))) ?_
      intro nn tt om xi h' tk' D'
      exact ⟨by kernel_rfl,step _ _ h' tk' D'⟩
    rcases hfr with ⟨h0,e⟩ | ⟨h0,t,e,q⟩ | ⟨h0,t,y,e,q⟩
    · rw [e] at D
      refine fragQ [] D (List.Perm.refl _) (dcla w L Lc it acc ls 0 i na r us x (Int.fmod x (Int.ofNat (80 + 1))) (ts i) .none (fun _ => 0) (fun _ => 0) b c) AB.hh hA (okIL _ fun nn tt om xi => oneIns (hins _ _) (oneIns (hmd _ _) (oneIns (lapp_ok hlu) nilIns))) ?_
      intro nn tt om xi h' tk' D'
      exact ⟨by kernel_rfl,step _ _ h' tk' D'⟩
    · exact two t _ e
    · exact two t y e
theorem cmpD_ok (w : World) (b c : Bool) (L jl jt ja jd ls it acc Lc : Nat) (r : List Value) (xs : List Int) (hr : IntsAre r xs) (hl : xs.length ≤ 8) (z : Nat) (hz : (z = 0 ∧ xs = []) ∨ (z = 1 ∧ xs ≠ [])) :
    IOk theP (wf w b c) (MyK (wf w b c).params) (AB 839 6900) (cmpD w b c L jl jt ja jd ls it acc Lc r (mods 80 xs) z (r.getLastD .none)) := by
  intro A s R hA hK hn hd ho hlo hR
  have D := Rp.start _ hK hn hd ho hlo
  refine x_call ?_ (by intro z; cases z)
  refine codeTurn (by kernel_rfl) ?_
  have hA' : AB 839 6900 (A.mark none) := hA
  have key : ∀ h' tk',Rp (MyK (wf w b c).params) s.heap (adrs (cmpD w b c L jl jt ja jd ls it acc Lc r (mods 80 xs) z (r.getLastD .none)).need) h' ([(it,litO ls 0)] ++ [(ls,lstO r 0),(acc,lstO [] 0),(Lc,cdO [] 0)]) →
      codeAny (MM (wf w b c)) (A.mark none) (.compLoop (lc171 (wf w b c).params) 0 (.ref it) (.ref acc) (cenvAt (wf w b c).params 171 L Lc (lc171 (wf w b c).params) [])) (fun r s' => wpAny (model theP (wf w b c)) A (Sem.pure r) R (fun _ _ => False) s') { s with heap := h',toks := tk' } := by
    intro h' tk' D'
    refine loopD w b c hA' L Lc it acc ls r xs hr hl xs.length 0 0 [] _ _ (Nat.zero_add _) .nil (.inl ⟨rfl,rfl⟩) (D'.sel [3,1,0,2] (by decide)) ?_
    intro na' us' fr' h2 tk2 hus hfr D2
    obtain ⟨ts,eu⟩ := are_iv hus
    rw [eu,← hr.length] at D2
    refine wpAny_pure ?_
    rcases hz with ⟨rfl,hx⟩ | ⟨rfl,hx⟩
    · rcases hfr with ⟨_,e⟩ | ⟨q,_⟩
      · rw [e] at D2
        exact hR (fun i => match i with | 0 => 0 | 1 => na' | i + 2 => ts i) (fun _ => #[]) h2 tk2 rfl (Eff.ofApp (nw := []) D2 rfl)
      · exact absurd hx q
    · rcases hfr with ⟨q,_⟩ | ⟨_,t,e⟩
      · exact absurd q hx
      · rw [e] at D2
        exact hR (fun i => match i with | 0 => t | 1 => na' | i + 2 => ts i) (fun _ => #[]) h2 tk2 rfl (Eff.ofApp (nw := []) D2 rfl)
  cases c with
  | true =>
    refine fragQ [(ls,lstO r 0),(acc,lstO [] 0),(Lc,cdO [] 0)] (D.sel [1,0,2,3] (by decide)) (List.Perm.refl _) (dcs w L Lc it acc ls 0 0 b) AB.hh hA' noIns ?_
    intro nn tt om xi h' tk' D'
    exact ⟨by kernel_rfl,key h' tk' D'⟩
  | false =>
    refine fragQ [(ls,lstO r 0),(acc,lstO [] 0),(Lc,cdO [] 0)] (D.sel [1,0,2,3] (by decide)) (List.Perm.refl _) (dcf w L Lc it acc ls 0 0 b) AB.hh hA' noIns ?_
    intro nn tt om xi h' tk' D'
    exact ⟨by kernel_rfl,key h' tk' D'⟩
noncomputable def big : Int := Int.ofNat (655359 + 1)
noncomputable def cell0 (xs : List Int) : Int := match xs with | [] => 34933 | x :: _ => 34933 + Int.fmod x (Int.ofNat (655359 + 1))
noncomputable def cell1 (xs : List Int) : Int := match xs with | _ :: y :: _ => 4 + Int.fmod y (Int.ofNat (655359 + 1)) | _ => 4
noncomputable def frD (s cl : Nat) (fr : Obj) : Prop := (∃ H T,fr = df H T s [fe H T 1 "cells" (.ref cl)] 2) ∨ (∃ H T k0 x0,fr = df H T s [fe H T 1 "cells" (.ref cl),fe H T 2 "k" k0,fe H T 3 "x" x0] 4)
theorem for171 (P : Params) : nthS P 171 1 = .For (fT (nthS P 171 1)) (fI (nthS P 171 1)) (fB (nthS P 171 1)) (fO (nthS P 171 1)) (fP (nthS P 171 1)) := rfl
theorem for171t (P : Params) : nthS P 171 1 = .For (.Tuple (fTe (nthS P 171 1)) (fTk (nthS P 171 1)) (fTp (nthS P 171 1))) (fI (nthS P 171 1)) (fB (nthS P 171 1)) (fO (nthS P 171 1)) (fP (nthS P 171 1)) := rfl
theorem orelse171 (P : Params) : fO (nthS P 171 1) = [] := rfl
section
variable (w : World) (b c : Bool) {A : Around} {g : Heap} {A0 : List Addr} {R : Result → Shared → Prop} (hA : AB 839 6900 A)
include hA
theorem drEnd (L l it e : Nat) (r : List Value) (m : Nat) (mi : Int) (z : Value) (rest : Led) (sh : Shared) {ora : List Nat}
    (hseg : ∀ nn tt om xi ps,Ends (go (wf w b c) 200 (pyNext (.ref e)) ora [(l,lstO r 0),(it,litO l m),(e,enO .none it mi z)] .nil nn tt om xi ps) [] (.ok none) [])
    (D : Rp (MyK (wf w b c).params) g A0 sh.heap ([(l,lstO r 0),(it,litO l m),(e,enO .none it mi z)] ++ rest))
    (hR : ∀ h' tk',Rp (MyK (wf w b c).params) g A0 h' rest → R (.ok .next) { sh with heap := h',toks := tk' }) :
    codeAny (MM (wf w b c)) A (loopC (nthS (wf w b c).params 171 1) (.ref e) (envAt (wf w b c).params 171 L)) R sh := by
  refine enTurn (g := g) (A0 := A0) (for171t _) ?_
  refine fragQ rest D (List.Perm.refl _) hseg AB.hh hA noIns ?_
  intro nn tt om xi h' tk' D'
  show codeAny _ _ (.block (fO (nthS (wf w b c).params 171 1)) _) _ _
  rw [orelse171]
  exact codeBlk (hR h' tk' D')
theorem drTurn (L l it e : Nat) (r : List Value) (m : Nat) (mi mi2 : Int) (z z' : Value) (s cl : Nat) (fr fr2 : Obj) (cells cells2 : (Nat → Nat) → (Nat → Nat → Nat) → List Value) (rest : Led) (sh : Shared) {ora : List Nat} (vt : Nat → Value) (c0 : List Value)
    (hseg : ∀ nn tt om xi ps,Ends (go (wf w b c) 200 (pyNext (.ref e)) ora [(l,lstO r 0),(it,litO l m),(e,enO .none it mi z)] .nil nn tt om xi ps) [0,1,2,3] (.ok (some (.ref (nn 0)))) [(l,lstO r 0),(it,litO l (m + 1)),(e,enO (rawInt (nn 0)) it mi2 z'),(nn 0,tupO [vt (tt 0),z'])])
    (D : Rp (MyK (wf w b c).params) g A0 sh.heap ([(l,lstO r 0),(it,litO l m),(e,enO .none it mi z)] ++ ([(L,fr),(cl,lstO c0 0)] ++ rest)))
    (hk : ∀ (a t : Nat) h' tk',Rp (MyK (wf w b c).params) g A0 h' ([(L,fr),(a,tupO [vt t,z']),(cl,lstO c0 0)] ++ ([(l,lstO r 0),(it,litO l (m + 1)),(e,enO .none it mi2 z')] ++ rest)) →
      wpAny (MM (wf w b c)) A (fasg (nthS (wf w b c).params 171 1) (envAt (wf w b c).params 171 L) (.ref a)) (fun _ s₃ => wpAny (MM (wf w b c)) A (fbody (nthS (wf w b c).params 171 1) (envAt (wf w b c).params 171 L)) (fun f s₄ => match f with
          | .next | .cont => codeAny (MM (wf w b c)) A (loopC (nthS (wf w b c).params 171 1) (.ref e) (envAt (wf w b c).params 171 L)) R s₄
          | .brk => R (.ok .next) s₄
          | .ret v => R (.ok (.ret v)) s₄) (fun _ _ => False) s₃) (fun _ _ => False) { sh with heap := h',toks := tk' }) :
    codeAny (MM (wf w b c)) A (loopC (nthS (wf w b c).params 171 1) (.ref e) (envAt (wf w b c).params 171 L)) R sh := by
  refine enTurn (g := g) (A0 := A0) (for171t _) ?_
  refine fragQ ([(L,fr),(cl,lstO c0 0)] ++ rest) D (List.Perm.refl _) hseg AB.hh hA noIns ?_
  intro nn tt om xi h' tk' D'
  refine ⟨nn 0,it,mi2,z',[(L,fr),(nn 0,tupO [vt (tt 0),z']),(cl,lstO c0 0),(l,lstO r 0),(it,litO l (m + 1))] ++ rest,rfl,D'.perm ?_,fun h2 D2 => ?_⟩
  · refine List.Perm.append_right rest (l₁ := [_,_,_,_,_,_]) (l₂ := [_,_,_,_,_,_]) ?_
    classical
    refine List.perm_iff_count.mpr fun q => ?_
    simp only [List.count_cons,List.count_nil]
    omega
  · refine hk (nn 0) (tt 0) h2 tk' (D2.perm ?_)
    refine List.Perm.append_right rest (l₁ := [_,_,_,_,_,_]) (l₂ := [_,_,_,_,_,_]) ?_
    classical
    refine List.perm_iff_count.mpr fun q => ?_
    simp only [List.count_cons,List.count_nil]
    omega
end
theorem drFor (w : World) (b c : Bool) {A : Around} {g : Heap} {A0 : List Addr} {Q : Flow → Shared → Prop} {E : Value → Shared → Prop} (hA : AB 839 6900 A) (L s cl n t0 t1 : Nat) (xs : List Int) (ts : Nat → Nat) (hx : xs.length ≤ 63) (H : Nat → Int) (T : Nat → Nat) (sh : Shared)
    (D : Rp (MyK (wf w b c).params) g A0 sh.heap [(L,df H T s [fe H T 1 "cells" (.ref cl)] 2),(s,lstO (iv xs ts) n),(cl,lstO [.int 34933 t0,.int 4 t1] 0)])
    (h : ∀ fr u0 u1 h' tk',frD s cl fr → Rp (MyK (wf w b c).params) g A0 h' [(L,fr),(s,lstO (iv xs ts) n),(cl,lstO [.int (cell0 xs) u0,.int (cell1 xs) u1] 0)] → Q .next { sh with heap := h',toks := tk' }) :
    wpAny (MM (wf w b c)) A (exec (nthS (wf w b c).params 171 1) (envAt (wf w b c).params 171 L)) Q E sh := by
  refine forStmt (for171 _) ?_
  have hlen : (iv xs ts).length ≤ 1000 := by rw [iv_length]; omega
  refine fragQ [(cl,lstO [.int 34933 t0,.int 4 t1] 0)] D (List.Perm.refl _) (d1 w L s cl n (iv xs ts) ((iv xs ts).take 2) H T b c) AB.hh hA (okIL _ fun nn tt om xi => oneIns (lsl_ok .none (.int _ _) (pickTo _ 2) hlen) nilIns) ?_
  intro nn tt om xi h1 k1 D1
  generalize om 0 0 = l at D1
  generalize nn 1 = it at D1 ⊢
  generalize it + 1 = e at D1 ⊢
  have hmd : ∀ x t u,IOk theP (wf w b c) (MyK (wf w b c).params) (AB 839 6900) (bI "int.__mod__" [.int x t,.int 655360 u] (intR (Int.fmod x (Int.ofNat (655359 + 1))))) := fun x t u => imod_ok (k := 655359) AB.hh rfl
  rcases xs with _ | ⟨x,_ | ⟨y,xs⟩⟩
  · refine drEnd w b c hA L l it e [] 0 0 .none [(L,df H T s [fe H T 1 "cells" (.ref cl)] 2),(s,lstO (iv [] ts) n),(cl,lstO [.int 34933 t0,.int 4 t1] 0)] _ (de0 (wf w b c) l it e .none .none .none) (D1.sel [2,3,4,0,1,5] (by decide)) ?_
    intro h2 k2 D2
    exact h _ t0 t1 h2 k2 (.inl ⟨H,T,rfl⟩) D2
  · refine drTurn w b c hA L l it e [.int x (ts 0)] 0 0 1 .none (.int x (ts 0)) s cl _ (frO [] 0 #[]) (fun _ _ => []) (fun _ _ => []) [(s,lstO (iv [x] ts) n)] _ (fun t => .int 0 t) _ (dn01 (wf w b c) l it e (.int x (ts 0)) .none .none) (D1.sel [2,3,4,0,5,1] (by decide)) ?_
    intro a t h2 k2 D2
    refine fragQ ([(cl,lstO [.int 34933 t0,.int 4 t1] 0)] ++ ([(l,lstO [.int x (ts 0)] 0),(it,litO l 1),(e,enO .none it 1 (.int x (ts 0)))] ++ [(s,lstO (iv [x] ts) n)])) D2 (List.Perm.refl _) (da0 w L s cl a t (ts 0) .none [] H T x b c) AB.hh hA noIns ?_
    intro nn3 tt3 om3 xi3 h3 k3 D3
    refine fragQ ([(l,lstO [.int x (ts 0)] 0),(it,litO l 1),(e,enO .none it 1 (.int x (ts 0)))] ++ [(s,lstO (iv [x] ts) n)]) D3 (List.Perm.refl _) (db0 w L s cl t (ts 0) t0 t1 0 34933 4 x _ _ (ov (ov H 2 (hs (wf w b c).params "k")) 3 (hs (wf w b c).params "x")) (ov (ov T 2 (tt3 0)) 3 (tt3 0 + 1)) b c) AB.hh hA (okIL _ fun nn tt om xi => oneIns (hmd x _ _) (oneIns (iadd_ok AB.hh rfl) nilIns)) ?_
    intro nn4 tt4 om4 xi4 h4 k4 D4
    refine drEnd w b c hA L l it e [.int x (ts 0)] 1 1 (.int x (ts 0)) _ _ (de1 (wf w b c) l it e (.int x (ts 0)) .none (.int x (ts 0))) (D4.sel [2,3,4,0,5,1] (by decide)) ?_
    intro h5 k5 D5
    exact h _ _ t1 h5 k5 (.inr ⟨_,_,_,_,rfl⟩) D5
  · refine drTurn w b c hA L l it e [.int x (ts 0),.int y (ts 1)] 0 0 1 .none (.int x (ts 0)) s cl _ (frO [] 0 #[]) (fun _ _ => []) (fun _ _ => []) [(s,lstO (iv (x :: y :: xs) ts) n)] _ (fun t => .int 0 t) _ (dn02 (wf w b c) l it e (.int x (ts 0)) (.int y (ts 1)) .none) (D1.sel [2,3,4,0,5,1] (by decide)) ?_
    intro a t h2 k2 D2
    refine fragQ ([(cl,lstO [.int 34933 t0,.int 4 t1] 0)] ++ ([(l,lstO [.int x (ts 0),.int y (ts 1)] 0),(it,litO l 1),(e,enO .none it 1 (.int x (ts 0)))] ++ [(s,lstO (iv (x :: y :: xs) ts) n)])) D2 (List.Perm.refl _) (da0 w L s cl a t (ts 0) .none [] H T x b c) AB.hh hA noIns ?_
    intro nn3 tt3 om3 xi3 h3 k3 D3
    refine fragQ ([(l,lstO [.int x (ts 0),.int y (ts 1)] 0),(it,litO l 1),(e,enO .none it 1 (.int x (ts 0)))] ++ [(s,lstO (iv (x :: y :: xs) ts) n)]) D3 (List.Perm.refl _) (db0 w L s cl t (ts 0) t0 t1 0 34933 4 x _ _ (ov (ov H 2 (hs (wf w b c).params "k")) 3 (hs (wf w b c).params "x")) (ov (ov T 2 (tt3 0)) 3 (tt3 0 + 1)) b c) AB.hh hA (okIL _ fun nn tt om xi => oneIns (hmd x _ _) (oneIns (iadd_ok AB.hh rfl) nilIns)) ?_
    intro nn4 tt4 om4 xi4 h4 k4 D4
    generalize ov (ov H 2 (hs (wf w b c).params "k")) 3 (hs (wf w b c).params "x") = H' at D4
    generalize ov (ov T 2 (tt3 0)) 3 (tt3 0 + 1) = T' at D4
    refine drTurn w b c hA L l it e [.int x (ts 0),.int y (ts 1)] 1 1 2 (.int x (ts 0)) (.int y (ts 1)) s cl _ (frO [] 0 #[]) (fun _ _ => []) (fun _ _ => []) [(s,lstO (iv (x :: y :: xs) ts) n)] _ (fun t => .int 1 t) _ (dn12 (wf w b c) l it e (.int x (ts 0)) (.int y (ts 1)) (.int x (ts 0))) (D4.sel [2,3,4,0,1,5] (by decide)) ?_
    intro a5 t5 h5 k5 D5
    refine fragQ _ D5 (List.Perm.refl _) (led := [_,_]) (da1 w L s cl a5 t5 (ts 1) .none [] H' T' y (.int 0 t) (.int x (ts 0)) b c) AB.hh hA noIns ?_
    intro nn6 tt6 om6 xi6 h6 k6 D6
    refine fragQ _ D6 (List.Perm.refl _) (led := [_,_]) (db1 w L s cl t5 (ts 1) t1 _ 0 4 _ y _ _ H' T' b c) AB.hh hA (okIL _ fun nn tt om xi => oneIns (hmd y _ _) (oneIns (iadd_ok AB.hh rfl) nilIns)) ?_
    intro nn7 tt7 om7 xi7 h7 k7 D7
    refine drEnd w b c hA L l it e [.int x (ts 0),.int y (ts 1)] 2 2 (.int y (ts 1)) _ _ (de2 (wf w b c) l it e (.int x (ts 0)) (.int y (ts 1)) (.int y (ts 1))) (D7.sel [2,3,4,0,5,1] (by decide)) ?_
    intro h8 k8 D8
    exact h _ _ _ h8 k8 (.inr ⟨_,_,_,_,rfl⟩) D8
noncomputable def drMode (xs : List Int) : Nat := (Int.fmod (cell0 xs) (Int.ofNat (65535 + 1))).toNat
noncomputable def drCount (xs : List Int) : Nat := (Int.fmod (cell1 xs) (Int.ofNat (9 + 1))).toNat
noncomputable def drSwaps (xs : List Int) : List Nat := ((xs.drop 2).take 8).map fun x => (Int.fmod x (Int.ofNat (80 + 1))).toNat
theorem fmod_pos (x : Int) (k : Nat) : Int.fmod x (Int.ofNat (k + 1)) = Int.ofNat (Int.fmod x (Int.ofNat (k + 1))).toNat := by
  have h : 0 ≤ Int.fmod x (Int.ofNat (k + 1)) := Int.fmod_nonneg_of_pos x (by show (0 : Int) < ((k + 1 : Nat) : Int); omega)
  exact (Int.toNat_of_nonneg h).symm
theorem fmod_lt (x : Int) (k : Nat) : (Int.fmod x (Int.ofNat (k + 1))).toNat < k + 1 := by
  have h : Int.fmod x (Int.ofNat (k + 1)) < ((k + 1 : Nat) : Int) := Int.fmod_lt_of_pos x (by show (0 : Int) < ((k + 1 : Nat) : Int); omega)
  have h0 : 0 ≤ Int.fmod x (Int.ofNat (k + 1)) := Int.fmod_nonneg_of_pos x (by show (0 : Int) < ((k + 1 : Nat) : Int); omega)
  omega
theorem drSwaps_mods (xs : List Int) : mods 80 ((xs.drop 2).take 8) = (drSwaps xs).map Int.ofNat := by
  unfold mods drSwaps
  rw [List.map_map]
  exact List.map_congr_left fun x _ => fmod_pos x 80
theorem drSwaps_81 (xs : List Int) : ∀ s ∈ drSwaps xs,s < 81 := by
  intro s hs
  obtain ⟨x,_,rfl⟩ := List.mem_map.mp hs
  exact fmod_lt x 80
theorem drSwaps_len (xs : List Int) : (drSwaps xs).length ≤ 8 := by
  unfold drSwaps
  rw [List.length_map,List.length_take]; omega
theorem fn171 (P : Params) : fnOk P 171 := ⟨_,_,_,_,_,rfl,rfl,rfl,rfl,rfl,rfl,rfl⟩
theorem body171 (P : Params) : bodyOf P 171 = [nthS P 171 0,nthS P 171 1,nthS P 171 2] := rfl
noncomputable def drwI (j s : Nat) (xs : List Int) (ts : Nat → Nat) (n : Nat) : Inst := ⟨.call (.ref 171) ⟨[.ref s],[]⟩,[(j,s,lstO (iv xs ts) n)],fun ω _ => .ok (.ret (.ref (ω 0))),fun _ _ => [lstO (iv xs ts) n],
  fun ω _ => [(ω 3,lstO (iv ((drSwaps xs).map Int.ofNat) fun i => ω (i + 5)) (ω 4)),(ω 0,tupO [.int (Int.ofNat (drMode xs)) (ω 1),.int (Int.ofNat (drCount xs)) (ω 2),.ref (ω 3)])]⟩
theorem iv_drop : ∀ (k : Nat) (ns : List Int) (t : Nat → Nat),IntsAre ((iv ns t).drop k) (ns.drop k)
  | 0,ns,t => iv_are ns t
  | k + 1,[],t => .nil
  | k + 1,n :: ns,t => iv_drop k ns _
theorem are_take {vs : List Value} {ns : List Int} (h : IntsAre vs ns) : ∀ k,IntsAre (vs.take k) (ns.take k) := by
  induction h with
  | nil => intro k; rw [List.take_nil,List.take_nil]; exact .nil
  | cons n tk _ ih =>
    intro k
    cases k with
    | zero => exact .nil
    | succ k => exact .cons _ _ (ih k)
theorem drw_ok (w : World) (b c : Bool) (j s : Nat) (xs : List Int) (ts : Nat → Nat) (n : Nat) (hx : xs.length ≤ 63) : IOk theP (wf w b c) (MyK (wf w b c).params) (AB 790 6000) (drwI j s xs ts n) := by
  intro A sh R hA hK hn hd hof hlo hR
  have D := Rp.start _ hK hn hd hof hlo
  refine x_call ?_ (by intro z; cases z)
  refine enterFn 171 60 _ [.ref s] [("script",.ref s)] _ (fn171 _) (by kernel_rfl) hA.1 (limit_ok (Nat.le_trans hA.2.1 (by decide))) D (fun nn tt om xi ps => n171 (wf w b c) s nn tt om xi ps) ?_
  intro L T h1 k1 D1
  have hA' : AB 839 6900 ((A.mark none).deeper (envAt (wf w b c).params 171 L)) := (AB.deep hA).mono (by decide) (by decide)
  refine ks_codeAny_funcAt (wpAt_of_wpAny ?_)
  rw [body171]
  refine wpAny_execs_cons ?_
  refine fragQ [(s,lstO (iv xs ts) n)] D1 (List.Perm.swap _ _ _) (d0 (wf w b c) L s _ _) AB.hh hA' noIns ?_
  intro nn tt om xi h2 k2 D2
  refine wpAny_execs_cons ?_
  refine drFor w b c hA' L s (nn 0) n (tt 0) (tt 0 + 1) xs ts hx (fun i => match i with | 0 => hs (wf w b c).params "script" | _ => hs (wf w b c).params "cells") (fun i => match i with | 0 => T 0 | _ => tt 0 + 2) _ (D2.sel [0,2,1] (by decide)) ?_
  intro fr u0 u1 h3 k3 hfr D3
  refine wpAny_execs_cons ?_
  have hlen : (iv xs ts).length ≤ 1000 := by rw [iv_length]; omega
  have har : IntsAre (((iv xs ts).drop 2).take (10 - 2)) ((xs.drop 2).take 8) := are_take (iv_drop 2 xs ts) 8
  have hl8 : ((xs.drop 2).take 8).length ≤ 8 := by rw [List.length_take]; omega
  have hm0 : ∀ t u,IOk theP (wf w b c) (MyK (wf w b c).params) (AB 839 6900) (bI "int.__mod__" [.int (cell0 xs) t,.int 65536 u] (intR (Int.ofNat (drMode xs)))) := fun t u => imod_ok (k := 65535) AB.hh (fmod_pos _ _)
  have hm1 : ∀ t u,IOk theP (wf w b c) (MyK (wf w b c).params) (AB 839 6900) (bI "int.__mod__" [.int (cell1 xs) t,.int 10 u] (intR (Int.ofNat (drCount xs)))) := fun t u => imod_ok (k := 9) AB.hh (fmod_pos _ _)
  have hsl : ∀ j1 j2 q t u,IOk theP (wf w b c) (MyK (wf w b c).params) (AB 839 6900) (lslI j1 j2 s q (iv xs ts) n (.int 2 t) (.int 10 u) (((iv xs ts).drop 2).take (10 - 2))) := fun j1 j2 q t u => lsl_ok (.int _ _) (.int _ _) (pickFT _ 2 10 (by decide)) hlen
  have fin : ∀ (acc q t2 t3 na : Nat) (tf : Nat → Nat) h' tk',Rp (MyK (wf w b c).params) sh.heap (adrs (drwI j s xs ts n).need) h' [(s,lstO (iv xs ts) n),(acc,lstO (iv (mods 80 ((xs.drop 2).take 8)) tf) na),(q,tupO [.int (Int.ofNat (drMode xs)) t2,.int (Int.ofNat (drCount xs)) t3,.ref acc])] →
      wpAny (model theP (wf w b c)) A (Sem.pure (Except.ok (Flow.ret (.ref q)))) R (fun _ _ => False) { sh with heap := h',toks := tk' } := by
    intro acc q t2 t3 na tf h' tk' D'
    rw [drSwaps_mods] at D'
    exact wpAny_pure (hR (fun i => match i with | 0 => q | 1 => t2 | 2 => t3 | 3 => acc | 4 => na | i + 5 => tf i) (fun _ => #[]) h' tk' rfl (Eff.ofApp (l := (drwI j s xs ts n).need) D' rfl))
  by_cases he : (xs.drop 2).take 8 = []
  · have hc := fun L jl jt ja jd ls it acc Lc => cmpD_ok w b c L jl jt ja jd ls it acc Lc _ _ har hl8 0 (.inl ⟨rfl,he⟩)
    rcases hfr with ⟨H,T,rfl⟩ | ⟨H,T,k0,x0,rfl⟩
    · refine fragQ [] D3 (List.Perm.refl _) (d2a0 w L s (nn 0) n 0 (cell0 xs) (cell1 xs) _ _ u0 u1 (iv xs ts) _ (fun ω => iv (mods 80 ((xs.drop 2).take 8)) fun i => ω (i + 2)) _ .none .none (fun _ => .none) H T b c) AB.hh hA' (okIL _ fun nn tt om xi => oneIns (hm0 _ _) (oneIns (hm1 _ _) (oneIns (hsl _ _ _ _ _) (oneIns (hc L 4 5 6 7 _ _ _ _) nilIns)))) ?_
      intro nn4 tt4 om4 xi4 h4 k4 D4
      exact fin _ _ _ _ _ _ h4 k4 D4
    · refine fragQ [] D3 (List.Perm.refl _) (d2b0 w L s (nn 0) n 0 (cell0 xs) (cell1 xs) _ _ u0 u1 (iv xs ts) _ (fun ω => iv (mods 80 ((xs.drop 2).take 8)) fun i => ω (i + 2)) _ k0 x0 (fun _ => .none) H T b c) AB.hh hA' (okIL _ fun nn tt om xi => oneIns (hm0 _ _) (oneIns (hm1 _ _) (oneIns (hsl _ _ _ _ _) (oneIns (hc L 4 5 6 7 _ _ _ _) nilIns)))) ?_
      intro nn4 tt4 om4 xi4 h4 k4 D4
      exact fin _ _ _ _ _ _ h4 k4 D4
  · have hc := fun L jl jt ja jd ls it acc Lc => cmpD_ok w b c L jl jt ja jd ls it acc Lc _ _ har hl8 1 (.inr ⟨rfl,he⟩)
    rcases hfr with ⟨H,T,rfl⟩ | ⟨H,T,k0,x0,rfl⟩
    · refine fragQ [] D3 (List.Perm.refl _) (d2a1 w L s (nn 0) n 0 (cell0 xs) (cell1 xs) _ _ u0 u1 (iv xs ts) _ (fun ω => iv (mods 80 ((xs.drop 2).take 8)) fun i => ω (i + 2)) _ .none .none (fun _ => (((iv xs ts).drop 2).take (10 - 2)).getLastD .none) H T b c) AB.hh hA' (okIL _ fun nn tt om xi => oneIns (hm0 _ _) (oneIns (hm1 _ _) (oneIns (hsl _ _ _ _ _) (oneIns (hc L 4 5 6 7 _ _ _ _) nilIns)))) ?_
      intro nn4 tt4 om4 xi4 h4 k4 D4
      exact fin _ _ _ _ _ _ h4 k4 D4
    · refine fragQ [] D3 (List.Perm.refl _) (d2b1 w L s (nn 0) n 0 (cell0 xs) (cell1 xs) _ _ u0 u1 (iv xs ts) _ (fun ω => iv (mods 80 ((xs.drop 2).take 8)) fun i => ω (i + 2)) _ k0 x0 (fun _ => (((iv xs ts).drop 2).take (10 - 2)).getLastD .none) H T b c) AB.hh hA' (okIL _ fun nn tt om xi => oneIns (hm0 _ _) (oneIns (hm1 _ _) (oneIns (hsl _ _ _ _ _) (oneIns (hc L 4 5 6 7 _ _ _ _) nilIns)))) ?_
      intro nn4 tt4 om4 xi4 h4 k4 D4
      exact fin _ _ _ _ _ _ h4 k4 D4
noncomputable abbrev mf (H : Nat → Int) (T : Nat → Nat) (m tm : Nat) (es : List DictEntry) (n : Nat) : Obj := frO (fe H T 0 "mode" (.int (Int.ofNat m) tm) :: es) n #[]
noncomputable abbrev mf2 (H : Nat → Int) (T : Nat → Nat) (m tm p : Nat) : Obj := mf H T m tm [fe H T 1 "perm" (.ref p)] 2
noncomputable abbrev mf4 (H : Nat → Int) (T : Nat → Nat) (m tm p : Nat) (v1 v2 : Value) : Obj := mf H T m tm [fe H T 1 "perm" (.ref p),fe H T 2 "index" v1,fe H T 3 "table" v2] 4
noncomputable abbrev mf6 (H : Nat → Int) (T : Nat → Nat) (m tm p : Nat) (v1 v2 v3 v4 : Value) : Obj := mf H T m tm [fe H T 1 "perm" (.ref p),fe H T 2 "index" v1,fe H T 3 "table" v2,fe H T 4 "bit" v3,fe H T 5 "char" v4] 6
noncomputable abbrev titO (t i : Nat) : Obj := ⟨.type "tuple_iterator",none,.fields #[.ref t,.int (Int.ofNat i) 0],#[]⟩
noncomputable def ifmtI (m tm : Nat) : Inst := ⟨.call (.ref 126) ⟨[.int (Int.ofNat m) tm],[]⟩,[],fun ω _ => .ok (.ret (.int (Int.ofNat (Nat.land m 61440)) (ω 0))),fun _ _ => [],fun _ _ => []⟩
theorem n166 (w:World) (m tm:Nat) (nn tt om xi ps):Ends (go w 60 (nfe w.params 166 [("mode",.int (Int.ofNat m) tm)]) [1,1] ([]) .nil nn tt om xi ps) ([0]) (.ok (envAt w.params 166 (nn 0))) ([(nn 0,mf (fun i=>hs w.params "mode") (fun i=>tt 0) m tm [] 1)]) := by trivial
theorem n126 (w:World) (m tm:Nat) (nn tt om xi ps):Ends (go w 60 (nfe w.params 126 [("mode",.int (Int.ofNat m) tm)]) [1,1] ([]) .nil nn tt om xi ps) ([0]) (.ok (envAt w.params 126 (nn 0))) ([(nn 0,mf (fun i=>hs w.params "mode") (fun i=>tt 0) m tm [] 1)]) := by trivial
theorem s126 (w:World) (L m tm:Nat) (H:NI) (T:NN) (b c:Bool) (nn tt om xi ps):Ends (go (wf w b c) 60 (execs (bodyOf (wf w b c).params 126) (envAt (wf w b c).params 126 L)) [1,1] ([(L,mf H T m tm [] 1)]) (IL fun nn tt om xi=>[bI "int.__and__" [.int (Int.ofNat m) tm,.int (Int.ofNat 61440) (tt 0)] (intR (Int.ofNat (Nat.land m 61440)))]) nn tt om xi ps) ([]) (.ok (.ret (.int (Int.ofNat (Nat.land m 61440)) (om 0 0)))) ([]) := by cases b <;> trivial
theorem m0 (w:World) (L m tm:Nat) (H:NI) (T:NN) (nn tt om xi ps):Ends (go w 60 (exec (nthS w.params 166 0) (envAt w.params 166 L)) [1,1] ([(L,mf H T m tm [] 1)]) .nil nn tt om xi ps) ([0,1]) (.ok .next) ([(L,mf H T m tm [en (hs w.params "perm") "perm" (tt 0) (.ref (nn 0))] 2),(nn 0,lstO [] 0)]) := by trivial
theorem m1 (w:World) (L m tm p:Nat) (H:NI) (T:NN) (b c:Bool) (nn tt om xi ps):Ends (go (wf w b c) 200 (itT (nthS (wf w b c).params 166 1) (envAt (wf w b c).params 166 L)) [0,0,0,0,0,0,0,0,0,2,3,3,0,3,3,3,3,0,3,3] ([(L,mf2 H T m tm p)]) .nil nn tt om xi ps) ([0,1,2]) (.ok (.ref (nn 0+1))) ([(L,mf2 H T m tm p),(nn 0,titO 159 0),(nn 0+1,enO .none (nn 0) 0 .none)]) := by cases b <;> trivial
theorem mn0 (w:World) (it e:Nat) (z:Value) (nn tt om xi ps):Ends (go w 200 (pyNext (.ref e)) [2,0,2,2,1,0,1,1,1,0,1,1,2,2,2,2,2,2,2,2,2,2,2,2,2,2] ([(it,titO 159 0),(e,enO .none it 0 z)]) .nil nn tt om xi ps) ([0,1,2]) (.ok (some (.ref (nn 0)))) ([(it,titO 159 1),(e,enO (rawInt (nn 0)) it 1 (.ref 134)),(nn 0,tupO [.int 0 (tt 0),.ref 134])]) := by trivial
theorem mn1 (w:World) (it e:Nat) (z:Value) (nn tt om xi ps):Ends (go w 200 (pyNext (.ref e)) [2,0,2,2,1,0,1,1,1,0,1,1,2,2,2,2,2,2,2,2,2,2,2,2,2,2] ([(it,titO 159 1),(e,enO .none it 1 z)]) .nil nn tt om xi ps) ([0,1,2]) (.ok (some (.ref (nn 0)))) ([(it,titO 159 2),(e,enO (rawInt (nn 0)) it 2 (.ref 136)),(nn 0,tupO [.int 1 (tt 0),.ref 136])]) := by trivial
theorem mn2 (w:World) (it e:Nat) (z:Value) (nn tt om xi ps):Ends (go w 200 (pyNext (.ref e)) [2,0,2,2,1,0,1,1,1,0,1,1,2,2,2,2,2,2,2,2,2,2,2,2,2,2] ([(it,titO 159 2),(e,enO .none it 2 z)]) .nil nn tt om xi ps) ([0,1,2]) (.ok (some (.ref (nn 0)))) ([(it,titO 159 3),(e,enO (rawInt (nn 0)) it 3 (.ref 138)),(nn 0,tupO [.int 2 (tt 0),.ref 138])]) := by trivial
theorem mn3 (w:World) (it e:Nat) (z:Value) (nn tt om xi ps):Ends (go w 200 (pyNext (.ref e)) [2,0,2,2,1,0,1,1,1,0,1,1,2,2,2,2,2,2,2,2,2,2,2,2,2,2] ([(it,titO 159 3),(e,enO .none it 3 z)]) .nil nn tt om xi ps) ([0,1,2]) (.ok (some (.ref (nn 0)))) ([(it,titO 159 4),(e,enO (rawInt (nn 0)) it 4 (.ref 142)),(nn 0,tupO [.int 3 (tt 0),.ref 142])]) := by trivial
theorem mn4 (w:World) (it e:Nat) (z:Value) (nn tt om xi ps):Ends (go w 200 (pyNext (.ref e)) [2,0,2,2,1,0,1,1,1,0,1,1,2,2,2,2,2,2,2,2,2,2,2,2,2,2] ([(it,titO 159 4),(e,enO .none it 4 z)]) .nil nn tt om xi ps) ([0,1,2]) (.ok (some (.ref (nn 0)))) ([(it,titO 159 5),(e,enO (rawInt (nn 0)) it 5 (.ref 144)),(nn 0,tupO [.int 4 (tt 0),.ref 144])]) := by trivial
theorem mn5 (w:World) (it e:Nat) (z:Value) (nn tt om xi ps):Ends (go w 200 (pyNext (.ref e)) [2,0,2,2,1,0,1,1,1,0,1,1,2,2,2,2,2,2,2,2,2,2,2,2,2,2] ([(it,titO 159 5),(e,enO .none it 5 z)]) .nil nn tt om xi ps) ([0,1,2]) (.ok (some (.ref (nn 0)))) ([(it,titO 159 6),(e,enO (rawInt (nn 0)) it 6 (.ref 146)),(nn 0,tupO [.int 5 (tt 0),.ref 146])]) := by trivial
theorem mn6 (w:World) (it e:Nat) (z:Value) (nn tt om xi ps):Ends (go w 200 (pyNext (.ref e)) [2,0,2,2,1,0,1,1,1,0,1,1,2,2,2,2,2,2,2,2,2,2,2,2,2,2] ([(it,titO 159 6),(e,enO .none it 6 z)]) .nil nn tt om xi ps) ([0,1,2]) (.ok (some (.ref (nn 0)))) ([(it,titO 159 7),(e,enO (rawInt (nn 0)) it 7 (.ref 150)),(nn 0,tupO [.int 6 (tt 0),.ref 150])]) := by trivial
theorem mn7 (w:World) (it e:Nat) (z:Value) (nn tt om xi ps):Ends (go w 200 (pyNext (.ref e)) [2,0,2,2,1,0,1,1,1,0,1,1,2,2,2,2,2,2,2,2,2,2,2,2,2,2] ([(it,titO 159 7),(e,enO .none it 7 z)]) .nil nn tt om xi ps) ([0,1,2]) (.ok (some (.ref (nn 0)))) ([(it,titO 159 8),(e,enO (rawInt (nn 0)) it 8 (.ref 152)),(nn 0,tupO [.int 7 (tt 0),.ref 152])]) := by trivial
theorem mn8 (w:World) (it e:Nat) (z:Value) (nn tt om xi ps):Ends (go w 200 (pyNext (.ref e)) [2,0,2,2,1,0,1,1,1,0,1,1,2,2,2,2,2,2,2,2,2,2,2,2,2,2] ([(it,titO 159 8),(e,enO .none it 8 z)]) .nil nn tt om xi ps) ([0,1,2]) (.ok (some (.ref (nn 0)))) ([(it,titO 159 9),(e,enO (rawInt (nn 0)) it 9 (.ref 154)),(nn 0,tupO [.int 8 (tt 0),.ref 154])]) := by trivial
theorem mn9 (w:World) (it e:Nat) (z:Value) (nn tt om xi ps):Ends (go w 200 (pyNext (.ref e)) [2,0,2,2,1,0,1,1,1,0,1,1,2,2,2,2,2,2,2,2,2,2,2,2,2,2] ([(it,titO 159 9),(e,enO .none it 9 z)]) .nil nn tt om xi ps) ([0,1,2]) (.ok (some (.ref (nn 0)))) ([(it,titO 159 10),(e,enO (rawInt (nn 0)) it 10 (.ref 158)),(nn 0,tupO [.int 9 (tt 0),.ref 158])]) := by trivial
theorem mne (w:World) (it e:Nat) (z:Value) (nn tt om xi ps):Ends (go w 200 (pyNext (.ref e)) [2,0,2,2,1,0,1,1,1,0,1,1,4] ([(it,titO 159 10),(e,enO .none it 10 z)]) .nil nn tt om xi ps) ([]) (.ok none) ([]) := by trivial
theorem ma0 (w:World) (L m tm p a t0 q:Nat) (x:Int) (H:NI) (T:NN) (b c:Bool) (nn tt om xi ps):Ends (go (wf w b c) 200 (fasg (nthS (wf w b c).params 166 1) (envAt (wf w b c).params 166 L) (.ref a)) [2,2,2,0,2,3,3,0,3,3,3,2,3,3,3,0,3,3,3,2,3,3,3,0,3,3,3,2,3,3,5,1,1,1,1] ([(L,mf2 H T m tm p),(a,tupO [.int x t0,.ref q])]) .nil nn tt om xi ps) ([0]) (.ok ()) ([(L,mf4 (ov (ov H 2 (hs (wf w b c).params "index")) 3 (hs (wf w b c).params "table")) (ov (ov T 2 (tt 0)) 3 (tt 0+1)) m tm p (.int x t0) (.ref q))]) := by cases b <;> trivial
theorem ma1 (w:World) (L m tm p a t0 q:Nat) (x:Int) (v1 v2 v3 v4:Value) (H:NI) (T:NN) (b c:Bool) (nn tt om xi ps):Ends (go (wf w b c) 200 (fasg (nthS (wf w b c).params 166 1) (envAt (wf w b c).params 166 L) (.ref a)) [2,2,2,0,2,3,3,0,3,3,3,2,3,3,3,0,3,3,3,2,3,3,3,0,3,3,3,2,3,3,5,1,1,1,1] ([(L,mf6 H T m tm p v1 v2 v3 v4),(a,tupO [.int x t0,.ref q])]) .nil nn tt om xi ps) ([0]) (.ok ()) ([(L,mf6 H T m tm p (.int x t0) (.ref q) v3 v4)]) := by cases b <;> trivial
theorem mb00 (w:World) (L m tm p na t0:Nat) (us:List Value) (v3 v4:Value) (H:NI) (T:NN) (b c:Bool) (nn tt om xi ps):Ends (go (wf w b c) 800 (fbody (nthS (wf w b c).params 166 1) (envAt (wf w b c).params 166 L)) [1,0,0,0,0,3,0,3,0,3,3,3,0,3,3,3,0,0,0,0,0,4,4,0,4,4,4,0,4,4,4,0,4,4,4,0,4,4,4,0,4,4,4,0,4,4,6,1,1,1,1,1,0,0,1,0,1,1,1,1,2,2,2,2,1,1] ([(L,mf4 H T m tm p (.int 0 t0) (.ref 134)),(p,lstO us na)]) (IL fun nn tt om xi=>[ifmtI m tm,bI "int.__eq__" [.int (Int.ofNat (Nat.land m 61440)) (om 0 0),.int (Int.ofNat 40960) 338] (boolR true),lappI 1 p us na (.str "l" 366)]) nn tt om xi ps) ([0,1]) (.ok .next) ([(L,mf6 (ov (ov H 4 (hs (wf w b c).params "bit")) 5 (hs (wf w b c).params "char")) (ov (ov T 4 (tt 0)) 5 (tt 0+1)) m tm p (.int 0 t0) (.ref 134) (.int (Int.ofNat 40960) 338) (.str "l" 366)),(p,lstO (us++[.str "l" 366]) (na+1))]) := by cases b <;> trivial
theorem mb01 (w:World) (L m tm p na t0:Nat) (us:List Value) (v3 v4:Value) (H:NI) (T:NN) (b c:Bool) (nn tt om xi ps):Ends (go (wf w b c) 800 (fbody (nthS (wf w b c).params 166 1) (envAt (wf w b c).params 166 L)) [1,0,0,0,0,3,0,3,0,3,3,3,0,3,3,3,0,0,0,0,0,4,4,0,4,4,4,0,4,4,4,0,4,4,4,0,4,4,4,0,4,4,4,0,4,4,6,1,1,1,1,1,0,0,1,0,1,1,1,3,0,3,3,3,0,3,3,3,0,0,0,0,0,7,7,0,7,7,7,0,7,7,7,0,7,7,7,0,7,7,7,0,7,7,7,0,7,7,9,1,1,1,1,1,0,0,1,0,1,1,1,1,2,2,2,2,1,1] ([(L,mf4 H T m tm p (.int 0 t0) (.ref 134)),(p,lstO us na)]) (IL fun nn tt om xi=>[ifmtI m tm,bI "int.__eq__" [.int (Int.ofNat (Nat.land m 61440)) (om 0 0),.int (Int.ofNat 40960) 338] (boolR false),ifmtI m tm,bI "int.__eq__" [.int (Int.ofNat (Nat.land m 61440)) (om 2 0),.int (Int.ofNat 49152) 340] (boolR true),lappI 1 p us na (.str "s" 367)]) nn tt om xi ps) ([0,1]) (.ok .next) ([(L,mf6 (ov (ov H 4 (hs (wf w b c).params "bit")) 5 (hs (wf w b c).params "char")) (ov (ov T 4 (tt 0)) 5 (tt 0+1)) m tm p (.int 0 t0) (.ref 134) (.int (Int.ofNat 49152) 340) (.str "s" 367)),(p,lstO (us++[.str "s" 367]) (na+1))]) := by cases b <;> trivial
theorem mb02 (w:World) (L m tm p na t0:Nat) (us:List Value) (v3 v4:Value) (H:NI) (T:NN) (b c:Bool) (nn tt om xi ps):Ends (go (wf w b c) 800 (fbody (nthS (wf w b c).params 166 1) (envAt (wf w b c).params 166 L)) [1,0,0,0,0,3,0,3,0,3,3,3,0,3,3,3,0,0,0,0,0,4,4,0,4,4,4,0,4,4,4,0,4,4,4,0,4,4,4,0,4,4,4,0,4,4,6,1,1,1,1,1,0,0,1,0,1,1,1,3,0,3,3,3,0,3,3,3,0,0,0,0,0,7,7,0,7,7,7,0,7,7,7,0,7,7,7,0,7,7,7,0,7,7,7,0,7,7,9,1,1,1,1,1,0,0,1,0,1,1,1,3,0,3,3,3,0,3,3,3,0,0,0,0,0,10,10,0,10,10,10,0,10,10,10,0,10,10,10,0,10,10,10,0,10,10,10,0,10,10,12,1,1,1,1,1,0,0,1,0,1,1,1,1,2,2,2,2,1,1] ([(L,mf4 H T m tm p (.int 0 t0) (.ref 134)),(p,lstO us na)]) (IL fun nn tt om xi=>[ifmtI m tm,bI "int.__eq__" [.int (Int.ofNat (Nat.land m 61440)) (om 0 0),.int (Int.ofNat 40960) 338] (boolR false),ifmtI m tm,bI "int.__eq__" [.int (Int.ofNat (Nat.land m 61440)) (om 2 0),.int (Int.ofNat 49152) 340] (boolR false),ifmtI m tm,bI "int.__eq__" [.int (Int.ofNat (Nat.land m 61440)) (om 4 0),.int (Int.ofNat 32768) 334] (boolR true),lappI 1 p us na (.str "-" 368)]) nn tt om xi ps) ([0,1]) (.ok .next) ([(L,mf6 (ov (ov H 4 (hs (wf w b c).params "bit")) 5 (hs (wf w b c).params "char")) (ov (ov T 4 (tt 0)) 5 (tt 0+1)) m tm p (.int 0 t0) (.ref 134) (.int (Int.ofNat 32768) 334) (.str "-" 368)),(p,lstO (us++[.str "-" 368]) (na+1))]) := by cases b <;> trivial
theorem mb03 (w:World) (L m tm p na t0:Nat) (us:List Value) (v3 v4:Value) (H:NI) (T:NN) (b c:Bool) (nn tt om xi ps):Ends (go (wf w b c) 800 (fbody (nthS (wf w b c).params 166 1) (envAt (wf w b c).params 166 L)) [1,0,0,0,0,3,0,3,0,3,3,3,0,3,3,3,0,0,0,0,0,4,4,0,4,4,4,0,4,4,4,0,4,4,4,0,4,4,4,0,4,4,4,0,4,4,6,1,1,1,1,1,0,0,1,0,1,1,1,3,0,3,3,3,0,3,3,3,0,0,0,0,0,7,7,0,7,7,7,0,7,7,7,0,7,7,7,0,7,7,7,0,7,7,7,0,7,7,9,1,1,1,1,1,0,0,1,0,1,1,1,3,0,3,3,3,0,3,3,3,0,0,0,0,0,10,10,0,10,10,10,0,10,10,10,0,10,10,10,0,10,10,10,0,10,10,10,0,10,10,12,1,1,1,1,1,0,0,1,0,1,1,1,3,0,3,3,3,0,3,3,3,0,0,0,0,0,13,13,0,13,13,13,0,13,13,13,0,13,13,13,0,13,13,13,0,13,13,13,0,13,13,15,1,1,1,1,1,0,0,1,0,1,1,1,1,2,2,2,2,1,1] ([(L,mf4 H T m tm p (.int 0 t0) (.ref 134)),(p,lstO us na)]) (IL fun nn tt om xi=>[ifmtI m tm,bI "int.__eq__" [.int (Int.ofNat (Nat.land m 61440)) (om 0 0),.int (Int.ofNat 40960) 338] (boolR false),ifmtI m tm,bI "int.__eq__" [.int (Int.ofNat (Nat.land m 61440)) (om 2 0),.int (Int.ofNat 49152) 340] (boolR false),ifmtI m tm,bI "int.__eq__" [.int (Int.ofNat (Nat.land m 61440)) (om 4 0),.int (Int.ofNat 32768) 334] (boolR false),ifmtI m tm,bI "int.__eq__" [.int (Int.ofNat (Nat.land m 61440)) (om 6 0),.int (Int.ofNat 24576) 332] (boolR true),lappI 1 p us na (.str "b" 369)]) nn tt om xi ps) ([0,1]) (.ok .next) ([(L,mf6 (ov (ov H 4 (hs (wf w b c).params "bit")) 5 (hs (wf w b c).params "char")) (ov (ov T 4 (tt 0)) 5 (tt 0+1)) m tm p (.int 0 t0) (.ref 134) (.int (Int.ofNat 24576) 332) (.str "b" 369)),(p,lstO (us++[.str "b" 369]) (na+1))]) := by cases b <;> trivial
theorem mb04 (w:World) (L m tm p na t0:Nat) (us:List Value) (v3 v4:Value) (H:NI) (T:NN) (b c:Bool) (nn tt om xi ps):Ends (go (wf w b c) 800 (fbody (nthS (wf w b c).params 166 1) (envAt (wf w b c).params 166 L)) [1,0,0,0,0,3,0,3,0,3,3,3,0,3,3,3,0,0,0,0,0,4,4,0,4,4,4,0,4,4,4,0,4,4,4,0,4,4,4,0,4,4,4,0,4,4,6,1,1,1,1,1,0,0,1,0,1,1,1,3,0,3,3,3,0,3,3,3,0,0,0,0,0,7,7,0,7,7,7,0,7,7,7,0,7,7,7,0,7,7,7,0,7,7,7,0,7,7,9,1,1,1,1,1,0,0,1,0,1,1,1,3,0,3,3,3,0,3,3,3,0,0,0,0,0,10,10,0,10,10,10,0,10,10,10,0,10,10,10,0,10,10,10,0,10,10,10,0,10,10,12,1,1,1,1,1,0,0,1,0,1,1,1,3,0,3,3,3,0,3,3,3,0,0,0,0,0,13,13,0,13,13,13,0,13,13,13,0,13,13,13,0,13,13,13,0,13,13,13,0,13,13,15,1,1,1,1,1,0,0,1,0,1,1,1,3,0,3,3,3,0,3,3,3,0,0,0,0,0,16,16,0,16,16,16,0,16,16,16,0,16,16,16,0,16,16,16,0,16,16,16,0,16,16,18,1,1,1,1,1,0,0,1,0,1,1,1,1,2,2,2,2,1,1] ([(L,mf4 H T m tm p (.int 0 t0) (.ref 134)),(p,lstO us na)]) (IL fun nn tt om xi=>[ifmtI m tm,bI "int.__eq__" [.int (Int.ofNat (Nat.land m 61440)) (om 0 0),.int (Int.ofNat 40960) 338] (boolR false),ifmtI m tm,bI "int.__eq__" [.int (Int.ofNat (Nat.land m 61440)) (om 2 0),.int (Int.ofNat 49152) 340] (boolR false),ifmtI m tm,bI "int.__eq__" [.int (Int.ofNat (Nat.land m 61440)) (om 4 0),.int (Int.ofNat 32768) 334] (boolR false),ifmtI m tm,bI "int.__eq__" [.int (Int.ofNat (Nat.land m 61440)) (om 6 0),.int (Int.ofNat 24576) 332] (boolR false),ifmtI m tm,bI "int.__eq__" [.int (Int.ofNat (Nat.land m 61440)) (om 8 0),.int (Int.ofNat 16384) 328] (boolR true),lappI 1 p us na (.str "d" 370)]) nn tt om xi ps) ([0,1]) (.ok .next) ([(L,mf6 (ov (ov H 4 (hs (wf w b c).params "bit")) 5 (hs (wf w b c).params "char")) (ov (ov T 4 (tt 0)) 5 (tt 0+1)) m tm p (.int 0 t0) (.ref 134) (.int (Int.ofNat 16384) 328) (.str "d" 370)),(p,lstO (us++[.str "d" 370]) (na+1))]) := by cases b <;> trivial
theorem mb05 (w:World) (L m tm p na t0:Nat) (us:List Value) (v3 v4:Value) (H:NI) (T:NN) (b c:Bool) (nn tt om xi ps):Ends (go (wf w b c) 800 (fbody (nthS (wf w b c).params 166 1) (envAt (wf w b c).params 166 L)) [1,0,0,0,0,3,0,3,0,3,3,3,0,3,3,3,0,0,0,0,0,4,4,0,4,4,4,0,4,4,4,0,4,4,4,0,4,4,4,0,4,4,4,0,4,4,6,1,1,1,1,1,0,0,1,0,1,1,1,3,0,3,3,3,0,3,3,3,0,0,0,0,0,7,7,0,7,7,7,0,7,7,7,0,7,7,7,0,7,7,7,0,7,7,7,0,7,7,9,1,1,1,1,1,0,0,1,0,1,1,1,3,0,3,3,3,0,3,3,3,0,0,0,0,0,10,10,0,10,10,10,0,10,10,10,0,10,10,10,0,10,10,10,0,10,10,10,0,10,10,12,1,1,1,1,1,0,0,1,0,1,1,1,3,0,3,3,3,0,3,3,3,0,0,0,0,0,13,13,0,13,13,13,0,13,13,13,0,13,13,13,0,13,13,13,0,13,13,13,0,13,13,15,1,1,1,1,1,0,0,1,0,1,1,1,3,0,3,3,3,0,3,3,3,0,0,0,0,0,16,16,0,16,16,16,0,16,16,16,0,16,16,16,0,16,16,16,0,16,16,16,0,16,16,18,1,1,1,1,1,0,0,1,0,1,1,1,3,0,3,3,3,0,3,3,3,0,0,0,0,0,19,19,0,19,19,19,0,19,19,19,0,19,19,19,0,19,19,19,0,19,19,19,0,19,19,21,1,1,1,1,1,0,0,1,0,1,1,1,1,2,2,2,2,1,1] ([(L,mf4 H T m tm p (.int 0 t0) (.ref 134)),(p,lstO us na)]) (IL fun nn tt om xi=>[ifmtI m tm,bI "int.__eq__" [.int (Int.ofNat (Nat.land m 61440)) (om 0 0),.int (Int.ofNat 40960) 338] (boolR false),ifmtI m tm,bI "int.__eq__" [.int (Int.ofNat (Nat.land m 61440)) (om 2 0),.int (Int.ofNat 49152) 340] (boolR false),ifmtI m tm,bI "int.__eq__" [.int (Int.ofNat (Nat.land m 61440)) (om 4 0),.int (Int.ofNat 32768) 334] (boolR false),ifmtI m tm,bI "int.__eq__" [.int (Int.ofNat (Nat.land m 61440)) (om 6 0),.int (Int.ofNat 24576) 332] (boolR false),ifmtI m tm,bI "int.__eq__" [.int (Int.ofNat (Nat.land m 61440)) (om 8 0),.int (Int.ofNat 16384) 328] (boolR false),ifmtI m tm,bI "int.__eq__" [.int (Int.ofNat (Nat.land m 61440)) (om 10 0),.int (Int.ofNat 8192) 330] (boolR true),lappI 1 p us na (.str "c" 371)]) nn tt om xi ps) ([0,1]) (.ok .next) ([(L,mf6 (ov (ov H 4 (hs (wf w b c).params "bit")) 5 (hs (wf w b c).params "char")) (ov (ov T 4 (tt 0)) 5 (tt 0+1)) m tm p (.int 0 t0) (.ref 134) (.int (Int.ofNat 8192) 330) (.str "c" 371)),(p,lstO (us++[.str "c" 371]) (na+1))]) := by cases b <;> trivial
theorem mb06 (w:World) (L m tm p na t0:Nat) (us:List Value) (v3 v4:Value) (H:NI) (T:NN) (b c:Bool) (nn tt om xi ps):Ends (go (wf w b c) 800 (fbody (nthS (wf w b c).params 166 1) (envAt (wf w b c).params 166 L)) [1,0,0,0,0,3,0,3,0,3,3,3,0,3,3,3,0,0,0,0,0,4,4,0,4,4,4,0,4,4,4,0,4,4,4,0,4,4,4,0,4,4,4,0,4,4,6,1,1,1,1,1,0,0,1,0,1,1,1,3,0,3,3,3,0,3,3,3,0,0,0,0,0,7,7,0,7,7,7,0,7,7,7,0,7,7,7,0,7,7,7,0,7,7,7,0,7,7,9,1,1,1,1,1,0,0,1,0,1,1,1,3,0,3,3,3,0,3,3,3,0,0,0,0,0,10,10,0,10,10,10,0,10,10,10,0,10,10,10,0,10,10,10,0,10,10,10,0,10,10,12,1,1,1,1,1,0,0,1,0,1,1,1,3,0,3,3,3,0,3,3,3,0,0,0,0,0,13,13,0,13,13,13,0,13,13,13,0,13,13,13,0,13,13,13,0,13,13,13,0,13,13,15,1,1,1,1,1,0,0,1,0,1,1,1,3,0,3,3,3,0,3,3,3,0,0,0,0,0,16,16,0,16,16,16,0,16,16,16,0,16,16,16,0,16,16,16,0,16,16,16,0,16,16,18,1,1,1,1,1,0,0,1,0,1,1,1,3,0,3,3,3,0,3,3,3,0,0,0,0,0,19,19,0,19,19,19,0,19,19,19,0,19,19,19,0,19,19,19,0,19,19,19,0,19,19,21,1,1,1,1,1,0,0,1,0,1,1,1,3,0,3,3,3,0,3,3,3,0,0,0,0,0,22,22,0,22,22,22,0,22,22,22,0,22,22,22,0,22,22,22,0,22,22,22,0,22,22,24,1,1,1,1,1,0,0,1,0,1,1,1,1,2,2,2,2,1,1] ([(L,mf4 H T m tm p (.int 0 t0) (.ref 134)),(p,lstO us na)]) (IL fun nn tt om xi=>[ifmtI m tm,bI "int.__eq__" [.int (Int.ofNat (Nat.land m 61440)) (om 0 0),.int (Int.ofNat 40960) 338] (boolR false),ifmtI m tm,bI "int.__eq__" [.int (Int.ofNat (Nat.land m 61440)) (om 2 0),.int (Int.ofNat 49152) 340] (boolR false),ifmtI m tm,bI "int.__eq__" [.int (Int.ofNat (Nat.land m 61440)) (om 4 0),.int (Int.ofNat 32768) 334] (boolR false),ifmtI m tm,bI "int.__eq__" [.int (Int.ofNat (Nat.land m 61440)) (om 6 0),.int (Int.ofNat 24576) 332] (boolR false),ifmtI m tm,bI "int.__eq__" [.int (Int.ofNat (Nat.land m 61440)) (om 8 0),.int (Int.ofNat 16384) 328] (boolR false),ifmtI m tm,bI "int.__eq__" [.int (Int.ofNat (Nat.land m 61440)) (om 10 0),.int (Int.ofNat 8192) 330] (boolR false),ifmtI m tm,bI "int.__eq__" [.int (Int.ofNat (Nat.land m 61440)) (om 12 0),.int (Int.ofNat 4096) 336] (boolR true),lappI 1 p us na (.str "p" 372)]) nn tt om xi ps) ([0,1]) (.ok .next) ([(L,mf6 (ov (ov H 4 (hs (wf w b c).params "bit")) 5 (hs (wf w b c).params "char")) (ov (ov T 4 (tt 0)) 5 (tt 0+1)) m tm p (.int 0 t0) (.ref 134) (.int (Int.ofNat 4096) 336) (.str "p" 372)),(p,lstO (us++[.str "p" 372]) (na+1))]) := by cases b <;> trivial
theorem mb07 (w:World) (L m tm p na t0:Nat) (us:List Value) (v3 v4:Value) (H:NI) (T:NN) (b c:Bool) (nn tt om xi ps):Ends (go (wf w b c) 800 (fbody (nthS (wf w b c).params 166 1) (envAt (wf w b c).params 166 L)) [1,0,0,0,0,3,0,3,0,3,3,3,0,3,3,3,0,0,0,0,0,4,4,0,4,4,4,0,4,4,4,0,4,4,4,0,4,4,4,0,4,4,4,0,4,4,6,1,1,1,1,1,0,0,1,0,1,1,1,3,0,3,3,3,0,3,3,3,0,0,0,0,0,7,7,0,7,7,7,0,7,7,7,0,7,7,7,0,7,7,7,0,7,7,7,0,7,7,9,1,1,1,1,1,0,0,1,0,1,1,1,3,0,3,3,3,0,3,3,3,0,0,0,0,0,10,10,0,10,10,10,0,10,10,10,0,10,10,10,0,10,10,10,0,10,10,10,0,10,10,12,1,1,1,1,1,0,0,1,0,1,1,1,3,0,3,3,3,0,3,3,3,0,0,0,0,0,13,13,0,13,13,13,0,13,13,13,0,13,13,13,0,13,13,13,0,13,13,13,0,13,13,15,1,1,1,1,1,0,0,1,0,1,1,1,3,0,3,3,3,0,3,3,3,0,0,0,0,0,16,16,0,16,16,16,0,16,16,16,0,16,16,16,0,16,16,16,0,16,16,16,0,16,16,18,1,1,1,1,1,0,0,1,0,1,1,1,3,0,3,3,3,0,3,3,3,0,0,0,0,0,19,19,0,19,19,19,0,19,19,19,0,19,19,19,0,19,19,19,0,19,19,19,0,19,19,21,1,1,1,1,1,0,0,1,0,1,1,1,3,0,3,3,3,0,3,3,3,0,0,0,0,0,22,22,0,22,22,22,0,22,22,22,0,22,22,22,0,22,22,22,0,22,22,22,0,22,22,24,1,1,1,1,1,0,0,1,0,1,1,1,3,0,3,3,3,0,3,3,26,1,0,1,2,2,2,2,1] ([(L,mf4 H T m tm p (.int 0 t0) (.ref 134)),(p,lstO us na)]) (IL fun nn tt om xi=>[ifmtI m tm,bI "int.__eq__" [.int (Int.ofNat (Nat.land m 61440)) (om 0 0),.int (Int.ofNat 40960) 338] (boolR false),ifmtI m tm,bI "int.__eq__" [.int (Int.ofNat (Nat.land m 61440)) (om 2 0),.int (Int.ofNat 49152) 340] (boolR false),ifmtI m tm,bI "int.__eq__" [.int (Int.ofNat (Nat.land m 61440)) (om 4 0),.int (Int.ofNat 32768) 334] (boolR false),ifmtI m tm,bI "int.__eq__" [.int (Int.ofNat (Nat.land m 61440)) (om 6 0),.int (Int.ofNat 24576) 332] (boolR false),ifmtI m tm,bI "int.__eq__" [.int (Int.ofNat (Nat.land m 61440)) (om 8 0),.int (Int.ofNat 16384) 328] (boolR false),ifmtI m tm,bI "int.__eq__" [.int (Int.ofNat (Nat.land m 61440)) (om 10 0),.int (Int.ofNat 8192) 330] (boolR false),ifmtI m tm,bI "int.__eq__" [.int (Int.ofNat (Nat.land m 61440)) (om 12 0),.int (Int.ofNat 4096) 336] (boolR false),lappI 1 p us na (.str "?" (tt 14+1))]) nn tt om xi ps) ([0,1]) (.ok .next) ([(L,mf6 (ov (ov H 4 (hs (wf w b c).params "bit")) 5 (hs (wf w b c).params "char")) (ov (ov T 4 (tt 0)) 5 (tt 0+1)) m tm p (.int 0 t0) (.ref 134) (.int (Int.ofNat 4096) 336) (.str "p" 372)),(p,lstO (us++[.str "?" (tt 14+1)]) (na+1))]) := by cases b <;> trivial
theorem mb10 (w:World) (L m tm p na t0:Nat) (us:List Value) (v3 v4:Value) (H:NI) (T:NN) (b c:Bool) (nn tt om xi ps):Ends (go (wf w b c) 800 (fbody (nthS (wf w b c).params 166 1) (envAt (wf w b c).params 166 L)) [1,0,0,0,0,3,0,3,0,3,3,3,0,3,3,3,0,0,0,0,0,4,4,0,4,4,4,0,4,4,4,0,4,4,4,0,4,4,4,0,4,4,4,0,4,4,6,1,1,1,1,1,0,1,1,1,1,1,1,2,2,2,2,1,1] ([(L,mf6 H T m tm p (.int 1 t0) (.ref 136) v3 v4),(p,lstO us na)]) (IL fun nn tt om xi=>[bI "int.__and__" [.int (Int.ofNat m) tm,.int (Int.ofNat 256) 348] (intR (Int.ofNat (Nat.land m 256))),bI "int.__eq__" [.int (Int.ofNat (Nat.land m 256)) (om 0 0),.int (Int.ofNat 256) 348] (boolR true),lappI 1 p us na (.str "r" 373)]) nn tt om xi ps) ([0,1]) (.ok .next) ([(L,mf6 H T m tm p (.int 1 t0) (.ref 136) (.int (Int.ofNat 256) 348) (.str "r" 373)),(p,lstO (us++[.str "r" 373]) (na+1))]) := by cases b <;> trivial
theorem mb11 (w:World) (L m tm p na t0:Nat) (us:List Value) (v3 v4:Value) (H:NI) (T:NN) (b c:Bool) (nn tt om xi ps):Ends (go (wf w b c) 800 (fbody (nthS (wf w b c).params 166 1) (envAt (wf w b c).params 166 L)) [1,0,0,0,0,3,0,3,0,3,3,3,0,3,3,3,0,0,0,0,0,4,4,0,4,4,4,0,4,4,4,0,4,4,4,0,4,4,4,0,4,4,4,0,4,4,6,1,1,1,1,1,0,1,1,1,1,1,3,0,3,3,3,0,3,3,8,1,0,1,2,2,2,2,1] ([(L,mf6 H T m tm p (.int 1 t0) (.ref 136) v3 v4),(p,lstO us na)]) (IL fun nn tt om xi=>[bI "int.__and__" [.int (Int.ofNat m) tm,.int (Int.ofNat 256) 348] (intR (Int.ofNat (Nat.land m 256))),bI "int.__eq__" [.int (Int.ofNat (Nat.land m 256)) (om 0 0),.int (Int.ofNat 256) 348] (boolR false),lappI 1 p us na (.str "-" (tt 2+1))]) nn tt om xi ps) ([0,1]) (.ok .next) ([(L,mf6 H T m tm p (.int 1 t0) (.ref 136) (.int (Int.ofNat 256) 348) (.str "r" 373)),(p,lstO (us++[.str "-" (tt 2+1)]) (na+1))]) := by cases b <;> trivial
theorem mb20 (w:World) (L m tm p na t0:Nat) (us:List Value) (v3 v4:Value) (H:NI) (T:NN) (b c:Bool) (nn tt om xi ps):Ends (go (wf w b c) 800 (fbody (nthS (wf w b c).params 166 1) (envAt (wf w b c).params 166 L)) [1,0,0,0,0,3,0,3,0,3,3,3,0,3,3,3,0,0,0,0,0,4,4,0,4,4,4,0,4,4,4,0,4,4,4,0,4,4,4,0,4,4,4,0,4,4,6,1,1,1,1,1,0,1,1,1,1,1,1,2,2,2,2,1,1] ([(L,mf6 H T m tm p (.int 2 t0) (.ref 138) v3 v4),(p,lstO us na)]) (IL fun nn tt om xi=>[bI "int.__and__" [.int (Int.ofNat m) tm,.int (Int.ofNat 128) 350] (intR (Int.ofNat (Nat.land m 128))),bI "int.__eq__" [.int (Int.ofNat (Nat.land m 128)) (om 0 0),.int (Int.ofNat 128) 350] (boolR true),lappI 1 p us na (.str "w" 374)]) nn tt om xi ps) ([0,1]) (.ok .next) ([(L,mf6 H T m tm p (.int 2 t0) (.ref 138) (.int (Int.ofNat 128) 350) (.str "w" 374)),(p,lstO (us++[.str "w" 374]) (na+1))]) := by cases b <;> trivial
theorem mb21 (w:World) (L m tm p na t0:Nat) (us:List Value) (v3 v4:Value) (H:NI) (T:NN) (b c:Bool) (nn tt om xi ps):Ends (go (wf w b c) 800 (fbody (nthS (wf w b c).params 166 1) (envAt (wf w b c).params 166 L)) [1,0,0,0,0,3,0,3,0,3,3,3,0,3,3,3,0,0,0,0,0,4,4,0,4,4,4,0,4,4,4,0,4,4,4,0,4,4,4,0,4,4,4,0,4,4,6,1,1,1,1,1,0,1,1,1,1,1,3,0,3,3,3,0,3,3,8,1,0,1,2,2,2,2,1] ([(L,mf6 H T m tm p (.int 2 t0) (.ref 138) v3 v4),(p,lstO us na)]) (IL fun nn tt om xi=>[bI "int.__and__" [.int (Int.ofNat m) tm,.int (Int.ofNat 128) 350] (intR (Int.ofNat (Nat.land m 128))),bI "int.__eq__" [.int (Int.ofNat (Nat.land m 128)) (om 0 0),.int (Int.ofNat 128) 350] (boolR false),lappI 1 p us na (.str "-" (tt 2+1))]) nn tt om xi ps) ([0,1]) (.ok .next) ([(L,mf6 H T m tm p (.int 2 t0) (.ref 138) (.int (Int.ofNat 128) 350) (.str "w" 374)),(p,lstO (us++[.str "-" (tt 2+1)]) (na+1))]) := by cases b <;> trivial
theorem mb30 (w:World) (L m tm p na t0:Nat) (us:List Value) (v3 v4:Value) (H:NI) (T:NN) (b c:Bool) (nn tt om xi ps):Ends (go (wf w b c) 800 (fbody (nthS (wf w b c).params 166 1) (envAt (wf w b c).params 166 L)) [1,0,0,0,0,3,0,3,0,3,3,3,0,3,3,3,0,0,0,0,0,4,4,0,4,4,4,0,4,4,4,0,4,4,4,0,4,4,4,0,4,4,4,0,4,4,6,1,1,1,1,1,0,1,1,1,1,1,1,2,2,2,2,1,1] ([(L,mf6 H T m tm p (.int 3 t0) (.ref 142) v3 v4),(p,lstO us na)]) (IL fun nn tt om xi=>[bI "int.__and__" [.int (Int.ofNat m) tm,.int (Int.ofNat 2112) 375] (intR (Int.ofNat (Nat.land m 2112))),bI "int.__eq__" [.int (Int.ofNat (Nat.land m 2112)) (om 0 0),.int (Int.ofNat 2112) 375] (boolR true),lappI 1 p us na (.str "s" 376)]) nn tt om xi ps) ([0,1]) (.ok .next) ([(L,mf6 H T m tm p (.int 3 t0) (.ref 142) (.int (Int.ofNat 2112) 375) (.str "s" 376)),(p,lstO (us++[.str "s" 376]) (na+1))]) := by cases b <;> trivial
theorem mb31 (w:World) (L m tm p na t0:Nat) (us:List Value) (v3 v4:Value) (H:NI) (T:NN) (b c:Bool) (nn tt om xi ps):Ends (go (wf w b c) 800 (fbody (nthS (wf w b c).params 166 1) (envAt (wf w b c).params 166 L)) [1,0,0,0,0,3,0,3,0,3,3,3,0,3,3,3,0,0,0,0,0,4,4,0,4,4,4,0,4,4,4,0,4,4,4,0,4,4,4,0,4,4,4,0,4,4,6,1,1,1,1,1,0,1,1,1,1,1,3,0,3,3,3,0,3,3,3,0,0,0,0,0,7,7,0,7,7,7,0,7,7,7,0,7,7,7,0,7,7,7,0,7,7,7,0,7,7,9,1,1,1,1,1,0,1,1,1,1,1,1,2,2,2,2,1,1] ([(L,mf6 H T m tm p (.int 3 t0) (.ref 142) v3 v4),(p,lstO us na)]) (IL fun nn tt om xi=>[bI "int.__and__" [.int (Int.ofNat m) tm,.int (Int.ofNat 2112) 375] (intR (Int.ofNat (Nat.land m 2112))),bI "int.__eq__" [.int (Int.ofNat (Nat.land m 2112)) (om 0 0),.int (Int.ofNat 2112) 375] (boolR false),bI "int.__and__" [.int (Int.ofNat m) tm,.int (Int.ofNat 2048) 342] (intR (Int.ofNat (Nat.land m 2048))),bI "int.__eq__" [.int (Int.ofNat (Nat.land m 2048)) (om 2 0),.int (Int.ofNat 2048) 342] (boolR true),lappI 1 p us na (.str "S" 377)]) nn tt om xi ps) ([0,1]) (.ok .next) ([(L,mf6 H T m tm p (.int 3 t0) (.ref 142) (.int (Int.ofNat 2048) 342) (.str "S" 377)),(p,lstO (us++[.str "S" 377]) (na+1))]) := by cases b <;> trivial
theorem mb32 (w:World) (L m tm p na t0:Nat) (us:List Value) (v3 v4:Value) (H:NI) (T:NN) (b c:Bool) (nn tt om xi ps):Ends (go (wf w b c) 800 (fbody (nthS (wf w b c).params 166 1) (envAt (wf w b c).params 166 L)) [1,0,0,0,0,3,0,3,0,3,3,3,0,3,3,3,0,0,0,0,0,4,4,0,4,4,4,0,4,4,4,0,4,4,4,0,4,4,4,0,4,4,4,0,4,4,6,1,1,1,1,1,0,1,1,1,1,1,3,0,3,3,3,0,3,3,3,0,0,0,0,0,7,7,0,7,7,7,0,7,7,7,0,7,7,7,0,7,7,7,0,7,7,7,0,7,7,9,1,1,1,1,1,0,1,1,1,1,1,3,0,3,3,3,0,3,3,3,0,0,0,0,0,10,10,0,10,10,10,0,10,10,10,0,10,10,10,0,10,10,10,0,10,10,10,0,10,10,12,1,1,1,1,1,0,1,1,1,1,1,1,2,2,2,2,1,1] ([(L,mf6 H T m tm p (.int 3 t0) (.ref 142) v3 v4),(p,lstO us na)]) (IL fun nn tt om xi=>[bI "int.__and__" [.int (Int.ofNat m) tm,.int (Int.ofNat 2112) 375] (intR (Int.ofNat (Nat.land m 2112))),bI "int.__eq__" [.int (Int.ofNat (Nat.land m 2112)) (om 0 0),.int (Int.ofNat 2112) 375] (boolR false),bI "int.__and__" [.int (Int.ofNat m) tm,.int (Int.ofNat 2048) 342] (intR (Int.ofNat (Nat.land m 2048))),bI "int.__eq__" [.int (Int.ofNat (Nat.land m 2048)) (om 2 0),.int (Int.ofNat 2048) 342] (boolR false),bI "int.__and__" [.int (Int.ofNat m) tm,.int (Int.ofNat 64) 352] (intR (Int.ofNat (Nat.land m 64))),bI "int.__eq__" [.int (Int.ofNat (Nat.land m 64)) (om 4 0),.int (Int.ofNat 64) 352] (boolR true),lappI 1 p us na (.str "x" 378)]) nn tt om xi ps) ([0,1]) (.ok .next) ([(L,mf6 H T m tm p (.int 3 t0) (.ref 142) (.int (Int.ofNat 64) 352) (.str "x" 378)),(p,lstO (us++[.str "x" 378]) (na+1))]) := by cases b <;> trivial
theorem mb33 (w:World) (L m tm p na t0:Nat) (us:List Value) (v3 v4:Value) (H:NI) (T:NN) (b c:Bool) (nn tt om xi ps):Ends (go (wf w b c) 800 (fbody (nthS (wf w b c).params 166 1) (envAt (wf w b c).params 166 L)) [1,0,0,0,0,3,0,3,0,3,3,3,0,3,3,3,0,0,0,0,0,4,4,0,4,4,4,0,4,4,4,0,4,4,4,0,4,4,4,0,4,4,4,0,4,4,6,1,1,1,1,1,0,1,1,1,1,1,3,0,3,3,3,0,3,3,3,0,0,0,0,0,7,7,0,7,7,7,0,7,7,7,0,7,7,7,0,7,7,7,0,7,7,7,0,7,7,9,1,1,1,1,1,0,1,1,1,1,1,3,0,3,3,3,0,3,3,3,0,0,0,0,0,10,10,0,10,10,10,0,10,10,10,0,10,10,10,0,10,10,10,0,10,10,10,0,10,10,12,1,1,1,1,1,0,1,1,1,1,1,3,0,3,3,3,0,3,3,14,1,0,1,2,2,2,2,1] ([(L,mf6 H T m tm p (.int 3 t0) (.ref 142) v3 v4),(p,lstO us na)]) (IL fun nn tt om xi=>[bI "int.__and__" [.int (Int.ofNat m) tm,.int (Int.ofNat 2112) 375] (intR (Int.ofNat (Nat.land m 2112))),bI "int.__eq__" [.int (Int.ofNat (Nat.land m 2112)) (om 0 0),.int (Int.ofNat 2112) 375] (boolR false),bI "int.__and__" [.int (Int.ofNat m) tm,.int (Int.ofNat 2048) 342] (intR (Int.ofNat (Nat.land m 2048))),bI "int.__eq__" [.int (Int.ofNat (Nat.land m 2048)) (om 2 0),.int (Int.ofNat 2048) 342] (boolR false),bI "int.__and__" [.int (Int.ofNat m) tm,.int (Int.ofNat 64) 352] (intR (Int.ofNat (Nat.land m 64))),bI "int.__eq__" [.int (Int.ofNat (Nat.land m 64)) (om 4 0),.int (Int.ofNat 64) 352] (boolR false),lappI 1 p us na (.str "-" (tt 6+1))]) nn tt om xi ps) ([0,1]) (.ok .next) ([(L,mf6 H T m tm p (.int 3 t0) (.ref 142) (.int (Int.ofNat 64) 352) (.str "x" 378)),(p,lstO (us++[.str "-" (tt 6+1)]) (na+1))]) := by cases b <;> trivial
theorem mb40 (w:World) (L m tm p na t0:Nat) (us:List Value) (v3 v4:Value) (H:NI) (T:NN) (b c:Bool) (nn tt om xi ps):Ends (go (wf w b c) 800 (fbody (nthS (wf w b c).params 166 1) (envAt (wf w b c).params 166 L)) [1,0,0,0,0,3,0,3,0,3,3,3,0,3,3,3,0,0,0,0,0,4,4,0,4,4,4,0,4,4,4,0,4,4,4,0,4,4,4,0,4,4,4,0,4,4,6,1,1,1,1,1,0,1,1,1,1,1,1,2,2,2,2,1,1] ([(L,mf6 H T m tm p (.int 4 t0) (.ref 144) v3 v4),(p,lstO us na)]) (IL fun nn tt om xi=>[bI "int.__and__" [.int (Int.ofNat m) tm,.int (Int.ofNat 32) 354] (intR (Int.ofNat (Nat.land m 32))),bI "int.__eq__" [.int (Int.ofNat (Nat.land m 32)) (om 0 0),.int (Int.ofNat 32) 354] (boolR true),lappI 1 p us na (.str "r" 379)]) nn tt om xi ps) ([0,1]) (.ok .next) ([(L,mf6 H T m tm p (.int 4 t0) (.ref 144) (.int (Int.ofNat 32) 354) (.str "r" 379)),(p,lstO (us++[.str "r" 379]) (na+1))]) := by cases b <;> trivial
theorem mb41 (w:World) (L m tm p na t0:Nat) (us:List Value) (v3 v4:Value) (H:NI) (T:NN) (b c:Bool) (nn tt om xi ps):Ends (go (wf w b c) 800 (fbody (nthS (wf w b c).params 166 1) (envAt (wf w b c).params 166 L)) [1,0,0,0,0,3,0,3,0,3,3,3,0,3,3,3,0,0,0,0,0,4,4,0,4,4,4,0,4,4,4,0,4,4,4,0,4,4,4,0,4,4,4,0,4,4,6,1,1,1,1,1,0,1,1,1,1,1,3,0,3,3,3,0,3,3,8,1,0,1,2,2,2,2,1] ([(L,mf6 H T m tm p (.int 4 t0) (.ref 144) v3 v4),(p,lstO us na)]) (IL fun nn tt om xi=>[bI "int.__and__" [.int (Int.ofNat m) tm,.int (Int.ofNat 32) 354] (intR (Int.ofNat (Nat.land m 32))),bI "int.__eq__" [.int (Int.ofNat (Nat.land m 32)) (om 0 0),.int (Int.ofNat 32) 354] (boolR false),lappI 1 p us na (.str "-" (tt 2+1))]) nn tt om xi ps) ([0,1]) (.ok .next) ([(L,mf6 H T m tm p (.int 4 t0) (.ref 144) (.int (Int.ofNat 32) 354) (.str "r" 379)),(p,lstO (us++[.str "-" (tt 2+1)]) (na+1))]) := by cases b <;> trivial
theorem mb50 (w:World) (L m tm p na t0:Nat) (us:List Value) (v3 v4:Value) (H:NI) (T:NN) (b c:Bool) (nn tt om xi ps):Ends (go (wf w b c) 800 (fbody (nthS (wf w b c).params 166 1) (envAt (wf w b c).params 166 L)) [1,0,0,0,0,3,0,3,0,3,3,3,0,3,3,3,0,0,0,0,0,4,4,0,4,4,4,0,4,4,4,0,4,4,4,0,4,4,4,0,4,4,4,0,4,4,6,1,1,1,1,1,0,1,1,1,1,1,1,2,2,2,2,1,1] ([(L,mf6 H T m tm p (.int 5 t0) (.ref 146) v3 v4),(p,lstO us na)]) (IL fun nn tt om xi=>[bI "int.__and__" [.int (Int.ofNat m) tm,.int (Int.ofNat 16) 356] (intR (Int.ofNat (Nat.land m 16))),bI "int.__eq__" [.int (Int.ofNat (Nat.land m 16)) (om 0 0),.int (Int.ofNat 16) 356] (boolR true),lappI 1 p us na (.str "w" 380)]) nn tt om xi ps) ([0,1]) (.ok .next) ([(L,mf6 H T m tm p (.int 5 t0) (.ref 146) (.int (Int.ofNat 16) 356) (.str "w" 380)),(p,lstO (us++[.str "w" 380]) (na+1))]) := by cases b <;> trivial
theorem mb51 (w:World) (L m tm p na t0:Nat) (us:List Value) (v3 v4:Value) (H:NI) (T:NN) (b c:Bool) (nn tt om xi ps):Ends (go (wf w b c) 800 (fbody (nthS (wf w b c).params 166 1) (envAt (wf w b c).params 166 L)) [1,0,0,0,0,3,0,3,0,3,3,3,0,3,3,3,0,0,0,0,0,4,4,0,4,4,4,0,4,4,4,0,4,4,4,0,4,4,4,0,4,4,4,0,4,4,6,1,1,1,1,1,0,1,1,1,1,1,3,0,3,3,3,0,3,3,8,1,0,1,2,2,2,2,1] ([(L,mf6 H T m tm p (.int 5 t0) (.ref 146) v3 v4),(p,lstO us na)]) (IL fun nn tt om xi=>[bI "int.__and__" [.int (Int.ofNat m) tm,.int (Int.ofNat 16) 356] (intR (Int.ofNat (Nat.land m 16))),bI "int.__eq__" [.int (Int.ofNat (Nat.land m 16)) (om 0 0),.int (Int.ofNat 16) 356] (boolR false),lappI 1 p us na (.str "-" (tt 2+1))]) nn tt om xi ps) ([0,1]) (.ok .next) ([(L,mf6 H T m tm p (.int 5 t0) (.ref 146) (.int (Int.ofNat 16) 356) (.str "w" 380)),(p,lstO (us++[.str "-" (tt 2+1)]) (na+1))]) := by cases b <;> trivial
theorem mb60 (w:World) (L m tm p na t0:Nat) (us:List Value) (v3 v4:Value) (H:NI) (T:NN) (b c:Bool) (nn tt om xi ps):Ends (go (wf w b c) 800 (fbody (nthS (wf w b c).params 166 1) (envAt (wf w b c).params 166 L)) [1,0,0,0,0,3,0,3,0,3,3,3,0,3,3,3,0,0,0,0,0,4,4,0,4,4,4,0,4,4,4,0,4,4,4,0,4,4,4,0,4,4,4,0,4,4,6,1,1,1,1,1,0,1,1,1,1,1,1,2,2,2,2,1,1] ([(L,mf6 H T m tm p (.int 6 t0) (.ref 150) v3 v4),(p,lstO us na)]) (IL fun nn tt om xi=>[bI "int.__and__" [.int (Int.ofNat m) tm,.int (Int.ofNat 1032) 381] (intR (Int.ofNat (Nat.land m 1032))),bI "int.__eq__" [.int (Int.ofNat (Nat.land m 1032)) (om 0 0),.int (Int.ofNat 1032) 381] (boolR true),lappI 1 p us na (.str "s" 382)]) nn tt om xi ps) ([0,1]) (.ok .next) ([(L,mf6 H T m tm p (.int 6 t0) (.ref 150) (.int (Int.ofNat 1032) 381) (.str "s" 382)),(p,lstO (us++[.str "s" 382]) (na+1))]) := by cases b <;> trivial
theorem mb61 (w:World) (L m tm p na t0:Nat) (us:List Value) (v3 v4:Value) (H:NI) (T:NN) (b c:Bool) (nn tt om xi ps):Ends (go (wf w b c) 800 (fbody (nthS (wf w b c).params 166 1) (envAt (wf w b c).params 166 L)) [1,0,0,0,0,3,0,3,0,3,3,3,0,3,3,3,0,0,0,0,0,4,4,0,4,4,4,0,4,4,4,0,4,4,4,0,4,4,4,0,4,4,4,0,4,4,6,1,1,1,1,1,0,1,1,1,1,1,3,0,3,3,3,0,3,3,3,0,0,0,0,0,7,7,0,7,7,7,0,7,7,7,0,7,7,7,0,7,7,7,0,7,7,7,0,7,7,9,1,1,1,1,1,0,1,1,1,1,1,1,2,2,2,2,1,1] ([(L,mf6 H T m tm p (.int 6 t0) (.ref 150) v3 v4),(p,lstO us na)]) (IL fun nn tt om xi=>[bI "int.__and__" [.int (Int.ofNat m) tm,.int (Int.ofNat 1032) 381] (intR (Int.ofNat (Nat.land m 1032))),bI "int.__eq__" [.int (Int.ofNat (Nat.land m 1032)) (om 0 0),.int (Int.ofNat 1032) 381] (boolR false),bI "int.__and__" [.int (Int.ofNat m) tm,.int (Int.ofNat 1024) 344] (intR (Int.ofNat (Nat.land m 1024))),bI "int.__eq__" [.int (Int.ofNat (Nat.land m 1024)) (om 2 0),.int (Int.ofNat 1024) 344] (boolR true),lappI 1 p us na (.str "S" 383)]) nn tt om xi ps) ([0,1]) (.ok .next) ([(L,mf6 H T m tm p (.int 6 t0) (.ref 150) (.int (Int.ofNat 1024) 344) (.str "S" 383)),(p,lstO (us++[.str "S" 383]) (na+1))]) := by cases b <;> trivial
theorem mb62 (w:World) (L m tm p na t0:Nat) (us:List Value) (v3 v4:Value) (H:NI) (T:NN) (b c:Bool) (nn tt om xi ps):Ends (go (wf w b c) 800 (fbody (nthS (wf w b c).params 166 1) (envAt (wf w b c).params 166 L)) [1,0,0,0,0,3,0,3,0,3,3,3,0,3,3,3,0,0,0,0,0,4,4,0,4,4,4,0,4,4,4,0,4,4,4,0,4,4,4,0,4,4,4,0,4,4,6,1,1,1,1,1,0,1,1,1,1,1,3,0,3,3,3,0,3,3,3,0,0,0,0,0,7,7,0,7,7,7,0,7,7,7,0,7,7,7,0,7,7,7,0,7,7,7,0,7,7,9,1,1,1,1,1,0,1,1,1,1,1,3,0,3,3,3,0,3,3,3,0,0,0,0,0,10,10,0,10,10,10,0,10,10,10,0,10,10,10,0,10,10,10,0,10,10,10,0,10,10,12,1,1,1,1,1,0,1,1,1,1,1,1,2,2,2,2,1,1] ([(L,mf6 H T m tm p (.int 6 t0) (.ref 150) v3 v4),(p,lstO us na)]) (IL fun nn tt om xi=>[bI "int.__and__" [.int (Int.ofNat m) tm,.int (Int.ofNat 1032) 381] (intR (Int.ofNat (Nat.land m 1032))),bI "int.__eq__" [.int (Int.ofNat (Nat.land m 1032)) (om 0 0),.int (Int.ofNat 1032) 381] (boolR false),bI "int.__and__" [.int (Int.ofNat m) tm,.int (Int.ofNat 1024) 344] (intR (Int.ofNat (Nat.land m 1024))),bI "int.__eq__" [.int (Int.ofNat (Nat.land m 1024)) (om 2 0),.int (Int.ofNat 1024) 344] (boolR false),bI "int.__and__" [.int (Int.ofNat m) tm,.int (Int.ofNat 8) 358] (intR (Int.ofNat (Nat.land m 8))),bI "int.__eq__" [.int (Int.ofNat (Nat.land m 8)) (om 4 0),.int (Int.ofNat 8) 358] (boolR true),lappI 1 p us na (.str "x" 384)]) nn tt om xi ps) ([0,1]) (.ok .next) ([(L,mf6 H T m tm p (.int 6 t0) (.ref 150) (.int (Int.ofNat 8) 358) (.str "x" 384)),(p,lstO (us++[.str "x" 384]) (na+1))]) := by cases b <;> trivial
theorem mb63 (w:World) (L m tm p na t0:Nat) (us:List Value) (v3 v4:Value) (H:NI) (T:NN) (b c:Bool) (nn tt om xi ps):Ends (go (wf w b c) 800 (fbody (nthS (wf w b c).params 166 1) (envAt (wf w b c).params 166 L)) [1,0,0,0,0,3,0,3,0,3,3,3,0,3,3,3,0,0,0,0,0,4,4,0,4,4,4,0,4,4,4,0,4,4,4,0,4,4,4,0,4,4,4,0,4,4,6,1,1,1,1,1,0,1,1,1,1,1,3,0,3,3,3,0,3,3,3,0,0,0,0,0,7,7,0,7,7,7,0,7,7,7,0,7,7,7,0,7,7,7,0,7,7,7,0,7,7,9,1,1,1,1,1,0,1,1,1,1,1,3,0,3,3,3,0,3,3,3,0,0,0,0,0,10,10,0,10,10,10,0,10,10,10,0,10,10,10,0,10,10,10,0,10,10,10,0,10,10,12,1,1,1,1,1,0,1,1,1,1,1,3,0,3,3,3,0,3,3,14,1,0,1,2,2,2,2,1] ([(L,mf6 H T m tm p (.int 6 t0) (.ref 150) v3 v4),(p,lstO us na)]) (IL fun nn tt om xi=>[bI "int.__and__" [.int (Int.ofNat m) tm,.int (Int.ofNat 1032) 381] (intR (Int.ofNat (Nat.land m 1032))),bI "int.__eq__" [.int (Int.ofNat (Nat.land m 1032)) (om 0 0),.int (Int.ofNat 1032) 381] (boolR false),bI "int.__and__" [.int (Int.ofNat m) tm,.int (Int.ofNat 1024) 344] (intR (Int.ofNat (Nat.land m 1024))),bI "int.__eq__" [.int (Int.ofNat (Nat.land m 1024)) (om 2 0),.int (Int.ofNat 1024) 344] (boolR false),bI "int.__and__" [.int (Int.ofNat m) tm,.int (Int.ofNat 8) 358] (intR (Int.ofNat (Nat.land m 8))),bI "int.__eq__" [.int (Int.ofNat (Nat.land m 8)) (om 4 0),.int (Int.ofNat 8) 358] (boolR false),lappI 1 p us na (.str "-" (tt 6+1))]) nn tt om xi ps) ([0,1]) (.ok .next) ([(L,mf6 H T m tm p (.int 6 t0) (.ref 150) (.int (Int.ofNat 8) 358) (.str "x" 384)),(p,lstO (us++[.str "-" (tt 6+1)]) (na+1))]) := by cases b <;> trivial
theorem mb70 (w:World) (L m tm p na t0:Nat) (us:List Value) (v3 v4:Value) (H:NI) (T:NN) (b c:Bool) (nn tt om xi ps):Ends (go (wf w b c) 800 (fbody (nthS (wf w b c).params 166 1) (envAt (wf w b c).params 166 L)) [1,0,0,0,0,3,0,3,0,3,3,3,0,3,3,3,0,0,0,0,0,4,4,0,4,4,4,0,4,4,4,0,4,4,4,0,4,4,4,0,4,4,4,0,4,4,6,1,1,1,1,1,0,1,1,1,1,1,1,2,2,2,2,1,1] ([(L,mf6 H T m tm p (.int 7 t0) (.ref 152) v3 v4),(p,lstO us na)]) (IL fun nn tt om xi=>[bI "int.__and__" [.int (Int.ofNat m) tm,.int (Int.ofNat 4) 360] (intR (Int.ofNat (Nat.land m 4))),bI "int.__eq__" [.int (Int.ofNat (Nat.land m 4)) (om 0 0),.int (Int.ofNat 4) 360] (boolR true),lappI 1 p us na (.str "r" 385)]) nn tt om xi ps) ([0,1]) (.ok .next) ([(L,mf6 H T m tm p (.int 7 t0) (.ref 152) (.int (Int.ofNat 4) 360) (.str "r" 385)),(p,lstO (us++[.str "r" 385]) (na+1))]) := by cases b <;> trivial
theorem mb71 (w:World) (L m tm p na t0:Nat) (us:List Value) (v3 v4:Value) (H:NI) (T:NN) (b c:Bool) (nn tt om xi ps):Ends (go (wf w b c) 800 (fbody (nthS (wf w b c).params 166 1) (envAt (wf w b c).params 166 L)) [1,0,0,0,0,3,0,3,0,3,3,3,0,3,3,3,0,0,0,0,0,4,4,0,4,4,4,0,4,4,4,0,4,4,4,0,4,4,4,0,4,4,4,0,4,4,6,1,1,1,1,1,0,1,1,1,1,1,3,0,3,3,3,0,3,3,8,1,0,1,2,2,2,2,1] ([(L,mf6 H T m tm p (.int 7 t0) (.ref 152) v3 v4),(p,lstO us na)]) (IL fun nn tt om xi=>[bI "int.__and__" [.int (Int.ofNat m) tm,.int (Int.ofNat 4) 360] (intR (Int.ofNat (Nat.land m 4))),bI "int.__eq__" [.int (Int.ofNat (Nat.land m 4)) (om 0 0),.int (Int.ofNat 4) 360] (boolR false),lappI 1 p us na (.str "-" (tt 2+1))]) nn tt om xi ps) ([0,1]) (.ok .next) ([(L,mf6 H T m tm p (.int 7 t0) (.ref 152) (.int (Int.ofNat 4) 360) (.str "r" 385)),(p,lstO (us++[.str "-" (tt 2+1)]) (na+1))]) := by cases b <;> trivial
theorem mb80 (w:World) (L m tm p na t0:Nat) (us:List Value) (v3 v4:Value) (H:NI) (T:NN) (b c:Bool) (nn tt om xi ps):Ends (go (wf w b c) 800 (fbody (nthS (wf w b c).params 166 1) (envAt (wf w b c).params 166 L)) [1,0,0,0,0,3,0,3,0,3,3,3,0,3,3,3,0,0,0,0,0,4,4,0,4,4,4,0,4,4,4,0,4,4,4,0,4,4,4,0,4,4,4,0,4,4,6,1,1,1,1,1,0,1,1,1,1,1,1,2,2,2,2,1,1] ([(L,mf6 H T m tm p (.int 8 t0) (.ref 154) v3 v4),(p,lstO us na)]) (IL fun nn tt om xi=>[bI "int.__and__" [.int (Int.ofNat m) tm,.int (Int.ofNat 2) 362] (intR (Int.ofNat (Nat.land m 2))),bI "int.__eq__" [.int (Int.ofNat (Nat.land m 2)) (om 0 0),.int (Int.ofNat 2) 362] (boolR true),lappI 1 p us na (.str "w" 386)]) nn tt om xi ps) ([0,1]) (.ok .next) ([(L,mf6 H T m tm p (.int 8 t0) (.ref 154) (.int (Int.ofNat 2) 362) (.str "w" 386)),(p,lstO (us++[.str "w" 386]) (na+1))]) := by cases b <;> trivial
theorem mb81 (w:World) (L m tm p na t0:Nat) (us:List Value) (v3 v4:Value) (H:NI) (T:NN) (b c:Bool) (nn tt om xi ps):Ends (go (wf w b c) 800 (fbody (nthS (wf w b c).params 166 1) (envAt (wf w b c).params 166 L)) [1,0,0,0,0,3,0,3,0,3,3,3,0,3,3,3,0,0,0,0,0,4,4,0,4,4,4,0,4,4,4,0,4,4,4,0,4,4,4,0,4,4,4,0,4,4,6,1,1,1,1,1,0,1,1,1,1,1,3,0,3,3,3,0,3,3,8,1,0,1,2,2,2,2,1] ([(L,mf6 H T m tm p (.int 8 t0) (.ref 154) v3 v4),(p,lstO us na)]) (IL fun nn tt om xi=>[bI "int.__and__" [.int (Int.ofNat m) tm,.int (Int.ofNat 2) 362] (intR (Int.ofNat (Nat.land m 2))),bI "int.__eq__" [.int (Int.ofNat (Nat.land m 2)) (om 0 0),.int (Int.ofNat 2) 362] (boolR false),lappI 1 p us na (.str "-" (tt 2+1))]) nn tt om xi ps) ([0,1]) (.ok .next) ([(L,mf6 H T m tm p (.int 8 t0) (.ref 154) (.int (Int.ofNat 2) 362) (.str "w" 386)),(p,lstO (us++[.str "-" (tt 2+1)]) (na+1))]) := by cases b <;> trivial
theorem mb90 (w:World) (L m tm p na t0:Nat) (us:List Value) (v3 v4:Value) (H:NI) (T:NN) (b c:Bool) (nn tt om xi ps):Ends (go (wf w b c) 800 (fbody (nthS (wf w b c).params 166 1) (envAt (wf w b c).params 166 L)) [1,0,0,0,0,3,0,3,0,3,3,3,0,3,3,3,0,0,0,0,0,4,4,0,4,4,4,0,4,4,4,0,4,4,4,0,4,4,4,0,4,4,4,0,4,4,6,1,1,1,1,1,0,1,1,1,1,1,1,2,2,2,2,1,1] ([(L,mf6 H T m tm p (.int 9 t0) (.ref 158) v3 v4),(p,lstO us na)]) (IL fun nn tt om xi=>[bI "int.__and__" [.int (Int.ofNat m) tm,.int (Int.ofNat 513) 387] (intR (Int.ofNat (Nat.land m 513))),bI "int.__eq__" [.int (Int.ofNat (Nat.land m 513)) (om 0 0),.int (Int.ofNat 513) 387] (boolR true),lappI 1 p us na (.str "t" 388)]) nn tt om xi ps) ([0,1]) (.ok .next) ([(L,mf6 H T m tm p (.int 9 t0) (.ref 158) (.int (Int.ofNat 513) 387) (.str "t" 388)),(p,lstO (us++[.str "t" 388]) (na+1))]) := by cases b <;> trivial
theorem mb91 (w:World) (L m tm p na t0:Nat) (us:List Value) (v3 v4:Value) (H:NI) (T:NN) (b c:Bool) (nn tt om xi ps):Ends (go (wf w b c) 800 (fbody (nthS (wf w b c).params 166 1) (envAt (wf w b c).params 166 L)) [1,0,0,0,0,3,0,3,0,3,3,3,0,3,3,3,0,0,0,0,0,4,4,0,4,4,4,0,4,4,4,0,4,4,4,0,4,4,4,0,4,4,4,0,4,4,6,1,1,1,1,1,0,1,1,1,1,1,3,0,3,3,3,0,3,3,3,0,0,0,0,0,7,7,0,7,7,7,0,7,7,7,0,7,7,7,0,7,7,7,0,7,7,7,0,7,7,9,1,1,1,1,1,0,1,1,1,1,1,1,2,2,2,2,1,1] ([(L,mf6 H T m tm p (.int 9 t0) (.ref 158) v3 v4),(p,lstO us na)]) (IL fun nn tt om xi=>[bI "int.__and__" [.int (Int.ofNat m) tm,.int (Int.ofNat 513) 387] (intR (Int.ofNat (Nat.land m 513))),bI "int.__eq__" [.int (Int.ofNat (Nat.land m 513)) (om 0 0),.int (Int.ofNat 513) 387] (boolR false),bI "int.__and__" [.int (Int.ofNat m) tm,.int (Int.ofNat 512) 346] (intR (Int.ofNat (Nat.land m 512))),bI "int.__eq__" [.int (Int.ofNat (Nat.land m 512)) (om 2 0),.int (Int.ofNat 512) 346] (boolR true),lappI 1 p us na (.str "T" 389)]) nn tt om xi ps) ([0,1]) (.ok .next) ([(L,mf6 H T m tm p (.int 9 t0) (.ref 158) (.int (Int.ofNat 512) 346) (.str "T" 389)),(p,lstO (us++[.str "T" 389]) (na+1))]) := by cases b <;> trivial
theorem mb92 (w:World) (L m tm p na t0:Nat) (us:List Value) (v3 v4:Value) (H:NI) (T:NN) (b c:Bool) (nn tt om xi ps):Ends (go (wf w b c) 800 (fbody (nthS (wf w b c).params 166 1) (envAt (wf w b c).params 166 L)) [1,0,0,0,0,3,0,3,0,3,3,3,0,3,3,3,0,0,0,0,0,4,4,0,4,4,4,0,4,4,4,0,4,4,4,0,4,4,4,0,4,4,4,0,4,4,6,1,1,1,1,1,0,1,1,1,1,1,3,0,3,3,3,0,3,3,3,0,0,0,0,0,7,7,0,7,7,7,0,7,7,7,0,7,7,7,0,7,7,7,0,7,7,7,0,7,7,9,1,1,1,1,1,0,1,1,1,1,1,3,0,3,3,3,0,3,3,3,0,0,0,0,0,10,10,0,10,10,10,0,10,10,10,0,10,10,10,0,10,10,10,0,10,10,10,0,10,10,12,1,1,1,1,1,0,1,1,1,1,1,1,2,2,2,2,1,1] ([(L,mf6 H T m tm p (.int 9 t0) (.ref 158) v3 v4),(p,lstO us na)]) (IL fun nn tt om xi=>[bI "int.__and__" [.int (Int.ofNat m) tm,.int (Int.ofNat 513) 387] (intR (Int.ofNat (Nat.land m 513))),bI "int.__eq__" [.int (Int.ofNat (Nat.land m 513)) (om 0 0),.int (Int.ofNat 513) 387] (boolR false),bI "int.__and__" [.int (Int.ofNat m) tm,.int (Int.ofNat 512) 346] (intR (Int.ofNat (Nat.land m 512))),bI "int.__eq__" [.int (Int.ofNat (Nat.land m 512)) (om 2 0),.int (Int.ofNat 512) 346] (boolR false),bI "int.__and__" [.int (Int.ofNat m) tm,.int (Int.ofNat 1) 364] (intR (Int.ofNat (Nat.land m 1))),bI "int.__eq__" [.int (Int.ofNat (Nat.land m 1)) (om 4 0),.int (Int.ofNat 1) 364] (boolR true),lappI 1 p us na (.str "x" 390)]) nn tt om xi ps) ([0,1]) (.ok .next) ([(L,mf6 H T m tm p (.int 9 t0) (.ref 158) (.int (Int.ofNat 1) 364) (.str "x" 390)),(p,lstO (us++[.str "x" 390]) (na+1))]) := by cases b <;> trivial
theorem mb93 (w:World) (L m tm p na t0:Nat) (us:List Value) (v3 v4:Value) (H:NI) (T:NN) (b c:Bool) (nn tt om xi ps):Ends (go (wf w b c) 800 (fbody (nthS (wf w b c).params 166 1) (envAt (wf w b c).params 166 L)) [1,0,0,0,0,3,0,3,0,3,3,3,0,3,3,3,0,0,0,0,0,4,4,0,4,4,4,0,4,4,4,0,4,4,4,0,4,4,4,0,4,4,4,0,4,4,6,1,1,1,1,1,0,1,1,1,1,1,3,0,3,3,3,0,3,3,3,0,0,0,0,0,7,7,0,7,7,7,0,7,7,7,0,7,7,7,0,7,7,7,0,7,7,7,0,7,7,9,1,1,1,1,1,0,1,1,1,1,1,3,0,3,3,3,0,3,3,3,0,0,0,0,0,10,10,0,10,10,10,0,10,10,10,0,10,10,10,0,10,10,10,0,10,10,10,0,10,10,12,1,1,1,1,1,0,1,1,1,1,1,3,0,3,3,3,0,3,3,14,1,0,1,2,2,2,2,1] ([(L,mf6 H T m tm p (.int 9 t0) (.ref 158) v3 v4),(p,lstO us na)]) (IL fun nn tt om xi=>[bI "int.__and__" [.int (Int.ofNat m) tm,.int (Int.ofNat 513) 387] (intR (Int.ofNat (Nat.land m 513))),bI "int.__eq__" [.int (Int.ofNat (Nat.land m 513)) (om 0 0),.int (Int.ofNat 513) 387] (boolR false),bI "int.__and__" [.int (Int.ofNat m) tm,.int (Int.ofNat 512) 346] (intR (Int.ofNat (Nat.land m 512))),bI "int.__eq__" [.int (Int.ofNat (Nat.land m 512)) (om 2 0),.int (Int.ofNat 512) 346] (boolR false),bI "int.__and__" [.int (Int.ofNat m) tm,.int (Int.ofNat 1) 364] (intR (Int.ofNat (Nat.land m 1))),bI "int.__eq__" [.int (Int.ofNat (Nat.land m 1)) (om 4 0),.int (Int.ofNat 1) 364] (boolR false),lappI 1 p us na (.str "-" (tt 6+1))]) nn tt om xi ps) ([0,1]) (.ok .next) ([(L,mf6 H T m tm p (.int 9 t0) (.ref 158) (.int (Int.ofNat 1) 364) (.str "x" 390)),(p,lstO (us++[.str "-" (tt 6+1)]) (na+1))]) := by cases b <;> trivial
theorem m2 (w:World) (L m tm p na:Nat) (c0 c1 c2 c3 c4 c5 c6 c7 c8 c9 t0 t1 t2 t3 t4 t5 t6 t7 t8 t9:Nat) (v1 v2 v3 v4:Value) (H:NI) (T:NN) (b c:Bool) (nn tt om xi ps):Ends (go (wf w b c) 400 (exec (nthS (wf w b c).params 166 2) (envAt (wf w b c).params 166 L)) [1,0,2,2] ([(L,mf6 H T m tm p v1 v2 v3 v4),(p,lstO [.str ⟨⟨[c0]⟩⟩ t0,.str ⟨⟨[c1]⟩⟩ t1,.str ⟨⟨[c2]⟩⟩ t2,.str ⟨⟨[c3]⟩⟩ t3,.str ⟨⟨[c4]⟩⟩ t4,.str ⟨⟨[c5]⟩⟩ t5,.str ⟨⟨[c6]⟩⟩ t6,.str ⟨⟨[c7]⟩⟩ t7,.str ⟨⟨[c8]⟩⟩ t8,.str ⟨⟨[c9]⟩⟩ t9] na)]) .nil nn tt om xi ps) ([]) (.ok (.ret (.str ⟨⟨[c0,c1,c2,c3,c4,c5,c6,c7,c8,c9]⟩⟩ (tt 0+1)))) ([]) := by cases b <;> trivial
noncomputable def pickM (m : Nat) : List (Nat × Nat) → Nat
  | [] => 45
  | q :: r => match Nat.land m q.1 == q.1 with
    | true => q.2
    | false => pickM m r
noncomputable def pickK (f : Nat) : List (Nat × Nat) → Nat
  | [] => 63
  | q :: r => match f == q.1 with
    | true => q.2
    | false => pickK f r
theorem pickM_t {m b c : Nat} {r : List (Nat × Nat)} (h : (Nat.land m b == b) = true) : pickM m ((b,c) :: r) = c := by unfold pickM; rw [h]
theorem pickM_f {m b c : Nat} {r : List (Nat × Nat)} (h : (Nat.land m b == b) = false) : pickM m ((b,c) :: r) = pickM m r := by rw [pickM,h]
theorem pickK_t {f b c : Nat} {r : List (Nat × Nat)} (h : (f == b) = true) : pickK f ((b,c) :: r) = c := by unfold pickK; rw [h]
theorem pickK_f {f b c : Nat} {r : List (Nat × Nat)} (h : (f == b) = false) : pickK f ((b,c) :: r) = pickK f r := by rw [pickK,h]
noncomputable abbrev ent0 : List (Nat × Nat) := [(40960,108),(49152,115),(32768,45),(24576,98),(16384,100),(8192,99),(4096,112)]
noncomputable abbrev ent1 : List (Nat × Nat) := [(256,114)]
noncomputable abbrev ent2 : List (Nat × Nat) := [(128,119)]
noncomputable abbrev ent3 : List (Nat × Nat) := [(2112,115),(2048,83),(64,120)]
noncomputable abbrev ent4 : List (Nat × Nat) := [(32,114)]
noncomputable abbrev ent5 : List (Nat × Nat) := [(16,119)]
noncomputable abbrev ent6 : List (Nat × Nat) := [(1032,115),(1024,83),(8,120)]
noncomputable abbrev ent7 : List (Nat × Nat) := [(4,114)]
noncomputable abbrev ent8 : List (Nat × Nat) := [(2,119)]
noncomputable abbrev ent9 : List (Nat × Nat) := [(513,116),(512,84),(1,120)]
theorem beqN (a b : Nat) : (Int.ofNat a == Int.ofNat b) = (a == b) := by
  by_cases h : a = b
  · subst h; rw [beq_self_eq_true,beq_self_eq_true]
  · rw [beq_eq_false_iff_ne.mpr h,beq_eq_false_iff_ne.mpr fun z => h (Int.ofNat.inj z)]
theorem fn126 (P : Params) : fnOk P 126 := ⟨_,_,_,_,_,rfl,rfl,rfl,rfl,rfl,rfl,rfl⟩
theorem iand_ok {w : World} {C : Around → Prop} (hh : ∀ A,C A → A.handled = none) {a b t u : Nat} : IOk theP w (MyK w.params) C (bI "int.__and__" [.int (Int.ofNat a) t,.int (Int.ofNat b) u] (intR (Int.ofNat (Nat.land a b)))) := pureI _ (iand w a b t u) hh
theorem ifmt_ok (w : World) (b c : Bool) (m tm : Nat) : IOk theP (wf w b c) (MyK (wf w b c).params) (AB 839 6900) (ifmtI m tm) := by
  refine fnI (C' := AB 840 6903) (f := 126) (args := [.int (Int.ofNat m) tm]) (fr := fun tt => mf (fun i => hs (wf w b c).params "mode") (fun i => tt 0) m tm [] 1)
    ⟨fn126 _,60,_,_,(by kernel_rfl),fun nn tt om xi ps => n126 (wf w b c) m tm nn tt om xi ps⟩ rfl AB.hh (fun A hA => limit_ok (Nat.le_trans hA.2.1 (by decide))) AB.hh (fun A L hA => AB.deep hA) ?_
  intro L T
  exact ⟨60,_,_,_,_,_,s126 w L m tm _ _ b c,okIL _ fun nn tt om xi => oneIns (iand_ok AB.hh) nilIns,fun nn tt om xi => ⟨fun _ => om 0 0,fun _ => #[],rfl,rfl,rfl⟩⟩
theorem for166 (P : Params) : nthS P 166 1 = .For (fT (nthS P 166 1)) (fI (nthS P 166 1)) (fB (nthS P 166 1)) (fO (nthS P 166 1)) (fP (nthS P 166 1)) := rfl
theorem for166t (P : Params) : nthS P 166 1 = .For (.Tuple (fTe (nthS P 166 1)) (fTk (nthS P 166 1)) (fTp (nthS P 166 1))) (fI (nthS P 166 1)) (fB (nthS P 166 1)) (fO (nthS P 166 1)) (fP (nthS P 166 1)) := rfl
theorem orelse166 (P : Params) : fO (nthS P 166 1) = [] := rfl
section
variable (w : World) (b c : Bool) {A : Around} {g : Heap} {A0 : List Addr} {R : Result → Shared → Prop} (hA : AB 839 6900 A)
include hA
theorem fmTurn (L it e p i i2 ta : Nat) (mi mi2 : Int) (z : Value) (fr : Obj) (us : List Value) (na : Nat) (sh : Shared) {ora : List Nat}
    (hseg : ∀ nn tt om xi ps,Ends (go (wf w b c) 200 (pyNext (.ref e)) ora [(it,titO 159 i),(e,enO .none it mi z)] .nil nn tt om xi ps) [0,1,2] (.ok (some (.ref (nn 0)))) [(it,titO 159 i2),(e,enO (rawInt (nn 0)) it mi2 (.ref ta)),(nn 0,tupO [.int mi (tt 0),.ref ta])])
    (D : Rp (MyK (wf w b c).params) g A0 sh.heap [(it,titO 159 i),(e,enO .none it mi z),(L,fr),(p,lstO us na)])
    (hk : ∀ (a t : Nat) h' tk',Rp (MyK (wf w b c).params) g A0 h' [(L,fr),(a,tupO [.int mi t,.ref ta]),(p,lstO us na),(it,titO 159 i2),(e,enO .none it mi2 (.ref ta))] →
      wpAny (MM (wf w b c)) A (fasg (nthS (wf w b c).params 166 1) (envAt (wf w b c).params 166 L) (.ref a)) (fun _ s₃ => wpAny (MM (wf w b c)) A (fbody (nthS (wf w b c).params 166 1) (envAt (wf w b c).params 166 L)) (fun f s₄ => match f with
          | .next | .cont => codeAny (MM (wf w b c)) A (loopC (nthS (wf w b c).params 166 1) (.ref e) (envAt (wf w b c).params 166 L)) R s₄
          | .brk => R (.ok .next) s₄
          | .ret v => R (.ok (.ret v)) s₄) (fun _ _ => False) s₃) (fun _ _ => False) { sh with heap := h',toks := tk' }) :
    codeAny (MM (wf w b c)) A (loopC (nthS (wf w b c).params 166 1) (.ref e) (envAt (wf w b c).params 166 L)) R sh := by
  refine enTurn (g := g) (A0 := A0) (for166t _) ?_
  refine fragQ [(L,fr),(p,lstO us na)] D (List.Perm.refl _) hseg AB.hh hA noIns ?_
  intro nn tt om xi h' tk' D'
  exact ⟨nn 0,it,mi2,.ref ta,[(L,fr),(nn 0,tupO [.int mi (tt 0),.ref ta]),(p,lstO us na),(it,titO 159 i2)],rfl,D'.sel [1,3,2,4,0] (by decide),fun h2 D2 => hk (nn 0) (tt 0) h2 tk' (D2.sel [1,2,3,4,0] (by decide))⟩
theorem fmEnd (L it e p : Nat) (z : Value) (fr : Obj) (us : List Value) (na : Nat) (sh : Shared)
    (D : Rp (MyK (wf w b c).params) g A0 sh.heap [(it,titO 159 10),(e,enO .none it 10 z),(L,fr),(p,lstO us na)])
    (hR : ∀ h' tk',Rp (MyK (wf w b c).params) g A0 h' [(L,fr),(p,lstO us na)] → R (.ok .next) { sh with heap := h',toks := tk' }) :
    codeAny (MM (wf w b c)) A (loopC (nthS (wf w b c).params 166 1) (.ref e) (envAt (wf w b c).params 166 L)) R sh := by
  refine enTurn (g := g) (A0 := A0) (for166t _) ?_
  refine fragQ [(L,fr),(p,lstO us na)] D (List.Perm.refl _) (mne (wf w b c) it e z) AB.hh hA noIns ?_
  intro nn tt om xi h' tk' D'
  show codeAny _ _ (.block (fO (nthS (wf w b c).params 166 1)) _) _ _
  rw [orelse166]
  exact codeBlk (hR h' tk' D')
theorem fmT0 (L it e p m tm : Nat) (z : Value) (us : List Value) (na : Nat) (sh : Shared) (hu : us.length ≤ 100) (H : Nat → Int) (T : Nat → Nat)
    (D : Rp (MyK (wf w b c).params) g A0 sh.heap [(it,titO 159 0),(e,enO .none it 0 z),(L,(mf2 H T m tm p)),(p,lstO us na)])
    (h : ∀ (t : Nat) (H' : Nat → Int) (T' : Nat → Nat) (x1 x2 x3 x4 : Value) h' tk',Rp (MyK (wf w b c).params) g A0 h' [(it,titO 159 1),(e,enO .none it 1 (.ref 134)),(L,mf6 H' T' m tm p x1 x2 x3 x4),(p,lstO (us ++ [.str ⟨⟨[pickK (Nat.land m 61440) ent0]⟩⟩ t]) (na + 1))] →
      codeAny (MM (wf w b c)) A (loopC (nthS (wf w b c).params 166 1) (.ref e) (envAt (wf w b c).params 166 L)) R { sh with heap := h',toks := tk' }) :
    codeAny (MM (wf w b c)) A (loopC (nthS (wf w b c).params 166 1) (.ref e) (envAt (wf w b c).params 166 L)) R sh := by
  refine fmTurn w b c hA L it e p 0 1 134 0 1 z _ us na sh (mn0 (wf w b c) it e z) D ?_
  intro a t h1 k1 D1
  refine fragQ [(p,lstO us na),(it,titO 159 1),(e,enO .none it 1 (.ref 134))] D1 (List.Perm.refl _) (ma0 w L m tm p a t 134 0 H T b c) AB.hh hA noIns ?_
  intro nn2 tt2 om2 xi2 h2 k2 D2
  generalize ov (ov H 2 (hs (wf w b c).params "index")) 3 (hs (wf w b c).params "table") = H at D2
  generalize ov (ov T 2 (tt2 0)) 3 (tt2 0 + 1) = T at D2
  cases h0 : Nat.land m 61440 == 40960 with
  | true =>
    have ec : pickK (Nat.land m 61440) ent0 = 108 := pickK_t h0
    rw [ec] at h
    have es : ("l" : Str) = ⟨⟨[108]⟩⟩ := by kernel_rfl
    refine fragQ [(it,titO 159 1),(e,enO .none it 1 (.ref 134))] D2 (List.Perm.refl _) (mb00 w L m tm p na t us .none .none H T b c) AB.hh hA (okIL _ fun nn tt om xi => oneIns (ifmt_ok w b c m tm) (oneIns (ieq_ok AB.hh ((beqN _ _).trans h0)) (oneIns (lapp_ok hu) nilIns))) ?_
    intro nn3 tt3 om3 xi3 h3 k3 D3
    rw [es] at D3
    exact h _ _ _ _ _ _ _ h3 k3 (D3.sel [2,3,0,1] (by decide))
  | false =>
    cases h1 : Nat.land m 61440 == 49152 with
    | true =>
      have ec : pickK (Nat.land m 61440) ent0 = 115 := (pickK_f h0).trans (pickK_t h1)
      rw [ec] at h
      have es : ("s" : Str) = ⟨⟨[115]⟩⟩ := by kernel_rfl
      refine fragQ [(it,titO 159 1),(e,enO .none it 1 (.ref 134))] D2 (List.Perm.refl _) (mb01 w L m tm p na t us .none .none H T b c) AB.hh hA (okIL _ fun nn tt om xi => oneIns (ifmt_ok w b c m tm) (oneIns (ieq_ok AB.hh ((beqN _ _).trans h0)) (oneIns (ifmt_ok w b c m tm) (oneIns (ieq_ok AB.hh ((beqN _ _).trans h1)) (oneIns (lapp_ok hu) nilIns))))) ?_
      intro nn3 tt3 om3 xi3 h3 k3 D3
      rw [es] at D3
      exact h _ _ _ _ _ _ _ h3 k3 (D3.sel [2,3,0,1] (by decide))
    | false =>
      cases h2 : Nat.land m 61440 == 32768 with
      | true =>
        have ec : pickK (Nat.land m 61440) ent0 = 45 := (pickK_f h0).trans ((pickK_f h1).trans (pickK_t h2))
        rw [ec] at h
        have es : ("-" : Str) = ⟨⟨[45]⟩⟩ := by kernel_rfl
        refine fragQ [(it,titO 159 1),(e,enO .none it 1 (.ref 134))] D2 (List.Perm.refl _) (mb02 w L m tm p na t us .none .none H T b c) AB.hh hA (okIL _ fun nn tt om xi => oneIns (ifmt_ok w b c m tm) (oneIns (ieq_ok AB.hh ((beqN _ _).trans h0)) (oneIns (ifmt_ok w b c m tm) (oneIns (ieq_ok AB.hh ((beqN _ _).trans h1)) (oneIns (ifmt_ok w b c m tm) (oneIns (ieq_ok AB.hh ((beqN _ _).trans h2)) (oneIns (lapp_ok hu) nilIns))))))) ?_
        intro nn3 tt3 om3 xi3 h3 k3 D3
        rw [es] at D3
        exact h _ _ _ _ _ _ _ h3 k3 (D3.sel [2,3,0,1] (by decide))
      | false =>
        cases h3 : Nat.land m 61440 == 24576 with
        | true =>
          have ec : pickK (Nat.land m 61440) ent0 = 98 := (pickK_f h0).trans ((pickK_f h1).trans ((pickK_f h2).trans (pickK_t h3)))
          rw [ec] at h
          have es : ("b" : Str) = ⟨⟨[98]⟩⟩ := by kernel_rfl
          refine fragQ [(it,titO 159 1),(e,enO .none it 1 (.ref 134))] D2 (List.Perm.refl _) (mb03 w L m tm p na t us .none .none H T b c) AB.hh hA (okIL _ fun nn tt om xi => oneIns (ifmt_ok w b c m tm) (oneIns (ieq_ok AB.hh ((beqN _ _).trans h0)) (oneIns (ifmt_ok w b c m tm) (oneIns (ieq_ok AB.hh ((beqN _ _).trans h1)) (oneIns (ifmt_ok w b c m tm) (oneIns (ieq_ok AB.hh ((beqN _ _).trans h2)) (oneIns (ifmt_ok w b c m tm) (oneIns (ieq_ok AB.hh ((beqN _ _).trans h3)) (oneIns (lapp_ok hu) nilIns))))))))) ?_
          intro nn3 tt3 om3 xi3 h3 k3 D3
          rw [es] at D3
          exact h _ _ _ _ _ _ _ h3 k3 (D3.sel [2,3,0,1] (by decide))
        | false =>
          cases h4 : Nat.land m 61440 == 16384 with
          | true =>
            have ec : pickK (Nat.land m 61440) ent0 = 100 := (pickK_f h0).trans ((pickK_f h1).trans ((pickK_f h2).trans ((pickK_f h3).trans (pickK_t h4))))
            rw [ec] at h
            have es : ("d" : Str) = ⟨⟨[100]⟩⟩ := by kernel_rfl
            refine fragQ [(it,titO 159 1),(e,enO .none it 1 (.ref 134))] D2 (List.Perm.refl _) (mb04 w L m tm p na t us .none .none H T b c) AB.hh hA (okIL _ fun nn tt om xi => oneIns (ifmt_ok w b c m tm) (oneIns (ieq_ok AB.hh ((beqN _ _).trans h0)) (oneIns (ifmt_ok w b c m tm) (oneIns (ieq_ok AB.hh ((beqN _ _).trans h1)) (oneIns (ifmt_ok w b c m tm) (oneIns (ieq_ok AB.hh ((beqN _ _).trans h2)) (oneIns (ifmt_ok w b c m tm) (oneIns (ieq_ok AB.hh ((beqN _ _).trans h3)) (oneIns (ifmt_ok w b c m tm) (oneIns (ieq_ok AB.hh ((beqN _ _).trans h4)) (oneIns (lapp_ok hu) nilIns))))))))))) ?_
            intro nn3 tt3 om3 xi3 h3 k3 D3
            rw [es] at D3
            exact h _ _ _ _ _ _ _ h3 k3 (D3.sel [2,3,0,1] (by decide))
          | false =>
            cases h5 : Nat.land m 61440 == 8192 with
            | true =>
              have ec : pickK (Nat.land m 61440) ent0 = 99 := (pickK_f h0).trans ((pickK_f h1).trans ((pickK_f h2).trans ((pickK_f h3).trans ((pickK_f h4).trans (pickK_t h5)))))
              rw [ec] at h
              have es : ("c" : Str) = ⟨⟨[99]⟩⟩ := by kernel_rfl
              refine fragQ [(it,titO 159 1),(e,enO .none it 1 (.ref 134))] D2 (List.Perm.refl _) (mb05 w L m tm p na t us .none .none H T b c) AB.hh hA (okIL _ fun nn tt om xi => oneIns (ifmt_ok w b c m tm) (oneIns (ieq_ok AB.hh ((beqN _ _).trans h0)) (oneIns (ifmt_ok w b c m tm) (oneIns (ieq_ok AB.hh ((beqN _ _).trans h1)) (oneIns (ifmt_ok w b c m tm) (oneIns (ieq_ok AB.hh ((beqN _ _).trans h2)) (oneIns (ifmt_ok w b c m tm) (oneIns (ieq_ok AB.hh ((beqN _ _).trans h3)) (oneIns (ifmt_ok w b c m tm) (oneIns (ieq_ok AB.hh ((beqN _ _).trans h4)) (oneIns (ifmt_ok w b c m tm) (oneIns (ieq_ok AB.hh ((beqN _ _).trans h5)) (oneIns (lapp_ok hu) nilIns))))))))))))) ?_
              intro nn3 tt3 om3 xi3 h3 k3 D3
              rw [es] at D3
              exact h _ _ _ _ _ _ _ h3 k3 (D3.sel [2,3,0,1] (by decide))
            | false =>
              cases h6 : Nat.land m 61440 == 4096 with
              | true =>
                have ec : pickK (Nat.land m 61440) ent0 = 112 := (pickK_f h0).trans ((pickK_f h1).trans ((pickK_f h2).trans ((pickK_f h3).trans ((pickK_f h4).trans ((pickK_f h5).trans (pickK_t h6))))))
                rw [ec] at h
                have es : ("p" : Str) = ⟨⟨[112]⟩⟩ := by kernel_rfl
                refine fragQ [(it,titO 159 1),(e,enO .none it 1 (.ref 134))] D2 (List.Perm.refl _) (mb06 w L m tm p na t us .none .none H T b c) AB.hh hA (okIL _ fun nn tt om xi => oneIns (ifmt_ok w b c m tm) (oneIns (ieq_ok AB.hh ((beqN _ _).trans h0)) (oneIns (ifmt_ok w b c m tm) (oneIns (ieq_ok AB.hh ((beqN _ _).trans h1)) (oneIns (ifmt_ok w b c m tm) (oneIns (ieq_ok AB.hh ((beqN _ _).trans h2)) (oneIns (ifmt_ok w b c m tm) (oneIns (ieq_ok AB.hh ((beqN _ _).trans h3)) (oneIns (ifmt_ok w b c m tm) (oneIns (ieq_ok AB.hh ((beqN _ _).trans h4)) (oneIns (ifmt_ok w b c m tm) (oneIns (ieq_ok AB.hh ((beqN _ _).trans h5)) (oneIns (ifmt_ok w b c m tm) (oneIns (ieq_ok AB.hh ((beqN _ _).trans h6)) (oneIns (lapp_ok hu) nilIns))))))))))))))) ?_
                intro nn3 tt3 om3 xi3 h3 k3 D3
                rw [es] at D3
                exact h _ _ _ _ _ _ _ h3 k3 (D3.sel [2,3,0,1] (by decide))
              | false =>
                have ec : pickK (Nat.land m 61440) ent0 = 63 := (pickK_f h0).trans ((pickK_f h1).trans ((pickK_f h2).trans ((pickK_f h3).trans ((pickK_f h4).trans ((pickK_f h5).trans ((pickK_f h6).trans (rfl)))))))
                rw [ec] at h
                have es : ("?" : Str) = ⟨⟨[63]⟩⟩ := by kernel_rfl
                refine fragQ [(it,titO 159 1),(e,enO .none it 1 (.ref 134))] D2 (List.Perm.refl _) (mb07 w L m tm p na t us .none .none H T b c) AB.hh hA (okIL _ fun nn tt om xi => oneIns (ifmt_ok w b c m tm) (oneIns (ieq_ok AB.hh ((beqN _ _).trans h0)) (oneIns (ifmt_ok w b c m tm) (oneIns (ieq_ok AB.hh ((beqN _ _).trans h1)) (oneIns (ifmt_ok w b c m tm) (oneIns (ieq_ok AB.hh ((beqN _ _).trans h2)) (oneIns (ifmt_ok w b c m tm) (oneIns (ieq_ok AB.hh ((beqN _ _).trans h3)) (oneIns (ifmt_ok w b c m tm) (oneIns (ieq_ok AB.hh ((beqN _ _).trans h4)) (oneIns (ifmt_ok w b c m tm) (oneIns (ieq_ok AB.hh ((beqN _ _).trans h5)) (oneIns (ifmt_ok w b c m tm) (oneIns (ieq_ok AB.hh ((beqN _ _).trans h6)) (oneIns (lapp_ok hu) nilIns))))))))))))))) ?_
                intro nn3 tt3 om3 xi3 h3 k3 D3
                rw [es] at D3
                exact h _ _ _ _ _ _ _ h3 k3 (D3.sel [2,3,0,1] (by decide))
theorem fmT1 (L it e p m tm : Nat) (z : Value) (us : List Value) (na : Nat) (sh : Shared) (hu : us.length ≤ 100) (H : Nat → Int) (T : Nat → Nat) (v1 v2 v3 v4 : Value)
    (D : Rp (MyK (wf w b c).params) g A0 sh.heap [(it,titO 159 1),(e,enO .none it 1 z),(L,(mf6 H T m tm p v1 v2 v3 v4)),(p,lstO us na)])
    (h : ∀ (t : Nat) (H' : Nat → Int) (T' : Nat → Nat) (x1 x2 x3 x4 : Value) h' tk',Rp (MyK (wf w b c).params) g A0 h' [(it,titO 159 2),(e,enO .none it 2 (.ref 136)),(L,mf6 H' T' m tm p x1 x2 x3 x4),(p,lstO (us ++ [.str ⟨⟨[pickM m ent1]⟩⟩ t]) (na + 1))] →
      codeAny (MM (wf w b c)) A (loopC (nthS (wf w b c).params 166 1) (.ref e) (envAt (wf w b c).params 166 L)) R { sh with heap := h',toks := tk' }) :
    codeAny (MM (wf w b c)) A (loopC (nthS (wf w b c).params 166 1) (.ref e) (envAt (wf w b c).params 166 L)) R sh := by
  refine fmTurn w b c hA L it e p 1 2 136 1 2 z _ us na sh (mn1 (wf w b c) it e z) D ?_
  intro a t h1 k1 D1
  refine fragQ [(p,lstO us na),(it,titO 159 2),(e,enO .none it 2 (.ref 136))] D1 (List.Perm.refl _) (ma1 w L m tm p a t 136 1 v1 v2 v3 v4 H T b c) AB.hh hA noIns ?_
  intro nn2 tt2 om2 xi2 h2 k2 D2
  cases h0 : Nat.land m 256 == 256 with
  | true =>
    have ec : pickM m ent1 = 114 := pickM_t h0
    rw [ec] at h
    have es : ("r" : Str) = ⟨⟨[114]⟩⟩ := by kernel_rfl
    refine fragQ [(it,titO 159 2),(e,enO .none it 2 (.ref 136))] D2 (List.Perm.refl _) (mb10 w L m tm p na t us v3 v4 H T b c) AB.hh hA (okIL _ fun nn tt om xi => oneIns (iand_ok AB.hh) (oneIns (ieq_ok AB.hh ((beqN _ _).trans h0)) (oneIns (lapp_ok hu) nilIns))) ?_
    intro nn3 tt3 om3 xi3 h3 k3 D3
    rw [es] at D3
    exact h _ _ _ _ _ _ _ h3 k3 (D3.sel [2,3,0,1] (by decide))
  | false =>
    have ec : pickM m ent1 = 45 := (pickM_f h0).trans (rfl)
    rw [ec] at h
    have es : ("-" : Str) = ⟨⟨[45]⟩⟩ := by kernel_rfl
    refine fragQ [(it,titO 159 2),(e,enO .none it 2 (.ref 136))] D2 (List.Perm.refl _) (mb11 w L m tm p na t us v3 v4 H T b c) AB.hh hA (okIL _ fun nn tt om xi => oneIns (iand_ok AB.hh) (oneIns (ieq_ok AB.hh ((beqN _ _).trans h0)) (oneIns (lapp_ok hu) nilIns))) ?_
    intro nn3 tt3 om3 xi3 h3 k3 D3
    rw [es] at D3
    exact h _ _ _ _ _ _ _ h3 k3 (D3.sel [2,3,0,1] (by decide))
theorem fmT2 (L it e p m tm : Nat) (z : Value) (us : List Value) (na : Nat) (sh : Shared) (hu : us.length ≤ 100) (H : Nat → Int) (T : Nat → Nat) (v1 v2 v3 v4 : Value)
    (D : Rp (MyK (wf w b c).params) g A0 sh.heap [(it,titO 159 2),(e,enO .none it 2 z),(L,(mf6 H T m tm p v1 v2 v3 v4)),(p,lstO us na)])
    (h : ∀ (t : Nat) (H' : Nat → Int) (T' : Nat → Nat) (x1 x2 x3 x4 : Value) h' tk',Rp (MyK (wf w b c).params) g A0 h' [(it,titO 159 3),(e,enO .none it 3 (.ref 138)),(L,mf6 H' T' m tm p x1 x2 x3 x4),(p,lstO (us ++ [.str ⟨⟨[pickM m ent2]⟩⟩ t]) (na + 1))] →
      codeAny (MM (wf w b c)) A (loopC (nthS (wf w b c).params 166 1) (.ref e) (envAt (wf w b c).params 166 L)) R { sh with heap := h',toks := tk' }) :
    codeAny (MM (wf w b c)) A (loopC (nthS (wf w b c).params 166 1) (.ref e) (envAt (wf w b c).params 166 L)) R sh := by
  refine fmTurn w b c hA L it e p 2 3 138 2 3 z _ us na sh (mn2 (wf w b c) it e z) D ?_
  intro a t h1 k1 D1
  refine fragQ [(p,lstO us na),(it,titO 159 3),(e,enO .none it 3 (.ref 138))] D1 (List.Perm.refl _) (ma1 w L m tm p a t 138 2 v1 v2 v3 v4 H T b c) AB.hh hA noIns ?_
  intro nn2 tt2 om2 xi2 h2 k2 D2
  cases h0 : Nat.land m 128 == 128 with
  | true =>
    have ec : pickM m ent2 = 119 := pickM_t h0
    rw [ec] at h
    have es : ("w" : Str) = ⟨⟨[119]⟩⟩ := by kernel_rfl
    refine fragQ [(it,titO 159 3),(e,enO .none it 3 (.ref 138))] D2 (List.Perm.refl _) (mb20 w L m tm p na t us v3 v4 H T b c) AB.hh hA (okIL _ fun nn tt om xi => oneIns (iand_ok AB.hh) (oneIns (ieq_ok AB.hh ((beqN _ _).trans h0)) (oneIns (lapp_ok hu) nilIns))) ?_
    intro nn3 tt3 om3 xi3 h3 k3 D3
    rw [es] at D3
    exact h _ _ _ _ _ _ _ h3 k3 (D3.sel [2,3,0,1] (by decide))
  | false =>
    have ec : pickM m ent2 = 45 := (pickM_f h0).trans (rfl)
    rw [ec] at h
    have es : ("-" : Str) = ⟨⟨[45]⟩⟩ := by kernel_rfl
    refine fragQ [(it,titO 159 3),(e,enO .none it 3 (.ref 138))] D2 (List.Perm.refl _) (mb21 w L m tm p na t us v3 v4 H T b c) AB.hh hA (okIL _ fun nn tt om xi => oneIns (iand_ok AB.hh) (oneIns (ieq_ok AB.hh ((beqN _ _).trans h0)) (oneIns (lapp_ok hu) nilIns))) ?_
    intro nn3 tt3 om3 xi3 h3 k3 D3
    rw [es] at D3
    exact h _ _ _ _ _ _ _ h3 k3 (D3.sel [2,3,0,1] (by decide))
theorem fmT3 (L it e p m tm : Nat) (z : Value) (us : List Value) (na : Nat) (sh : Shared) (hu : us.length ≤ 100) (H : Nat → Int) (T : Nat → Nat) (v1 v2 v3 v4 : Value)
    (D : Rp (MyK (wf w b c).params) g A0 sh.heap [(it,titO 159 3),(e,enO .none it 3 z),(L,(mf6 H T m tm p v1 v2 v3 v4)),(p,lstO us na)])
    (h : ∀ (t : Nat) (H' : Nat → Int) (T' : Nat → Nat) (x1 x2 x3 x4 : Value) h' tk',Rp (MyK (wf w b c).params) g A0 h' [(it,titO 159 4),(e,enO .none it 4 (.ref 142)),(L,mf6 H' T' m tm p x1 x2 x3 x4),(p,lstO (us ++ [.str ⟨⟨[pickM m ent3]⟩⟩ t]) (na + 1))] →
      codeAny (MM (wf w b c)) A (loopC (nthS (wf w b c).params 166 1) (.ref e) (envAt (wf w b c).params 166 L)) R { sh with heap := h',toks := tk' }) :
    codeAny (MM (wf w b c)) A (loopC (nthS (wf w b c).params 166 1) (.ref e) (envAt (wf w b c).params 166 L)) R sh := by
  refine fmTurn w b c hA L it e p 3 4 142 3 4 z _ us na sh (mn3 (wf w b c) it e z) D ?_
  intro a t h1 k1 D1
  refine fragQ [(p,lstO us na),(it,titO 159 4),(e,enO .none it 4 (.ref 142))] D1 (List.Perm.refl _) (ma1 w L m tm p a t 142 3 v1 v2 v3 v4 H T b c) AB.hh hA noIns ?_
  intro nn2 tt2 om2 xi2 h2 k2 D2
  cases h0 : Nat.land m 2112 == 2112 with
  | true =>
    have ec : pickM m ent3 = 115 := pickM_t h0
    rw [ec] at h
    have es : ("s" : Str) = ⟨⟨[115]⟩⟩ := by kernel_rfl
    refine fragQ [(it,titO 159 4),(e,enO .none it 4 (.ref 142))] D2 (List.Perm.refl _) (mb30 w L m tm p na t us v3 v4 H T b c) AB.hh hA (okIL _ fun nn tt om xi => oneIns (iand_ok AB.hh) (oneIns (ieq_ok AB.hh ((beqN _ _).trans h0)) (oneIns (lapp_ok hu) nilIns))) ?_
    intro nn3 tt3 om3 xi3 h3 k3 D3
    rw [es] at D3
    exact h _ _ _ _ _ _ _ h3 k3 (D3.sel [2,3,0,1] (by decide))
  | false =>
    cases h1 : Nat.land m 2048 == 2048 with
    | true =>
      have ec : pickM m ent3 = 83 := (pickM_f h0).trans (pickM_t h1)
      rw [ec] at h
      have es : ("S" : Str) = ⟨⟨[83]⟩⟩ := by kernel_rfl
      refine fragQ [(it,titO 159 4),(e,enO .none it 4 (.ref 142))] D2 (List.Perm.refl _) (mb31 w L m tm p na t us v3 v4 H T b c) AB.hh hA (okIL _ fun nn tt om xi => oneIns (iand_ok AB.hh) (oneIns (ieq_ok AB.hh ((beqN _ _).trans h0)) (oneIns (iand_ok AB.hh) (oneIns (ieq_ok AB.hh ((beqN _ _).trans h1)) (oneIns (lapp_ok hu) nilIns))))) ?_
      intro nn3 tt3 om3 xi3 h3 k3 D3
      rw [es] at D3
      exact h _ _ _ _ _ _ _ h3 k3 (D3.sel [2,3,0,1] (by decide))
    | false =>
      cases h2 : Nat.land m 64 == 64 with
      | true =>
        have ec : pickM m ent3 = 120 := (pickM_f h0).trans ((pickM_f h1).trans (pickM_t h2))
        rw [ec] at h
        have es : ("x" : Str) = ⟨⟨[120]⟩⟩ := by kernel_rfl
        refine fragQ [(it,titO 159 4),(e,enO .none it 4 (.ref 142))] D2 (List.Perm.refl _) (mb32 w L m tm p na t us v3 v4 H T b c) AB.hh hA (okIL _ fun nn tt om xi => oneIns (iand_ok AB.hh) (oneIns (ieq_ok AB.hh ((beqN _ _).trans h0)) (oneIns (iand_ok AB.hh) (oneIns (ieq_ok AB.hh ((beqN _ _).trans h1)) (oneIns (iand_ok AB.hh) (oneIns (ieq_ok AB.hh ((beqN _ _).trans h2)) (oneIns (lapp_ok hu) nilIns))))))) ?_
        intro nn3 tt3 om3 xi3 h3 k3 D3
        rw [es] at D3
        exact h _ _ _ _ _ _ _ h3 k3 (D3.sel [2,3,0,1] (by decide))
      | false =>
        have ec : pickM m ent3 = 45 := (pickM_f h0).trans ((pickM_f h1).trans ((pickM_f h2).trans (rfl)))
        rw [ec] at h
        have es : ("-" : Str) = ⟨⟨[45]⟩⟩ := by kernel_rfl
        refine fragQ [(it,titO 159 4),(e,enO .none it 4 (.ref 142))] D2 (List.Perm.refl _) (mb33 w L m tm p na t us v3 v4 H T b c) AB.hh hA (okIL _ fun nn tt om xi => oneIns (iand_ok AB.hh) (oneIns (ieq_ok AB.hh ((beqN _ _).trans h0)) (oneIns (iand_ok AB.hh) (oneIns (ieq_ok AB.hh ((beqN _ _).trans h1)) (oneIns (iand_ok AB.hh) (oneIns (ieq_ok AB.hh ((beqN _ _).trans h2)) (oneIns (lapp_ok hu) nilIns))))))) ?_
        intro nn3 tt3 om3 xi3 h3 k3 D3
        rw [es] at D3
        exact h _ _ _ _ _ _ _ h3 k3 (D3.sel [2,3,0,1] (by decide))
theorem fmT4 (L it e p m tm : Nat) (z : Value) (us : List Value) (na : Nat) (sh : Shared) (hu : us.length ≤ 100) (H : Nat → Int) (T : Nat → Nat) (v1 v2 v3 v4 : Value)
    (D : Rp (MyK (wf w b c).params) g A0 sh.heap [(it,titO 159 4),(e,enO .none it 4 z),(L,(mf6 H T m tm p v1 v2 v3 v4)),(p,lstO us na)])
    (h : ∀ (t : Nat) (H' : Nat → Int) (T' : Nat → Nat) (x1 x2 x3 x4 : Value) h' tk',Rp (MyK (wf w b c).params) g A0 h' [(it,titO 159 5),(e,enO .none it 5 (.ref 144)),(L,mf6 H' T' m tm p x1 x2 x3 x4),(p,lstO (us ++ [.str ⟨⟨[pickM m ent4]⟩⟩ t]) (na + 1))] →
      codeAny (MM (wf w b c)) A (loopC (nthS (wf w b c).params 166 1) (.ref e) (envAt (wf w b c).params 166 L)) R { sh with heap := h',toks := tk' }) :
    codeAny (MM (wf w b c)) A (loopC (nthS (wf w b c).params 166 1) (.ref e) (envAt (wf w b c).params 166 L)) R sh := by
  refine fmTurn w b c hA L it e p 4 5 144 4 5 z _ us na sh (mn4 (wf w b c) it e z) D ?_
  intro a t h1 k1 D1
  refine fragQ [(p,lstO us na),(it,titO 159 5),(e,enO .none it 5 (.ref 144))] D1 (List.Perm.refl _) (ma1 w L m tm p a t 144 4 v1 v2 v3 v4 H T b c) AB.hh hA noIns ?_
  intro nn2 tt2 om2 xi2 h2 k2 D2
  cases h0 : Nat.land m 32 == 32 with
  | true =>
    have ec : pickM m ent4 = 114 := pickM_t h0
    rw [ec] at h
    have es : ("r" : Str) = ⟨⟨[114]⟩⟩ := by kernel_rfl
    refine fragQ [(it,titO 159 5),(e,enO .none it 5 (.ref 144))] D2 (List.Perm.refl _) (mb40 w L m tm p na t us v3 v4 H T b c) AB.hh hA (okIL _ fun nn tt om xi => oneIns (iand_ok AB.hh) (oneIns (ieq_ok AB.hh ((beqN _ _).trans h0)) (oneIns (lapp_ok hu) nilIns))) ?_
    intro nn3 tt3 om3 xi3 h3 k3 D3
    rw [es] at D3
    exact h _ _ _ _ _ _ _ h3 k3 (D3.sel [2,3,0,1] (by decide))
  | false =>
    have ec : pickM m ent4 = 45 := (pickM_f h0).trans (rfl)
    rw [ec] at h
    have es : ("-" : Str) = ⟨⟨[45]⟩⟩ := by kernel_rfl
    refine fragQ [(it,titO 159 5),(e,enO .none it 5 (.ref 144))] D2 (List.Perm.refl _) (mb41 w L m tm p na t us v3 v4 H T b c) AB.hh hA (okIL _ fun nn tt om xi => oneIns (iand_ok AB.hh) (oneIns (ieq_ok AB.hh ((beqN _ _).trans h0)) (oneIns (lapp_ok hu) nilIns))) ?_
    intro nn3 tt3 om3 xi3 h3 k3 D3
    rw [es] at D3
    exact h _ _ _ _ _ _ _ h3 k3 (D3.sel [2,3,0,1] (by decide))
theorem fmT5 (L it e p m tm : Nat) (z : Value) (us : List Value) (na : Nat) (sh : Shared) (hu : us.length ≤ 100) (H : Nat → Int) (T : Nat → Nat) (v1 v2 v3 v4 : Value)
    (D : Rp (MyK (wf w b c).params) g A0 sh.heap [(it,titO 159 5),(e,enO .none it 5 z),(L,(mf6 H T m tm p v1 v2 v3 v4)),(p,lstO us na)])
    (h : ∀ (t : Nat) (H' : Nat → Int) (T' : Nat → Nat) (x1 x2 x3 x4 : Value) h' tk',Rp (MyK (wf w b c).params) g A0 h' [(it,titO 159 6),(e,enO .none it 6 (.ref 146)),(L,mf6 H' T' m tm p x1 x2 x3 x4),(p,lstO (us ++ [.str ⟨⟨[pickM m ent5]⟩⟩ t]) (na + 1))] →
      codeAny (MM (wf w b c)) A (loopC (nthS (wf w b c).params 166 1) (.ref e) (envAt (wf w b c).params 166 L)) R { sh with heap := h',toks := tk' }) :
    codeAny (MM (wf w b c)) A (loopC (nthS (wf w b c).params 166 1) (.ref e) (envAt (wf w b c).params 166 L)) R sh := by
  refine fmTurn w b c hA L it e p 5 6 146 5 6 z _ us na sh (mn5 (wf w b c) it e z) D ?_
  intro a t h1 k1 D1
  refine fragQ [(p,lstO us na),(it,titO 159 6),(e,enO .none it 6 (.ref 146))] D1 (List.Perm.refl _) (ma1 w L m tm p a t 146 5 v1 v2 v3 v4 H T b c) AB.hh hA noIns ?_
  intro nn2 tt2 om2 xi2 h2 k2 D2
  cases h0 : Nat.land m 16 == 16 with
  | true =>
    have ec : pickM m ent5 = 119 := pickM_t h0
    rw [ec] at h
    have es : ("w" : Str) = ⟨⟨[119]⟩⟩ := by kernel_rfl
    refine fragQ [(it,titO 159 6),(e,enO .none it 6 (.ref 146))] D2 (List.Perm.refl _) (mb50 w L m tm p na t us v3 v4 H T b c) AB.hh hA (okIL _ fun nn tt om xi => oneIns (iand_ok AB.hh) (oneIns (ieq_ok AB.hh ((beqN _ _).trans h0)) (oneIns (lapp_ok hu) nilIns))) ?_
    intro nn3 tt3 om3 xi3 h3 k3 D3
    rw [es] at D3
    exact h _ _ _ _ _ _ _ h3 k3 (D3.sel [2,3,0,1] (by decide))
  | false =>
    have ec : pickM m ent5 = 45 := (pickM_f h0).trans (rfl)
    rw [ec] at h
    have es : ("-" : Str) = ⟨⟨[45]⟩⟩ := by kernel_rfl
    refine fragQ [(it,titO 159 6),(e,enO .none it 6 (.ref 146))] D2 (List.Perm.refl _) (mb51 w L m tm p na t us v3 v4 H T b c) AB.hh hA (okIL _ fun nn tt om xi => oneIns (iand_ok AB.hh) (oneIns (ieq_ok AB.hh ((beqN _ _).trans h0)) (oneIns (lapp_ok hu) nilIns))) ?_
    intro nn3 tt3 om3 xi3 h3 k3 D3
    rw [es] at D3
    exact h _ _ _ _ _ _ _ h3 k3 (D3.sel [2,3,0,1] (by decide))
theorem fmT6 (L it e p m tm : Nat) (z : Value) (us : List Value) (na : Nat) (sh : Shared) (hu : us.length ≤ 100) (H : Nat → Int) (T : Nat → Nat) (v1 v2 v3 v4 : Value)
    (D : Rp (MyK (wf w b c).params) g A0 sh.heap [(it,titO 159 6),(e,enO .none it 6 z),(L,(mf6 H T m tm p v1 v2 v3 v4)),(p,lstO us na)])
    (h : ∀ (t : Nat) (H' : Nat → Int) (T' : Nat → Nat) (x1 x2 x3 x4 : Value) h' tk',Rp (MyK (wf w b c).params) g A0 h' [(it,titO 159 7),(e,enO .none it 7 (.ref 150)),(L,mf6 H' T' m tm p x1 x2 x3 x4),(p,lstO (us ++ [.str ⟨⟨[pickM m ent6]⟩⟩ t]) (na + 1))] →
      codeAny (MM (wf w b c)) A (loopC (nthS (wf w b c).params 166 1) (.ref e) (envAt (wf w b c).params 166 L)) R { sh with heap := h',toks := tk' }) :
    codeAny (MM (wf w b c)) A (loopC (nthS (wf w b c).params 166 1) (.ref e) (envAt (wf w b c).params 166 L)) R sh := by
  refine fmTurn w b c hA L it e p 6 7 150 6 7 z _ us na sh (mn6 (wf w b c) it e z) D ?_
  intro a t h1 k1 D1
  refine fragQ [(p,lstO us na),(it,titO 159 7),(e,enO .none it 7 (.ref 150))] D1 (List.Perm.refl _) (ma1 w L m tm p a t 150 6 v1 v2 v3 v4 H T b c) AB.hh hA noIns ?_
  intro nn2 tt2 om2 xi2 h2 k2 D2
  cases h0 : Nat.land m 1032 == 1032 with
  | true =>
    have ec : pickM m ent6 = 115 := pickM_t h0
    rw [ec] at h
    have es : ("s" : Str) = ⟨⟨[115]⟩⟩ := by kernel_rfl
    refine fragQ [(it,titO 159 7),(e,enO .none it 7 (.ref 150))] D2 (List.Perm.refl _) (mb60 w L m tm p na t us v3 v4 H T b c) AB.hh hA (okIL _ fun nn tt om xi => oneIns (iand_ok AB.hh) (oneIns (ieq_ok AB.hh ((beqN _ _).trans h0)) (oneIns (lapp_ok hu) nilIns))) ?_
    intro nn3 tt3 om3 xi3 h3 k3 D3
    rw [es] at D3
    exact h _ _ _ _ _ _ _ h3 k3 (D3.sel [2,3,0,1] (by decide))
  | false =>
    cases h1 : Nat.land m 1024 == 1024 with
    | true =>
      have ec : pickM m ent6 = 83 := (pickM_f h0).trans (pickM_t h1)
      rw [ec] at h
      have es : ("S" : Str) = ⟨⟨[83]⟩⟩ := by kernel_rfl
      refine fragQ [(it,titO 159 7),(e,enO .none it 7 (.ref 150))] D2 (List.Perm.refl _) (mb61 w L m tm p na t us v3 v4 H T b c) AB.hh hA (okIL _ fun nn tt om xi => oneIns (iand_ok AB.hh) (oneIns (ieq_ok AB.hh ((beqN _ _).trans h0)) (oneIns (iand_ok AB.hh) (oneIns (ieq_ok AB.hh ((beqN _ _).trans h1)) (oneIns (lapp_ok hu) nilIns))))) ?_
      intro nn3 tt3 om3 xi3 h3 k3 D3
      rw [es] at D3
      exact h _ _ _ _ _ _ _ h3 k3 (D3.sel [2,3,0,1] (by decide))
    | false =>
      cases h2 : Nat.land m 8 == 8 with
      | true =>
        have ec : pickM m ent6 = 120 := (pickM_f h0).trans ((pickM_f h1).trans (pickM_t h2))
        rw [ec] at h
        have es : ("x" : Str) = ⟨⟨[120]⟩⟩ := by kernel_rfl
        refine fragQ [(it,titO 159 7),(e,enO .none it 7 (.ref 150))] D2 (List.Perm.refl _) (mb62 w L m tm p na t us v3 v4 H T b c) AB.hh hA (okIL _ fun nn tt om xi => oneIns (iand_ok AB.hh) (oneIns (ieq_ok AB.hh ((beqN _ _).trans h0)) (oneIns (iand_ok AB.hh) (oneIns (ieq_ok AB.hh ((beqN _ _).trans h1)) (oneIns (iand_ok AB.hh) (oneIns (ieq_ok AB.hh ((beqN _ _).trans h2)) (oneIns (lapp_ok hu) nilIns))))))) ?_
        intro nn3 tt3 om3 xi3 h3 k3 D3
        rw [es] at D3
        exact h _ _ _ _ _ _ _ h3 k3 (D3.sel [2,3,0,1] (by decide))
      | false =>
        have ec : pickM m ent6 = 45 := (pickM_f h0).trans ((pickM_f h1).trans ((pickM_f h2).trans (rfl)))
        rw [ec] at h
        have es : ("-" : Str) = ⟨⟨[45]⟩⟩ := by kernel_rfl
        refine fragQ [(it,titO 159 7),(e,enO .none it 7 (.ref 150))] D2 (List.Perm.refl _) (mb63 w L m tm p na t us v3 v4 H T b c) AB.hh hA (okIL _ fun nn tt om xi => oneIns (iand_ok AB.hh) (oneIns (ieq_ok AB.hh ((beqN _ _).trans h0)) (oneIns (iand_ok AB.hh) (oneIns (ieq_ok AB.hh ((beqN _ _).trans h1)) (oneIns (iand_ok AB.hh) (oneIns (ieq_ok AB.hh ((beqN _ _).trans h2)) (oneIns (lapp_ok hu) nilIns))))))) ?_
        intro nn3 tt3 om3 xi3 h3 k3 D3
        rw [es] at D3
        exact h _ _ _ _ _ _ _ h3 k3 (D3.sel [2,3,0,1] (by decide))
theorem fmT7 (L it e p m tm : Nat) (z : Value) (us : List Value) (na : Nat) (sh : Shared) (hu : us.length ≤ 100) (H : Nat → Int) (T : Nat → Nat) (v1 v2 v3 v4 : Value)
    (D : Rp (MyK (wf w b c).params) g A0 sh.heap [(it,titO 159 7),(e,enO .none it 7 z),(L,(mf6 H T m tm p v1 v2 v3 v4)),(p,lstO us na)])
    (h : ∀ (t : Nat) (H' : Nat → Int) (T' : Nat → Nat) (x1 x2 x3 x4 : Value) h' tk',Rp (MyK (wf w b c).params) g A0 h' [(it,titO 159 8),(e,enO .none it 8 (.ref 152)),(L,mf6 H' T' m tm p x1 x2 x3 x4),(p,lstO (us ++ [.str ⟨⟨[pickM m ent7]⟩⟩ t]) (na + 1))] →
      codeAny (MM (wf w b c)) A (loopC (nthS (wf w b c).params 166 1) (.ref e) (envAt (wf w b c).params 166 L)) R { sh with heap := h',toks := tk' }) :
    codeAny (MM (wf w b c)) A (loopC (nthS (wf w b c).params 166 1) (.ref e) (envAt (wf w b c).params 166 L)) R sh := by
  refine fmTurn w b c hA L it e p 7 8 152 7 8 z _ us na sh (mn7 (wf w b c) it e z) D ?_
  intro a t h1 k1 D1
  refine fragQ [(p,lstO us na),(it,titO 159 8),(e,enO .none it 8 (.ref 152))] D1 (List.Perm.refl _) (ma1 w L m tm p a t 152 7 v1 v2 v3 v4 H T b c) AB.hh hA noIns ?_
  intro nn2 tt2 om2 xi2 h2 k2 D2
  cases h0 : Nat.land m 4 == 4 with
  | true =>
    have ec : pickM m ent7 = 114 := pickM_t h0
    rw [ec] at h
    have es : ("r" : Str) = ⟨⟨[114]⟩⟩ := by kernel_rfl
    refine fragQ [(it,titO 159 8),(e,enO .none it 8 (.ref 152))] D2 (List.Perm.refl _) (mb70 w L m tm p na t us v3 v4 H T b c) AB.hh hA (okIL _ fun nn tt om xi => oneIns (iand_ok AB.hh) (oneIns (ieq_ok AB.hh ((beqN _ _).trans h0)) (oneIns (lapp_ok hu) nilIns))) ?_
    intro nn3 tt3 om3 xi3 h3 k3 D3
    rw [es] at D3
    exact h _ _ _ _ _ _ _ h3 k3 (D3.sel [2,3,0,1] (by decide))
  | false =>
    have ec : pickM m ent7 = 45 := (pickM_f h0).trans (rfl)
    rw [ec] at h
    have es : ("-" : Str) = ⟨⟨[45]⟩⟩ := by kernel_rfl
    refine fragQ [(it,titO 159 8),(e,enO .none it 8 (.ref 152))] D2 (List.Perm.refl _) (mb71 w L m tm p na t us v3 v4 H T b c) AB.hh hA (okIL _ fun nn tt om xi => oneIns (iand_ok AB.hh) (oneIns (ieq_ok AB.hh ((beqN _ _).trans h0)) (oneIns (lapp_ok hu) nilIns))) ?_
    intro nn3 tt3 om3 xi3 h3 k3 D3
    rw [es] at D3
    exact h _ _ _ _ _ _ _ h3 k3 (D3.sel [2,3,0,1] (by decide))
theorem fmT8 (L it e p m tm : Nat) (z : Value) (us : List Value) (na : Nat) (sh : Shared) (hu : us.length ≤ 100) (H : Nat → Int) (T : Nat → Nat) (v1 v2 v3 v4 : Value)
    (D : Rp (MyK (wf w b c).params) g A0 sh.heap [(it,titO 159 8),(e,enO .none it 8 z),(L,(mf6 H T m tm p v1 v2 v3 v4)),(p,lstO us na)])
    (h : ∀ (t : Nat) (H' : Nat → Int) (T' : Nat → Nat) (x1 x2 x3 x4 : Value) h' tk',Rp (MyK (wf w b c).params) g A0 h' [(it,titO 159 9),(e,enO .none it 9 (.ref 154)),(L,mf6 H' T' m tm p x1 x2 x3 x4),(p,lstO (us ++ [.str ⟨⟨[pickM m ent8]⟩⟩ t]) (na + 1))] →
      codeAny (MM (wf w b c)) A (loopC (nthS (wf w b c).params 166 1) (.ref e) (envAt (wf w b c).params 166 L)) R { sh with heap := h',toks := tk' }) :
    codeAny (MM (wf w b c)) A (loopC (nthS (wf w b c).params 166 1) (.ref e) (envAt (wf w b c).params 166 L)) R sh := by
  refine fmTurn w b c hA L it e p 8 9 154 8 9 z _ us na sh (mn8 (wf w b c) it e z) D ?_
  intro a t h1 k1 D1
  refine fragQ [(p,lstO us na),(it,titO 159 9),(e,enO .none it 9 (.ref 154))] D1 (List.Perm.refl _) (ma1 w L m tm p a t 154 8 v1 v2 v3 v4 H T b c) AB.hh hA noIns ?_
  intro nn2 tt2 om2 xi2 h2 k2 D2
  cases h0 : Nat.land m 2 == 2 with
  | true =>
    have ec : pickM m ent8 = 119 := pickM_t h0
    rw [ec] at h
    have es : ("w" : Str) = ⟨⟨[119]⟩⟩ := by kernel_rfl
    refine fragQ [(it,titO 159 9),(e,enO .none it 9 (.ref 154))] D2 (List.Perm.refl _) (mb80 w L m tm p na t us v3 v4 H T b c) AB.hh hA (okIL _ fun nn tt om xi => oneIns (iand_ok AB.hh) (oneIns (ieq_ok AB.hh ((beqN _ _).trans h0)) (oneIns (lapp_ok hu) nilIns))) ?_
    intro nn3 tt3 om3 xi3 h3 k3 D3
    rw [es] at D3
    exact h _ _ _ _ _ _ _ h3 k3 (D3.sel [2,3,0,1] (by decide))
  | false =>
    have ec : pickM m ent8 = 45 := (pickM_f h0).trans (rfl)
    rw [ec] at h
    have es : ("-" : Str) = ⟨⟨[45]⟩⟩ := by kernel_rfl
    refine fragQ [(it,titO 159 9),(e,enO .none it 9 (.ref 154))] D2 (List.Perm.refl _) (mb81 w L m tm p na t us v3 v4 H T b c) AB.hh hA (okIL _ fun nn tt om xi => oneIns (iand_ok AB.hh) (oneIns (ieq_ok AB.hh ((beqN _ _).trans h0)) (oneIns (lapp_ok hu) nilIns))) ?_
    intro nn3 tt3 om3 xi3 h3 k3 D3
    rw [es] at D3
    exact h _ _ _ _ _ _ _ h3 k3 (D3.sel [2,3,0,1] (by decide))
theorem fmT9 (L it e p m tm : Nat) (z : Value) (us : List Value) (na : Nat) (sh : Shared) (hu : us.length ≤ 100) (H : Nat → Int) (T : Nat → Nat) (v1 v2 v3 v4 : Value)
    (D : Rp (MyK (wf w b c).params) g A0 sh.heap [(it,titO 159 9),(e,enO .none it 9 z),(L,(mf6 H T m tm p v1 v2 v3 v4)),(p,lstO us na)])
    (h : ∀ (t : Nat) (H' : Nat → Int) (T' : Nat → Nat) (x1 x2 x3 x4 : Value) h' tk',Rp (MyK (wf w b c).params) g A0 h' [(it,titO 159 10),(e,enO .none it 10 (.ref 158)),(L,mf6 H' T' m tm p x1 x2 x3 x4),(p,lstO (us ++ [.str ⟨⟨[pickM m ent9]⟩⟩ t]) (na + 1))] →
      codeAny (MM (wf w b c)) A (loopC (nthS (wf w b c).params 166 1) (.ref e) (envAt (wf w b c).params 166 L)) R { sh with heap := h',toks := tk' }) :
    codeAny (MM (wf w b c)) A (loopC (nthS (wf w b c).params 166 1) (.ref e) (envAt (wf w b c).params 166 L)) R sh := by
  refine fmTurn w b c hA L it e p 9 10 158 9 10 z _ us na sh (mn9 (wf w b c) it e z) D ?_
  intro a t h1 k1 D1
  refine fragQ [(p,lstO us na),(it,titO 159 10),(e,enO .none it 10 (.ref 158))] D1 (List.Perm.refl _) (ma1 w L m tm p a t 158 9 v1 v2 v3 v4 H T b c) AB.hh hA noIns ?_
  intro nn2 tt2 om2 xi2 h2 k2 D2
  cases h0 : Nat.land m 513 == 513 with
  | true =>
    have ec : pickM m ent9 = 116 := pickM_t h0
    rw [ec] at h
    have es : ("t" : Str) = ⟨⟨[116]⟩⟩ := by kernel_rfl
    refine fragQ [(it,titO 159 10),(e,enO .none it 10 (.ref 158))] D2 (List.Perm.refl _) (mb90 w L m tm p na t us v3 v4 H T b c) AB.hh hA (okIL _ fun nn tt om xi => oneIns (iand_ok AB.hh) (oneIns (ieq_ok AB.hh ((beqN _ _).trans h0)) (oneIns (lapp_ok hu) nilIns))) ?_
    intro nn3 tt3 om3 xi3 h3 k3 D3
    rw [es] at D3
    exact h _ _ _ _ _ _ _ h3 k3 (D3.sel [2,3,0,1] (by decide))
  | false =>
    cases h1 : Nat.land m 512 == 512 with
    | true =>
      have ec : pickM m ent9 = 84 := (pickM_f h0).trans (pickM_t h1)
      rw [ec] at h
      have es : ("T" : Str) = ⟨⟨[84]⟩⟩ := by kernel_rfl
      refine fragQ [(it,titO 159 10),(e,enO .none it 10 (.ref 158))] D2 (List.Perm.refl _) (mb91 w L m tm p na t us v3 v4 H T b c) AB.hh hA (okIL _ fun nn tt om xi => oneIns (iand_ok AB.hh) (oneIns (ieq_ok AB.hh ((beqN _ _).trans h0)) (oneIns (iand_ok AB.hh) (oneIns (ieq_ok AB.hh ((beqN _ _).trans h1)) (oneIns (lapp_ok hu) nilIns))))) ?_
      intro nn3 tt3 om3 xi3 h3 k3 D3
      rw [es] at D3
      exact h _ _ _ _ _ _ _ h3 k3 (D3.sel [2,3,0,1] (by decide))
    | false =>
      cases h2 : Nat.land m 1 == 1 with
      | true =>
        have ec : pickM m ent9 = 120 := (pickM_f h0).trans ((pickM_f h1).trans (pickM_t h2))
        rw [ec] at h
        have es : ("x" : Str) = ⟨⟨[120]⟩⟩ := by kernel_rfl
        refine fragQ [(it,titO 159 10),(e,enO .none it 10 (.ref 158))] D2 (List.Perm.refl _) (mb92 w L m tm p na t us v3 v4 H T b c) AB.hh hA (okIL _ fun nn tt om xi => oneIns (iand_ok AB.hh) (oneIns (ieq_ok AB.hh ((beqN _ _).trans h0)) (oneIns (iand_ok AB.hh) (oneIns (ieq_ok AB.hh ((beqN _ _).trans h1)) (oneIns (iand_ok AB.hh) (oneIns (ieq_ok AB.hh ((beqN _ _).trans h2)) (oneIns (lapp_ok hu) nilIns))))))) ?_
        intro nn3 tt3 om3 xi3 h3 k3 D3
        rw [es] at D3
        exact h _ _ _ _ _ _ _ h3 k3 (D3.sel [2,3,0,1] (by decide))
      | false =>
        have ec : pickM m ent9 = 45 := (pickM_f h0).trans ((pickM_f h1).trans ((pickM_f h2).trans (rfl)))
        rw [ec] at h
        have es : ("-" : Str) = ⟨⟨[45]⟩⟩ := by kernel_rfl
        refine fragQ [(it,titO 159 10),(e,enO .none it 10 (.ref 158))] D2 (List.Perm.refl _) (mb93 w L m tm p na t us v3 v4 H T b c) AB.hh hA (okIL _ fun nn tt om xi => oneIns (iand_ok AB.hh) (oneIns (ieq_ok AB.hh ((beqN _ _).trans h0)) (oneIns (iand_ok AB.hh) (oneIns (ieq_ok AB.hh ((beqN _ _).trans h1)) (oneIns (iand_ok AB.hh) (oneIns (ieq_ok AB.hh ((beqN _ _).trans h2)) (oneIns (lapp_ok hu) nilIns))))))) ?_
        intro nn3 tt3 om3 xi3 h3 k3 D3
        rw [es] at D3
        exact h _ _ _ _ _ _ _ h3 k3 (D3.sel [2,3,0,1] (by decide))
end
theorem fn166 (P : Params) : fnOk P 166 := ⟨_,_,_,_,_,rfl,rfl,rfl,rfl,rfl,rfl,rfl⟩
theorem body166 (P : Params) : bodyOf P 166 = [nthS P 166 0,nthS P 166 1,nthS P 166 2] := rfl
noncomputable def fmRow (m : Nat) : List Nat := [pickK (Nat.land m 61440) ent0,pickM m ent1,pickM m ent2,pickM m ent3,pickM m ent4,pickM m ent5,pickM m ent6,pickM m ent7,pickM m ent8,pickM m ent9]
noncomputable def fmI (m tm : Nat) : Inst := ⟨.call (.ref 166) ⟨[.int (Int.ofNat m) tm],[]⟩,[],fun ω _ => .ok (.ret (.str ⟨⟨fmRow m⟩⟩ (ω 0))),fun _ _ => [],fun _ _ => []⟩
theorem fm_ok (w : World) (b c : Bool) (m tm : Nat) : IOk theP (wf w b c) (MyK (wf w b c).params) (AB 790 6000) (fmI m tm) := by
  intro A s R hA hK hn hd ho hlo hR
  have D := Rp.start _ hK hn hd ho hlo
  refine x_call ?_ (by intro z; cases z)
  refine enterFn 166 60 _ [.int (Int.ofNat m) tm] [("mode",.int (Int.ofNat m) tm)] _ (fn166 _) (by kernel_rfl) hA.1 (limit_ok (Nat.le_trans hA.2.1 (by decide))) D (fun nn tt om xi ps => n166 (wf w b c) m tm nn tt om xi ps) ?_
  intro L T h1 k1 D1
  have hA' : AB 839 6900 ((A.mark none).deeper (envAt (wf w b c).params 166 L)) := (AB.deep hA).mono (by decide) (by decide)
  refine ks_codeAny_funcAt (wpAt_of_wpAny ?_)
  rw [body166]
  refine wpAny_execs_cons ?_
  refine fragQ [] D1 (List.Perm.refl _) (m0 (wf w b c) L m tm _ _) AB.hh hA' noIns ?_
  intro nn tt om xi h2 k2 D2
  generalize nn 0 = p at D2
  refine wpAny_execs_cons (forStmt (for166 _) ?_)
  refine fragQ [(p,lstO [] 0)] D2 (List.Perm.refl _) (m1 w L m tm p (fun i => match i with | 0 => hs (wf w b c).params "mode" | _ => hs (wf w b c).params "perm") (fun i => match i with | 0 => T 0 | _ => tt 0) b c) AB.hh hA' noIns ?_
  intro nn3 tt3 om3 xi3 h3 k3 D3
  generalize nn3 0 = it at D3 ⊢
  generalize it + 1 = e at D3 ⊢
  refine fmT0 w b c hA' L it e p m tm .none [] 0 _ (by decide) _ _ (D3.sel [1,2,0,3] (by decide)) ?_
  intro t0 H0 T0 x1 x2 x3 x4 h4 k4 E0
  refine fmT1 w b c hA' L it e p m tm _ _ _ _ (by simp) _ _ _ _ _ _ E0 ?_
  clear E0
  intro t1 H1 T1 y1 y2 y3 y4 h4 k4 E1
  refine fmT2 w b c hA' L it e p m tm _ _ _ _ (by simp) _ _ _ _ _ _ E1 ?_
  clear E1
  intro t2 H2 T2 y1 y2 y3 y4 h4 k4 E2
  refine fmT3 w b c hA' L it e p m tm _ _ _ _ (by simp) _ _ _ _ _ _ E2 ?_
  clear E2
  intro t3 H3 T3 y1 y2 y3 y4 h4 k4 E3
  refine fmT4 w b c hA' L it e p m tm _ _ _ _ (by simp) _ _ _ _ _ _ E3 ?_
  clear E3
  intro t4 H4 T4 y1 y2 y3 y4 h4 k4 E4
  refine fmT5 w b c hA' L it e p m tm _ _ _ _ (by simp) _ _ _ _ _ _ E4 ?_
  clear E4
  intro t5 H5 T5 y1 y2 y3 y4 h4 k4 E5
  refine fmT6 w b c hA' L it e p m tm _ _ _ _ (by simp) _ _ _ _ _ _ E5 ?_
  clear E5
  intro t6 H6 T6 y1 y2 y3 y4 h4 k4 E6
  refine fmT7 w b c hA' L it e p m tm _ _ _ _ (by simp) _ _ _ _ _ _ E6 ?_
  clear E6
  intro t7 H7 T7 y1 y2 y3 y4 h4 k4 E7
  refine fmT8 w b c hA' L it e p m tm _ _ _ _ (by simp) _ _ _ _ _ _ E7 ?_
  clear E7
  intro t8 H8 T8 y1 y2 y3 y4 h4 k4 E8
  refine fmT9 w b c hA' L it e p m tm _ _ _ _ (by simp) _ _ _ _ _ _ E8 ?_
  clear E8
  intro t9 H9 T9 y1 y2 y3 y4 h4 k4 E9
  refine fmEnd w b c hA' L it e p _ _ _ _ _ E9 ?_
  intro h5 k5 D5
  refine wpAny_execs_cons ?_
  refine fragQ [] D5 (List.Perm.refl _) (m2 w L m tm p _ (pickK (Nat.land m 61440) ent0) (pickM m ent1) (pickM m ent2) (pickM m ent3) (pickM m ent4) (pickM m ent5) (pickM m ent6) (pickM m ent7) (pickM m ent8) (pickM m ent9) t0 t1 t2 t3 t4 t5 t6 t7 t8 t9 _ _ _ _ _ _ b c) AB.hh hA' noIns ?_
  intro nn6 tt6 om6 xi6 h6 k6 D6
  exact wpAny_pure (hR (fun _ => tt6 0 + 1) (fun _ => #[]) h6 k6 rfl (Eff.ofApp (l := []) (os := []) (nw := []) D6 rfl))
theorem fragQH {hd : Option Value} {w : World} {C : Around → Prop} {g : Heap} {A0 : List Addr} {α : Type} {t : Sem α} {A : Around} {Q : α → Shared → Prop} {E : Value → Shared → Prop} {s : Shared} {led0 : Led}
    (rest : Led) {n : Nat} {ora : List Nat} {led : Led} {ins : ITree} {js : List Nat} {x : (Nat → Nat) → (Nat → Nat) → (Nat → Nat → Nat) → (Nat → Nat → Slots) → Except Value α} {led' : (Nat → Nat) → (Nat → Nat) → (Nat → Nat → Nat) → (Nat → Nat → Slots) → Led}
    (D : Rp (MyK w.params) g A0 s.heap led0) (hp : (led ++ rest).Perm led0)
    (e : ∀ nn tt om xi ps,Ends (goH hd w n t ora led ins nn tt om xi ps) js (x nn tt om xi) (led' nn tt om xi))
    (hh : ∀ A,C A → A.handled = hd) (hC : C A) (hI : okT theP w (MyK w.params) C ins)
    (h : ∀ nn tt om xi h' tk',Rp (MyK w.params) g A0 h' (led' nn tt om xi ++ rest) → match x nn tt om xi with | .ok a => Q a { s with heap := h',toks := tk' } | .error e => E e { s with heap := h',toks := tk' }) :
    wpAny (MM w) A t Q E s := by
  have D0 := D.perm hp
  exact fragH n ora led ins js x led' e hh hC hI D0.self fun nn tt om xi h' tk' D' => h nn tt om xi h' tk' (D0.glue D')
theorem segIH {hd : Option Value} {w : World} {C : Around → Prop} {I : Inst} {n : Nat} {ora : List Nat} {ins : ITree} {js : List Nat} {x : (Nat → Nat) → (Nat → Nat) → (Nat → Nat → Nat) → (Nat → Nat → Slots) → Except Value Result} {led' : (Nat → Nat) → (Nat → Nat) → (Nat → Nat → Nat) → (Nat → Nat → Slots) → Led}
    (e : ∀ nn tt om xi ps,Ends (goH hd w n (Sem.call I.code none false [] Sem.pure) ora (I.need.map (·.2)) ins nn tt om xi ps) js (x nn tt om xi) (led' nn tt om xi))
    (hh : ∀ A,C A → A.handled = hd) (hI : okT theP w (MyK w.params) C ins)
    (hx : ∀ nn tt om xi,∃ ω ξ,x nn tt om xi = .ok (I.res ω ξ) ∧ led' nn tt om xi = (adrs I.need).zip (I.upd ω ξ) ++ I.new ω ξ ∧ (I.upd ω ξ).length = I.need.length) : IOk theP w (MyK w.params) C I := by
  intro A s R hA hK hn hd' ho hl hR
  refine fragH n ora _ ins js x led' e hh hA hI (Rp.start _ hK hn hd' ho hl) fun nn tt om xi h' tk' D' => ?_
  obtain ⟨ω,ξ,h1,h2,h3⟩ := hx nn tt om xi
  rw [h2] at D'
  rw [h1]
  exact hR ω ξ h' tk' h3 (Eff.ofApp D' h3)
noncomputable abbrev excO (cls : String) (vs : Array Value) : Obj := ⟨.type cls,none,.fields vs,#[]⟩
noncomputable abbrev tbO (ts : Array Value) : Obj := ⟨.type "traceback",none,.fields ts,#[]⟩
theorem Rp.slots3 {K : Frag} {g h h1 : Heap} {A0 : List Addr} {L L4 L1 : Addr} {es es4 es1 : List DictEntry} {n n4 n1 : Nat} {sl sl4 sl1 : Slots} {rest : Led}
    (D : Rp K g A0 h ([(L,frO es n sl),(L4,frO es4 n4 sl4),(L1,frO es1 n1 sl1)] ++ rest)) (x : Heap.SlotsOnly [L,L4,L1] h h1) :
    ∃ a b c,Rp K g A0 h1 ([(L,frO es n a),(L4,frO es4 n4 b),(L1,frO es1 n1 c)] ++ rest) := by
  obtain ⟨a,ea⟩ := x.2.2 L _ (D.has _ (.head _))
  obtain ⟨b,eb⟩ := x.2.2 L4 _ (D.has _ (.tail _ (.head _)))
  obtain ⟨c,ec⟩ := x.2.2 L1 _ (D.has _ (.tail _ (.tail _ (.head _))))
  refine ⟨a,b,c,?_⟩
  have nd := D.nod
  have hmem : ∀ q,q ∈ [L,L4,L1] → ∃ o,(q,o) ∈ ([(L,frO es n sl),(L4,frO es4 n4 sl4),(L1,frO es1 n1 sl1)] ++ rest : Led) := by
    intro q hq
    simp only [List.mem_cons,List.not_mem_nil,or_false] at hq
    rcases hq with rfl | rfl | rfl
    · exact ⟨_,.head _⟩
    · exact ⟨_,.tail _ (.head _)⟩
    · exact ⟨_,.tail _ (.tail _ (.head _))⟩
  have hnd : ∀ p ∈ rest,p.1 ∉ [L,L4,L1] := by
    intro p hp hq
    rw [List.map_append,List.nodup_append] at nd
    exact nd.2.2 p.1 hq p.1 (List.mem_map_of_mem hp) rfl
  refine ⟨fun q o e => (x.2.1 q fun hq => ?_).trans (D.top q o e),?_,?_,?_,?_,?_,fun q o e hq => (x.2.1 q fun hz => ?_).trans (D.keep q o e hq)⟩
  · obtain ⟨o',ho'⟩ := hmem q hq
    rw [D.off _ ho'] at e; cases e
  · intro p hp
    rcases List.mem_append.mp hp with hp | hp
    · simp only [List.mem_cons,List.not_mem_nil,or_false] at hp
      rcases hp with rfl | rfl | rfl
      · exact ea
      · exact eb
      · exact ec
    · exact (x.2.1 _ (hnd p hp)).trans (D.has p (List.mem_append.mpr (.inr hp)))
  · exact nd
  · intro p hp
    rcases List.mem_append.mp hp with hp | hp
    · have : p.1 ∈ [L,L4,L1] := by
        simp only [List.mem_cons,List.not_mem_nil,or_false] at hp ⊢
        rcases hp with rfl | rfl | rfl <;> simp
      obtain ⟨o',ho'⟩ := hmem _ this
      exact D.off (p.1,o') ho'
    · exact D.off p (List.mem_append.mpr (.inr hp))
  · intro p hp
    rcases List.mem_append.mp hp with hp | hp
    · have : p.1 ∈ [L,L4,L1] := by
        simp only [List.mem_cons,List.not_mem_nil,or_false] at hp ⊢
        rcases hp with rfl | rfl | rfl <;> simp
      obtain ⟨o',ho'⟩ := hmem _ this
      exact D.mine (p.1,o') ho'
    · exact D.mine p (List.mem_append.mpr (.inr hp))
  · intro p hp
    rcases List.mem_append.mp hp with hp | hp
    · have : p.1 ∈ [L,L4,L1] := by
        simp only [List.mem_cons,List.not_mem_nil,or_false] at hp ⊢
        rcases hp with rfl | rfl | rfl <;> simp
      obtain ⟨o',ho'⟩ := hmem _ this
      exact D.low (p.1,o') ho'
    · exact D.low p (List.mem_append.mpr (.inr hp))
  · obtain ⟨o',ho'⟩ := hmem q hz
    rcases D.mine _ ho' with y | y
    · exact hq y
    · rw [e] at y; cases y
theorem pmNew {α : Type} (l l4 l1 e t : α) (rest : List α) : (e :: ([l,l4,l1] ++ (t :: rest))).Perm ([l,l4,l1] ++ (e :: rest) ++ [t]) := by
  classical
  refine List.perm_iff_count.mpr fun q => ?_
  simp only [List.count_append,List.count_cons,List.count_nil]
  omega
section
variable {w : World} {A : Around} {g : Heap} {A0 : List Addr} {E : Value → Shared → Prop} {s : Shared}
structure Fr3 (A : Around) (env e4 e1 : Env) (L L4 L1 : Addr) : Prop where
  fr : A.frames = some [env,e4,e1]
  k : env.scope.kind ≠ .module
  k4 : e4.scope.kind ≠ .module
  k1 : e1.scope.kind ≠ .module
  f : env.frame = some L
  f4 : e4.frame = some L4
  f1 : e1.frame = some L1
theorem noteNew {Q : Unit → Shared → Prop} {env e4 e1 : Env} {L L4 L1 e : Addr} (F : Fr3 A env e4 e1 L L4 L1) {es es4 es1 : List DictEntry} {n n4 n1 : Nat} {sl sl4 sl1 : Slots} {cls : String} {vs : Array Value} {rest : Led}
    (h1 : vs[1]? = some .none)
    (D : Rp (MyK w.params) g A0 s.heap ([(L,frO es n sl),(L4,frO es4 n4 sl4),(L1,frO es1 n1 sl1)] ++ ((e,excO cls vs) :: rest)))
    (h : ∀ T ts a b c h',ts[3]? = some (rawInt L) → Rp (MyK w.params) g A0 h' ([(L,frO es n a),(L4,frO es4 n4 b),(L1,frO es1 n1 c)] ++ ((e,excO cls (vs.setIfInBounds 1 (.ref T))) :: (T,tbO ts) :: rest)) → Q () { s with heap := h' }) :
    wpAny (MM w) A (noteFrame (.ref e) env) Q E s := by
  have he : s.heap.get? e = some (excO cls vs) := D.has _ (.tail _ (.tail _ (.tail _ (.head _))))
  have hL : s.heap.get? L = some (frO es n sl) := D.has _ (.head _)
  have hL4 : s.heap.get? L4 = some (frO es4 n4 sl4) := D.has _ (.tail _ (.head _))
  have hL1 : s.heap.get? L1 = some (frO es1 n1 sl1) := D.has _ (.tail _ (.tail _ (.head _)))
  have hsz : 1 < vs.size := (Array.getElem?_eq_some_iff.mp h1).1
  have hb : ∀ a : Addr,(default : Heap).get? a = none := fun a => Heap.get?_none_of_le (Nat.zero_le _)
  have hl : s.heap.FunFrames default [env,e4,e1] :=
    ⟨F.k,⟨L,_,F.f,hb _,hL,fun vs q => by cases q⟩,F.k4,⟨L4,_,F.f4,hb _,hL4,fun vs q => by cases q⟩,F.k1,⟨L1,_,F.f1,hb _,hL1,fun vs q => by cases q⟩,trivial⟩
  unfold noteFrame
  simp only [F.f]
  refine wpAny_bind (wpAny_field he rfl h1 ?_)
  rw [if_neg (by decide)]
  refine wpAny_bind (wpAny_frameOf_fun F.fr hl F.f fun h₁ hs₁ => ?_)
  have hS : [env,e4,e1].filterMap (·.frame) = [L,L4,L1] := by simp [List.filterMap_cons,F.f,F.f4,F.f1]
  rw [hS] at hs₁
  obtain ⟨a,b,c,D1⟩ := D.slots3 hs₁
  refine wpAny_bind (wpAny_entryPlaceOf fun pl hpl => ?_)
  unfold EntryCells.newEntry newFields
  refine wpAny_bind (wpAny_newObj_type ?_ (hpl.sizeOk5 _ _ _ _ _))
  have D2 := (D1.alloc (bigK w) (o := { cls := .type "traceback",dict := none,data := .fields ([Value.none,.ref L,.none,rawInt L,.none] ++ (if pl.isEmpty then List.replicate 6 Value.none else pl)).toArray }) rfl)
  rw [ledAdd_eq] at D2
  have he2 := D2.has (e,excO cls vs) (List.mem_append.mpr (.inl (.tail _ (.tail _ (.tail _ (.head _))))))
  refine wpAny_setField he2 rfl hsz ?_
  have D3 : Rp (MyK w.params) g A0 _ ((e,excO cls vs) :: ([(L,frO es n a),(L4,frO es4 n4 b),(L1,frO es1 n1 c)] ++ ((h₁.objs.size,tbO ([Value.none,.ref L,.none,rawInt L,.none] ++ (if pl.isEmpty then List.replicate 6 Value.none else pl)).toArray) :: rest))) := D2.perm (pmNew _ _ _ _ _ _)
  have D4 := D3.set (Heap.SameBut.update _ e (Obj.mapFields (·.setIfInBounds 1 (Value.ref h₁.objs.size)))) (Heap.get?_update_self _ he2 rfl)
  exact h h₁.objs.size ([Value.none,.ref L,.none,rawInt L,.none] ++ (if pl.isEmpty then List.replicate 6 Value.none else pl)).toArray a b c _ (by simp) (D4.perm (List.perm_middle (l₁ := [(L,frO es n a),(L4,frO es4 n4 b),(L1,frO es1 n1 c)])))
theorem noteAgain {Q : Unit → Shared → Prop} {env : Env} {L e T : Addr} (hf : env.frame = some L) {cls : String} {vs ts : Array Value} (h1 : vs[1]? = some (.ref T)) (h3 : ts[3]? = some (rawInt L))
    (he : s.heap.get? e = some (excO cls vs)) (hT : s.heap.get? T = some (tbO ts)) (h : Q () s) : wpAny (MM w) A (noteFrame (.ref e) env) Q E s :=
  wpAny_noteFrame_inFlight hf he rfl h1 hT rfl h3 h
theorem setFl {Q : Unit → Shared → Prop} {fr : Option Addr} {e T : Addr} {cls : String} {vs ts : Array Value} {rest : Led} (h1 : vs[1]? = some (.ref T)) (h3 : 3 < ts.size)
    (D : Rp (MyK w.params) g A0 s.heap ((T,tbO ts) :: rest)) (he : s.heap.get? e = some (excO cls vs))
    (h : ∀ h',Rp (MyK w.params) g A0 h' ((T,tbO (ts.setIfInBounds 3 (fr.elim .none fun f => rawInt f))) :: rest) → Q () { s with heap := h' }) : wpAny (MM w) A (setFlight (.ref e) fr) Q E s := by
  have hT : s.heap.get? T = some (tbO ts) := D.has _ (.head _)
  unfold setFlight
  refine wpAny_bind (wpAny_field he rfl h1 ?_)
  rw [if_pos (show (Value.ref T != Value.none) = true from by simp)]
  refine wpAny_setField hT rfl h3 (h _ ?_)
  exact D.set (Heap.SameBut.update ..) (Heap.get?_update_self _ hT rfl)
theorem cameBack {env : Env} {L e T : Addr} {cls : String} {vs ts : Array Value} {rest : Led} (hf : env.frame = some L) (h1 : vs[1]? = some (.ref T)) (h3 : 3 < ts.size)
    (D : Rp (MyK w.params) g A0 s.heap ((T,tbO ts) :: rest)) (he : s.heap.get? e = some (excO cls vs))
    (h : ∀ h' ts',ts'[3]? = some (rawInt L) → Rp (MyK w.params) g A0 h' ((T,tbO ts') :: rest) → E (.ref e) { s with heap := h' }) : cameBackBy (MM w) A env E (.ref e) s := by
  unfold cameBackBy
  refine wpAny_bind (wpAny_field he rfl h1 ?_)
  rw [if_neg (show ¬ ((Value.ref T == Value.none) = true) from by simp)]
  refine setFl h1 h3 D he fun h' D' => ?_
  rw [hf] at D'
  exact h h' _ (by simp [h3]) D'
theorem passOnL {α : Type} {Q : α → Shared → Prop} {what : String} {env : Env} {L e T : Addr} {cls : String} {vs ts : Array Value} {rest : Led} (hf : env.frame = some L) (h1 : vs[1]? = some (.ref T)) (h3 : 3 < ts.size)
    (D : Rp (MyK w.params) g A0 s.heap ((T,tbO ts) :: rest)) (he : s.heap.get? e = some (excO cls vs))
    (h : ∀ h' ts',ts'[3]? = some (rawInt L) → Rp (MyK w.params) g A0 h' ((T,tbO ts') :: rest) → E (.ref e) { s with heap := h' }) : wpAny (MM w) A (PySem.passOn what (.ref e) env : Sem α) Q E s := by
  unfold PySem.passOn
  refine wpAny_bind (wpAny_field he rfl h1 ?_)
  rw [if_neg (show ¬ ((Value.ref T == Value.none) = true) from by simp)]
  refine wpAny_bind (setFl h1 h3 D he fun h' D' => ?_)
  rw [hf] at D'
  exact wpAny_throw (h h' _ (by simp [h3]) D')
end
section
variable {M : Model} {A : Around} {E : Value → Shared → Prop} {s : Shared}
theorem newExcX {cls : String} {args : List Value} {Q : Value → Shared → Prop} (hp : PlainExc cls)
    (h : Q (.ref (s.heap.objs.size + 1)) { s with heap := (s.heap.push (tupO args)).push (excO cls #[.ref s.heap.objs.size,.none,.none,.none,.bool false,.none]) }) (hargs : args.length ≤ 100) : wpAny M A (newExc (.type cls) args) Q E s := by
  unfold newExc newTuple
  refine wpAny_bind (wpAny_newObj_type ?_ (by show args.toArray.size ≤ sizeLine; rw [List.size_toArray,sizeLine_eq]; omega))
  refine wpAny_bind (m := firstArgMember _ _) (wpAny_of_eq (a := Value.none) (by simp only [firstArgMember,hp.first]; rfl) ?_)
  rw [hp.own]
  refine wpAny_newObj_type ?_
  rw [Heap.size_push]
  exact h
theorem raiseN {α : Type} {cls msg : String} {Q : α → Shared → Prop} (hp : PlainExc cls) (hh : A.handled = none)
    (h : E (.ref (s.heap.objs.size + 1)) { s with heap := (s.heap.push (tupO [.str msg s.toks])).push (excO cls #[.ref s.heap.objs.size,.none,.none,.none,.bool false,.none]),toks := s.toks + 1 }) : wpAny M A (raiseErrorWords cls msg : Sem α) Q E s := by
  unfold raiseErrorWords
  refine wpAny_bind (wpAny_mkText (wpAny_bind (newExcX hp (wpAny_raiseNew_none hh h) (by show 1 ≤ 100; decide))))
end
theorem entry_unchain : entryFor table "proto.unchain" = some Builtin.«proto.unchain» := entryFor_of_fast (by kernel_rfl)
section
variable {w : World} {A : Around} {E : Value → Shared → Prop} {s : Shared}
theorem raiseH {α : Type} {cls msg c1 : String} {vs1 : Array Value} {e1 : Addr} {Q : α → Shared → Prop} (hp : PlainExc cls) (hh : A.handled = some (.ref e1)) (h1 : s.heap.get? e1 = some (excO c1 vs1)) (h2 : vs1[2]? = some .none)
    (h : E (.ref (s.heap.objs.size + 1)) { s with heap := ((s.heap.push (tupO [.str msg s.toks])).push (excO cls #[.ref s.heap.objs.size,.none,.none,.none,.bool false,.none])).update (s.heap.objs.size + 1) (Obj.mapFields (·.setIfInBounds 2 (.ref e1))),toks := s.toks + 1 }) : wpAny (MM w) A (raiseErrorWords cls msg : Sem α) Q E s := by
  have hlt : e1 < s.heap.objs.size := Heap.lt_size h1
  unfold raiseErrorWords
  refine wpAny_bind (wpAny_mkText (wpAny_bind (newExcX hp ?_ (by show 1 ≤ 100; decide))))
  unfold raiseNew
  refine wpAny_bind (wpAny_handled ?_)
  rw [hh]
  show wpAny (MM w) A (if (Value.ref e1 != Value.ref (s.heap.objs.size + 1)) = true then _ else _) _ _ _
  have hne : Value.ref e1 ≠ Value.ref (s.heap.objs.size + 1) := fun z => by
    injection z with z
    exact absurd hlt (by rw [z]; exact Nat.not_lt.mpr (Nat.le_succ _))
  rw [if_pos (bne_iff_ne.mpr hne)]
  have he1 : ((s.heap.push (tupO [.str msg s.toks])).push (excO cls #[.ref s.heap.objs.size,.none,.none,.none,.bool false,.none])).get? e1 = some (excO c1 vs1) := Heap.get?_push_of_some _ (Heap.get?_push_of_some _ h1)
  have hex : ((s.heap.push (tupO [.str msg s.toks])).push (excO cls #[.ref s.heap.objs.size,.none,.none,.none,.bool false,.none])).get? (s.heap.objs.size + 1) = some (excO cls #[.ref s.heap.objs.size,.none,.none,.none,.bool false,.none]) := by
    have := Heap.get?_push_size (s.heap.push (tupO [.str msg s.toks])) (o := excO cls #[.ref s.heap.objs.size,.none,.none,.none,.bool false,.none]) rfl
    rw [Heap.size_push] at this
    exact this
  refine wpAny_bind (wpAny_holding (wpAny_runValue (codeAny_builtin entry_unchain ?_)))
  show wpAny _ _ (field (.ref e1) 2 >>= _) _ _ _
  refine wpAny_bind (wpAny_field he1 rfl h2 ?_)
  rw [if_pos (by rfl)]
  refine wpAny_bind (wpAny_pure (wpAny_pure ?_))
  unfold updateField
  refine wpAny_bind (wpAny_bind (wpAny_load hex ?_))
  show wpAny _ _ (if 2 < _ then _ else _) _ _ _
  rw [if_pos (by show 2 < 6; decide)]
  exact wpAny_update hex (wpAny_throw h)
theorem lgetOut {l t : Nat} {k : Int} {vs : List Value} {n : Nat} {Q : Value → Shared → Prop} (h0 : s.heap.get? l = some (lstO vs n)) (hk : 0 ≤ k) (hfit : k < 2 ^ 63) (hi : vs.length ≤ k.toNat)
    (h : wpAny (MM w) A.in1 (raiseErrorWords "IndexError" "list index out of range" : Sem Unit) (fun _ _ => False) E s) : wpAny (MM w) A (call (.builtin "list.__getitem__") [.ref l,.int k t]) Q E s := by
  refine wpAny_call_entry slot_list_getitem ⟨_,h0,rfl⟩ entry_list_getitem ?_ (args_list_getitem _ _)
  show wpAny _ _ (Builtin.List.listSubscript? (.int k t) >>= _) _ _ s
  refine wpAny_bind (wpAny_listSubscript_int (fitsIndex_of hk hfit) ?_)
  clear hfit
  obtain ⟨j,rfl⟩ := Int.eq_ofNat_of_zero_le hk
  show wpAny _ _ ((seqItemAt l j >>= fun r => pure (r.map (j,·))) >>= _) _ _ s
  refine wpAny_bind (wpAny_bind (wpAny_seqItemAt h0 rfl (wpAny_pure ?_)))
  have hi' : vs.length ≤ j := hi
  have hn : (vs.toArray)[j]? = none := by simp [hi']
  rw [hn]
  exact wpAny_bind (wpAny_rule (wpAny_bind (wpAny_mono h (fun _ _ q => q.elim) fun _ _ q => q)))
theorem lgetIn {l t : Nat} {k : Int} {vs : List Value} {n : Nat} {x : Value} {Q : Value → Shared → Prop} (h0 : s.heap.get? l = some (lstO vs n)) (hk : 0 ≤ k) (hfit : k < 2 ^ 63) (hx : vs[k.toNat]? = some x) (h : Q x s) : wpAny (MM w) A (call (.builtin "list.__getitem__") [.ref l,.int k t]) Q E s := by
  refine wpAny_call_entry slot_list_getitem ⟨_,h0,rfl⟩ entry_list_getitem ?_ (args_list_getitem _ _)
  show wpAny _ _ (Builtin.List.listSubscript? (.int k t) >>= _) _ _ s
  refine wpAny_bind (wpAny_listSubscript_int (fitsIndex_of hk hfit) ?_)
  clear hfit
  obtain ⟨j,rfl⟩ := Int.eq_ofNat_of_zero_le hk
  show wpAny _ _ ((seqItemAt l j >>= fun r => pure (r.map (j,·))) >>= _) _ _ s
  refine wpAny_bind (wpAny_bind (wpAny_seqItemAt h0 rfl (wpAny_pure ?_)))
  have hx' : (vs.toArray)[j]? = some x := by rw [List.getElem?_toArray]; exact hx
  rw [hx']
  first
    | exact wpAny_bind (wpAny_pure (wpAny_pure ⟨x,rfl,h⟩))
    | exact wpAny_pure ⟨x,rfl,h⟩
end
noncomputable abbrev iMsg : String := "list index out of range"
noncomputable def lgetI (jl l : Nat) (vs : List Value) (n i t : Nat) (x : Value) : Inst := ⟨.call (.builtin "list.__getitem__") ⟨[.ref l,.int (Int.ofNat i) t],[]⟩,[(jl,l,lstO vs n)],fun ω _ => .ok (.ret x),fun _ _ => [lstO vs n],fun _ _ => []⟩
theorem fit100 {i : Nat} (h : i ≤ 100) : (Int.ofNat i : Int) < 2 ^ 63 := by
  show (i : Int) < 2 ^ 63
  omega
theorem lget_ok {w : World} {C : Around → Prop} {jl l : Nat} {vs : List Value} {n i t : Nat} {x : Value} (hx : vs[i]? = some x) (hi : i ≤ 100) : IOk theP w (MyK w.params) C (lgetI jl l vs n i t x) := by
  intro A s R hA hK hn hd ho hlo hR
  have h0 : s.heap.get? l = some (lstO vs n) := hn _ (.head _)
  refine callI_of (lgetIn h0 (Int.natCast_nonneg i) (fit100 hi) hx ?_)
  refine hR (fun _ => 0) (fun _ => #[]) s.heap s.toks rfl ⟨fun p hp => ?_,fun p hp => (nomatch hp),List.nodup_nil,fun b o hb _ => hb⟩
  rw [List.mem_singleton.mp hp]; exact h0
noncomputable def lerrI (jl l : Nat) (vs : List Value) (n i t : Nat) : Inst := ⟨.call (.builtin "list.__getitem__") ⟨[.ref l,.int (Int.ofNat i) t],[]⟩,[(jl,l,lstO vs n)],fun ω _ => .error (.ref (ω 1)),fun _ _ => [lstO vs n],
  fun ω _ => [(ω 0,tupO [.str iMsg (ω 2)]),(ω 1,excO "IndexError" #[.ref (ω 0),.none,.none,.none,.bool false,.none])]⟩
theorem Eff.two {g : Heap} {up : Led} {o1 o2 : Obj} (hup : ∀ p ∈ up,g.get? p.1 = some p.2) (h1 : o1.isFreed = false) (h2 : o2.isFreed = false) (hb : 219 ≤ g.objs.size) : Eff g ((g.push o1).push o2) up [(g.objs.size,o1),(g.objs.size + 1,o2)] := by
  refine ⟨fun p hp => Heap.get?_push_of_some _ (Heap.get?_push_of_some _ (hup p hp)),fun p hp => ?_,?_,fun b o hb _ => Heap.get?_push_of_some _ (Heap.get?_push_of_some _ hb)⟩
  · simp only [List.mem_cons,List.not_mem_nil,or_false] at hp
    rcases hp with rfl | rfl
    · exact ⟨Heap.get?_push_of_some _ (Heap.get?_push_size _ h1),Heap.get?_none_of_le (Nat.le_refl _),hb⟩
    · refine ⟨?_,Heap.get?_none_of_le (Nat.le_succ _),Nat.le_succ_of_le hb⟩
      have := Heap.get?_push_size (g.push o1) (o := o2) h2
      rw [Heap.size_push] at this
      exact this
  · simp
theorem lerr_ok {w : World} {C : Around → Prop} (hh : ∀ A,C A → A.handled = none) {jl l : Nat} {vs : List Value} {n i t : Nat} (hx : vs.length ≤ i) (hi : i ≤ 100) : IOk theP w (MyK w.params) C (lerrI jl l vs n i t) := by
  intro A s R hA hK hn hd ho hlo hR
  have h0 : s.heap.get? l = some (lstO vs n) := hn _ (.head _)
  refine callI_of (lgetOut h0 (Int.natCast_nonneg i) (fit100 hi) hx ?_)
  refine raiseN plainExc_IndexError (hh A hA) ?_
  exact hR (fun i => match i with | 0 => s.heap.objs.size | 1 => s.heap.objs.size + 1 | _ => s.toks) (fun _ => #[]) _ (s.toks + 1) rfl (Eff.two (fun p hp => by rw [List.mem_singleton.mp hp]; exact h0) rfl rfl (bigK w _ hK))
noncomputable def lerrHI (jl je l e1 : Nat) (vs : List Value) (n i t : Nat) (c1 : String) (vs1 : Array Value) : Inst := ⟨.call (.builtin "list.__getitem__") ⟨[.ref l,.int (Int.ofNat i) t],[]⟩,[(jl,l,lstO vs n),(je,e1,excO c1 vs1)],fun ω _ => .error (.ref (ω 1)),fun _ _ => [lstO vs n,excO c1 vs1],
  fun ω _ => [(ω 0,tupO [.str iMsg (ω 2)]),(ω 1,excO "IndexError" #[.ref (ω 0),.none,.ref e1,.none,.bool false,.none])]⟩
theorem lerrH_ok {w : World} {C : Around → Prop} {jl je l e1 : Nat} (hh : ∀ A,C A → A.handled = some (.ref e1)) {vs : List Value} {n i t : Nat} {c1 : String} {vs1 : Array Value} (h2 : vs1[2]? = some .none) (hx : vs.length ≤ i) (hi : i ≤ 100) : IOk theP w (MyK w.params) C (lerrHI jl je l e1 vs n i t c1 vs1) := by
  intro A s R hA hK hn hd ho hlo hR
  have h0 : s.heap.get? l = some (lstO vs n) := hn _ (.head _)
  have h1 : s.heap.get? e1 = some (excO c1 vs1) := hn _ (.tail _ (.head _))
  have hb := bigK w _ hK
  refine callI_of (lgetOut h0 (Int.natCast_nonneg i) (fit100 hi) hx ?_)
  refine raiseH plainExc_IndexError (hh A hA) h1 h2 ?_
  have F : Eff s.heap _ [(l,lstO vs n),(e1,excO c1 vs1)] _ := Eff.two (o1 := tupO [.str iMsg s.toks]) (o2 := excO "IndexError" #[.ref s.heap.objs.size,.none,.none,.none,.bool false,.none]) (fun p hp => by
    rcases List.mem_cons.mp hp with e | hp
    · rw [e]; exact h0
    · rw [List.mem_singleton.mp hp]; exact h1) rfl rfl hb
  have hne : ∀ b o,s.heap.get? b = some o → b ≠ s.heap.objs.size + 1 := fun b o hb e => by
    have := Heap.lt_size hb
    rw [e] at this
    exact absurd this (Nat.not_lt.mpr (Nat.le_succ _))
  refine hR (fun i => match i with | 0 => s.heap.objs.size | 1 => s.heap.objs.size + 1 | _ => s.toks) (fun _ => #[]) _ (s.toks + 1) rfl ⟨fun p hp => ?_,fun p hp => ?_,?_,fun b o hb hz => ?_⟩
  · rcases List.mem_cons.mp hp with e | hp
    · rw [e,Heap.get?_update_other _ _ (Ne.symm (hne _ _ h0))]; exact F.fup _ (.head _)
    · rw [List.mem_singleton.mp hp,Heap.get?_update_other _ _ (Ne.symm (hne _ _ h1))]; exact F.fup _ (.tail _ (.head _))
  · rcases List.mem_cons.mp hp with e | hp
    · rw [e]
      refine ⟨?_,(F.fnw _ (.head _)).2⟩
      show (Heap.update _ _ _).get? s.heap.objs.size = _
      rw [Heap.get?_update_other _ _ (show s.heap.objs.size + 1 ≠ s.heap.objs.size from Nat.succ_ne_self _)]
      exact (F.fnw _ (.head _)).1
    · rw [List.mem_singleton.mp hp]
      refine ⟨?_,(F.fnw _ (.tail _ (.head _))).2⟩
      exact Heap.get?_update_self _ (F.fnw _ (.tail _ (.head _))).1 rfl
  · exact F.nd
  · rw [Heap.get?_update_other _ _ (Ne.symm (hne _ _ hb))]
    exact F.keep b o hb hz
noncomputable def lextI (jd jb d e : Nat) (vs : List Value) (n : Nat) (us : List Value) (m : Nat) : Inst := ⟨.call (.builtin "list.extend") ⟨[.ref d,.ref e],[]⟩,[(jd,d,lstO vs n),(jb,e,lstO us m)],fun ω _ => .ok (.ret .none),fun ω _ => [lstO (vs ++ us) (ω 0),lstO us m],fun _ _ => []⟩
theorem lext_ok {w : World} {C : Around → Prop} {jd jb d e : Nat} {vs us : List Value} {n m : Nat} (hl : vs.length + us.length ≤ 1000) : IOk theP w (MyK w.params) C (lextI jd jb d e vs n us m) := by
  intro A s R hA hK hn hd ho hlo hR
  have h0 : s.heap.get? d = some (lstO vs n) := hn _ (.head _)
  have h1 : s.heap.get? e = some (lstO us m) := hn _ (.tail _ (.head _))
  have hne : e ≠ d := by
    have := (List.nodup_cons.mp hd).1
    exact fun z => this (by rw [← z]; exact .head _)
  have hsz : vs.toArray.size + us.toArray.size ≤ sizeLine := by rw [List.size_toArray,List.size_toArray,sizeLine_eq]; omega
  refine callI_of (call_meets PySem.F.slot_list_extend ⟨_,h0,rfl⟩ PySem.F.entry_list_extend (PySem.F.args_list_extend_2 _ _) (AutoSeq1.list_extend_list_list_0 d vs.toArray n e us.toArray m (extend_door hsz) (Nat.le_trans (Nat.le_add_right _ _) hsz) (Nat.le_succ_of_le hsz)) ⟨h0,h1,?_⟩)
  have e1 : vs.toArray ++ us.toArray = (vs ++ us).toArray := by simp
  have ho' : (s.heap.update d (Obj.mapSeq fun x => x ++ us.toArray)).get? d = some (lstO (vs ++ us) (if (vs.toArray ++ us.toArray).size == vs.toArray.size then n else n + 1)) := by
    rw [Heap.get?_update_self _ h0 (by rw [mapSeq_app]; rfl),mapSeq_app,e1]
  refine hR (fun _ => if (vs.toArray ++ us.toArray).size == vs.toArray.size then n else n + 1) (fun _ => #[]) _ s.toks rfl ⟨fun p hp => ?_,fun p hp => (nomatch hp),List.nodup_nil,fun b o hb hz => ?_⟩
  · rcases List.mem_cons.mp hp with z | hp
    · rw [z]; exact ho'
    · rw [List.mem_singleton.mp hp]
      exact (Heap.get?_update_other _ _ (Ne.symm hne)).trans h1
  · have : b ≠ d := fun z => hz (by rw [z]; exact .head _)
    exact (Heap.get?_update_other _ _ (Ne.symm this)).trans hb
noncomputable def sTry (P : Params) : Stmt := match nthS P 28 3 with | .While _ [t] _ _ => t | _ => .Pass ⟨0,0,0,0⟩
noncomputable def sTB (P : Params) : List Stmt := match sTry P with | .Try b _ _ _ _ => b | _ => []
noncomputable def sIf (P : Params) : Stmt := (sTB P).getD 2 (.Pass ⟨0,0,0,0⟩)
noncomputable def sA (P : Params) (k : Nat) : Stmt := match sIf P with | .If _ b _ _ => b.getD k (.Pass ⟨0,0,0,0⟩) | _ => .Pass ⟨0,0,0,0⟩
noncomputable def sIf2 (P : Params) : Stmt := match sIf P with | .If _ _ [s] _ => s | _ => .Pass ⟨0,0,0,0⟩
noncomputable def sB (P : Params) (k : Nat) : Stmt := match sIf2 P with | .If _ b _ _ => b.getD k (.Pass ⟨0,0,0,0⟩) | _ => .Pass ⟨0,0,0,0⟩
noncomputable def sC (P : Params) (k : Nat) : Stmt := match sIf2 P with | .If _ _ o _ => o.getD k (.Pass ⟨0,0,0,0⟩) | _ => .Pass ⟨0,0,0,0⟩
noncomputable def sC1 (P : Params) : Stmt := match sC P 1 with | .Try [s] _ _ _ _ => s | _ => .Pass ⟨0,0,0,0⟩
noncomputable def sFn (P : Params) (k : Nat) : Stmt := match sC P 1 with | .Try _ _ _ f _ => f.getD k (.Pass ⟨0,0,0,0⟩) | _ => .Pass ⟨0,0,0,0⟩
noncomputable def sHn (P : Params) (k : Nat) : Stmt := match sTry P with | .Try _ [.ExceptHandler _ _ b _] _ _ _ => b.getD k (.Pass ⟨0,0,0,0⟩) | _ => .Pass ⟨0,0,0,0⟩
noncomputable def sHT (P : Params) : Expr := match sTry P with | .Try _ [.ExceptHandler (some t) _ _ _] _ _ _ => t | _ => .Name "x" ⟨0,0,0,0⟩
noncomputable def whC (st : Stmt) (env : Env) : Code := match st with | .While t b o _ => .whileLoop t b o env | _ => .call .none ⟨[],[]⟩
noncomputable def tstT (st : Stmt) (env : Env) : Sem Bool := match st with | .While t _ _ _ => isTrue t env (eval t env) | .If t _ _ _ => isTrue t env (eval t env) | _ => pure true
noncomputable abbrev sf2 (H : Nat → Int) (T : Nat → Nat) (le la : Nat) (es : List DictEntry) (n : Nat) (sl : Slots) : Obj := frO (fe H T 0 "expected" (.ref le) :: fe H T 1 "actual" (.ref la) :: es) n sl
noncomputable abbrev sf6 (H : Nat → Int) (T : Nat → Nat) (le la lm lu i ti j tj : Nat) (sl : Slots) : Obj := sf2 H T le la [fe H T 2 "i" (.int (Int.ofNat i) ti),fe H T 3 "j" (.int (Int.ofNat j) tj),fe H T 4 "missing" (.ref lm),fe H T 5 "unexpected" (.ref lu)] 6 sl
noncomputable abbrev sf7 (H : Nat → Int) (T : Nat → Nat) (le la lm lu i ti j tj : Nat) (ve : Value) (sl : Slots) : Obj := sf2 H T le la [fe H T 2 "i" (.int (Int.ofNat i) ti),fe H T 3 "j" (.int (Int.ofNat j) tj),fe H T 4 "missing" (.ref lm),fe H T 5 "unexpected" (.ref lu),fe H T 6 "e" ve] 7 sl
noncomputable abbrev sf8 (H : Nat → Int) (T : Nat → Nat) (le la lm lu i ti j tj : Nat) (ve va : Value) (sl : Slots) : Obj := sf2 H T le la [fe H T 2 "i" (.int (Int.ofNat i) ti),fe H T 3 "j" (.int (Int.ofNat j) tj),fe H T 4 "missing" (.ref lm),fe H T 5 "unexpected" (.ref lu),fe H T 6 "e" ve,fe H T 7 "a" va] 8 sl
theorem n28 (w:World) (le la:Nat) (nn tt om xi ps):Ends (go w 60 (nfe w.params 28 [("expected",.ref le),("actual",.ref la)]) [1,1,1,1] ([]) .nil nn tt om xi ps) ([0]) (.ok (envAt w.params 28 (nn 0))) ([(nn 0,sf2 (fun i=>match i with | 0=>hs w.params "expected" | _=>hs w.params "actual") (fun i=>match i with | 0=>tt 0 | _=>tt 0+1) le la [] 2 #[])]) := by trivial
theorem z0 (w:World) (L le la lm lu i ti j tj:Nat) (sl:Slots) (H:NI) (T:NN) (nn tt om xi ps):Ends (go w 60 (exec (nthS w.params 28 0) (envAt w.params 28 L)) [1,1,1,1] ([(L,sf2 H T le la [] 2 sl)]) .nil nn tt om xi ps) ([0]) (.ok .next) ([(L,sf2 H T le la [en (hs w.params "i") "i" (tt 0+1) (.int (Int.ofNat 0) (tt 0)),en (hs w.params "j") "j" (tt 0+2) (.int (Int.ofNat 0) (tt 0))] 4 sl)]) := by trivial
theorem z1 (w:World) (L le la lm lu i ti j tj:Nat) (sl:Slots) (H:NI) (T:NN) (nn tt om xi ps):Ends (go w 60 (exec (nthS w.params 28 1) (envAt w.params 28 L)) [1,1] ([(L,sf2 H T le la [fe H T 2 "i" (.int (Int.ofNat i) ti),fe H T 3 "j" (.int (Int.ofNat j) tj)] 4 sl)]) .nil nn tt om xi ps) ([0,1]) (.ok .next) ([(L,sf2 H T le la [fe H T 2 "i" (.int (Int.ofNat i) ti),fe H T 3 "j" (.int (Int.ofNat j) tj),en (hs w.params "missing") "missing" (tt 0) (.ref (nn 0))] 5 sl),(nn 0,lstO [] 0)]) := by trivial
theorem z2 (w:World) (L le la lm lu i ti j tj:Nat) (sl:Slots) (H:NI) (T:NN) (nn tt om xi ps):Ends (go w 60 (exec (nthS w.params 28 2) (envAt w.params 28 L)) [1,1] ([(L,sf2 H T le la [fe H T 2 "i" (.int (Int.ofNat i) ti),fe H T 3 "j" (.int (Int.ofNat j) tj),fe H T 4 "missing" (.ref lm)] 5 sl)]) .nil nn tt om xi ps) ([0,1]) (.ok .next) ([(L,sf2 H T le la [fe H T 2 "i" (.int (Int.ofNat i) ti),fe H T 3 "j" (.int (Int.ofNat j) tj),fe H T 4 "missing" (.ref lm),en (hs w.params "unexpected") "unexpected" (tt 0) (.ref (nn 0))] 6 sl),(nn 0,lstO [] 0)]) := by trivial
theorem wt (w:World) (L le la lm lu i ti j tj:Nat) (sl:Slots) (H:NI) (T:NN) (nn tt om xi ps):Ends (go w 60 (tstT (nthS w.params 28 3) (envAt w.params 28 L)) [] ([]) .nil nn tt om xi ps) ([]) (.ok true) ([]) := by trivial
theorem s1a (w:World) (L le la lm lu i ti j tj n:Nat) (vs:List Value) (x:Int) (tx:Nat) (ve va:Value) (sl:Slots) (H:NI) (T:NN) (b c:Bool) (nn tt om xi ps):Ends (go (wf w b c) 200 (exec ((sTB (wf w b c).params).getD 0 (.Pass ⟨0,0,0,0⟩)) (envAt (wf w b c).params 28 L)) [1,1,2,2,2,1,1,1] ([(L,sf6 H T le la lm lu i ti j tj sl),(le,lstO vs n)]) (IL fun nn tt om xi=>[lgetI 1 le vs n i ti (.int x tx)]) nn tt om xi ps) ([0,1]) (.ok .next) ([(L,sf2 H T le la [fe H T 2 "i" (.int (Int.ofNat i) ti),fe H T 3 "j" (.int (Int.ofNat j) tj),fe H T 4 "missing" (.ref lm),fe H T 5 "unexpected" (.ref lu),en (hs (wf w b c).params "e") "e" (tt 1) (.int x tx)] 7 sl),(le,lstO vs n)]) := by cases b <;> trivial
theorem s1b (w:World) (L le la lm lu i ti j tj n:Nat) (vs:List Value) (x:Int) (tx:Nat) (ve va:Value) (sl:Slots) (H:NI) (T:NN) (b c:Bool) (nn tt om xi ps):Ends (go (wf w b c) 200 (exec ((sTB (wf w b c).params).getD 0 (.Pass ⟨0,0,0,0⟩)) (envAt (wf w b c).params 28 L)) [1,1,2,2,2,1,1,1] ([(L,sf8 H T le la lm lu i ti j tj ve va sl),(le,lstO vs n)]) (IL fun nn tt om xi=>[lgetI 1 le vs n i ti (.int x tx)]) nn tt om xi ps) ([0,1]) (.ok .next) ([(L,sf8 H T le la lm lu i ti j tj (.int x tx) va sl),(le,lstO vs n)]) := by cases b <;> trivial
theorem s1e (w:World) (L le la lm lu i ti j tj n:Nat) (vs:List Value) (x:Int) (tx:Nat) (ve va:Value) (sl:Slots) (H:NI) (T:NN) (b c:Bool) (nn tt om xi ps):Ends (go (wf w b c) 200 (exec ((sTB (wf w b c).params).getD 0 (.Pass ⟨0,0,0,0⟩)) (envAt (wf w b c).params 28 L)) [1,1,2,2,2,1] ([(L,sf8 H T le la lm lu i ti j tj ve va sl),(le,lstO vs n)]) (IL fun nn tt om xi=>[lerrI 1 le vs n i ti]) nn tt om xi ps) ([0,1,3]) (.error (.ref (om 0 1))) ([(L,sf8 H T le la lm lu i ti j tj ve va sl),(le,lstO vs n),(om 0 1,excO "IndexError" #[.ref (om 0 0),.none,.none,.none,.bool false,.none])]) := by cases b <;> trivial
theorem s2a (w:World) (L le la lm lu i ti j tj n:Nat) (vs:List Value) (x:Int) (tx:Nat) (ve va:Value) (sl:Slots) (H:NI) (T:NN) (b c:Bool) (nn tt om xi ps):Ends (go (wf w b c) 200 (exec ((sTB (wf w b c).params).getD 1 (.Pass ⟨0,0,0,0⟩)) (envAt (wf w b c).params 28 L)) [1,1,2,2,2,1,1,1] ([(L,sf7 H T le la lm lu i ti j tj ve sl),(la,lstO vs n)]) (IL fun nn tt om xi=>[lgetI 1 la vs n j tj (.int x tx)]) nn tt om xi ps) ([0,1]) (.ok .next) ([(L,sf2 H T le la [fe H T 2 "i" (.int (Int.ofNat i) ti),fe H T 3 "j" (.int (Int.ofNat j) tj),fe H T 4 "missing" (.ref lm),fe H T 5 "unexpected" (.ref lu),fe H T 6 "e" ve,en (hs (wf w b c).params "a") "a" (tt 1) (.int x tx)] 8 sl),(la,lstO vs n)]) := by cases b <;> trivial
theorem s2b (w:World) (L le la lm lu i ti j tj n:Nat) (vs:List Value) (x:Int) (tx:Nat) (ve va:Value) (sl:Slots) (H:NI) (T:NN) (b c:Bool) (nn tt om xi ps):Ends (go (wf w b c) 200 (exec ((sTB (wf w b c).params).getD 1 (.Pass ⟨0,0,0,0⟩)) (envAt (wf w b c).params 28 L)) [1,1,2,2,2,1,1,1] ([(L,sf8 H T le la lm lu i ti j tj ve va sl),(la,lstO vs n)]) (IL fun nn tt om xi=>[lgetI 1 la vs n j tj (.int x tx)]) nn tt om xi ps) ([0,1]) (.ok .next) ([(L,sf8 H T le la lm lu i ti j tj ve (.int x tx) sl),(la,lstO vs n)]) := by cases b <;> trivial
theorem s2e (w:World) (L le la lm lu i ti j tj n:Nat) (vs:List Value) (x:Int) (tx:Nat) (ve va:Value) (sl:Slots) (H:NI) (T:NN) (b c:Bool) (nn tt om xi ps):Ends (go (wf w b c) 200 (exec ((sTB (wf w b c).params).getD 1 (.Pass ⟨0,0,0,0⟩)) (envAt (wf w b c).params 28 L)) [1,1,2,2,2,1] ([(L,sf8 H T le la lm lu i ti j tj ve va sl),(la,lstO vs n)]) (IL fun nn tt om xi=>[lerrI 1 la vs n j tj]) nn tt om xi ps) ([0,1,3]) (.error (.ref (om 0 1))) ([(L,sf8 H T le la lm lu i ti j tj ve va sl),(la,lstO vs n),(om 0 1,excO "IndexError" #[.ref (om 0 0),.none,.none,.none,.bool false,.none])]) := by cases b <;> trivial
theorem st1 (w:World) (L le la lm lu i ti j tj n:Nat) (vs:List Value) (x y:Int) (tx ty:Nat) (r:Bool) (sl:Slots) (H:NI) (T:NN) (b c:Bool) (nn tt om xi ps):Ends (go (wf w b c) 200 (tstT (sIf (wf w b c).params) (envAt (wf w b c).params 28 L)) [1,1,1] ([(L,sf8 H T le la lm lu i ti j tj (.int x tx) (.int y ty) sl)]) (IL fun nn tt om xi=>[bI "int.__lt__" [.int x tx,.int y ty] (boolR r)]) nn tt om xi ps) ([0]) (.ok r) ([(L,sf8 H T le la lm lu i ti j tj (.int x tx) (.int y ty) sl)]) := by cases b <;> trivial
theorem st2 (w:World) (L le la lm lu i ti j tj n:Nat) (vs:List Value) (x y:Int) (tx ty:Nat) (r:Bool) (sl:Slots) (H:NI) (T:NN) (b c:Bool) (nn tt om xi ps):Ends (go (wf w b c) 200 (tstT (sIf2 (wf w b c).params) (envAt (wf w b c).params 28 L)) [1,1,1] ([(L,sf8 H T le la lm lu i ti j tj (.int x tx) (.int y ty) sl)]) (IL fun nn tt om xi=>[bI "int.__gt__" [.int x tx,.int y ty] (boolR r)]) nn tt om xi ps) ([0]) (.ok r) ([(L,sf8 H T le la lm lu i ti j tj (.int x tx) (.int y ty) sl)]) := by cases b <;> trivial
theorem sa0 (w:World) (L le la lm lu i ti j tj n:Nat) (vs:List Value) (x y:Int) (tx ty:Nat) (r:Bool) (sl:Slots) (H:NI) (T:NN) (b c:Bool) (nn tt om xi ps):Ends (go (wf w b c) 200 (exec (sA (wf w b c).params 0) (envAt (wf w b c).params 28 L)) [1,2,2,2,2,1,1] ([(L,sf8 H T le la lm lu i ti j tj (.int x tx) (.int y ty) sl),(lm,lstO vs n)]) (IL fun nn tt om xi=>[lappI 1 lm vs n (.int x tx)]) nn tt om xi ps) ([0,1]) (.ok .next) ([(L,sf8 H T le la lm lu i ti j tj (.int x tx) (.int y ty) sl),(lm,lstO (vs++[.int x tx]) (n+1))]) := by cases b <;> trivial
theorem sb0 (w:World) (L le la lm lu i ti j tj n:Nat) (vs:List Value) (x y:Int) (tx ty:Nat) (r:Bool) (sl:Slots) (H:NI) (T:NN) (b c:Bool) (nn tt om xi ps):Ends (go (wf w b c) 200 (exec (sB (wf w b c).params 0) (envAt (wf w b c).params 28 L)) [1,2,2,2,2,1,1] ([(L,sf8 H T le la lm lu i ti j tj (.int x tx) (.int y ty) sl),(lu,lstO vs n)]) (IL fun nn tt om xi=>[lappI 1 lu vs n (.int y ty)]) nn tt om xi ps) ([0,1]) (.ok .next) ([(L,sf8 H T le la lm lu i ti j tj (.int x tx) (.int y ty) sl),(lu,lstO (vs++[.int y ty]) (n+1))]) := by cases b <;> trivial
theorem sa1 (w:World) (L le la lm lu i ti j tj n:Nat) (vs:List Value) (x y:Int) (tx ty:Nat) (r:Bool) (sl:Slots) (H:NI) (T:NN) (b c:Bool) (nn tt om xi ps):Ends (go (wf w b c) 200 (exec (sA (wf w b c).params 1) (envAt (wf w b c).params 28 L)) [1,1,1,1] ([(L,sf8 H T le la lm lu i ti j tj (.int x tx) (.int y ty) sl)]) (IL fun nn tt om xi=>[bI "int.__add__" [.int (Int.ofNat i) ti,.int 1 (tt 0)] (intR (Int.ofNat (i+1)))]) nn tt om xi ps) ([0]) (.ok .next) ([(L,sf8 H T le la lm lu (i+1) (om 0 0) j tj (.int x tx) (.int y ty) sl)]) := by cases b <;> trivial
theorem sb1 (w:World) (L le la lm lu i ti j tj n:Nat) (vs:List Value) (x y:Int) (tx ty:Nat) (r:Bool) (sl:Slots) (H:NI) (T:NN) (b c:Bool) (nn tt om xi ps):Ends (go (wf w b c) 200 (exec (sB (wf w b c).params 1) (envAt (wf w b c).params 28 L)) [1,1,1,1] ([(L,sf8 H T le la lm lu i ti j tj (.int x tx) (.int y ty) sl)]) (IL fun nn tt om xi=>[bI "int.__add__" [.int (Int.ofNat j) tj,.int 1 (tt 0)] (intR (Int.ofNat (j+1)))]) nn tt om xi ps) ([0]) (.ok .next) ([(L,sf8 H T le la lm lu i ti (j+1) (om 0 0) (.int x tx) (.int y ty) sl)]) := by cases b <;> trivial
theorem sc0 (w:World) (L le la lm lu i ti j tj n:Nat) (vs:List Value) (x y:Int) (tx ty:Nat) (r:Bool) (sl:Slots) (H:NI) (T:NN) (b c:Bool) (nn tt om xi ps):Ends (go (wf w b c) 200 (exec (sC (wf w b c).params 0) (envAt (wf w b c).params 28 L)) [1,1,1,1] ([(L,sf8 H T le la lm lu i ti j tj (.int x tx) (.int y ty) sl)]) (IL fun nn tt om xi=>[bI "int.__add__" [.int (Int.ofNat i) ti,.int 1 (tt 0)] (intR (Int.ofNat (i+1)))]) nn tt om xi ps) ([0]) (.ok .next) ([(L,sf8 H T le la lm lu (i+1) (om 0 0) j tj (.int x tx) (.int y ty) sl)]) := by cases b <;> trivial
theorem sf0 (w:World) (L le la lm lu i ti j tj n:Nat) (vs:List Value) (x y:Int) (tx ty:Nat) (r:Bool) (sl:Slots) (H:NI) (T:NN) (hd:Option Value) (b c:Bool) (nn tt om xi ps):Ends (goH (hd) (wf w b c) 200 (exec (sFn (wf w b c).params 0) (envAt (wf w b c).params 28 L)) [1,1,1,1] ([(L,sf8 H T le la lm lu i ti j tj (.int x tx) (.int y ty) sl)]) (IL fun nn tt om xi=>[bI "int.__add__" [.int (Int.ofNat j) tj,.int 1 (tt 0)] (intR (Int.ofNat (j+1)))]) nn tt om xi ps) ([0]) (.ok .next) ([(L,sf8 H T le la lm lu i ti (j+1) (om 0 0) (.int x tx) (.int y ty) sl)]) := by cases b <;> trivial
theorem swat (w:World) (L le la lm lu i ti j tj n:Nat) (vs:List Value) (x y z:Int) (tx ty tz:Nat) (sl:Slots) (H:NI) (T:NN) (b c:Bool) (nn tt om xi ps):Ends (go (wf w b c) 300 (den (whC (sA (wf w b c).params 2) (envAt (wf w b c).params 28 L))) [1,1,2,2,2,1,1,1,1,1,1,1] ([(L,sf8 H T le la lm lu i ti j tj (.int x tx) (.int y ty) sl),(le,lstO vs n)]) (IL fun nn tt om xi=>[lgetI 1 le vs n i ti (.int z tz),bI "int.__eq__" [.int z tz,.int x tx] (boolR true),bI "int.__add__" [.int (Int.ofNat i) ti,.int 1 (tt 2)] (intR (Int.ofNat (i+1)))]) nn tt om xi ps) ([0,1]) (.ok (.again (whC (sA (wf w b c).params 2) (envAt (wf w b c).params 28 L)))) ([(L,sf8 H T le la lm lu (i+1) (om 2 0) j tj (.int x tx) (.int y ty) sl),(le,lstO vs n)]) := by cases b <;> trivial
theorem swaf (w:World) (L le la lm lu i ti j tj n:Nat) (vs:List Value) (x y z:Int) (tx ty tz:Nat) (sl:Slots) (H:NI) (T:NN) (b c:Bool) (nn tt om xi ps):Ends (go (wf w b c) 300 (den (whC (sA (wf w b c).params 2) (envAt (wf w b c).params 28 L))) [1,1,2,2,2,1,1,1] ([(L,sf8 H T le la lm lu i ti j tj (.int x tx) (.int y ty) sl),(le,lstO vs n)]) (IL fun nn tt om xi=>[lgetI 1 le vs n i ti (.int z tz),bI "int.__eq__" [.int z tz,.int x tx] (boolR false)]) nn tt om xi ps) ([0,1]) (.ok (.done .next)) ([(L,sf8 H T le la lm lu i ti j tj (.int x tx) (.int y ty) sl),(le,lstO vs n)]) := by cases b <;> trivial
theorem swae (w:World) (L le la lm lu i ti j tj n:Nat) (vs:List Value) (x y z:Int) (tx ty tz:Nat) (sl:Slots) (H:NI) (T:NN) (b c:Bool) (nn tt om xi ps):Ends (go (wf w b c) 300 (tstT (sA (wf w b c).params 2) (envAt (wf w b c).params 28 L)) [1,1,2,2,2,1] ([(L,sf8 H T le la lm lu i ti j tj (.int x tx) (.int y ty) sl),(le,lstO vs n)]) (IL fun nn tt om xi=>[lerrI 1 le vs n i ti]) nn tt om xi ps) ([0,1,3]) (.error (.ref (om 0 1))) ([(L,sf8 H T le la lm lu i ti j tj (.int x tx) (.int y ty) sl),(le,lstO vs n),(om 0 1,excO "IndexError" #[.ref (om 0 0),.none,.none,.none,.bool false,.none])]) := by cases b <;> trivial
theorem swbt (w:World) (L le la lm lu i ti j tj n:Nat) (vs:List Value) (x y z:Int) (tx ty tz:Nat) (sl:Slots) (H:NI) (T:NN) (b c:Bool) (nn tt om xi ps):Ends (go (wf w b c) 300 (den (whC (sB (wf w b c).params 2) (envAt (wf w b c).params 28 L))) [1,1,2,2,2,1,1,1,1,1,1,1] ([(L,sf8 H T le la lm lu i ti j tj (.int x tx) (.int y ty) sl),(la,lstO vs n)]) (IL fun nn tt om xi=>[lgetI 1 la vs n j tj (.int z tz),bI "int.__eq__" [.int z tz,.int y ty] (boolR true),bI "int.__add__" [.int (Int.ofNat j) tj,.int 1 (tt 2)] (intR (Int.ofNat (j+1)))]) nn tt om xi ps) ([0,1]) (.ok (.again (whC (sB (wf w b c).params 2) (envAt (wf w b c).params 28 L)))) ([(L,sf8 H T le la lm lu i ti (j+1) (om 2 0) (.int x tx) (.int y ty) sl),(la,lstO vs n)]) := by cases b <;> trivial
theorem swbf (w:World) (L le la lm lu i ti j tj n:Nat) (vs:List Value) (x y z:Int) (tx ty tz:Nat) (sl:Slots) (H:NI) (T:NN) (b c:Bool) (nn tt om xi ps):Ends (go (wf w b c) 300 (den (whC (sB (wf w b c).params 2) (envAt (wf w b c).params 28 L))) [1,1,2,2,2,1,1,1] ([(L,sf8 H T le la lm lu i ti j tj (.int x tx) (.int y ty) sl),(la,lstO vs n)]) (IL fun nn tt om xi=>[lgetI 1 la vs n j tj (.int z tz),bI "int.__eq__" [.int z tz,.int y ty] (boolR false)]) nn tt om xi ps) ([0,1]) (.ok (.done .next)) ([(L,sf8 H T le la lm lu i ti j tj (.int x tx) (.int y ty) sl),(la,lstO vs n)]) := by cases b <;> trivial
theorem swbe (w:World) (L le la lm lu i ti j tj n:Nat) (vs:List Value) (x y z:Int) (tx ty tz:Nat) (sl:Slots) (H:NI) (T:NN) (b c:Bool) (nn tt om xi ps):Ends (go (wf w b c) 300 (tstT (sB (wf w b c).params 2) (envAt (wf w b c).params 28 L)) [1,1,2,2,2,1] ([(L,sf8 H T le la lm lu i ti j tj (.int x tx) (.int y ty) sl),(la,lstO vs n)]) (IL fun nn tt om xi=>[lerrI 1 la vs n j tj]) nn tt om xi ps) ([0,1,3]) (.error (.ref (om 0 1))) ([(L,sf8 H T le la lm lu i ti j tj (.int x tx) (.int y ty) sl),(la,lstO vs n),(om 0 1,excO "IndexError" #[.ref (om 0 0),.none,.none,.none,.bool false,.none])]) := by cases b <;> trivial
theorem swct (w:World) (L le la lm lu i ti j tj n:Nat) (vs:List Value) (x y z:Int) (tx ty tz:Nat) (sl:Slots) (H:NI) (T:NN) (b c:Bool) (nn tt om xi ps):Ends (go (wf w b c) 300 (den (whC (sC1 (wf w b c).params) (envAt (wf w b c).params 28 L))) [1,1,2,2,2,1,1,1,1,1,1,1] ([(L,sf8 H T le la lm lu i ti j tj (.int x tx) (.int y ty) sl),(le,lstO vs n)]) (IL fun nn tt om xi=>[lgetI 1 le vs n i ti (.int z tz),bI "int.__eq__" [.int z tz,.int x tx] (boolR true),bI "int.__add__" [.int (Int.ofNat i) ti,.int 1 (tt 2)] (intR (Int.ofNat (i+1)))]) nn tt om xi ps) ([0,1]) (.ok (.again (whC (sC1 (wf w b c).params) (envAt (wf w b c).params 28 L)))) ([(L,sf8 H T le la lm lu (i+1) (om 2 0) j tj (.int x tx) (.int y ty) sl),(le,lstO vs n)]) := by cases b <;> trivial
theorem swcf (w:World) (L le la lm lu i ti j tj n:Nat) (vs:List Value) (x y z:Int) (tx ty tz:Nat) (sl:Slots) (H:NI) (T:NN) (b c:Bool) (nn tt om xi ps):Ends (go (wf w b c) 300 (den (whC (sC1 (wf w b c).params) (envAt (wf w b c).params 28 L))) [1,1,2,2,2,1,1,1] ([(L,sf8 H T le la lm lu i ti j tj (.int x tx) (.int y ty) sl),(le,lstO vs n)]) (IL fun nn tt om xi=>[lgetI 1 le vs n i ti (.int z tz),bI "int.__eq__" [.int z tz,.int x tx] (boolR false)]) nn tt om xi ps) ([0,1]) (.ok (.done .next)) ([(L,sf8 H T le la lm lu i ti j tj (.int x tx) (.int y ty) sl),(le,lstO vs n)]) := by cases b <;> trivial
theorem swce (w:World) (L le la lm lu i ti j tj n:Nat) (vs:List Value) (x y z:Int) (tx ty tz:Nat) (sl:Slots) (H:NI) (T:NN) (b c:Bool) (nn tt om xi ps):Ends (go (wf w b c) 300 (tstT (sC1 (wf w b c).params) (envAt (wf w b c).params 28 L)) [1,1,2,2,2,1] ([(L,sf8 H T le la lm lu i ti j tj (.int x tx) (.int y ty) sl),(le,lstO vs n)]) (IL fun nn tt om xi=>[lerrI 1 le vs n i ti]) nn tt om xi ps) ([0,1,3]) (.error (.ref (om 0 1))) ([(L,sf8 H T le la lm lu i ti j tj (.int x tx) (.int y ty) sl),(le,lstO vs n),(om 0 1,excO "IndexError" #[.ref (om 0 0),.none,.none,.none,.bool false,.none])]) := by cases b <;> trivial
theorem swft (w:World) (L le la lm lu i ti j tj n:Nat) (vs:List Value) (x y z:Int) (tx ty tz:Nat) (sl:Slots) (H:NI) (T:NN) (hd:Option Value) (b c:Bool) (nn tt om xi ps):Ends (goH (hd) (wf w b c) 300 (den (whC (sFn (wf w b c).params 1) (envAt (wf w b c).params 28 L))) [1,1,2,2,2,1,1,1,1,1,1,1] ([(L,sf8 H T le la lm lu i ti j tj (.int x tx) (.int y ty) sl),(la,lstO vs n)]) (IL fun nn tt om xi=>[lgetI 1 la vs n j tj (.int z tz),bI "int.__eq__" [.int z tz,.int y ty] (boolR true),bI "int.__add__" [.int (Int.ofNat j) tj,.int 1 (tt 2)] (intR (Int.ofNat (j+1)))]) nn tt om xi ps) ([0,1]) (.ok (.again (whC (sFn (wf w b c).params 1) (envAt (wf w b c).params 28 L)))) ([(L,sf8 H T le la lm lu i ti (j+1) (om 2 0) (.int x tx) (.int y ty) sl),(la,lstO vs n)]) := by cases b <;> trivial
theorem swff (w:World) (L le la lm lu i ti j tj n:Nat) (vs:List Value) (x y z:Int) (tx ty tz:Nat) (sl:Slots) (H:NI) (T:NN) (hd:Option Value) (b c:Bool) (nn tt om xi ps):Ends (goH (hd) (wf w b c) 300 (den (whC (sFn (wf w b c).params 1) (envAt (wf w b c).params 28 L))) [1,1,2,2,2,1,1,1] ([(L,sf8 H T le la lm lu i ti j tj (.int x tx) (.int y ty) sl),(la,lstO vs n)]) (IL fun nn tt om xi=>[lgetI 1 la vs n j tj (.int z tz),bI "int.__eq__" [.int z tz,.int y ty] (boolR false)]) nn tt om xi ps) ([0,1]) (.ok (.done .next)) ([(L,sf8 H T le la lm lu i ti j tj (.int x tx) (.int y ty) sl),(la,lstO vs n)]) := by cases b <;> trivial
theorem swfe (w:World) (L le la lm lu i ti j tj n:Nat) (vs:List Value) (x y z:Int) (tx ty tz:Nat) (sl:Slots) (H:NI) (T:NN) (b c:Bool) (nn tt om xi ps):Ends (go (wf w b c) 300 (tstT (sFn (wf w b c).params 1) (envAt (wf w b c).params 28 L)) [1,1,2,2,2,1] ([(L,sf8 H T le la lm lu i ti j tj (.int x tx) (.int y ty) sl),(la,lstO vs n)]) (IL fun nn tt om xi=>[lerrI 1 la vs n j tj]) nn tt om xi ps) ([0,1,3]) (.error (.ref (om 0 1))) ([(L,sf8 H T le la lm lu i ti j tj (.int x tx) (.int y ty) sl),(la,lstO vs n),(om 0 1,excO "IndexError" #[.ref (om 0 0),.none,.none,.none,.bool false,.none])]) := by cases b <;> trivial
theorem swfh (w:World) (L le la lm lu i ti j tj n:Nat) (vs:List Value) (x y z:Int) (tx ty tz:Nat) (sl:Slots) (H:NI) (T:NN) (hd:Option Value) (ex:Nat) (c1:String) (vs1:Array Value) (b c:Bool) (nn tt om xi ps):Ends (goH (hd) (wf w b c) 300 (tstT (sFn (wf w b c).params 1) (envAt (wf w b c).params 28 L)) [1,1,2,2,2,1] ([(L,sf8 H T le la lm lu i ti j tj (.int x tx) (.int y ty) sl),(la,lstO vs n),(ex,excO c1 vs1)]) (IL fun nn tt om xi=>[lerrHI 1 2 la ex vs n j tj c1 vs1]) nn tt om xi ps) ([0,1,2,4]) (.error (.ref (om 0 1))) ([(L,sf8 H T le la lm lu i ti j tj (.int x tx) (.int y ty) sl),(la,lstO vs n),(ex,excO c1 vs1),(om 0 1,excO "IndexError" #[.ref (om 0 0),.none,.ref ex,.none,.bool false,.none])]) := by cases b <;> trivial
theorem sh0 (w:World) (L le la lm lu i ti j tj n m:Nat) (vs us r:List Value) (ve va:Value) (sl:Slots) (H:NI) (T:NN) (hd:Option Value) (nn tt om xi ps):Ends (goH (hd) w 60 (eval (sHT w.params) (envAt w.params 28 L)) [0,0] ([(L,sf8 H T le la lm lu i ti j tj ve va sl)]) .nil nn tt om xi ps) ([0]) (.ok (.type "IndexError")) ([(L,sf8 H T le la lm lu i ti j tj ve va sl)]) := by trivial
theorem sh1 (w:World) (L le la lm lu i ti j tj n m:Nat) (vs us r:List Value) (ve va:Value) (sl:Slots) (H:NI) (T:NN) (hd:Option Value) (b c:Bool) (nn tt om xi ps):Ends (goH (hd) (wf w b c) 300 (exec (sHn (wf w b c).params 0) (envAt (wf w b c).params 28 L)) [1,3,3,3,3,1,1,2,2,2,1,1] ([(L,sf8 H T le la lm lu i ti j tj ve va sl),(le,lstO vs n),(lm,lstO us m)]) (IL fun nn tt om xi=>[lslI 1 3 le (nn 0) vs n (.int (Int.ofNat i) ti) .none r,lextI 2 4 lm (om 0 0) us m r 0]) nn tt om xi ps) ([0,1,2]) (.ok .next) ([(L,sf8 H T le la lm lu i ti j tj ve va sl),(le,lstO vs n),(lm,lstO (us++r) (om 1 0))]) := by cases b <;> trivial
theorem sh2 (w:World) (L le la lm lu i ti j tj n m:Nat) (vs us r:List Value) (ve va:Value) (sl:Slots) (H:NI) (T:NN) (hd:Option Value) (b c:Bool) (nn tt om xi ps):Ends (goH (hd) (wf w b c) 300 (exec (sHn (wf w b c).params 1) (envAt (wf w b c).params 28 L)) [1,3,3,3,3,1,1,2,2,2,1,1] ([(L,sf8 H T le la lm lu i ti j tj ve va sl),(la,lstO vs n),(lu,lstO us m)]) (IL fun nn tt om xi=>[lslI 1 3 la (nn 0) vs n (.int (Int.ofNat j) tj) .none r,lextI 2 4 lu (om 0 0) us m r 0]) nn tt om xi ps) ([0,1,2]) (.ok .next) ([(L,sf8 H T le la lm lu i ti j tj ve va sl),(la,lstO vs n),(lu,lstO (us++r) (om 1 0))]) := by cases b <;> trivial
theorem sh3 (w:World) (L:Nat) (hd:Option Value) (nn tt om xi ps):Ends (goH (hd) w 60 (exec (sHn w.params 2) (envAt w.params 28 L)) [] ([]) .nil nn tt om xi ps) ([]) (.ok .brk) ([]) := by trivial
theorem sr (w:World) (L le la lm lu i ti j tj n:Nat) (vs:List Value) (x:Int) (tx:Nat) (ve va:Value) (sl:Slots) (H:NI) (T:NN) (nn tt om xi ps):Ends (go w 60 (exec (nthS w.params 28 4) (envAt w.params 28 L)) [1,1] ([(L,sf8 H T le la lm lu i ti j tj ve va sl)]) .nil nn tt om xi ps) ([0,1]) (.ok (.ret (.ref (nn 0)))) ([(L,sf8 H T le la lm lu i ti j tj ve va sl),(nn 0,tupO [.ref lm,.ref lu])]) := by trivial
theorem ieqH (w:World) (a b:Int) (t u:Nat) (hd:Option Value) (nn tt om xi ps):Ends (goH (hd) w 20 (Sem.call (bI "int.__eq__" [.int a t,.int b u] (boolR (a == b))).code none false [] Sem.pure) [0] ([]) .nil nn tt om xi ps) ([]) (.ok ((boolR (a == b)) tt)) ([]) := by trivial
theorem iaddH (w:World) (a b:Int) (t u:Nat) (hd:Option Value) (nn tt om xi ps):Ends (goH (hd) w 20 (Sem.call (bI "int.__add__" [.int a t,.int b u] (intR (a+b))).code none false [] Sem.pure) [0] ([]) .nil nn tt om xi ps) ([]) (.ok ((intR (a+b)) tt)) ([]) := by trivial
theorem Rp.selA {K : Frag} {g h : Heap} {A0 : List Addr} {l rest : Led} (D : Rp K g A0 h (l ++ rest)) (js : List Nat) (hj : js.Nodup) : Rp K g A0 h (Mine.sel l js ++ rest) := by
  have hs : ∀ p ∈ Mine.sel l js,p ∈ l := fun p hp => by
    obtain ⟨j,_,e⟩ := sel_mem l js p hp
    exact List.mem_of_getElem? e
  have hm : ∀ p ∈ Mine.sel l js ++ rest,p ∈ l ++ rest := fun p hp => by
    rcases List.mem_append.mp hp with hp | hp
    · exact List.mem_append.mpr (.inl (hs p hp))
    · exact List.mem_append.mpr (.inr hp)
  have nd := D.nod
  rw [List.map_append,List.nodup_append] at nd
  refine ⟨D.top,fun p hp => D.has p (hm p hp),?_,fun p hp => D.off p (hm p hp),fun p hp => D.mine p (hm p hp),fun p hp => D.low p (hm p hp),D.keep⟩
  rw [List.map_append,List.nodup_append]
  refine ⟨sel_nodup l nd.1 js hj,nd.2.1,fun a ha b hb => nd.2.2 a ?_ b hb⟩
  obtain ⟨p,hp,rfl⟩ := List.mem_map.mp ha
  exact List.mem_map_of_mem (hs p hp)
theorem Rp.selB {K : Frag} {g h : Heap} {A0 : List Addr} {a b rest : Led} (D : Rp K g A0 h (a ++ (b ++ rest))) (js : List Nat) (hj : js.Nodup) : Rp K g A0 h (Mine.sel (a ++ b) js ++ rest) := by
  rw [← List.append_assoc] at D
  exact D.selA js hj
theorem whileRaise {w : World} {A : Around} {s : Shared} {R : Result → Shared → Prop} {st : Stmt} {env : Env} {t : Expr} {b o : List Stmt} {p : Pos} (hst : st = .While t b o p)
    (h : wpAny (MM w) A (tstT st env) (fun _ _ => False) (notedBy (MM w) A env (fun e s' => R (.error e) s')) s) : codeAny (MM w) A (whC st env) R s := by
  subst hst
  refine codeAny_of_tree ?_
  show wpAny _ A ((whileTurn t b o env).onRaise (fun x => do noteFrame x env; theTreesLotGoes x)) _ _ s
  refine wpAny_noted ?_
  unfold whileTurn
  exact wpAny_bind (wpAny_mono h (fun _ _ q => q.elim) fun _ _ q => q)
theorem whileGo {w : World} {A : Around} {s : Shared} {R : Result → Shared → Prop} {st : Stmt} {env : Env} {t : Expr} {b o : List Stmt} {p : Pos} (hst : st = .While t b o p)
    (h : wpAny (MM w) A (tstT st env) (fun r s₁ => r = true ∧ wpAny (MM w) A (execs b env) (fun f s₂ => match f with
      | .next | .cont => codeAny (MM w) A (whC st env) R s₂
      | .brk => R (.ok .next) s₂
      | .ret v => R (.ok (.ret v)) s₂) (fun _ _ => False) s₁) (fun _ _ => False) s) : codeAny (MM w) A (whC st env) R s := by
  subst hst
  refine codeAny_of_tree ?_
  show wpAny _ A ((whileTurn t b o env).onRaise (fun x => do noteFrame x env; theTreesLotGoes x)) _ _ s
  refine wpAny_noted ?_
  unfold whileTurn
  refine wpAny_bind (wpAny_mono h (fun r s₁ q => ?_) fun _ _ q => q.elim)
  obtain ⟨rfl,q⟩ := q
  rw [if_pos rfl]
  refine wpAny_bind (wpAny_mono q (fun f s₂ q => ?_) fun _ _ q => q.elim)
  cases f with
  | next => exact wpAny_pure ⟨rfl,q⟩
  | cont => exact wpAny_pure ⟨rfl,q⟩
  | brk => exact wpAny_pure q
  | ret v => exact wpAny_pure q
section
variable {w : World} {C : Around → Prop} {hd : Option Value} (hh : ∀ A,C A → A.handled = hd)
include hh
theorem ieqH_ok {a b : Int} {t u : Nat} {r : Bool} (h : (a == b) = r) : IOk theP w (MyK w.params) C (bI "int.__eq__" [.int a t,.int b u] (boolR r)) := h ▸ segIH (I := bI "int.__eq__" [.int a t,.int b u] (boolR (a == b))) (ieqH w a b t u hd) hh noIns fun nn tt om xi => ⟨tt,fun _ => #[],rfl,rfl,rfl⟩
theorem iaddH_ok {a b c : Int} {t u : Nat} (h : a + b = c) : IOk theP w (MyK w.params) C (bI "int.__add__" [.int a t,.int b u] (intR c)) := h ▸ segIH (I := bI "int.__add__" [.int a t,.int b u] (intR (a + b))) (iaddH w a b t u hd) hh noIns fun nn tt om xi => ⟨tt,fun _ => #[],rfl,rfl,rfl⟩
end
structure SC where
  L : Nat
  L4 : Nat
  L1 : Nat
  le : Nat
  la : Nat
  lm : Nat
  lu : Nat
  ne : Nat
  na : Nat
  n4 : Nat
  n1 : Nat
  vE : List Value
  vA : List Value
  es4 : List DictEntry
  es1 : List DictEntry
structure SV where
  H : Nat → Int
  T : Nat → Nat
  i : Nat
  ti : Nat
  j : Nat
  tj : Nat
  x : Int
  tx : Nat
  y : Int
  ty : Nat
  vM : List Value
  nM : Nat
  vU : List Value
  nU : Nat
  sl : Slots
  sl4 : Slots
  sl1 : Slots
noncomputable abbrev LS (k : SC) (v : SV) : Led := [(k.L,sf8 v.H v.T k.le k.la k.lm k.lu v.i v.ti v.j v.tj (.int v.x v.tx) (.int v.y v.ty) v.sl),(k.L4,frO k.es4 k.n4 v.sl4),(k.L1,frO k.es1 k.n1 v.sl1),(k.le,lstO k.vE k.ne),(k.la,lstO k.vA k.na),(k.lm,lstO v.vM v.nM),(k.lu,lstO v.vU v.nU)]
theorem are_get {vs : List Value} {ns : List Int} (h : IntsAre vs ns) {i : Nat} (hi : i < ns.length) : ∃ z tz,vs[i]? = some (.int z tz) ∧ ns[i]? = some z ∧ ns.drop i = z :: ns.drop (i + 1) := by
  obtain ⟨t,e⟩ := are_iv h
  have hg := List.getElem?_eq_getElem hi
  refine ⟨ns[i],t i,by rw [e,iv_get,hg]; rfl,hg,List.drop_eq_getElem_cons hi⟩
noncomputable abbrev en28 (P : Params) (L : Nat) : Env := envAt P 28 L
theorem pmEle {α : Type} (a b c d e f g x : α) (r : List α) : ([a,b,c] ++ (x :: ([d,e,f,g] ++ r))).Perm ([a,d,x] ++ ([b,c,e,f,g] ++ r)) := by
  classical
  refine List.perm_iff_count.mpr fun q => ?_
  simp only [List.count_append,List.count_cons,List.count_nil]
  omega
theorem pmEla {α : Type} (a b c d e f g x : α) (r : List α) : ([a,b,c] ++ (x :: ([d,e,f,g] ++ r))).Perm ([a,e,x] ++ ([b,c,d,f,g] ++ r)) := by
  classical
  refine List.perm_iff_count.mpr fun q => ?_
  simp only [List.count_append,List.count_cons,List.count_nil]
  omega
theorem pmF {α : Type} (a b c d e f g x y : α) (r : List α) : ([a,b,c,d,e,f,g] ++ (x :: y :: r)).Perm ([a,b,c] ++ (x :: y :: ([d,e,f,g] ++ r))) := by
  classical
  refine List.perm_iff_count.mpr fun q => ?_
  simp only [List.count_append,List.count_cons,List.count_nil]
  omega
theorem pmG {α : Type} (a b c d e f g x : α) (r : List α) : ([a,b,x] ++ ([c,d,e,f,g] ++ r)).Perm ([a,b,c,d,e,f,g] ++ (x :: r)) := by
  classical
  refine List.perm_iff_count.mpr fun q => ?_
  simp only [List.count_append,List.count_cons,List.count_nil]
  omega
theorem pmH {α : Type} (a b c d e f g x y : α) (r : List α) : ([a,b,c] ++ (x :: ([d,e,f,g] ++ (y :: r)))).Perm ([a,e,y,x] ++ ([b,c,d,f,g] ++ r)) := by
  classical
  refine List.perm_iff_count.mpr fun q => ?_
  simp only [List.count_append,List.count_cons,List.count_nil]
  omega
theorem lpA (w : World) (b c : Bool) {A : Around} {g : Heap} {A0 : List Addr} {R : Result → Shared → Prop} {e4 e0 : Env} (hA : AB 839 6900 A) (k : SC) (F : Fr3 A (en28 (wf w b c).params k.L) e4 e0 k.L k.L4 k.L1) (N : List Int) (hN : IntsAre k.vE N) (hl : N.length ≤ 9) (rest : Led) :
    ∀ (m : Nat) (v : SV) (sh : Shared),N.length - v.i = m → v.i ≤ N.length → Rp (MyK (wf w b c).params) g A0 sh.heap (LS k v ++ rest) →
    (∀ i' t' h' tk',i' < N.length → N.drop i' = (N.drop v.i).dropWhile (· == v.x) → Rp (MyK (wf w b c).params) g A0 h' (LS k { v with i := i',ti := t' } ++ rest) → R (.ok .next) { sh with heap := h',toks := tk' }) →
    (∀ t' ex vx T ts p q r h' tk',(N.drop v.i).dropWhile (· == v.x) = [] → vx[1]? = some (.ref T) → vx[2]? = some (.none) → ts[3]? = some (rawInt k.L) → Rp (MyK (wf w b c).params) g A0 h' (LS k { v with i := N.length,ti := t',sl := p,sl4 := q,sl1 := r } ++ ((ex,excO "IndexError" vx) :: (T,tbO ts) :: rest)) → R (.error (.ref ex)) { sh with heap := h',toks := tk' }) →
    codeAny (MM (wf w b c)) A (whC (sA (wf w b c).params 2) (en28 (wf w b c).params k.L)) R sh := by
  have hlen : k.vE.length = N.length := hN.length
  intro m
  induction m with
  | zero =>
    intro v sh hm hi D h1 h2
    have hi : v.i = N.length := by omega
    have hd : N.drop v.i = [] := List.drop_eq_nil_of_le (by omega)
    refine whileRaise (st := sA (wf w b c).params 2) rfl ?_
    have D1 := D.selA [0,3,1,2,4,5,6] (by decide)
    refine fragQ ([(k.L4,frO k.es4 k.n4 v.sl4),(k.L1,frO k.es1 k.n1 v.sl1),(k.la,lstO k.vA k.na),(k.lm,lstO v.vM v.nM),(k.lu,lstO v.vU v.nU)] ++ rest) D1 (List.Perm.refl _) (swae w k.L k.le k.la k.lm k.lu v.i v.ti v.j v.tj k.ne k.vE v.x v.y 0 v.tx v.ty 0 v.sl v.H v.T b c) AB.hh hA (okIL _ fun nn tt om xi => oneIns (lerr_ok AB.hh (by omega) (by omega)) nilIns) ?_
    intro nn tt om xi h3 k3 D3
    have D4 : Rp (MyK (wf w b c).params) g A0 h3 ([(k.L,sf8 v.H v.T k.le k.la k.lm k.lu v.i v.ti v.j v.tj (.int v.x v.tx) (.int v.y v.ty) v.sl),(k.L4,frO k.es4 k.n4 v.sl4),(k.L1,frO k.es1 k.n1 v.sl1)] ++ ((om 0 1,excO "IndexError" #[.ref (om 0 0),.none,.none,.none,.bool false,.none]) :: ([(k.le,lstO k.vE k.ne),(k.la,lstO k.vA k.na),(k.lm,lstO v.vM v.nM),(k.lu,lstO v.vU v.nU)] ++ rest))) := D3.perm (pmEle _ _ _ _ _ _ _ _ _)
    refine noteNew F (by simp) D4 ?_
    intro T ts p q r h5 ht D5
    have D6 : Rp (MyK (wf w b c).params) g A0 h5 (LS k { v with sl := p,sl4 := q,sl1 := r } ++ ((om 0 1,excO "IndexError" (#[Value.ref (om 0 0),.none,.none,.none,.bool false,.none].setIfInBounds 1 (.ref T))) :: (T,tbO ts) :: rest)) := D5.perm (pmF _ _ _ _ _ _ _ _ _ _)
    have e : ({ v with i := N.length,ti := v.ti,sl := p,sl4 := q,sl1 := r } : SV) = { v with sl := p,sl4 := q,sl1 := r } := by rw [← hi]
    refine h2 v.ti (om 0 1) (#[Value.ref (om 0 0),.none,.none,.none,.bool false,.none].setIfInBounds 1 (.ref T)) T ts p q r h5 k3 (by rw [hd]; rfl) (by simp) (by simp) ht ?_
    rw [e]; exact D6
  | succ m ih =>
    intro v sh hm hi D h1 h2
    have hlt : v.i < N.length := by omega
    obtain ⟨z,tz,hz,hz2,hdr⟩ := are_get hN hlt
    have D1 := D.selA [0,3,1,2,4,5,6] (by decide)
    refine codeTurn (by kernel_rfl) ?_
    cases hq : (z == v.x) with
    | true =>
      have hdw : (N.drop v.i).dropWhile (· == v.x) = (N.drop (v.i + 1)).dropWhile (· == v.x) := by rw [hdr,List.dropWhile_cons,hq]; rfl
      refine fragQ ([(k.L4,frO k.es4 k.n4 v.sl4),(k.L1,frO k.es1 k.n1 v.sl1),(k.la,lstO k.vA k.na),(k.lm,lstO v.vM v.nM),(k.lu,lstO v.vU v.nU)] ++ rest) D1 (List.Perm.refl _) (swat w k.L k.le k.la k.lm k.lu v.i v.ti v.j v.tj k.ne k.vE v.x v.y z v.tx v.ty tz v.sl v.H v.T b c) AB.hh hA (okIL _ fun nn tt om xi => oneIns (lget_ok hz (by omega)) (oneIns (ieq_ok AB.hh hq) (oneIns (iadd_ok AB.hh rfl) nilIns))) ?_
      intro nn tt om xi h3 k3 D3
      refine ⟨by kernel_rfl,ih { v with i := v.i + 1,ti := om 2 0 } { sh with heap := h3,toks := k3 } (by show N.length - (v.i + 1) = m; omega) hlt (D3.selB [0,2,3,1,4,5,6] (by decide)) ?_ ?_⟩
      · intro i' t' h' tk' a1 a2 a3
        exact h1 i' t' h' tk' a1 (by rw [hdw]; exact a2) a3
      · intro t' ex vx T ts p q r h' tk' a1 a2 a3 a4 a5
        exact h2 t' ex vx T ts p q r h' tk' (by rw [hdw]; exact a1) a2 a3 a4 a5
    | false =>
      have hdw : N.drop v.i = (N.drop v.i).dropWhile (· == v.x) := by
        conv => rhs; rw [hdr,List.dropWhile_cons,hq]
        exact hdr
      refine fragQ ([(k.L4,frO k.es4 k.n4 v.sl4),(k.L1,frO k.es1 k.n1 v.sl1),(k.la,lstO k.vA k.na),(k.lm,lstO v.vM v.nM),(k.lu,lstO v.vU v.nU)] ++ rest) D1 (List.Perm.refl _) (swaf w k.L k.le k.la k.lm k.lu v.i v.ti v.j v.tj k.ne k.vE v.x v.y z v.tx v.ty tz v.sl v.H v.T b c) AB.hh hA (okIL _ fun nn tt om xi => oneIns (lget_ok hz (by omega)) (oneIns (ieq_ok AB.hh hq) nilIns)) ?_
      intro nn tt om xi h3 k3 D3
      exact h1 v.i v.ti h3 k3 hlt hdw (D3.selB [0,2,3,1,4,5,6] (by decide))
theorem lpB (w : World) (b c : Bool) {A : Around} {g : Heap} {A0 : List Addr} {R : Result → Shared → Prop} {e4 e0 : Env} (hA : AB 839 6900 A) (k : SC) (F : Fr3 A (en28 (wf w b c).params k.L) e4 e0 k.L k.L4 k.L1) (N : List Int) (hN : IntsAre k.vA N) (hl : N.length ≤ 9) (rest : Led) :
    ∀ (m : Nat) (v : SV) (sh : Shared),N.length - v.j = m → v.j ≤ N.length → Rp (MyK (wf w b c).params) g A0 sh.heap (LS k v ++ rest) →
    (∀ i' t' h' tk',i' < N.length → N.drop i' = (N.drop v.j).dropWhile (· == v.y) → Rp (MyK (wf w b c).params) g A0 h' (LS k { v with j := i',tj := t' } ++ rest) → R (.ok .next) { sh with heap := h',toks := tk' }) →
    (∀ t' ex vx T ts p q r h' tk',(N.drop v.j).dropWhile (· == v.y) = [] → vx[1]? = some (.ref T) → vx[2]? = some (.none) → ts[3]? = some (rawInt k.L) → Rp (MyK (wf w b c).params) g A0 h' (LS k { v with j := N.length,tj := t',sl := p,sl4 := q,sl1 := r } ++ ((ex,excO "IndexError" vx) :: (T,tbO ts) :: rest)) → R (.error (.ref ex)) { sh with heap := h',toks := tk' }) →
    codeAny (MM (wf w b c)) A (whC (sB (wf w b c).params 2) (en28 (wf w b c).params k.L)) R sh := by
  have hlen : k.vA.length = N.length := hN.length
  intro m
  induction m with
  | zero =>
    intro v sh hm hi D h1 h2
    have hi : v.j = N.length := by omega
    have hd : N.drop v.j = [] := List.drop_eq_nil_of_le (by omega)
    refine whileRaise (st := sB (wf w b c).params 2) rfl ?_
    have D1 := D.selA [0,4,1,2,3,5,6] (by decide)
    refine fragQ ([(k.L4,frO k.es4 k.n4 v.sl4),(k.L1,frO k.es1 k.n1 v.sl1),(k.le,lstO k.vE k.ne),(k.lm,lstO v.vM v.nM),(k.lu,lstO v.vU v.nU)] ++ rest) D1 (List.Perm.refl _) (swbe w k.L k.le k.la k.lm k.lu v.i v.ti v.j v.tj k.na k.vA v.x v.y 0 v.tx v.ty 0 v.sl v.H v.T b c) AB.hh hA (okIL _ fun nn tt om xi => oneIns (lerr_ok AB.hh (by omega) (by omega)) nilIns) ?_
    intro nn tt om xi h3 k3 D3
    have D4 : Rp (MyK (wf w b c).params) g A0 h3 ([(k.L,sf8 v.H v.T k.le k.la k.lm k.lu v.i v.ti v.j v.tj (.int v.x v.tx) (.int v.y v.ty) v.sl),(k.L4,frO k.es4 k.n4 v.sl4),(k.L1,frO k.es1 k.n1 v.sl1)] ++ ((om 0 1,excO "IndexError" #[.ref (om 0 0),.none,.none,.none,.bool false,.none]) :: ([(k.le,lstO k.vE k.ne),(k.la,lstO k.vA k.na),(k.lm,lstO v.vM v.nM),(k.lu,lstO v.vU v.nU)] ++ rest))) := D3.perm (pmEla _ _ _ _ _ _ _ _ _)
    refine noteNew F (by simp) D4 ?_
    intro T ts p q r h5 ht D5
    have D6 : Rp (MyK (wf w b c).params) g A0 h5 (LS k { v with sl := p,sl4 := q,sl1 := r } ++ ((om 0 1,excO "IndexError" (#[Value.ref (om 0 0),.none,.none,.none,.bool false,.none].setIfInBounds 1 (.ref T))) :: (T,tbO ts) :: rest)) := D5.perm (pmF _ _ _ _ _ _ _ _ _ _)
    have e : ({ v with j := N.length,tj := v.tj,sl := p,sl4 := q,sl1 := r } : SV) = { v with sl := p,sl4 := q,sl1 := r } := by rw [← hi]
    refine h2 v.tj (om 0 1) (#[Value.ref (om 0 0),.none,.none,.none,.bool false,.none].setIfInBounds 1 (.ref T)) T ts p q r h5 k3 (by rw [hd]; rfl) (by simp) (by simp) ht ?_
    rw [e]; exact D6
  | succ m ih =>
    intro v sh hm hi D h1 h2
    have hlt : v.j < N.length := by omega
    obtain ⟨z,tz,hz,hz2,hdr⟩ := are_get hN hlt
    have D1 := D.selA [0,4,1,2,3,5,6] (by decide)
    refine codeTurn (by kernel_rfl) ?_
    cases hq : (z == v.y) with
    | true =>
      have hdw : (N.drop v.j).dropWhile (· == v.y) = (N.drop (v.j + 1)).dropWhile (· == v.y) := by rw [hdr,List.dropWhile_cons,hq]; rfl
      refine fragQ ([(k.L4,frO k.es4 k.n4 v.sl4),(k.L1,frO k.es1 k.n1 v.sl1),(k.le,lstO k.vE k.ne),(k.lm,lstO v.vM v.nM),(k.lu,lstO v.vU v.nU)] ++ rest) D1 (List.Perm.refl _) (swbt w k.L k.le k.la k.lm k.lu v.i v.ti v.j v.tj k.na k.vA v.x v.y z v.tx v.ty tz v.sl v.H v.T b c) AB.hh hA (okIL _ fun nn tt om xi => oneIns (lget_ok hz (by omega)) (oneIns (ieq_ok AB.hh hq) (oneIns (iadd_ok AB.hh rfl) nilIns))) ?_
      intro nn tt om xi h3 k3 D3
      refine ⟨by kernel_rfl,ih { v with j := v.j + 1,tj := om 2 0 } { sh with heap := h3,toks := k3 } (by show N.length - (v.j + 1) = m; omega) hlt (D3.selB [0,2,3,4,1,5,6] (by decide)) ?_ ?_⟩
      · intro i' t' h' tk' a1 a2 a3
        exact h1 i' t' h' tk' a1 (by rw [hdw]; exact a2) a3
      · intro t' ex vx T ts p q r h' tk' a1 a2 a3 a4 a5
        exact h2 t' ex vx T ts p q r h' tk' (by rw [hdw]; exact a1) a2 a3 a4 a5
    | false =>
      have hdw : N.drop v.j = (N.drop v.j).dropWhile (· == v.y) := by
        conv => rhs; rw [hdr,List.dropWhile_cons,hq]
        exact hdr
      refine fragQ ([(k.L4,frO k.es4 k.n4 v.sl4),(k.L1,frO k.es1 k.n1 v.sl1),(k.le,lstO k.vE k.ne),(k.lm,lstO v.vM v.nM),(k.lu,lstO v.vU v.nU)] ++ rest) D1 (List.Perm.refl _) (swbf w k.L k.le k.la k.lm k.lu v.i v.ti v.j v.tj k.na k.vA v.x v.y z v.tx v.ty tz v.sl v.H v.T b c) AB.hh hA (okIL _ fun nn tt om xi => oneIns (lget_ok hz (by omega)) (oneIns (ieq_ok AB.hh hq) nilIns)) ?_
      intro nn tt om xi h3 k3 D3
      exact h1 v.j v.tj h3 k3 hlt hdw (D3.selB [0,2,3,4,1,5,6] (by decide))
theorem lpC (w : World) (b c : Bool) {A : Around} {g : Heap} {A0 : List Addr} {R : Result → Shared → Prop} {e4 e0 : Env} (hA : AB 839 6900 A) (k : SC) (F : Fr3 A (en28 (wf w b c).params k.L) e4 e0 k.L k.L4 k.L1) (N : List Int) (hN : IntsAre k.vE N) (hl : N.length ≤ 9) (rest : Led) :
    ∀ (m : Nat) (v : SV) (sh : Shared),N.length - v.i = m → v.i ≤ N.length → Rp (MyK (wf w b c).params) g A0 sh.heap (LS k v ++ rest) →
    (∀ i' t' h' tk',i' < N.length → N.drop i' = (N.drop v.i).dropWhile (· == v.x) → Rp (MyK (wf w b c).params) g A0 h' (LS k { v with i := i',ti := t' } ++ rest) → R (.ok .next) { sh with heap := h',toks := tk' }) →
    (∀ t' ex vx T ts p q r h' tk',(N.drop v.i).dropWhile (· == v.x) = [] → vx[1]? = some (.ref T) → vx[2]? = some (.none) → ts[3]? = some (rawInt k.L) → Rp (MyK (wf w b c).params) g A0 h' (LS k { v with i := N.length,ti := t',sl := p,sl4 := q,sl1 := r } ++ ((ex,excO "IndexError" vx) :: (T,tbO ts) :: rest)) → R (.error (.ref ex)) { sh with heap := h',toks := tk' }) →
    codeAny (MM (wf w b c)) A (whC (sC1 (wf w b c).params) (en28 (wf w b c).params k.L)) R sh := by
  have hlen : k.vE.length = N.length := hN.length
  intro m
  induction m with
  | zero =>
    intro v sh hm hi D h1 h2
    have hi : v.i = N.length := by omega
    have hd : N.drop v.i = [] := List.drop_eq_nil_of_le (by omega)
    refine whileRaise (st := sC1 (wf w b c).params) rfl ?_
    have D1 := D.selA [0,3,1,2,4,5,6] (by decide)
    refine fragQ ([(k.L4,frO k.es4 k.n4 v.sl4),(k.L1,frO k.es1 k.n1 v.sl1),(k.la,lstO k.vA k.na),(k.lm,lstO v.vM v.nM),(k.lu,lstO v.vU v.nU)] ++ rest) D1 (List.Perm.refl _) (swce w k.L k.le k.la k.lm k.lu v.i v.ti v.j v.tj k.ne k.vE v.x v.y 0 v.tx v.ty 0 v.sl v.H v.T b c) AB.hh hA (okIL _ fun nn tt om xi => oneIns (lerr_ok AB.hh (by omega) (by omega)) nilIns) ?_
    intro nn tt om xi h3 k3 D3
    have D4 : Rp (MyK (wf w b c).params) g A0 h3 ([(k.L,sf8 v.H v.T k.le k.la k.lm k.lu v.i v.ti v.j v.tj (.int v.x v.tx) (.int v.y v.ty) v.sl),(k.L4,frO k.es4 k.n4 v.sl4),(k.L1,frO k.es1 k.n1 v.sl1)] ++ ((om 0 1,excO "IndexError" #[.ref (om 0 0),.none,.none,.none,.bool false,.none]) :: ([(k.le,lstO k.vE k.ne),(k.la,lstO k.vA k.na),(k.lm,lstO v.vM v.nM),(k.lu,lstO v.vU v.nU)] ++ rest))) := D3.perm (pmEle _ _ _ _ _ _ _ _ _)
    refine noteNew F (by simp) D4 ?_
    intro T ts p q r h5 ht D5
    have D6 : Rp (MyK (wf w b c).params) g A0 h5 (LS k { v with sl := p,sl4 := q,sl1 := r } ++ ((om 0 1,excO "IndexError" (#[Value.ref (om 0 0),.none,.none,.none,.bool false,.none].setIfInBounds 1 (.ref T))) :: (T,tbO ts) :: rest)) := D5.perm (pmF _ _ _ _ _ _ _ _ _ _)
    have e : ({ v with i := N.length,ti := v.ti,sl := p,sl4 := q,sl1 := r } : SV) = { v with sl := p,sl4 := q,sl1 := r } := by rw [← hi]
    refine h2 v.ti (om 0 1) (#[Value.ref (om 0 0),.none,.none,.none,.bool false,.none].setIfInBounds 1 (.ref T)) T ts p q r h5 k3 (by rw [hd]; rfl) (by simp) (by simp) ht ?_
    rw [e]; exact D6
  | succ m ih =>
    intro v sh hm hi D h1 h2
    have hlt : v.i < N.length := by omega
    obtain ⟨z,tz,hz,hz2,hdr⟩ := are_get hN hlt
    have D1 := D.selA [0,3,1,2,4,5,6] (by decide)
    refine codeTurn (by kernel_rfl) ?_
    cases hq : (z == v.x) with
    | true =>
      have hdw : (N.drop v.i).dropWhile (· == v.x) = (N.drop (v.i + 1)).dropWhile (· == v.x) := by rw [hdr,List.dropWhile_cons,hq]; rfl
      refine fragQ ([(k.L4,frO k.es4 k.n4 v.sl4),(k.L1,frO k.es1 k.n1 v.sl1),(k.la,lstO k.vA k.na),(k.lm,lstO v.vM v.nM),(k.lu,lstO v.vU v.nU)] ++ rest) D1 (List.Perm.refl _) (swct w k.L k.le k.la k.lm k.lu v.i v.ti v.j v.tj k.ne k.vE v.x v.y z v.tx v.ty tz v.sl v.H v.T b c) AB.hh hA (okIL _ fun nn tt om xi => oneIns (lget_ok hz (by omega)) (oneIns (ieq_ok AB.hh hq) (oneIns (iadd_ok AB.hh rfl) nilIns))) ?_
      intro nn tt om xi h3 k3 D3
      refine ⟨by kernel_rfl,ih { v with i := v.i + 1,ti := om 2 0 } { sh with heap := h3,toks := k3 } (by show N.length - (v.i + 1) = m; omega) hlt (D3.selB [0,2,3,1,4,5,6] (by decide)) ?_ ?_⟩
      · intro i' t' h' tk' a1 a2 a3
        exact h1 i' t' h' tk' a1 (by rw [hdw]; exact a2) a3
      · intro t' ex vx T ts p q r h' tk' a1 a2 a3 a4 a5
        exact h2 t' ex vx T ts p q r h' tk' (by rw [hdw]; exact a1) a2 a3 a4 a5
    | false =>
      have hdw : N.drop v.i = (N.drop v.i).dropWhile (· == v.x) := by
        conv => rhs; rw [hdr,List.dropWhile_cons,hq]
        exact hdr
      refine fragQ ([(k.L4,frO k.es4 k.n4 v.sl4),(k.L1,frO k.es1 k.n1 v.sl1),(k.la,lstO k.vA k.na),(k.lm,lstO v.vM v.nM),(k.lu,lstO v.vU v.nU)] ++ rest) D1 (List.Perm.refl _) (swcf w k.L k.le k.la k.lm k.lu v.i v.ti v.j v.tj k.ne k.vE v.x v.y z v.tx v.ty tz v.sl v.H v.T b c) AB.hh hA (okIL _ fun nn tt om xi => oneIns (lget_ok hz (by omega)) (oneIns (ieq_ok AB.hh hq) nilIns)) ?_
      intro nn tt om xi h3 k3 D3
      exact h1 v.i v.ti h3 k3 hlt hdw (D3.selB [0,2,3,1,4,5,6] (by decide))
theorem lpF (w : World) (b c : Bool) {A : Around} {g : Heap} {A0 : List Addr} {R : Result → Shared → Prop} {e4 e0 : Env} (hA : AB 839 6900 A) (k : SC) (F : Fr3 A (en28 (wf w b c).params k.L) e4 e0 k.L k.L4 k.L1) (N : List Int) (hN : IntsAre k.vA N) (hl : N.length ≤ 9) (rest : Led) :
    ∀ (m : Nat) (v : SV) (sh : Shared),N.length - v.j = m → v.j ≤ N.length → Rp (MyK (wf w b c).params) g A0 sh.heap (LS k v ++ rest) →
    (∀ i' t' h' tk',i' < N.length → N.drop i' = (N.drop v.j).dropWhile (· == v.y) → Rp (MyK (wf w b c).params) g A0 h' (LS k { v with j := i',tj := t' } ++ rest) → R (.ok .next) { sh with heap := h',toks := tk' }) →
    (∀ t' ex vx T ts p q r h' tk',(N.drop v.j).dropWhile (· == v.y) = [] → vx[1]? = some (.ref T) → vx[2]? = some (.none) → ts[3]? = some (rawInt k.L) → Rp (MyK (wf w b c).params) g A0 h' (LS k { v with j := N.length,tj := t',sl := p,sl4 := q,sl1 := r } ++ ((ex,excO "IndexError" vx) :: (T,tbO ts) :: rest)) → R (.error (.ref ex)) { sh with heap := h',toks := tk' }) →
    codeAny (MM (wf w b c)) A (whC (sFn (wf w b c).params 1) (en28 (wf w b c).params k.L)) R sh := by
  have hlen : k.vA.length = N.length := hN.length
  intro m
  induction m with
  | zero =>
    intro v sh hm hi D h1 h2
    have hi : v.j = N.length := by omega
    have hd : N.drop v.j = [] := List.drop_eq_nil_of_le (by omega)
    refine whileRaise (st := sFn (wf w b c).params 1) rfl ?_
    have D1 := D.selA [0,4,1,2,3,5,6] (by decide)
    refine fragQ ([(k.L4,frO k.es4 k.n4 v.sl4),(k.L1,frO k.es1 k.n1 v.sl1),(k.le,lstO k.vE k.ne),(k.lm,lstO v.vM v.nM),(k.lu,lstO v.vU v.nU)] ++ rest) D1 (List.Perm.refl _) (swfe w k.L k.le k.la k.lm k.lu v.i v.ti v.j v.tj k.na k.vA v.x v.y 0 v.tx v.ty 0 v.sl v.H v.T b c) AB.hh hA (okIL _ fun nn tt om xi => oneIns (lerr_ok AB.hh (by omega) (by omega)) nilIns) ?_
    intro nn tt om xi h3 k3 D3
    have D4 : Rp (MyK (wf w b c).params) g A0 h3 ([(k.L,sf8 v.H v.T k.le k.la k.lm k.lu v.i v.ti v.j v.tj (.int v.x v.tx) (.int v.y v.ty) v.sl),(k.L4,frO k.es4 k.n4 v.sl4),(k.L1,frO k.es1 k.n1 v.sl1)] ++ ((om 0 1,excO "IndexError" #[.ref (om 0 0),.none,.none,.none,.bool false,.none]) :: ([(k.le,lstO k.vE k.ne),(k.la,lstO k.vA k.na),(k.lm,lstO v.vM v.nM),(k.lu,lstO v.vU v.nU)] ++ rest))) := D3.perm (pmEla _ _ _ _ _ _ _ _ _)
    refine noteNew F (by simp) D4 ?_
    intro T ts p q r h5 ht D5
    have D6 : Rp (MyK (wf w b c).params) g A0 h5 (LS k { v with sl := p,sl4 := q,sl1 := r } ++ ((om 0 1,excO "IndexError" (#[Value.ref (om 0 0),.none,.none,.none,.bool false,.none].setIfInBounds 1 (.ref T))) :: (T,tbO ts) :: rest)) := D5.perm (pmF _ _ _ _ _ _ _ _ _ _)
    have e : ({ v with j := N.length,tj := v.tj,sl := p,sl4 := q,sl1 := r } : SV) = { v with sl := p,sl4 := q,sl1 := r } := by rw [← hi]
    refine h2 v.tj (om 0 1) (#[Value.ref (om 0 0),.none,.none,.none,.bool false,.none].setIfInBounds 1 (.ref T)) T ts p q r h5 k3 (by rw [hd]; rfl) (by simp) (by simp) ht ?_
    rw [e]; exact D6
  | succ m ih =>
    intro v sh hm hi D h1 h2
    have hlt : v.j < N.length := by omega
    obtain ⟨z,tz,hz,hz2,hdr⟩ := are_get hN hlt
    have D1 := D.selA [0,4,1,2,3,5,6] (by decide)
    refine codeTurn (by kernel_rfl) ?_
    cases hq : (z == v.y) with
    | true =>
      have hdw : (N.drop v.j).dropWhile (· == v.y) = (N.drop (v.j + 1)).dropWhile (· == v.y) := by rw [hdr,List.dropWhile_cons,hq]; rfl
      refine fragQH (hd := none) ([(k.L4,frO k.es4 k.n4 v.sl4),(k.L1,frO k.es1 k.n1 v.sl1),(k.le,lstO k.vE k.ne),(k.lm,lstO v.vM v.nM),(k.lu,lstO v.vU v.nU)] ++ rest) D1 (List.Perm.refl _) (swft w k.L k.le k.la k.lm k.lu v.i v.ti v.j v.tj k.na k.vA v.x v.y z v.tx v.ty tz v.sl v.H v.T none b c) AB.hh hA (okIL _ fun nn tt om xi => oneIns (lget_ok hz (by omega)) (oneIns (ieq_ok AB.hh hq) (oneIns (iadd_ok AB.hh rfl) nilIns))) ?_
      intro nn tt om xi h3 k3 D3
      refine ⟨by kernel_rfl,ih { v with j := v.j + 1,tj := om 2 0 } { sh with heap := h3,toks := k3 } (by show N.length - (v.j + 1) = m; omega) hlt (D3.selB [0,2,3,4,1,5,6] (by decide)) ?_ ?_⟩
      · intro i' t' h' tk' a1 a2 a3
        exact h1 i' t' h' tk' a1 (by rw [hdw]; exact a2) a3
      · intro t' ex vx T ts p q r h' tk' a1 a2 a3 a4 a5
        exact h2 t' ex vx T ts p q r h' tk' (by rw [hdw]; exact a1) a2 a3 a4 a5
    | false =>
      have hdw : N.drop v.j = (N.drop v.j).dropWhile (· == v.y) := by
        conv => rhs; rw [hdr,List.dropWhile_cons,hq]
        exact hdr
      refine fragQH (hd := none) ([(k.L4,frO k.es4 k.n4 v.sl4),(k.L1,frO k.es1 k.n1 v.sl1),(k.le,lstO k.vE k.ne),(k.lm,lstO v.vM v.nM),(k.lu,lstO v.vU v.nU)] ++ rest) D1 (List.Perm.refl _) (swff w k.L k.le k.la k.lm k.lu v.i v.ti v.j v.tj k.na k.vA v.x v.y z v.tx v.ty tz v.sl v.H v.T none b c) AB.hh hA (okIL _ fun nn tt om xi => oneIns (lget_ok hz (by omega)) (oneIns (ieq_ok AB.hh hq) nilIns)) ?_
      intro nn tt om xi h3 k3 D3
      exact h1 v.j v.tj h3 k3 hlt hdw (D3.selB [0,2,3,4,1,5,6] (by decide))
theorem lpH (w : World) (b c : Bool) {A : Around} {g : Heap} {A0 : List Addr} {R : Result → Shared → Prop} {e4 e0 : Env} (e1 : Nat) (c1 : String) (vs1 : Array Value) (h12 : vs1[2]? = some .none) (hA : A.handled = some (.ref e1)) (k : SC) (F : Fr3 A (en28 (wf w b c).params k.L) e4 e0 k.L k.L4 k.L1) (N : List Int) (hN : IntsAre k.vA N) (hl : N.length ≤ 9) (rest : Led) :
    ∀ (m : Nat) (v : SV) (sh : Shared),N.length - v.j = m → v.j ≤ N.length → Rp (MyK (wf w b c).params) g A0 sh.heap (LS k v ++ ((e1,excO c1 vs1) :: rest)) →
    (∀ i' t' h' tk',i' < N.length → N.drop i' = (N.drop v.j).dropWhile (· == v.y) → Rp (MyK (wf w b c).params) g A0 h' (LS k { v with j := i',tj := t' } ++ ((e1,excO c1 vs1) :: rest)) → R (.ok .next) { sh with heap := h',toks := tk' }) →
    (∀ t' ex vx T ts p q r h' tk',(N.drop v.j).dropWhile (· == v.y) = [] → vx[1]? = some (.ref T) → vx[2]? = some (.ref e1) → ts[3]? = some (rawInt k.L) → Rp (MyK (wf w b c).params) g A0 h' (LS k { v with j := N.length,tj := t',sl := p,sl4 := q,sl1 := r } ++ ((ex,excO "IndexError" vx) :: (T,tbO ts) :: ((e1,excO c1 vs1) :: rest))) → R (.error (.ref ex)) { sh with heap := h',toks := tk' }) →
    codeAny (MM (wf w b c)) A (whC (sFn (wf w b c).params 1) (en28 (wf w b c).params k.L)) R sh := by
  have hlen : k.vA.length = N.length := hN.length
  intro m
  induction m with
  | zero =>
    intro v sh hm hi D h1 h2
    have hi : v.j = N.length := by omega
    have hd : N.drop v.j = [] := List.drop_eq_nil_of_le (by omega)
    refine whileRaise (st := sFn (wf w b c).params 1) rfl ?_
    have D1 := D.selA [0,4,1,2,3,5,6] (by decide)
    have D2 : Rp (MyK (wf w b c).params) g A0 sh.heap ([(k.L,sf8 v.H v.T k.le k.la k.lm k.lu v.i v.ti v.j v.tj (.int v.x v.tx) (.int v.y v.ty) v.sl),(k.la,lstO k.vA k.na),(e1,excO c1 vs1)] ++ ([(k.L4,frO k.es4 k.n4 v.sl4),(k.L1,frO k.es1 k.n1 v.sl1),(k.le,lstO k.vE k.ne),(k.lm,lstO v.vM v.nM),(k.lu,lstO v.vU v.nU)] ++ rest)) := D1.perm (pmG _ _ _ _ _ _ _ _ _)
    refine fragQH (hd := some (.ref e1)) (C := fun A => A.handled = some (.ref e1)) ([(k.L4,frO k.es4 k.n4 v.sl4),(k.L1,frO k.es1 k.n1 v.sl1),(k.le,lstO k.vE k.ne),(k.lm,lstO v.vM v.nM),(k.lu,lstO v.vU v.nU)] ++ rest) D2 (List.Perm.refl _) (swfh w k.L k.le k.la k.lm k.lu v.i v.ti v.j v.tj k.na k.vA v.x v.y 0 v.tx v.ty 0 v.sl v.H v.T (some (.ref e1)) e1 c1 vs1 b c) (fun _ h => h) hA (okIL _ fun nn tt om xi => oneIns (lerrH_ok (fun _ h => h) h12 (by omega) (by omega)) nilIns) ?_
    intro nn tt om xi h3 k3 D3
    have D4 : Rp (MyK (wf w b c).params) g A0 h3 ([(k.L,sf8 v.H v.T k.le k.la k.lm k.lu v.i v.ti v.j v.tj (.int v.x v.tx) (.int v.y v.ty) v.sl),(k.L4,frO k.es4 k.n4 v.sl4),(k.L1,frO k.es1 k.n1 v.sl1)] ++ ((om 0 1,excO "IndexError" #[.ref (om 0 0),.none,.ref e1,.none,.bool false,.none]) :: ([(k.le,lstO k.vE k.ne),(k.la,lstO k.vA k.na),(k.lm,lstO v.vM v.nM),(k.lu,lstO v.vU v.nU)] ++ ((e1,excO c1 vs1) :: rest)))) := D3.perm (pmH _ _ _ _ _ _ _ _ _ _)
    refine noteNew F (by simp) D4 ?_
    intro T ts p q r h5 ht D5
    have D6 : Rp (MyK (wf w b c).params) g A0 h5 (LS k { v with sl := p,sl4 := q,sl1 := r } ++ ((om 0 1,excO "IndexError" (#[Value.ref (om 0 0),.none,.ref e1,.none,.bool false,.none].setIfInBounds 1 (.ref T))) :: (T,tbO ts) :: ((e1,excO c1 vs1) :: rest))) := D5.perm (pmF _ _ _ _ _ _ _ _ _ _)
    have e : ({ v with j := N.length,tj := v.tj,sl := p,sl4 := q,sl1 := r } : SV) = { v with sl := p,sl4 := q,sl1 := r } := by rw [← hi]
    refine h2 v.tj (om 0 1) (#[Value.ref (om 0 0),.none,.ref e1,.none,.bool false,.none].setIfInBounds 1 (.ref T)) T ts p q r h5 k3 (by rw [hd]; rfl) (by simp) (by simp) ht ?_
    rw [e]; exact D6
  | succ m ih =>
    intro v sh hm hi D h1 h2
    have hlt : v.j < N.length := by omega
    obtain ⟨z,tz,hz,hz2,hdr⟩ := are_get hN hlt
    have D1 := D.selA [0,4,1,2,3,5,6] (by decide)
    refine codeTurn (by kernel_rfl) ?_
    cases hq : (z == v.y) with
    | true =>
      have hdw : (N.drop v.j).dropWhile (· == v.y) = (N.drop (v.j + 1)).dropWhile (· == v.y) := by rw [hdr,List.dropWhile_cons,hq]; rfl
      refine fragQH (hd := some (.ref e1)) (C := fun A => A.handled = some (.ref e1)) ([(k.L4,frO k.es4 k.n4 v.sl4),(k.L1,frO k.es1 k.n1 v.sl1),(k.le,lstO k.vE k.ne),(k.lm,lstO v.vM v.nM),(k.lu,lstO v.vU v.nU)] ++ ((e1,excO c1 vs1) :: rest)) D1 (List.Perm.refl _) (swft w k.L k.le k.la k.lm k.lu v.i v.ti v.j v.tj k.na k.vA v.x v.y z v.tx v.ty tz v.sl v.H v.T (some (.ref e1)) b c) (fun _ h => h) hA (okIL _ fun nn tt om xi => oneIns (lget_ok hz (by omega)) (oneIns (ieqH_ok (fun _ h => h) hq) (oneIns (iaddH_ok (fun _ h => h) rfl) nilIns))) ?_
      intro nn tt om xi h3 k3 D3
      refine ⟨by kernel_rfl,ih { v with j := v.j + 1,tj := om 2 0 } { sh with heap := h3,toks := k3 } (by show N.length - (v.j + 1) = m; omega) hlt (D3.selB [0,2,3,4,1,5,6] (by decide)) ?_ ?_⟩
      · intro i' t' h' tk' a1 a2 a3
        exact h1 i' t' h' tk' a1 (by rw [hdw]; exact a2) a3
      · intro t' ex vx T ts p q r h' tk' a1 a2 a3 a4 a5
        exact h2 t' ex vx T ts p q r h' tk' (by rw [hdw]; exact a1) a2 a3 a4 a5
    | false =>
      have hdw : N.drop v.j = (N.drop v.j).dropWhile (· == v.y) := by
        conv => rhs; rw [hdr,List.dropWhile_cons,hq]
        exact hdr
      refine fragQH (hd := some (.ref e1)) (C := fun A => A.handled = some (.ref e1)) ([(k.L4,frO k.es4 k.n4 v.sl4),(k.L1,frO k.es1 k.n1 v.sl1),(k.le,lstO k.vE k.ne),(k.lm,lstO v.vM v.nM),(k.lu,lstO v.vU v.nU)] ++ ((e1,excO c1 vs1) :: rest)) D1 (List.Perm.refl _) (swff w k.L k.le k.la k.lm k.lu v.i v.ti v.j v.tj k.na k.vA v.x v.y z v.tx v.ty tz v.sl v.H v.T (some (.ref e1)) b c) (fun _ h => h) hA (okIL _ fun nn tt om xi => oneIns (lget_ok hz (by omega)) (oneIns (ieqH_ok (fun _ h => h) hq) nilIns)) ?_
      intro nn tt om xi h3 k3 D3
      exact h1 v.j v.tj h3 k3 hlt hdw (D3.selB [0,2,3,4,1,5,6] (by decide))
noncomputable def sHP (P : Params) : Pos := match sTry P with | .Try _ [.ExceptHandler _ _ _ p] _ _ _ => p | _ => ⟨0,0,0,0⟩
noncomputable def sTP (P : Params) : Pos := match sTry P with | .Try _ _ _ _ p => p | _ => ⟨0,0,0,0⟩
noncomputable def sH (P : Params) : ExceptHandler := .ExceptHandler (some (sHT P)) none [sHn P 0,sHn P 1,sHn P 2] (sHP P)
theorem sTry_eq (P : Params) : sTry P = .Try (sTB P) [sH P] [] [] (sTP P) := rfl
theorem sTB_eq (P : Params) : sTB P = [(sTB P).getD 0 (.Pass ⟨0,0,0,0⟩),(sTB P).getD 1 (.Pass ⟨0,0,0,0⟩),sIf P] := rfl
theorem ix_exc : isSubtype (.type "IndexError") (.type "BaseException") = pure true := by rw [isSubtype_type]; kernel_rfl
theorem ix_tup : isSubtype (.type ((Manifest.find? "IndexError").elim "type" fun x => x.metatype)) (.type "tuple") = pure false := by rw [isSubtype_type]; kernel_rfl
theorem ix_ix : isSubtype (.type "IndexError") (.type "IndexError") = pure true := by rw [isSubtype_type]; kernel_rfl
theorem pmX {α : Type} (a b c d e f g x y : α) (r : List α) : (y :: ([a,b,c,d,e,f,g] ++ (x :: r))).Perm ([a,b,c,d,e,f,g] ++ (x :: y :: r)) := by
  classical
  refine List.perm_iff_count.mpr fun q => ?_
  simp only [List.count_append,List.count_cons,List.count_nil]
  omega
theorem pickFrom (vs : List Value) (a : Nat) (ha : a ≤ vs.length) : slicePick vs.toArray (some (Int.ofNat a)) none none = (vs.drop a).toArray := slicePick_from vs.toArray a (by rw [List.size_toArray]; exact ha)
noncomputable abbrev CHd (e : Nat) : Around → Prop := fun A => A.handled = some (.ref e)
theorem sldHan (w : World) (b c : Bool) {A : Around} {g : Heap} {A0 : List Addr} {Q : Flow → Shared → Prop} {E : Value → Shared → Prop} (k : SC) (v : SV) (hi : v.i ≤ k.vE.length) (hj : v.j ≤ k.vA.length) (h9 : k.vE.length ≤ 9) (h9' : k.vA.length ≤ 9) (hM : v.vM.length ≤ 20) (hU : v.vU.length ≤ 20)
    {ex T : Nat} {vx ts : Array Value} (hx1 : vx[1]? = some (.ref T)) (ht : 3 < ts.size) (s : Shared)
    (D : Rp (MyK (wf w b c).params) g A0 s.heap (LS k v ++ ((ex,excO "IndexError" vx) :: (T,tbO ts) :: [])))
    (h : ∀ nM nU h' tk',Rp (MyK (wf w b c).params) g A0 h' (LS k { v with vM := v.vM ++ k.vE.drop v.i,nM := nM,vU := v.vU ++ k.vA.drop v.j,nU := nU }) → Q .brk { s with heap := h',toks := tk' }) :
    wpAny (MM (wf w b c)) A (setFlight (.ref ex) none) (fun _ s₃ => wpAny (MM (wf w b c)) A (handleBy (.ref ex) (en28 (wf w b c).params k.L) [sH (wf w b c).params]) Q E s₃) E s := by
  have D0 : Rp (MyK (wf w b c).params) g A0 s.heap ((T,tbO ts) :: (LS k v ++ [(ex,excO "IndexError" vx)])) := D.perm (pmX _ _ _ _ _ _ _ _ _ _)
  refine setFl hx1 ht D0 (D.has _ (List.mem_append.mpr (.inr (.head _)))) ?_
  intro h1 D1
  generalize hts : ts.setIfInBounds 3 _ = ts1 at D1
  have ht1 : 3 < ts1.size := by rw [← hts,Array.size_setIfInBounds]; exact ht
  clear D0 D
  have he : h1.get? ex = some (excO "IndexError" vx) := D1.has _ (.tail _ (List.mem_append.mpr (.inr (.head _))))
  refine wpAny_handleBy_builtin ix_exc ix_tup ix_ix ?_
  have D2 : Rp (MyK (wf w b c).params) g A0 h1 (LS k v ++ [(T,tbO ts1),(ex,excO "IndexError" vx)]) := D1.perm (by exact List.perm_middle (l₁ := LS k v))
  have hC : CHd ex (A.mark (some (.ref ex))) := rfl
  refine fragQH (hd := some (.ref ex)) (C := CHd ex) ([(k.L4,frO k.es4 k.n4 v.sl4),(k.L1,frO k.es1 k.n1 v.sl1),(k.le,lstO k.vE k.ne),(k.la,lstO k.vA k.na),(k.lm,lstO v.vM v.nM),(k.lu,lstO v.vU v.nU)] ++ [(T,tbO ts1),(ex,excO "IndexError" vx)]) D2 (List.Perm.refl _) (sh0 (wf w b c) k.L k.le k.la k.lm k.lu v.i v.ti v.j v.tj 0 0 [] [] [] (.int v.x v.tx) (.int v.y v.ty) v.sl v.H v.T (some (.ref ex))) (fun _ h => h) hC noIns ?_
  intro nn3 tt3 om3 xi3 h3 k3 D3
  have he3 : h3.get? ex = some (excO "IndexError" vx) := D3.has _ (List.mem_append.mpr (.inr (List.mem_append.mpr (.inr (.tail _ (.head _))))))
  refine ⟨rfl,⟨_,he3,rfl⟩,?_⟩
  rw [if_pos rfl]
  have D3' : Rp (MyK (wf w b c).params) g A0 h3 ((T,tbO ts1) :: (LS k v ++ [(ex,excO "IndexError" vx)])) := D3.perm (by exact (List.perm_middle (l₁ := LS k v)).symm)
  refine setFl hx1 ht1 D3' he3 ?_
  intro h4 D4
  generalize ts1.setIfInBounds 3 _ = ts2 at D4
  have D5 : Rp (MyK (wf w b c).params) g A0 h4 (LS k v) := (D4.sub (List.sublist_cons_self _ _)).sub (List.sublist_append_left _ _)
  clear D1 D2 D3 D3' D4
  refine wpAny_execs_cons ?_
  refine fragQH (hd := some (.ref ex)) (C := CHd ex) [(k.L4,frO k.es4 k.n4 v.sl4),(k.L1,frO k.es1 k.n1 v.sl1),(k.la,lstO k.vA k.na),(k.lu,lstO v.vU v.nU)] (D5.sel [0,3,5,1,2,4,6] (by decide)) (List.Perm.refl _) (sh1 w k.L k.le k.la k.lm k.lu v.i v.ti v.j v.tj k.ne v.nM k.vE v.vM (k.vE.drop v.i) (.int v.x v.tx) (.int v.y v.ty) v.sl v.H v.T (some (.ref ex)) b c) (fun _ h => h) hC (okIL _ fun nn tt om xi => oneIns (lsl_ok (.int _ _) .none (pickFrom _ _ hi) (by omega)) (oneIns (lext_ok (by rw [List.length_drop]; omega)) nilIns)) ?_
  intro nn6 tt6 om6 xi6 h6 k6 D6
  refine wpAny_execs_cons ?_
  refine fragQH (hd := some (.ref ex)) (C := CHd ex) [(k.L4,frO k.es4 k.n4 v.sl4),(k.L1,frO k.es1 k.n1 v.sl1),(k.le,lstO k.vE k.ne),(k.lm,lstO (v.vM ++ k.vE.drop v.i) (om6 1 0))] (D6.sel [0,5,6,3,4,1,2] (by decide)) (List.Perm.refl _) (sh2 w k.L k.le k.la k.lm k.lu v.i v.ti v.j v.tj k.na v.nU k.vA v.vU (k.vA.drop v.j) (.int v.x v.tx) (.int v.y v.ty) v.sl v.H v.T (some (.ref ex)) b c) (fun _ h => h) hC (okIL _ fun nn tt om xi => oneIns (lsl_ok (.int _ _) .none (pickFrom _ _ hj) (by omega)) (oneIns (lext_ok (by rw [List.length_drop]; omega)) nilIns)) ?_
  intro nn7 tt7 om7 xi7 h7 k7 D7
  refine wpAny_execs_cons ?_
  refine fragQH (hd := some (.ref ex)) (C := CHd ex) _ (D7.sel [0,3,4,5,1,6,2] (by decide)) (List.Perm.refl _) (led := []) (sh3 (wf w b c) k.L (some (.ref ex))) (fun _ h => h) hC noIns ?_
  intro nn8 tt8 om8 xi8 h8 k8 D8
  exact h (om6 1 0) (om7 1 0) h8 k8 D8
noncomputable def ifTe (st : Stmt) : Expr := match st with | .If t _ _ _ => t | _ => .Name "x" ⟨0,0,0,0⟩
noncomputable def ifPo (st : Stmt) : Pos := match st with | .If _ _ _ p => p | _ => ⟨0,0,0,0⟩
noncomputable def whTe (st : Stmt) : Expr := match st with | .While t _ _ _ => t | _ => .Name "x" ⟨0,0,0,0⟩
noncomputable def whBo (st : Stmt) : List Stmt := match st with | .While _ b _ _ => b | _ => []
noncomputable def whOr (st : Stmt) : List Stmt := match st with | .While _ _ o _ => o | _ => []
noncomputable def whPo (st : Stmt) : Pos := match st with | .While _ _ _ p => p | _ => ⟨0,0,0,0⟩
noncomputable def trPo (st : Stmt) : Pos := match st with | .Try _ _ _ _ p => p | _ => ⟨0,0,0,0⟩
theorem sIf_eq (P : Params) : sIf P = .If (ifTe (sIf P)) [sA P 0,sA P 1,sA P 2] [sIf2 P] (ifPo (sIf P)) := rfl
theorem sIf2_eq (P : Params) : sIf2 P = .If (ifTe (sIf2 P)) [sB P 0,sB P 1,sB P 2] [sC P 0,sC P 1] (ifPo (sIf2 P)) := rfl
theorem tIf_eq (P : Params) (env : Env) : tstT (sIf P) env = isTrue (ifTe (sIf P)) env (eval (ifTe (sIf P)) env) := rfl
theorem tIf2_eq (P : Params) (env : Env) : tstT (sIf2 P) env = isTrue (ifTe (sIf2 P)) env (eval (ifTe (sIf2 P)) env) := rfl
theorem sA2_eq (P : Params) : sA P 2 = .While (whTe (sA P 2)) (whBo (sA P 2)) (whOr (sA P 2)) (whPo (sA P 2)) := rfl
theorem sB2_eq (P : Params) : sB P 2 = .While (whTe (sB P 2)) (whBo (sB P 2)) (whOr (sB P 2)) (whPo (sB P 2)) := rfl
theorem sC1_eq (P : Params) : sC1 P = .While (whTe (sC1 P)) (whBo (sC1 P)) (whOr (sC1 P)) (whPo (sC1 P)) := rfl
theorem sF1_eq (P : Params) : sFn P 1 = .While (whTe (sFn P 1)) (whBo (sFn P 1)) (whOr (sFn P 1)) (whPo (sFn P 1)) := rfl
theorem sCt_eq (P : Params) : sC P 1 = .Try [sC1 P] [] [] [sFn P 0,sFn P 1] (trPo (sC P 1)) := rfl
theorem wA_eq (P : Params) (env : Env) : Code.whileLoop (whTe (sA P 2)) (whBo (sA P 2)) (whOr (sA P 2)) env = whC (sA P 2) env := rfl
theorem wB_eq (P : Params) (env : Env) : Code.whileLoop (whTe (sB P 2)) (whBo (sB P 2)) (whOr (sB P 2)) env = whC (sB P 2) env := rfl
theorem wC_eq (P : Params) (env : Env) : Code.whileLoop (whTe (sC1 P)) (whBo (sC1 P)) (whOr (sC1 P)) env = whC (sC1 P) env := rfl
theorem wF_eq (P : Params) (env : Env) : Code.whileLoop (whTe (sFn P 1)) (whBo (sFn P 1)) (whOr (sFn P 1)) env = whC (sFn P 1) env := rfl
noncomputable def stepP (x y : Int) (E A : List Int) : (List Int × List Int) × (List Int × List Int) := match decide (x < y) with
  | true => (([x],[]),(E.dropWhile (· == x),y :: A))
  | false => match decide (x > y) with
    | true => (([],[y]),(x :: E,A.dropWhile (· == y)))
    | false => (([],[]),(E.dropWhile (· == x),A.dropWhile (· == y)))
structure IsStep (E Ac : List Int) (v v' : SV) : Prop where
  e : E.drop v'.i = (stepP v.x v.y (E.drop (v.i + 1)) (Ac.drop (v.j + 1))).2.1
  a : Ac.drop v'.j = (stepP v.x v.y (E.drop (v.i + 1)) (Ac.drop (v.j + 1))).2.2
  i : v'.i ≤ E.length
  j : v'.j ≤ Ac.length
  m : ∃ d,v'.vM = v.vM ++ d ∧ IntsAre d (stepP v.x v.y (E.drop (v.i + 1)) (Ac.drop (v.j + 1))).1.1
  u : ∃ d,v'.vU = v.vU ++ d ∧ IntsAre d (stepP v.x v.y (E.drop (v.i + 1)) (Ac.drop (v.j + 1))).1.2
theorem Fr3.mark {A : Around} {env e4 e1 : Env} {L L4 L1 : Addr} {x : Option Value} (F : Fr3 A env e4 e1 L L4 L1) : Fr3 (A.mark x) env e4 e1 L L4 L1 := ⟨F.fr,F.k,F.k4,F.k1,F.f,F.f4,F.f1⟩
theorem pmY {α : Type} (a b c d e f g x y : α) (r : List α) : (y :: ([a,b,c,d,e,f,g] ++ (x :: r))).Perm ([a,b,c,d,e,f,g] ++ (x :: y :: r)) := pmX _ _ _ _ _ _ _ _ _ _
section
variable (w : World) (b c : Bool) {A : Around} {g : Heap} {A0 : List Addr}
theorem came3 {Er : Value → Shared → Prop} {A' : Around} (k : SC) (v : SV) {e4 e0 : Env} {ex T : Nat} {vx ts : Array Value} {rest : Led} (hf : (en28 (wf w b c).params k.L).frame = some k.L) (hx : vx[1]? = some (.ref T)) (ht : ts[3]? = some (rawInt k.L)) (s : Shared)
    (D : Rp (MyK (wf w b c).params) g A0 s.heap (LS k v ++ ((ex,excO "IndexError" vx) :: (T,tbO ts) :: rest)))
    (h : ∀ h' ts',ts'[3]? = some (rawInt k.L) → Rp (MyK (wf w b c).params) g A0 h' (LS k v ++ ((ex,excO "IndexError" vx) :: (T,tbO ts') :: rest)) → Er (.ref ex) { s with heap := h' }) : cameBackBy (MM (wf w b c)) A' (en28 (wf w b c).params k.L) Er (.ref ex) s := by
  have h3 : 3 < ts.size := (Array.getElem?_eq_some_iff.mp ht).1
  refine cameBack hf hx h3 (D.perm (pmX _ _ _ _ _ _ _ _ _ _)) (D.has _ (List.mem_append.mpr (.inr (.head _)))) ?_
  intro h' ts' ht' D'
  exact h h' ts' ht' (D'.perm (pmX _ _ _ _ _ _ _ _ _ _).symm)
theorem noted3 {Er : Value → Shared → Prop} {A' : Around} (k : SC) (v : SV) {ex T : Nat} {vx ts : Array Value} {rest : Led} (hf : (en28 (wf w b c).params k.L).frame = some k.L) (hx : vx[1]? = some (.ref T)) (ht : ts[3]? = some (rawInt k.L)) (s : Shared)
    (D : Rp (MyK (wf w b c).params) g A0 s.heap (LS k v ++ ((ex,excO "IndexError" vx) :: (T,tbO ts) :: rest)))
    (h : Er (.ref ex) s) : notedBy (MM (wf w b c)) A' (en28 (wf w b c).params k.L) Er (.ref ex) s :=
  noteAgain hf hx ht (D.has _ (List.mem_append.mpr (.inr (.head _)))) (D.has _ (List.mem_append.mpr (.inr (.tail _ (.head _))))) h
theorem sldIf {Q : Flow → Shared → Prop} {Er : Value → Shared → Prop} {e4 e0 : Env} (hA : AB 839 6900 A) (k : SC) (F : Fr3 A (en28 (wf w b c).params k.L) e4 e0 k.L k.L4 k.L1) (E Ac : List Int) (hE : IntsAre k.vE E) (hAc : IntsAre k.vA Ac) (hl : E.length ≤ 9) (hl' : Ac.length ≤ 9) (v : SV) (hi : v.i < E.length) (hj : v.j < Ac.length)
    (hEi : E.drop v.i = v.x :: E.drop (v.i + 1)) (hAj : Ac.drop v.j = v.y :: Ac.drop (v.j + 1)) (hM : v.vM.length ≤ 20) (hU : v.vU.length ≤ 20) (s : Shared)
    (D : Rp (MyK (wf w b c).params) g A0 s.heap (LS k v))
    (hN : ∀ v' h' tk',IsStep E Ac v v' → Rp (MyK (wf w b c).params) g A0 h' (LS k v') → Q .next { s with heap := h',toks := tk' })
    (hX : ∀ v' ex vx T ts h' tk',IsStep E Ac v v' → (E.drop v'.i = [] ∨ Ac.drop v'.j = []) → vx[1]? = some (.ref T) → ts[3]? = some (rawInt k.L) → Rp (MyK (wf w b c).params) g A0 h' (LS k v' ++ ((ex,excO "IndexError" vx) :: (T,tbO ts) :: [])) → Er (.ref ex) { s with heap := h',toks := tk' }) :
    wpAny (MM (wf w b c)) A (execs [sIf (wf w b c).params] (en28 (wf w b c).params k.L)) Q Er s := by
  have hf := F.f
  have nilE : ∀ {Q' : Flow → Shared → Prop} {E' : Value → Shared → Prop} {s' : Shared},Q' .next s' → wpAny (MM (wf w b c)) A (execs [] (en28 (wf w b c).params k.L)) Q' E' s' := fun h => wpAny_execs_nil h
  refine wpAny_execs_cons ?_
  rw [sIf_eq]
  refine wpAny_If ?_
  rw [← tIf_eq]
  cases hlt : decide (v.x < v.y) with
  | true =>
    have hs : stepP v.x v.y (E.drop (v.i + 1)) (Ac.drop (v.j + 1)) = (([v.x],[]),((E.drop (v.i + 1)).dropWhile (· == v.x),v.y :: Ac.drop (v.j + 1))) := by unfold stepP; rw [hlt]
    refine fragQ [(k.L4,frO k.es4 k.n4 v.sl4),(k.L1,frO k.es1 k.n1 v.sl1),(k.le,lstO k.vE k.ne),(k.la,lstO k.vA k.na),(k.lm,lstO v.vM v.nM),(k.lu,lstO v.vU v.nU)] D (List.Perm.refl _) (st1 w k.L k.le k.la k.lm k.lu v.i v.ti v.j v.tj 0 [] v.x v.y v.tx v.ty true v.sl v.H v.T b c) AB.hh hA (okIL _ fun nn tt om xi => oneIns (ilt_ok AB.hh hlt) nilIns) ?_
    intro nn1 tt1 om1 xi1 h1 k1 D1
    show wpAny (MM (wf w b c)) A (execs [sA (wf w b c).params 0,sA (wf w b c).params 1,sA (wf w b c).params 2] (en28 (wf w b c).params k.L)) _ _ _
    refine wpAny_execs_cons ?_
    refine fragQ [(k.L4,frO k.es4 k.n4 v.sl4),(k.L1,frO k.es1 k.n1 v.sl1),(k.le,lstO k.vE k.ne),(k.la,lstO k.vA k.na),(k.lu,lstO v.vU v.nU)] (D1.sel [0,5,1,2,3,4,6] (by decide)) (List.Perm.refl _) (sa0 w k.L k.le k.la k.lm k.lu v.i v.ti v.j v.tj v.nM v.vM v.x v.y v.tx v.ty true v.sl v.H v.T b c) AB.hh hA (okIL _ fun nn tt om xi => oneIns (lapp_ok (by omega)) nilIns) ?_
    intro nn2 tt2 om2 xi2 h2 k2 D2
    refine wpAny_execs_cons ?_
    refine fragQ [(k.lm,lstO (v.vM ++ [.int v.x v.tx]) (v.nM + 1)),(k.L4,frO k.es4 k.n4 v.sl4),(k.L1,frO k.es1 k.n1 v.sl1),(k.le,lstO k.vE k.ne),(k.la,lstO k.vA k.na),(k.lu,lstO v.vU v.nU)] D2 (List.Perm.refl _) (sa1 w k.L k.le k.la k.lm k.lu v.i v.ti v.j v.tj 0 [] v.x v.y v.tx v.ty true v.sl v.H v.T b c) AB.hh hA (okIL _ fun nn tt om xi => oneIns (iadd_ok AB.hh rfl) nilIns) ?_
    intro nn3 tt3 om3 xi3 h3 k3 D3
    refine wpAny_execs_cons ?_
    rw [sA2_eq]
    refine wpAny_While ?_
    rw [wA_eq]
    have D3' := D3.sel [0,2,3,4,5,1,6] (by decide)
    clear D1 D2 D3
    refine lpA w b c hA k F E hE hl [] _ { v with i := v.i + 1,ti := om3 0 0,vM := v.vM ++ [.int v.x v.tx],nM := v.nM + 1 } _ rfl (by show v.i + 1 ≤ E.length; omega) D3' ?_ ?_
    · intro i' t' h' tk' a1 a2 a3
      refine nilE (nilE (hN { v with i := i',ti := t',vM := v.vM ++ [.int v.x v.tx],nM := v.nM + 1 } h' tk' ⟨?_,?_,Nat.le_of_lt a1,Nat.le_of_lt hj,⟨[.int v.x v.tx],rfl,?_⟩,⟨[],(List.append_nil _).symm,?_⟩⟩ (a3.sub (List.sublist_append_left _ _))))
      · rw [hs]; exact a2
      · rw [hs]; exact hAj
      · rw [hs]; exact .cons _ _ .nil
      · rw [hs]; exact .nil
    · intro t' ex vx T ts p q r h' tk' a1 a2 a3 a4 a5
      refine came3 w b c (e4 := e4) (e0 := e0) k _ hf a2 a4 _ a5 ?_
      intro h6 ts' ht' D6
      refine hX { v with i := E.length,ti := t',vM := v.vM ++ [.int v.x v.tx],nM := v.nM + 1,sl := p,sl4 := q,sl1 := r } ex vx T ts' h6 tk' ⟨?_,?_,Nat.le_refl _,Nat.le_of_lt hj,⟨[.int v.x v.tx],rfl,?_⟩,⟨[],(List.append_nil _).symm,?_⟩⟩ (.inl (List.drop_eq_nil_of_le (Nat.le_refl _))) a2 ht' D6
      · rw [hs]; exact (List.drop_eq_nil_of_le (Nat.le_refl _)).trans a1.symm
      · rw [hs]; exact hAj
      · rw [hs]; exact .cons _ _ .nil
      · rw [hs]; exact .nil
  | false =>
    refine fragQ [(k.L4,frO k.es4 k.n4 v.sl4),(k.L1,frO k.es1 k.n1 v.sl1),(k.le,lstO k.vE k.ne),(k.la,lstO k.vA k.na),(k.lm,lstO v.vM v.nM),(k.lu,lstO v.vU v.nU)] D (List.Perm.refl _) (st1 w k.L k.le k.la k.lm k.lu v.i v.ti v.j v.tj 0 [] v.x v.y v.tx v.ty false v.sl v.H v.T b c) AB.hh hA (okIL _ fun nn tt om xi => oneIns (ilt_ok AB.hh hlt) nilIns) ?_
    intro nn1 tt1 om1 xi1 h1 k1 D1
    show wpAny (MM (wf w b c)) A (execs [sIf2 (wf w b c).params] (en28 (wf w b c).params k.L)) _ _ _
    refine wpAny_execs_cons ?_
    rw [sIf2_eq]
    refine wpAny_If ?_
    rw [← tIf2_eq]
    cases hgt : decide (v.x > v.y) with
    | true =>
      have hs : stepP v.x v.y (E.drop (v.i + 1)) (Ac.drop (v.j + 1)) = (([],[v.y]),(v.x :: E.drop (v.i + 1),(Ac.drop (v.j + 1)).dropWhile (· == v.y))) := by unfold stepP; rw [hlt,hgt]
      refine fragQ [(k.L4,frO k.es4 k.n4 v.sl4),(k.L1,frO k.es1 k.n1 v.sl1),(k.le,lstO k.vE k.ne),(k.la,lstO k.vA k.na),(k.lm,lstO v.vM v.nM),(k.lu,lstO v.vU v.nU)] D1 (List.Perm.refl _) (st2 w k.L k.le k.la k.lm k.lu v.i v.ti v.j v.tj 0 [] v.x v.y v.tx v.ty true v.sl v.H v.T b c) AB.hh hA (okIL _ fun nn tt om xi => oneIns (igt_ok AB.hh hgt) nilIns) ?_
      intro nn9 tt9 om9 xi9 h9 k9 D9
      show wpAny (MM (wf w b c)) A (execs [sB (wf w b c).params 0,sB (wf w b c).params 1,sB (wf w b c).params 2] (en28 (wf w b c).params k.L)) _ _ _
      refine wpAny_execs_cons ?_
      refine fragQ [(k.L4,frO k.es4 k.n4 v.sl4),(k.L1,frO k.es1 k.n1 v.sl1),(k.le,lstO k.vE k.ne),(k.la,lstO k.vA k.na),(k.lm,lstO v.vM v.nM)] (D9.sel [0,6,1,2,3,4,5] (by decide)) (List.Perm.refl _) (sb0 w k.L k.le k.la k.lm k.lu v.i v.ti v.j v.tj v.nU v.vU v.x v.y v.tx v.ty true v.sl v.H v.T b c) AB.hh hA (okIL _ fun nn tt om xi => oneIns (lapp_ok (by omega)) nilIns) ?_
      intro nn2 tt2 om2 xi2 h2 k2 D2
      refine wpAny_execs_cons ?_
      refine fragQ [(k.lu,lstO (v.vU ++ [.int v.y v.ty]) (v.nU + 1)),(k.L4,frO k.es4 k.n4 v.sl4),(k.L1,frO k.es1 k.n1 v.sl1),(k.le,lstO k.vE k.ne),(k.la,lstO k.vA k.na),(k.lm,lstO v.vM v.nM)] D2 (List.Perm.refl _) (sb1 w k.L k.le k.la k.lm k.lu v.i v.ti v.j v.tj 0 [] v.x v.y v.tx v.ty true v.sl v.H v.T b c) AB.hh hA (okIL _ fun nn tt om xi => oneIns (iadd_ok AB.hh rfl) nilIns) ?_
      intro nn3 tt3 om3 xi3 h3 k3 D3
      refine wpAny_execs_cons ?_
      rw [sB2_eq]
      refine wpAny_While ?_
      rw [wB_eq]
      have D3' := D3.sel [0,2,3,4,5,6,1] (by decide)
      clear D1 D2 D3 D9
      refine lpB w b c hA k F Ac hAc hl' [] _ { v with j := v.j + 1,tj := om3 0 0,vU := v.vU ++ [.int v.y v.ty],nU := v.nU + 1 } _ rfl (by show v.j + 1 ≤ Ac.length; omega) D3' ?_ ?_
      · intro i' t' h' tk' a1 a2 a3
        refine nilE (nilE (nilE (hN { v with j := i',tj := t',vU := v.vU ++ [.int v.y v.ty],nU := v.nU + 1 } h' tk' ⟨?_,?_,Nat.le_of_lt hi,Nat.le_of_lt a1,⟨[],(List.append_nil _).symm,?_⟩,⟨[.int v.y v.ty],rfl,?_⟩⟩ (a3.sub (List.sublist_append_left _ _)))))
        · rw [hs]; exact hEi
        · rw [hs]; exact a2
        · rw [hs]; exact .nil
        · rw [hs]; exact .cons _ _ .nil
      · intro t' ex vx T ts p q r h' tk' a1 a2 a3 a4 a5
        refine came3 w b c (e4 := e4) (e0 := e0) k _ hf a2 a4 _ a5 ?_
        intro h6 ts' ht' D6
        refine hX { v with j := Ac.length,tj := t',vU := v.vU ++ [.int v.y v.ty],nU := v.nU + 1,sl := p,sl4 := q,sl1 := r } ex vx T ts' h6 tk' ⟨?_,?_,Nat.le_of_lt hi,Nat.le_refl _,⟨[],(List.append_nil _).symm,?_⟩,⟨[.int v.y v.ty],rfl,?_⟩⟩ (.inr (List.drop_eq_nil_of_le (Nat.le_refl _))) a2 ht' D6
        · rw [hs]; exact hEi
        · rw [hs]; exact (List.drop_eq_nil_of_le (Nat.le_refl _)).trans a1.symm
        · rw [hs]; exact .nil
        · rw [hs]; exact .cons _ _ .nil
    | false =>
      have hs : stepP v.x v.y (E.drop (v.i + 1)) (Ac.drop (v.j + 1)) = (([],[]),((E.drop (v.i + 1)).dropWhile (· == v.x),(Ac.drop (v.j + 1)).dropWhile (· == v.y))) := by unfold stepP; rw [hlt,hgt]
      refine fragQ [(k.L4,frO k.es4 k.n4 v.sl4),(k.L1,frO k.es1 k.n1 v.sl1),(k.le,lstO k.vE k.ne),(k.la,lstO k.vA k.na),(k.lm,lstO v.vM v.nM),(k.lu,lstO v.vU v.nU)] D1 (List.Perm.refl _) (st2 w k.L k.le k.la k.lm k.lu v.i v.ti v.j v.tj 0 [] v.x v.y v.tx v.ty false v.sl v.H v.T b c) AB.hh hA (okIL _ fun nn tt om xi => oneIns (igt_ok AB.hh hgt) nilIns) ?_
      intro nn9 tt9 om9 xi9 h9 k9 D9
      show wpAny (MM (wf w b c)) A (execs [sC (wf w b c).params 0,sC (wf w b c).params 1] (en28 (wf w b c).params k.L)) _ _ _
      refine wpAny_execs_cons ?_
      refine fragQ [(k.L4,frO k.es4 k.n4 v.sl4),(k.L1,frO k.es1 k.n1 v.sl1),(k.le,lstO k.vE k.ne),(k.la,lstO k.vA k.na),(k.lm,lstO v.vM v.nM),(k.lu,lstO v.vU v.nU)] D9 (List.Perm.refl _) (sc0 w k.L k.le k.la k.lm k.lu v.i v.ti v.j v.tj 0 [] v.x v.y v.tx v.ty true v.sl v.H v.T b c) AB.hh hA (okIL _ fun nn tt om xi => oneIns (iadd_ok AB.hh rfl) nilIns) ?_
      intro nn3 tt3 om3 xi3 h3 k3 D3
      refine wpAny_execs_cons ?_
      rw [sCt_eq]
      refine wpAny_Try_finally ?_
      refine wpAny_execs_cons ?_
      rw [sC1_eq]
      refine wpAny_While ?_
      rw [wC_eq]
      have D3' := D3.sel [0,1,2,3,4,5,6] (by decide)
      clear D1 D3 D9
      have mk : ∀ (v' : SV),v'.vM = v.vM → v'.vU = v.vU → v'.i ≤ E.length → v'.j ≤ Ac.length → E.drop v'.i = (E.drop (v.i + 1)).dropWhile (· == v.x) → Ac.drop v'.j = (Ac.drop (v.j + 1)).dropWhile (· == v.y) → IsStep E Ac v v' := fun v' q1 q2 q3 q4 q5 q6 =>
        ⟨by rw [hs]; exact q5,by rw [hs]; exact q6,q3,q4,⟨[],by rw [q1,List.append_nil],by rw [hs]; exact .nil⟩,⟨[],by rw [q2,List.append_nil],by rw [hs]; exact .nil⟩⟩
      refine lpC w b c hA k F E hE hl [] _ { v with i := v.i + 1,ti := om3 0 0 } _ rfl (by show v.i + 1 ≤ E.length; omega) D3' ?_ ?_
      · intro i' t' h4 k4 a1 a2 D4
        refine nilE (nilE ?_)
        refine wpAny_execs_cons ?_
        have D4' := (D4.sub (List.sublist_append_left _ _)).sel [0,1,2,3,4,5,6] (by decide)
        refine fragQH (hd := none) [(k.L4,frO k.es4 k.n4 v.sl4),(k.L1,frO k.es1 k.n1 v.sl1),(k.le,lstO k.vE k.ne),(k.la,lstO k.vA k.na),(k.lm,lstO v.vM v.nM),(k.lu,lstO v.vU v.nU)] D4' (List.Perm.refl _) (sf0 w k.L k.le k.la k.lm k.lu i' t' v.j v.tj 0 [] v.x v.y v.tx v.ty true v.sl v.H v.T none b c) AB.hh hA (okIL _ fun nn tt om xi => oneIns (iadd_ok AB.hh rfl) nilIns) ?_
        intro nn5 tt5 om5 xi5 h5 k5 D5
        refine wpAny_execs_cons ?_
        rw [sF1_eq]
        refine wpAny_While ?_
        rw [wF_eq]
        refine lpF w b c hA k F Ac hAc hl' [] _ { v with i := i',ti := t',j := v.j + 1,tj := om5 0 0 } _ rfl (by show v.j + 1 ≤ Ac.length; omega) (D5.sel [0,1,2,3,4,5,6] (by decide)) ?_ ?_
        · intro j' u' h6 k6 c1 c2 D6
          exact nilE (nilE (nilE (nilE (hN { v with i := i',ti := t',j := j',tj := u' } h6 k6 (mk { v with i := i',ti := t',j := j',tj := u' } rfl rfl (Nat.le_of_lt a1) (Nat.le_of_lt c1) a2 c2) (D6.sub (List.sublist_append_left _ _))))))
        · intro u' ex vx T ts p q r h6 k6 c1 c2 c3 c4 D6
          refine came3 w b c (e4 := e4) (e0 := e0) k _ hf c2 c4 _ D6 ?_
          intro h7 ts' ht' D7
          refine noted3 w b c k _ hf c2 ht' _ D7 ?_
          refine came3 w b c (e4 := e4) (e0 := e0) k _ hf c2 ht' _ D7 ?_
          intro h8 ts2 ht2 D8
          exact hX { v with i := i',ti := t',j := Ac.length,tj := u',sl := p,sl4 := q,sl1 := r } ex vx T ts2 h8 k6 (mk { v with i := i',ti := t',j := Ac.length,tj := u',sl := p,sl4 := q,sl1 := r } rfl rfl (Nat.le_of_lt a1) (Nat.le_refl _) a2 ((List.drop_eq_nil_of_le (Nat.le_refl _)).trans c1.symm)) (.inr (List.drop_eq_nil_of_le (Nat.le_refl _))) c2 ht2 D8
      · intro t' ex vx T ts p q r h4 k4 a1 a2 a3 a4 D4
        refine came3 w b c (e4 := e4) (e0 := e0) k _ hf a2 a4 _ D4 ?_
        intro h5 ts' ht' D5
        have e5 := D5.has _ (List.mem_append.mpr (.inr (.head _)))
        have t5 := D5.has _ (List.mem_append.mpr (.inr (.tail _ (.head _))))
        refine noteAgain hf a2 ht' e5 t5 ?_
        refine ⟨ref_ne_byPass _,noteAgain hf a2 ht' e5 t5 ?_⟩
        have h3s : 3 < ts'.size := (Array.getElem?_eq_some_iff.mp ht').1
        refine setFl a2 h3s (D5.perm (pmX _ _ _ _ _ _ _ _ _ _)) (D5.has _ (List.mem_append.mpr (.inr (.head _)))) ?_
        intro h6 D6
        generalize hts : ts'.setIfInBounds 3 _ = ts1 at D6
        have ht1 : 3 < ts1.size := by rw [← hts,Array.size_setIfInBounds]; exact h3s
        have hC : CHd ex (A.mark (some (.ref ex))) := rfl
        refine wpAny_execs_cons ?_
        refine fragQH (hd := some (.ref ex)) (C := CHd ex) ([(k.L4,frO k.es4 k.n4 q),(k.L1,frO k.es1 k.n1 r),(k.le,lstO k.vE k.ne),(k.la,lstO k.vA k.na),(k.lm,lstO v.vM v.nM),(k.lu,lstO v.vU v.nU)] ++ ((ex,excO "IndexError" vx) :: (T,tbO ts1) :: [])) (D6.perm (pmX _ _ _ _ _ _ _ _ _ _).symm) (List.Perm.refl _) (sf0 w k.L k.le k.la k.lm k.lu E.length t' v.j v.tj 0 [] v.x v.y v.tx v.ty true p v.H v.T (some (.ref ex)) b c) (fun _ h => h) hC (okIL _ fun nn tt om xi => oneIns (iaddH_ok (fun _ h => h) rfl) nilIns) ?_
        intro nn7 tt7 om7 xi7 h7 k7 D7
        refine wpAny_execs_cons ?_
        rw [sF1_eq]
        refine wpAny_While ?_
        rw [wF_eq]
        refine lpH w b c ex "IndexError" vx a3 hC k F.mark Ac hAc hl' [(T,tbO ts1)] _ { v with i := E.length,ti := t',j := v.j + 1,tj := om7 0 0,sl := p,sl4 := q,sl1 := r } _ rfl (by show v.j + 1 ≤ Ac.length; omega) D7 ?_ ?_
        · intro j' u' h8 k8 c1 c2 D8
          refine wpAny_execs_nil ?_
          refine passOnL hf a2 ht1 (D8.perm (pmX _ _ _ _ _ _ _ _ _ _)) (D8.has _ (List.mem_append.mpr (.inr (.head _)))) ?_
          intro h9 ts2 ht2 D9
          exact hX _ ex vx T ts2 h9 k8 (mk { v with i := E.length,ti := t',j := j',tj := u',sl := p,sl4 := q,sl1 := r } rfl rfl (Nat.le_refl _) (Nat.le_of_lt c1) ((List.drop_eq_nil_of_le (Nat.le_refl _)).trans a1.symm) c2) (.inl (List.drop_eq_nil_of_le (Nat.le_refl _))) a2 ht2 (D9.perm (pmX _ _ _ _ _ _ _ _ _ _).symm)
        · intro u' ex2 vx2 T2 ts2 p2 q2 r2 h8 k8 c1 c2 c3 c4 D8
          refine came3 w b c (e4 := e4) (e0 := e0) k _ hf c2 c4 _ D8 ?_
          intro h9 ts3 ht3 D9
          refine noted3 w b c k _ hf c2 ht3 _ D9 ?_
          refine came3 w b c (e4 := e4) (e0 := e0) k _ hf c2 ht3 _ D9 ?_
          intro h10 ts4 ht4 D10
          refine hX _ ex2 vx2 T2 ts4 h10 k8 (mk { v with i := E.length,ti := t',j := Ac.length,tj := u',sl := p2,sl4 := q2,sl1 := r2 } rfl rfl (Nat.le_refl _) (Nat.le_refl _) ((List.drop_eq_nil_of_le (Nat.le_refl _)).trans a1.symm) ((List.drop_eq_nil_of_le (Nat.le_refl _)).trans c1.symm)) (.inl (List.drop_eq_nil_of_le (Nat.le_refl _))) c2 ht4 (D10.sub ?_)
          exact List.Sublist.append_left (List.Sublist.cons_cons _ (List.Sublist.cons_cons _ (List.nil_sublist _))) _
end
noncomputable def sldF : Nat → List Int → List Int → List Int × List Int
  | 0,E,A => (E,A)
  | n + 1,x :: E,y :: A => ((stepP x y E A).1.1 ++ (sldF n (stepP x y E A).2.1 (stepP x y E A).2.2).1,(stepP x y E A).1.2 ++ (sldF n (stepP x y E A).2.1 (stepP x y E A).2.2).2)
  | _ + 1,[],A => ([],A)
  | _ + 1,x :: E,[] => (x :: E,[])
theorem sldF_nilE (n : Nat) (A : List Int) : sldF n [] A = ([],A) := by cases n <;> rfl
theorem sldF_nilA (n : Nat) (E : List Int) : sldF n E [] = (E,[]) := by cases n <;> cases E <;> rfl
theorem sldF_or {n : Nat} {E A : List Int} (h : E = [] ∨ A = []) : sldF n E A = (E,A) := by
  rcases h with rfl | rfl
  · exact sldF_nilE n A
  · exact sldF_nilA n E
theorem are_drop {vs : List Value} {ns : List Int} (h : IntsAre vs ns) (k : Nat) : IntsAre (vs.drop k) (ns.drop k) := by
  obtain ⟨t,e⟩ := are_iv h
  rw [e]; exact iv_drop k ns t
theorem are_cat {a b : List Value} {x y : List Int} (h : IntsAre a x) (h' : IntsAre b y) : IntsAre (a ++ b) (x ++ y) := by
  induction h with
  | nil => exact h'
  | cons n t _ ih => exact .cons _ _ ih
theorem stepP_len (x y : Int) (E A : List Int) : (stepP x y E A).1.1.length + (stepP x y E A).2.1.length ≤ E.length + 1 ∧ (stepP x y E A).1.2.length + (stepP x y E A).2.2.length ≤ A.length + 1 ∧ (stepP x y E A).2.1.length + (stepP x y E A).2.2.length ≤ E.length + A.length + 1 := by
  have h1 := (List.dropWhile_sublist (l := E) (fun z => z == x)).length_le
  have h2 := (List.dropWhile_sublist (l := A) (fun z => z == y)).length_le
  unfold stepP
  split
  · simp only [List.length_cons,List.length_nil]; omega
  · split
    · simp only [List.length_cons,List.length_nil]; omega
    · simp only [List.length_nil]; omega
section
variable (w : World) (b c : Bool) {A : Around} {g : Heap} {A0 : List Addr}
theorem sldC {Q : Flow → Shared → Prop} {Er : Value → Shared → Prop} {e4 e0 : Env} (hA : AB 839 6900 A) (k : SC) (F : Fr3 A (en28 (wf w b c).params k.L) e4 e0 k.L k.L4 k.L1) (E Ac : List Int) (hE : IntsAre k.vE E) (hAc : IntsAre k.vA Ac) (hl : E.length ≤ 9) (hl' : Ac.length ≤ 9) (v : SV) (hi : v.i < E.length) (hj : v.j < Ac.length)
    (hEi : E.drop v.i = v.x :: E.drop (v.i + 1)) (hAj : Ac.drop v.j = v.y :: Ac.drop (v.j + 1)) (hM : v.vM.length ≤ 9) (hU : v.vU.length ≤ 9) (s : Shared)
    (D : Rp (MyK (wf w b c).params) g A0 s.heap (LS k v))
    (hN : ∀ v' h' tk',IsStep E Ac v v' → Rp (MyK (wf w b c).params) g A0 h' (LS k v') → Q .next { s with heap := h',toks := tk' })
    (hX : ∀ (v' : SV) nM nU h' tk',IsStep E Ac v v' → (E.drop v'.i = [] ∨ Ac.drop v'.j = []) → Rp (MyK (wf w b c).params) g A0 h' (LS k { v' with vM := v'.vM ++ k.vE.drop v'.i,nM := nM,vU := v'.vU ++ k.vA.drop v'.j,nU := nU }) → Q .brk { s with heap := h',toks := tk' }) :
    wpAny (MM (wf w b c)) A (execs [sIf (wf w b c).params] (en28 (wf w b c).params k.L)) (fun f s₁ => match f with | .next => wpAny (MM (wf w b c)) A (execs [] (en28 (wf w b c).params k.L)) Q Er s₁ | f => Q f s₁)
      (fun e s₁ => wpAny (MM (wf w b c)) A (noteFrame e (en28 (wf w b c).params k.L)) (fun _ s₂ => wpAny (MM (wf w b c)) A (setFlight e none) (fun _ s₃ => wpAny (MM (wf w b c)) A (handleBy e (en28 (wf w b c).params k.L) [sH (wf w b c).params]) Q Er s₃) Er s₂) Er s₁) s := by
  refine sldIf w b c hA k F E Ac hE hAc hl hl' v hi hj hEi hAj (by omega) (by omega) s D ?_ ?_
  · intro v' h' tk' hs D'
    exact wpAny_execs_nil (hN v' h' tk' hs D')
  · intro v' ex vx T ts h' tk' hs hor hx ht D'
    have h3 : 3 < ts.size := (Array.getElem?_eq_some_iff.mp ht).1
    refine noteAgain F.f hx ht (D'.has _ (List.mem_append.mpr (.inr (.head _)))) (D'.has _ (List.mem_append.mpr (.inr (.tail _ (.head _))))) ?_
    obtain ⟨dm,em,am⟩ := hs.m
    obtain ⟨du,eu,au⟩ := hs.u
    have hst := stepP_len v.x v.y (E.drop (v.i + 1)) (Ac.drop (v.j + 1))
    have l1 := am.length
    have l2 := au.length
    rw [List.length_drop,List.length_drop] at hst
    refine sldHan w b c k v' (by rw [hE.length]; exact hs.i) (by rw [hAc.length]; exact hs.j) (by rw [hE.length]; exact hl) (by rw [hAc.length]; exact hl') (by rw [em,List.length_append]; omega) (by rw [eu,List.length_append]; omega) hx h3 _ D' ?_
    intro nM nU h2 tk2 D2
    exact hX v' nM nU h2 tk2 hs hor D2
theorem sldNew {Q : Flow → Shared → Prop} {Er : Value → Shared → Prop} {e4 e0 : Env} (k : SC) (F : Fr3 A (en28 (wf w b c).params k.L) e4 e0 k.L k.L4 k.L1) (v : SV) (hi : v.i ≤ k.vE.length) (hj : v.j ≤ k.vA.length) (h9 : k.vE.length ≤ 9) (h9' : k.vA.length ≤ 9) (hM : v.vM.length ≤ 20) (hU : v.vU.length ≤ 20) (ex tp : Nat) (s : Shared)
    (D : Rp (MyK (wf w b c).params) g A0 s.heap ([(k.L,sf8 v.H v.T k.le k.la k.lm k.lu v.i v.ti v.j v.tj (.int v.x v.tx) (.int v.y v.ty) v.sl),(k.L4,frO k.es4 k.n4 v.sl4),(k.L1,frO k.es1 k.n1 v.sl1)] ++ ((ex,excO "IndexError" #[.ref tp,.none,.none,.none,.bool false,.none]) :: [(k.le,lstO k.vE k.ne),(k.la,lstO k.vA k.na),(k.lm,lstO v.vM v.nM),(k.lu,lstO v.vU v.nU)])))
    (h : ∀ (v' : SV) h' tk',v'.vM = v.vM ++ k.vE.drop v.i → v'.vU = v.vU ++ k.vA.drop v.j → Rp (MyK (wf w b c).params) g A0 h' (LS k v') → Q .brk { s with heap := h',toks := tk' }) :
    wpAny (MM (wf w b c)) A (noteFrame (.ref ex) (en28 (wf w b c).params k.L)) (fun _ s₂ => wpAny (MM (wf w b c)) A (setFlight (.ref ex) none) (fun _ s₃ => wpAny (MM (wf w b c)) A (handleBy (.ref ex) (en28 (wf w b c).params k.L) [sH (wf w b c).params]) Q Er s₃) Er s₂) Er s := by
  refine noteNew F (by simp) D ?_
  intro T ts p q r h5 ht D5
  have h3 : 3 < ts.size := (Array.getElem?_eq_some_iff.mp ht).1
  refine sldHan w b c k { v with sl := p,sl4 := q,sl1 := r } hi hj h9 h9' hM hU (vx := #[Value.ref tp,.none,.none,.none,.bool false,.none].setIfInBounds 1 (.ref T)) (by simp) h3 _ (D5.perm (pmF _ _ _ _ _ _ _ _ _ [])) ?_
  intro nM nU h6 tk6 D6
  exact h _ h6 tk6 rfl rfl D6
theorem while28 (P : Params) : nthS P 28 3 = .While (whTe (nthS P 28 3)) [sTry P] (whOr (nthS P 28 3)) (whPo (nthS P 28 3)) := rfl
theorem sldLoop {R : Result → Shared → Prop} {e4 e0 : Env} (hA : AB 839 6900 A) (k : SC) (F : Fr3 A (en28 (wf w b c).params k.L) e4 e0 k.L k.L4 k.L1) (E Ac : List Int) (hE : IntsAre k.vE E) (hAc : IntsAre k.vA Ac) (hl : E.length ≤ 9) (hl' : Ac.length ≤ 9) :
    ∀ (n : Nat) (v : SV) (ms us : List Int) (sh : Shared),(E.drop v.i).length + (Ac.drop v.j).length ≤ n → v.i ≤ E.length → v.j ≤ Ac.length → IntsAre v.vM ms → IntsAre v.vU us → ms.length + (E.drop v.i).length ≤ 9 → us.length + (Ac.drop v.j).length ≤ 9 →
    Rp (MyK (wf w b c).params) g A0 sh.heap (LS k v) →
    (∀ v' h' tk',IntsAre v'.vM (ms ++ (sldF n (E.drop v.i) (Ac.drop v.j)).1) → IntsAre v'.vU (us ++ (sldF n (E.drop v.i) (Ac.drop v.j)).2) → Rp (MyK (wf w b c).params) g A0 h' (LS k v') → R (.ok .next) { sh with heap := h',toks := tk' }) →
    codeAny (MM (wf w b c)) A (whC (nthS (wf w b c).params 28 3) (en28 (wf w b c).params k.L)) R sh := by
  have hsz := hE.length
  have hsz' := hAc.length
  -- a turn that raises at once
  have rE : ∀ (n : Nat) (v : SV) (ms us : List Int) (sh : Shared),v.i = E.length → v.j ≤ Ac.length → IntsAre v.vM ms → IntsAre v.vU us → ms.length ≤ 9 → us.length ≤ 9 → Rp (MyK (wf w b c).params) g A0 sh.heap (LS k v) →
      (∀ v' h' tk',IntsAre v'.vM (ms ++ (sldF n (E.drop v.i) (Ac.drop v.j)).1) → IntsAre v'.vU (us ++ (sldF n (E.drop v.i) (Ac.drop v.j)).2) → Rp (MyK (wf w b c).params) g A0 h' (LS k v') → R (.ok .next) { sh with heap := h',toks := tk' }) →
      codeAny (MM (wf w b c)) A (whC (nthS (wf w b c).params 28 3) (en28 (wf w b c).params k.L)) R sh := by
    intro n v ms us sh hi hj hms hus b1 b2 D hR
    have e1 : E.drop v.i = [] := List.drop_eq_nil_of_le (by omega)
    refine whileGo (while28 _) ?_
    refine fragQ (LS k v) D (List.Perm.refl _) (wt (wf w b c) k.L 0 0 0 0 0 0 0 0 #[] (fun _ => 0) (fun _ => 0)) AB.hh hA noIns ?_
    intro nn1 tt1 om1 xi1 h1 k1 D1
    refine ⟨rfl,wpAny_execs_cons ?_⟩
    rw [sTry_eq]
    refine wpAny_Try_except ?_
    rw [sTB_eq]
    refine wpAny_execs_cons ?_
    refine fragQ [(k.L4,frO k.es4 k.n4 v.sl4),(k.L1,frO k.es1 k.n1 v.sl1),(k.la,lstO k.vA k.na),(k.lm,lstO v.vM v.nM),(k.lu,lstO v.vU v.nU)] (D1.sel [0,3,1,2,4,5,6] (by decide)) (List.Perm.refl _) (s1e w k.L k.le k.la k.lm k.lu v.i v.ti v.j v.tj k.ne k.vE 0 0 (.int v.x v.tx) (.int v.y v.ty) v.sl v.H v.T b c) AB.hh hA (okIL _ fun nn tt om xi => oneIns (lerr_ok AB.hh (by omega) (by omega)) nilIns) ?_
    intro nn2 tt2 om2 xi2 h2 k2 D2
    refine sldNew w b c k F v (by omega) (by omega) (by omega) (by omega) (by rw [hms.length]; omega) (by rw [hus.length]; omega) (om2 0 1) (om2 0 0) _ (D2.sel [0,3,4,2,1,5,6,7] (by decide)) ?_
    intro v' h3 k3 em eu D3
    refine hR v' h3 k3 ?_ ?_ D3
    · rw [em,sldF_or (.inl e1)]; exact are_cat hms (are_drop hE _)
    · rw [eu,sldF_or (.inl e1)]; exact are_cat hus (are_drop hAc _)
  intro n
  induction n with
  | zero =>
    intro v ms us sh hn hi hj hms hus b1 b2 D hR
    have e1 : (E.drop v.i).length = 0 := by omega
    rw [List.length_drop] at e1
    exact rE 0 v ms us sh (by omega) hj hms hus (by omega) (by omega) D hR
  | succ n ih =>
    intro v ms us sh hn hi hj hms hus b1 b2 D hR
    by_cases hie : v.i = E.length
    · exact rE (n + 1) v ms us sh hie hj hms hus (by omega) (by omega) D hR
    have hlt : v.i < E.length := by omega
    obtain ⟨x,tx,hx,hx2,hxd⟩ := are_get hE hlt
    refine whileGo (while28 _) ?_
    refine fragQ (LS k v) D (List.Perm.refl _) (wt (wf w b c) k.L 0 0 0 0 0 0 0 0 #[] (fun _ => 0) (fun _ => 0)) AB.hh hA noIns ?_
    intro nn1 tt1 om1 xi1 h1 k1 D1
    refine ⟨rfl,wpAny_execs_cons ?_⟩
    rw [sTry_eq]
    refine wpAny_Try_except ?_
    rw [sTB_eq]
    refine wpAny_execs_cons ?_
    refine fragQ [(k.L4,frO k.es4 k.n4 v.sl4),(k.L1,frO k.es1 k.n1 v.sl1),(k.la,lstO k.vA k.na),(k.lm,lstO v.vM v.nM),(k.lu,lstO v.vU v.nU)] (D1.sel [0,3,1,2,4,5,6] (by decide)) (List.Perm.refl _) (s1b w k.L k.le k.la k.lm k.lu v.i v.ti v.j v.tj k.ne k.vE x tx (.int v.x v.tx) (.int v.y v.ty) v.sl v.H v.T b c) AB.hh hA (okIL _ fun nn tt om xi => oneIns (lget_ok hx (by omega)) nilIns) ?_
    intro nn2 tt2 om2 xi2 h2 k2 D2
    refine wpAny_execs_cons ?_
    by_cases hje : v.j = Ac.length
    · have e2 : Ac.drop v.j = [] := List.drop_eq_nil_of_le (by omega)
      refine fragQ [(k.le,lstO k.vE k.ne),(k.L4,frO k.es4 k.n4 v.sl4),(k.L1,frO k.es1 k.n1 v.sl1),(k.lm,lstO v.vM v.nM),(k.lu,lstO v.vU v.nU)] (D2.sel [0,4,1,2,3,5,6] (by decide)) (List.Perm.refl _) (s2e w k.L k.le k.la k.lm k.lu v.i v.ti v.j v.tj k.na k.vA 0 0 (.int x tx) (.int v.y v.ty) v.sl v.H v.T b c) AB.hh hA (okIL _ fun nn tt om xi => oneIns (lerr_ok AB.hh (by omega) (by omega)) nilIns) ?_
      intro nn3 tt3 om3 xi3 h3 k3 D3
      refine sldNew w b c k F { v with x := x,tx := tx } (by show v.i ≤ _; omega) (by show v.j ≤ _; omega) (by omega) (by omega) (by show v.vM.length ≤ _; rw [hms.length]; omega) (by show v.vU.length ≤ _; rw [hus.length]; omega) (om3 0 1) (om3 0 0) _ (D3.sel [0,4,5,2,3,1,6,7] (by decide)) ?_
      intro v' h4 k4 em eu D4
      refine hR v' h4 k4 ?_ ?_ D4
      · rw [em,sldF_or (.inr e2)]; exact are_cat hms (are_drop hE _)
      · rw [eu,sldF_or (.inr e2)]; exact are_cat hus (are_drop hAc _)
    · have hjt : v.j < Ac.length := by omega
      obtain ⟨y,ty,hy,hy2,hyd⟩ := are_get hAc hjt
      refine fragQ [(k.le,lstO k.vE k.ne),(k.L4,frO k.es4 k.n4 v.sl4),(k.L1,frO k.es1 k.n1 v.sl1),(k.lm,lstO v.vM v.nM),(k.lu,lstO v.vU v.nU)] (D2.sel [0,4,1,2,3,5,6] (by decide)) (List.Perm.refl _) (s2b w k.L k.le k.la k.lm k.lu v.i v.ti v.j v.tj k.na k.vA y ty (.int x tx) (.int v.y v.ty) v.sl v.H v.T b c) AB.hh hA (okIL _ fun nn tt om xi => oneIns (lget_ok hy (by omega)) nilIns) ?_
      intro nn3 tt3 om3 xi3 h3 k3 D3
      have hst := stepP_len x y (E.drop (v.i + 1)) (Ac.drop (v.j + 1))
      rw [List.length_drop,List.length_drop] at hst
      rw [List.length_drop] at b1 b2
      rw [List.length_drop,List.length_drop] at hn
      have lm := hms.length
      have lu := hus.length
      refine sldC w b c hA k F E Ac hE hAc hl hl' { v with x := x,tx := tx,y := y,ty := ty } hlt hjt hxd hyd (by show v.vM.length ≤ 9; omega) (by show v.vU.length ≤ 9; omega) _ (D3.sel [0,3,4,2,1,5,6] (by decide)) ?_ ?_
      · intro v' h4 k4 hs D4
        obtain ⟨dm,em,am⟩ := hs.m
        obtain ⟨du,eu,au⟩ := hs.u
        have em : v'.vM = v.vM ++ dm := em
        have eu : v'.vU = v.vU ++ du := eu
        have se : E.drop v'.i = (stepP x y (E.drop (v.i + 1)) (Ac.drop (v.j + 1))).2.1 := hs.e
        have sa : Ac.drop v'.j = (stepP x y (E.drop (v.i + 1)) (Ac.drop (v.j + 1))).2.2 := hs.a
        refine wpAny_execs_nil ?_
        refine ih v' (ms ++ (stepP x y (E.drop (v.i + 1)) (Ac.drop (v.j + 1))).1.1) (us ++ (stepP x y (E.drop (v.i + 1)) (Ac.drop (v.j + 1))).1.2) _ ?_ hs.i hs.j (by rw [em]; exact are_cat hms am) (by rw [eu]; exact are_cat hus au) ?_ ?_ D4 ?_
        · rw [se,sa]; omega
        · rw [se,List.length_append]; omega
        · rw [sa,List.length_append]; omega
        · intro v2 h5 k5 q1 q2 D5
          refine hR v2 h5 k5 ?_ ?_ D5
          · rw [hxd,hyd]
            show IntsAre v2.vM (ms ++ ((stepP x y _ _).1.1 ++ _))
            rw [← List.append_assoc,← se,← sa]
            exact q1
          · rw [hxd,hyd]
            show IntsAre v2.vU (us ++ ((stepP x y _ _).1.2 ++ _))
            rw [← List.append_assoc,← se,← sa]
            exact q2
      · intro v' nM nU h4 k4 hs hor D4
        obtain ⟨dm,em,am⟩ := hs.m
        obtain ⟨du,eu,au⟩ := hs.u
        have em : v'.vM = v.vM ++ dm := em
        have eu : v'.vU = v.vU ++ du := eu
        have se : E.drop v'.i = (stepP x y (E.drop (v.i + 1)) (Ac.drop (v.j + 1))).2.1 := hs.e
        have sa : Ac.drop v'.j = (stepP x y (E.drop (v.i + 1)) (Ac.drop (v.j + 1))).2.2 := hs.a
        have hq := sldF_or (n := n) hor
        refine hR _ h4 k4 ?_ ?_ D4
        · rw [hxd,hyd]
          show IntsAre (v'.vM ++ k.vE.drop v'.i) (ms ++ ((stepP x y _ _).1.1 ++ (sldF n _ _).1))
          rw [← se,← sa,hq,← List.append_assoc,em]
          exact are_cat (are_cat hms am) (are_drop hE _)
        · rw [hxd,hyd]
          show IntsAre (v'.vU ++ k.vA.drop v'.j) (us ++ ((stepP x y _ _).1.2 ++ (sldF n _ _).2))
          rw [← se,← sa,hq,← List.append_assoc,eu]
          exact are_cat (are_cat hus au) (are_drop hAc _)
theorem fn28 (P : Params) : fnOk P 28 := ⟨_,_,_,_,_,rfl,rfl,rfl,rfl,rfl,rfl,rfl⟩
theorem body28 (P : Params) : bodyOf P 28 = [nthS P 28 0,nthS P 28 1,nthS P 28 2,nthS P 28 3,nthS P 28 4] := rfl
theorem w28_eq (P : Params) (env : Env) : Code.whileLoop (whTe (nthS P 28 3)) [sTry P] (whOr (nthS P 28 3)) env = whC (nthS P 28 3) env := rfl
theorem kind28 (P : Params) (L : Nat) : (envAt P 28 L).scope.kind ≠ .module := by
  have e : (envAt P 28 L).scope.kind = .function := rfl
  rw [e]; intro z; cases z
theorem kind204 (P : Params) (L : Nat) : (envAt P 204 L).scope.kind ≠ .module := by
  have e : (envAt P 204 L).scope.kind = .function := rfl
  rw [e]; intro z; cases z
theorem kind218 (P : Params) (L : Nat) : (envAt P 218 L).scope.kind ≠ .module := by
  have e : (envAt P 218 L).scope.kind = .function := rfl
  rw [e]; intro z; cases z
structure C4 (e4 e1 : Env) (L4 L1 : Nat) (A : Around) : Prop where
  ab : AB 790 6000 A
  fr : A.frames = some [e4,e1]
  k4 : e4.scope.kind ≠ .module
  k1 : e1.scope.kind ≠ .module
  f4 : e4.frame = some L4
  f1 : e1.frame = some L1
theorem C4.hh {e4 e1 : Env} {L4 L1 : Nat} : ∀ A,C4 e4 e1 L4 L1 A → A.handled = none := fun _ h => h.ab.1
noncomputable def sldR (E Ac : List Int) : List Int × List Int := sldF (E.length + Ac.length) E Ac
noncomputable def sldI (jE jA j4 j1 le la L4 L1 : Nat) (vE : List Value) (ne : Nat) (vA : List Value) (na : Nat) (E Ac : List Int) (es4 : List DictEntry) (n4 : Nat) (sl4 : Slots) (es1 : List DictEntry) (n1 : Nat) (sl1 : Slots) : Inst :=
  ⟨.call (.ref 28) ⟨[.ref le,.ref la],[]⟩,[(jE,le,lstO vE ne),(jA,la,lstO vA na),(j4,L4,frO es4 n4 sl4),(j1,L1,frO es1 n1 sl1)],fun ω _ => .ok (.ret (.ref (ω 0))),
   fun ω ξ => [lstO vE ne,lstO vA na,frO es4 n4 (ξ 0),frO es1 n1 (ξ 1)],
   fun ω _ => [(ω 0,tupO [.ref (ω 1),.ref (ω 2)]),(ω 1,lstO (iv (sldR E Ac).1 fun i => ω (2 * i + 5)) (ω 3)),(ω 2,lstO (iv (sldR E Ac).2 fun i => ω (2 * i + 6)) (ω 4))]⟩
theorem sld_ok (w : World) (b c : Bool) (jE jA j4 j1 le la L4 L1 : Nat) (vE : List Value) (ne : Nat) (vA : List Value) (na : Nat) (E Ac : List Int) (es4 : List DictEntry) (n4 : Nat) (sl4 : Slots) (es1 : List DictEntry) (n1 : Nat) (sl1 : Slots) (hE : IntsAre vE E) (hAc : IntsAre vA Ac) (hl : E.length ≤ 9) (hl' : Ac.length ≤ 9) (h0 : 0 < E.length) (h0' : 0 < Ac.length) (e4 e1 : Env) :
    IOk theP (wf w b c) (MyK (wf w b c).params) (C4 e4 e1 L4 L1) (sldI jE jA j4 j1 le la L4 L1 vE ne vA na E Ac es4 n4 sl4 es1 n1 sl1) := by
  intro A s R hA hK hn hd ho hlo hR
  have D := Rp.start _ hK hn hd ho hlo
  refine x_call ?_ (by intro z; cases z)
  refine enterFn 28 60 _ [.ref le,.ref la] [("expected",.ref le),("actual",.ref la)] _ (fn28 _) (by kernel_rfl) hA.ab.1 (limit_ok (Nat.le_trans hA.ab.2.1 (by decide))) D (fun nn tt om xi ps => n28 (wf w b c) le la nn tt om xi ps) ?_
  intro L T h1 k1 D1
  have hA' : AB 839 6900 ((A.mark none).deeper (envAt (wf w b c).params 28 L)) := (AB.deep hA.ab).mono (by decide) (by decide)
  have F : Fr3 ((A.mark none).deeper (envAt (wf w b c).params 28 L)) (en28 (wf w b c).params L) e4 e1 L L4 L1 :=
    ⟨Around.frames_deeper hA.fr,kind28 _ _,hA.k4,hA.k1,rfl,hA.f4,hA.f1⟩
  refine ks_codeAny_funcAt (wpAt_of_wpAny ?_)
  rw [body28]
  refine wpAny_execs_cons ?_
  refine fragQ [(le,lstO vE ne),(la,lstO vA na),(L4,frO es4 n4 sl4),(L1,frO es1 n1 sl1)] (D1.sel [4,0,1,2,3] (by decide)) (List.Perm.refl _) (z0 (wf w b c) L le la 0 0 0 0 0 0 #[] _ _) AB.hh hA' noIns ?_
  intro nn2 tt2 om2 xi2 h2 k2 D2
  refine wpAny_execs_cons ?_
  refine fragQ [(le,lstO vE ne),(la,lstO vA na),(L4,frO es4 n4 sl4),(L1,frO es1 n1 sl1)] D2 (List.Perm.refl _) (z1 (wf w b c) L le la 0 0 0 (tt2 0) 0 (tt2 0) #[] (fun i => match i with | 0 => hs (wf w b c).params "expected" | 1 => hs (wf w b c).params "actual" | 2 => hs (wf w b c).params "i" | _ => hs (wf w b c).params "j") (fun i => match i with | 0 => T 0 | 1 => T 0 + 1 | 2 => tt2 0 + 1 | _ => tt2 0 + 2)) AB.hh hA' noIns ?_
  intro nn3 tt3 om3 xi3 h3 k3 D3
  generalize nn3 0 = lm at D3
  refine wpAny_execs_cons ?_
  refine fragQ [(lm,lstO [] 0),(le,lstO vE ne),(la,lstO vA na),(L4,frO es4 n4 sl4),(L1,frO es1 n1 sl1)] D3 (List.Perm.refl _) (z2 (wf w b c) L le la lm 0 0 (tt2 0) 0 (tt2 0) #[] (fun i => match i with | 0 => hs (wf w b c).params "expected" | 1 => hs (wf w b c).params "actual" | 2 => hs (wf w b c).params "i" | 3 => hs (wf w b c).params "j" | _ => hs (wf w b c).params "missing") (fun i => match i with | 0 => T 0 | 1 => T 0 + 1 | 2 => tt2 0 + 1 | 3 => tt2 0 + 2 | _ => tt3 0)) AB.hh hA' noIns ?_
  intro nn4 tt4 om4 xi4 h4 k4 D4
  generalize nn4 0 = lu at D4
  obtain ⟨H5,T5,D5⟩ : ∃ H T',Rp (MyK (wf w b c).params) s.heap (adrs (sldI jE jA j4 j1 le la L4 L1 vE ne vA na E Ac es4 n4 sl4 es1 n1 sl1).need) h4 [(L,sf6 H T' le la lm lu 0 (tt2 0) 0 (tt2 0) #[]),(le,lstO vE ne),(la,lstO vA na),(L4,frO es4 n4 sl4),(L1,frO es1 n1 sl1),(lm,lstO [] 0),(lu,lstO [] 0)] :=
    ⟨fun i => match i with | 0 => hs (wf w b c).params "expected" | 1 => hs (wf w b c).params "actual" | 2 => hs (wf w b c).params "i" | 3 => hs (wf w b c).params "j" | 4 => hs (wf w b c).params "missing" | _ => hs (wf w b c).params "unexpected",fun i => match i with | 0 => T 0 | 1 => T 0 + 1 | 2 => tt2 0 + 1 | 3 => tt2 0 + 2 | 4 => tt3 0 | _ => tt4 0,D4.sel [0,3,4,5,6,2,1] (by decide)⟩
  clear D1 D2 D3 D4
  refine wpAny_execs_cons ?_
  rw [while28]
  refine wpAny_While ?_
  rw [w28_eq]
  have fin : ∀ (v' : SV) h' tk',IntsAre v'.vM (sldR E Ac).1 → IntsAre v'.vU (sldR E Ac).2 → Rp (MyK (wf w b c).params) s.heap (adrs (sldI jE jA j4 j1 le la L4 L1 vE ne vA na E Ac es4 n4 sl4 es1 n1 sl1).need) h' (LS ⟨L,L4,L1,le,la,lm,lu,ne,na,n4,n1,vE,vA,es4,es1⟩ v') →
      wpAny (MM (wf w b c)) ((A.mark none).deeper (envAt (wf w b c).params 28 L)) (execs [nthS (wf w b c).params 28 4] (envAt (wf w b c).params 28 L)) (fun f s' => wpAny (model theP (wf w b c)) A (Sem.pure (Except.ok (Flow.ret (match f with | .ret x => x | _ => .none)))) R (fun _ _ => False) s') (fun _ _ => False) { s with heap := h',toks := tk' } := by
    intro v' h' tk' hm hu D'
    refine wpAny_execs_cons ?_
    refine fragQ [(L4,frO es4 n4 v'.sl4),(L1,frO es1 n1 v'.sl1),(le,lstO vE ne),(la,lstO vA na),(lm,lstO v'.vM v'.nM),(lu,lstO v'.vU v'.nU)] D' (List.Perm.refl _) (sr (wf w b c) L le la lm lu v'.i v'.ti v'.j v'.tj 0 [] 0 0 (.int v'.x v'.tx) (.int v'.y v'.ty) v'.sl v'.H v'.T) AB.hh hA' noIns ?_
    intro nn6 tt6 om6 xi6 h6 k6 D6
    obtain ⟨tm,em⟩ := are_iv hm
    obtain ⟨tu,eu⟩ := are_iv hu
    rw [em,eu] at D6
    refine wpAny_pure (hR (fun i => match i with | 0 => nn6 0 | 1 => lm | 2 => lu | 3 => v'.nM | 4 => v'.nU | i + 5 => if i % 2 = 0 then tm (i / 2) else tu (i / 2)) (fun i => match i with | 0 => v'.sl4 | _ => v'.sl1) h6 k6 rfl ?_)
    have D7 := D6.sel [4,5,2,3,1,6,7] (by decide)
    refine Eff.ofApp (l := (sldI jE jA j4 j1 le la L4 L1 vE ne vA na E Ac es4 n4 sl4 es1 n1 sl1).need) (D7.perm (List.Perm.of_eq ?_)) rfl
    have e1 : (fun i => (if (2 * i) % 2 = 0 then tm (2 * i / 2) else tu (2 * i / 2))) = tm := funext fun i => by rw [if_pos (by omega)]; congr 1; omega
    have e2 : (fun i => (if (2 * i + 1) % 2 = 0 then tm ((2 * i + 1) / 2) else tu ((2 * i + 1) / 2))) = tu := funext fun i => by rw [if_neg (by omega)]; congr 1; omega
    show [_,_,_,_,(nn6 0,tupO [.ref lm,.ref lu]),(lm,lstO (iv (sldR E Ac).1 (fun i => (if (2 * i) % 2 = 0 then tm (2 * i / 2) else tu (2 * i / 2)))) v'.nM),(lu,lstO (iv (sldR E Ac).2 (fun i => (if (2 * i + 1) % 2 = 0 then tm ((2 * i + 1) / 2) else tu ((2 * i + 1) / 2)))) v'.nU)] = _
    rw [e1,e2]
    rfl
  obtain ⟨x,tx,hx,hx2,hxd⟩ := are_get hE h0
  obtain ⟨y,ty,hy,hy2,hyd⟩ := are_get hAc h0'
  obtain ⟨n,hn⟩ : ∃ n,E.length + Ac.length = n + 1 := ⟨E.length + Ac.length - 1,by omega⟩
  have hsr : sldR E Ac = ((stepP x y (E.drop 1) (Ac.drop 1)).1.1 ++ (sldF n (stepP x y (E.drop 1) (Ac.drop 1)).2.1 (stepP x y (E.drop 1) (Ac.drop 1)).2.2).1,(stepP x y (E.drop 1) (Ac.drop 1)).1.2 ++ (sldF n (stepP x y (E.drop 1) (Ac.drop 1)).2.1 (stepP x y (E.drop 1) (Ac.drop 1)).2.2).2) := by
    unfold sldR
    rw [hn]
    conv => lhs; rw [show E = x :: E.drop 1 from hxd,show Ac = y :: Ac.drop 1 from hyd]
    rfl
  have hst := stepP_len x y (E.drop 1) (Ac.drop 1)
  rw [List.length_drop,List.length_drop] at hst
  refine whileGo (while28 _) ?_
  refine fragQ _ D5 (List.Perm.refl _) (led := []) (wt (wf w b c) L 0 0 0 0 0 0 0 0 #[] (fun _ => 0) (fun _ => 0)) AB.hh hA' noIns ?_
  intro nn6 tt6 om6 xi6 h6 k6 D6
  refine ⟨rfl,wpAny_execs_cons ?_⟩
  rw [sTry_eq]
  refine wpAny_Try_except ?_
  rw [sTB_eq]
  refine wpAny_execs_cons ?_
  refine fragQ [(la,lstO vA na),(L4,frO es4 n4 sl4),(L1,frO es1 n1 sl1),(lm,lstO [] 0),(lu,lstO [] 0)] D6 (List.Perm.refl _) (s1a w L le la lm lu 0 (tt2 0) 0 (tt2 0) ne vE x tx .none .none #[] H5 T5 b c) AB.hh hA' (okIL _ fun nn tt om xi => oneIns (lget_ok hx (by decide)) nilIns) ?_
  intro nn7 tt7 om7 xi7 h7 k7 D7
  refine wpAny_execs_cons ?_
  refine fragQ [(le,lstO vE ne),(L4,frO es4 n4 sl4),(L1,frO es1 n1 sl1),(lm,lstO [] 0),(lu,lstO [] 0)] (D7.sel [0,2,1,3,4,5,6] (by decide)) (List.Perm.refl _) (s2a w L le la lm lu 0 (tt2 0) 0 (tt2 0) na vA y ty (.int x tx) .none #[] (ov H5 6 (hs (wf w b c).params "e")) (ov T5 6 (tt7 1)) b c) AB.hh hA' (okIL _ fun nn tt om xi => oneIns (lget_ok hy (by decide)) nilIns) ?_
  intro nn8 tt8 om8 xi8 h8 k8 D8
  have D9 := D8.sel [0,3,4,2,1,5,6] (by decide)
  refine sldC w b c hA' ⟨L,L4,L1,le,la,lm,lu,ne,na,n4,n1,vE,vA,es4,es1⟩ F E Ac hE hAc hl hl' ⟨ov (ov H5 6 (hs (wf w b c).params "e")) 7 (hs (wf w b c).params "a"),ov (ov T5 6 (tt7 1)) 7 (tt8 1),0,tt2 0,0,tt2 0,x,tx,y,ty,[],0,[],0,#[],sl4,sl1⟩ h0 h0' hxd hyd (by show 0 ≤ 9; decide) (by show 0 ≤ 9; decide) _ D9 ?_ ?_
  · intro v' h9 k9 hs D10
    obtain ⟨dm,em,am⟩ := hs.m
    obtain ⟨du,eu,au⟩ := hs.u
    have em : v'.vM = [] ++ dm := em
    have eu : v'.vU = [] ++ du := eu
    have se : E.drop v'.i = (stepP x y (E.drop 1) (Ac.drop 1)).2.1 := hs.e
    have sa : Ac.drop v'.j = (stepP x y (E.drop 1) (Ac.drop 1)).2.2 := hs.a
    refine wpAny_execs_nil ?_
    refine sldLoop w b c hA' ⟨L,L4,L1,le,la,lm,lu,ne,na,n4,n1,vE,vA,es4,es1⟩ F E Ac hE hAc hl hl' n v' (stepP x y (E.drop 1) (Ac.drop 1)).1.1 (stepP x y (E.drop 1) (Ac.drop 1)).1.2 _ (by rw [se,sa]; omega) hs.i hs.j (by rw [em]; exact am) (by rw [eu]; exact au) (by rw [se]; omega) (by rw [sa]; omega) D10 ?_
    intro v2 h11 k11 q1 q2 D11
    rw [se,sa] at q1 q2
    exact wpAny_mono (fin v2 h11 k11 (by rw [hsr]; exact q1) (by rw [hsr]; exact q2) D11) (fun _ _ q => q) (fun _ _ z => z.elim)
  · intro v' nM nU h9 k9 hs hor D10
    obtain ⟨dm,em,am⟩ := hs.m
    obtain ⟨du,eu,au⟩ := hs.u
    have em : v'.vM = [] ++ dm := em
    have eu : v'.vU = [] ++ du := eu
    have se : E.drop v'.i = (stepP x y (E.drop 1) (Ac.drop 1)).2.1 := hs.e
    have sa : Ac.drop v'.j = (stepP x y (E.drop 1) (Ac.drop 1)).2.2 := hs.a
    have hq := sldF_or (n := n) hor
    refine wpAny_mono (fin _ h9 k9 ?_ ?_ D10) (fun _ _ q => q) (fun _ _ z => z.elim)
    · rw [hsr,← se,← sa,hq]
      show IntsAre (v'.vM ++ vE.drop v'.i) _
      rw [em]
      exact are_cat am (are_drop hE _)
    · rw [hsr,← se,← sa,hq]
      show IntsAre (v'.vU ++ vA.drop v'.j) _
      rw [eu]
      exact are_cat au (are_drop hAc _)
end
noncomputable abbrev vMsg : String := "list.remove(x): x not in list"
noncomputable def lpopI (jl l : Nat) (vs : List Value) (x : Value) (n : Nat) : Inst := ⟨.call (.builtin "list.pop") ⟨[.ref l],[]⟩,[(jl,l,lstO (vs ++ [x]) n)],fun _ _ => .ok (.ret x),fun _ _ => [lstO vs (n + 1)],fun _ _ => []⟩
theorem lpop_ok {w : World} {C : Around → Prop} {jl l : Nat} {vs : List Value} {x : Value} {n : Nat} (h : vs.length ≤ 100) : IOk theP w (MyK w.params) C (lpopI jl l vs x n) := by
  intro A s R hA hK hn hd ho hlo hR
  have h0 : s.heap.get? l = some (lstO (vs ++ [x]) n) := hn _ (.head _)
  have hk : (vs ++ [x]).toArray.size - 1 = vs.length := by rw [List.size_toArray,List.length_append]; rfl
  have hy : (vs ++ [x]).toArray[(vs ++ [x]).toArray.size - 1]? = some x := by rw [hk]; simp
  have hz : (vs ++ [x]).toArray.size ≤ sizeLine := by rw [List.size_toArray,List.length_append,sizeLine_eq]; simp; omega
  refine callI_of (call_meets PySem.F.slot_list_pop ⟨_,h0,rfl⟩ PySem.F.entry_list_pop (PySem.F.args_list_pop_1 _) (PySem.MeetsSeq.list_pop_last l _ n x hy hz) ⟨h0,?_⟩)
  have e1 : (vs ++ [x]).toArray.eraseIdxIfInBounds ((vs ++ [x]).toArray.size - 1) = vs.toArray := by
    rw [hk,List.eraseIdxIfInBounds_toArray,List.eraseIdx_append_of_length_le (Nat.le_refl _)]
    simp
  have ho' := get?_update_seq h0 (fun xs => xs.eraseIdxIfInBounds ((vs ++ [x]).toArray.size - 1))
  rw [e1,if_neg (by simp)] at ho'
  exact hR (fun _ => 0) (fun _ => #[]) _ s.toks rfl (Eff.one (o := lstO (vs ++ [x]) n) (Heap.SameBut.update ..) ho')
theorem ints_kf {vs : List Value} {ns : List Int} (h : IntsAre vs ns) : kf_ints vs = true := by
  induction h with
  | nil => rfl
  | cons n t _ ih => exact ih
noncomputable def lremI (jl l : Nat) (vs : List Value) (n : Nat) (x : Int) (t : Nat) (us : List Value) : Inst := ⟨.call (.builtin "list.remove") ⟨[.ref l,.int x t],[]⟩,[(jl,l,lstO vs n)],fun _ _ => .ok (.ret .none),fun _ _ => [lstO us (n + 1)],fun _ _ => []⟩
theorem lrem_ok {w : World} {C : Around → Prop} {jl l : Nat} {vs us : List Value} {ns : List Int} {n t : Nat} {x : Int} (hi : IntsAre vs ns) (hl : vs.length ≤ 100) {j : Nat} (hj : kf_at x vs = some j) (hu : us = vs.eraseIdx j) : IOk theP w (MyK w.params) C (lremI jl l vs n x t us) := by
  intro A s R hA hK hn hd ho hlo hR
  have h0 : s.heap.get? l = some (lstO vs n) := hn _ (.head _)
  obtain ⟨a,a2,a3⟩ := kf_at_spec hj
  refine callI_of (call_meets PySem.F.slot_list_remove ⟨_,h0,rfl⟩ PySem.F.entry_list_remove (PySem.F.args_list_remove_2 _ _) (PySem.MeetsSeq.list_remove l vs.toArray n (.int x t) (isInt x) (fun y hy => kf_eq (ints_kf hi) y (by simpa using hy)) j (by simpa using a) (by simpa using a2) (fun m hm h => by simpa using a3 m (by simpa using hm) h) (by rw [List.size_toArray,sizeLine_eq]; omega)) ⟨h0,?_⟩)
  have ho' := get?_update_seq h0 (fun xs => xs.eraseIdxIfInBounds j)
  have e1 : vs.toArray.eraseIdxIfInBounds j = us.toArray := by rw [List.eraseIdxIfInBounds_toArray,hu]
  have e2 : us.length + 1 = vs.length := by rw [hu,List.length_eraseIdx_of_lt a]; omega
  rw [e1,if_neg (by rw [List.size_toArray,List.size_toArray]; simp; omega)] at ho'
  exact hR (fun _ => 0) (fun _ => #[]) _ s.toks rfl (Eff.one (o := lstO vs n) (Heap.SameBut.update ..) ho')
theorem kf_none {x : Int} : ∀ {l : List Value},kf_at x l = none → ∀ y ∈ l,isInt x y = false
  | [],_,_,hy => nomatch hy
  | z :: r,h,y,hy => by
    unfold kf_at at h
    cases hz : isInt x z with
    | true => rw [hz] at h; cases h
    | false =>
      rw [hz] at h
      cases e : kf_at x r with
      | some q => rw [e] at h; cases h
      | none =>
        rcases List.mem_cons.mp hy with rfl | hy
        · exact hz
        · exact kf_none e y hy
theorem remLoop {w : World} {A : Around} {R : Result → Shared → Prop} {s : Shared} {l t n : Nat} {x : Int} {vs : List Value} (hi : kf_ints vs = true) (hno : ∀ y ∈ vs,isInt x y = false) (h0 : s.heap.get? l = some (lstO vs n))
    (h : wpAny (MM w) A.in1 (raiseErrorWords "ValueError" vMsg : Sem PySem.Fin) (fun _ _ => False) (fun e s' => R (.error e) s') s) :
    ∀ (k i : Nat),vs.length - i = k → codeAny (MM w) A (.builtin "list.remove.loop" ⟨[.ref l,.int x t,rawInt i],[]⟩) R s := by
  intro k
  induction k with
  | zero =>
    intro i hk
    refine codeAny_builtin PySem.MeetsSeq.entry_remove_loop ?_
    rw [Around.under_plainId PySem.MeetsSeq.plain_remove_loop _]
    show wpAny _ _ (Builtin.List.listItems (.ref l) >>= _) _ _ s
    refine wpAny_bind (listItems_at h0 rfl ?_)
    have hn : (vs.toArray)[((i : Nat) : Int).toNat]? = none := by simp; omega
    rw [hn]
    exact wpAny_bind (wpAny_rule (wpAny_mono h (fun _ _ q => q.elim) fun _ _ q => q))
  | succ k ih =>
    intro i hk
    refine codeAny_builtin PySem.MeetsSeq.entry_remove_loop ?_
    rw [Around.under_plainId PySem.MeetsSeq.plain_remove_loop _]
    show wpAny _ _ (Builtin.List.listItems (.ref l) >>= _) _ _ s
    refine wpAny_bind (listItems_at h0 rfl ?_)
    have hlt : i < vs.length := by omega
    have hn : (vs.toArray)[((i : Nat) : Int).toNat]? = some vs[i] := by simp [hlt]
    rw [hn]
    have hm : vs[i] ∈ vs := List.getElem_mem hlt
    refine wpAny_bind (kf_eq hi _ hm _ w _ _ _ _ ?_)
    rw [hno _ hm]
    have hc : ((i : Int) + 1) = ((i + 1 : Nat) : Int) := by push_cast; rfl
    refine wpAny_pure ⟨plainId_quiet PySem.MeetsSeq.plain_remove_loop _,?_⟩
    rw [hc]
    exact ih (i + 1) (by omega)
noncomputable def lremEI (jl l : Nat) (vs : List Value) (n : Nat) (x : Int) (t : Nat) : Inst := ⟨.call (.builtin "list.remove") ⟨[.ref l,.int x t],[]⟩,[(jl,l,lstO vs n)],fun ω _ => .error (.ref (ω 1)),fun _ _ => [lstO vs n],
  fun ω _ => [(ω 0,tupO [.str vMsg (ω 2)]),(ω 1,excO "ValueError" #[.ref (ω 0),.none,.none,.none,.bool false,.none])]⟩
theorem lremE_ok {w : World} {C : Around → Prop} (hh : ∀ A,C A → A.handled = none) {jl l : Nat} {vs : List Value} {ns : List Int} {n t : Nat} {x : Int} (hi : IntsAre vs ns) (hx : kf_at x vs = none) : IOk theP w (MyK w.params) C (lremEI jl l vs n x t) := by
  intro A s R hA hK hn hd ho hlo hR
  have h0 : s.heap.get? l = some (lstO vs n) := hn _ (.head _)
  have hh' : (A.mark none).handled = none := hh A hA
  refine x_call ?_ (by intro z; cases z)
  refine codeAny_call_builtin (PySem.F.slot_list_remove).plain PySem.F.entry_list_remove ?_
  refine (PySem.F.slot_list_remove).check _ _ _ _ _ _ _ _ ⟨_,h0,rfl⟩ (PySem.F.args_list_remove_2 _ _) ?_
  show wpAny _ _ (PySem.again (.builtin "list.remove.loop" ⟨[.ref l,.int x t,rawInt ((0 : Nat) : Int)],[]⟩)) _ _ s
  refine wpAny_pure ⟨plainId_quiet PySem.MeetsSeq.plain_remove_loop _,?_⟩
  refine remLoop (ints_kf hi) (kf_none hx) h0 ?_ _ 0 rfl
  refine raiseN plainExc_ValueError hh' ?_
  exact wpAny_pure (hR (fun i => match i with | 0 => s.heap.objs.size | 1 => s.heap.objs.size + 1 | _ => s.toks) (fun _ => #[]) _ (s.toks + 1) rfl (Eff.two (fun p hp => by rw [List.mem_singleton.mp hp]; exact h0) rfl rfl (bigK w _ hK)))
noncomputable def uTry (P : Params) : Stmt := match nthS P 35 1 with | .While _ [_,t] _ _ => t | _ => .Pass ⟨0,0,0,0⟩
noncomputable def uPop (P : Params) : Stmt := match nthS P 35 1 with | .While _ [t,_] _ _ => t | _ => .Pass ⟨0,0,0,0⟩
noncomputable def uRm (P : Params) : Stmt := match uTry P with | .Try [b] _ _ _ _ => b | _ => .Pass ⟨0,0,0,0⟩
noncomputable def uHn (P : Params) : Stmt := match uTry P with | .Try _ [.ExceptHandler _ _ [b] _] _ _ _ => b | _ => .Pass ⟨0,0,0,0⟩
noncomputable def uHT (P : Params) : Expr := match uTry P with | .Try _ [.ExceptHandler (some t) _ _ _] _ _ _ => t | _ => .Name "x" ⟨0,0,0,0⟩
noncomputable abbrev uf (H : Nat → Int) (T : Nat → Nat) (le la : Nat) (es : List DictEntry) (n : Nat) (sl : Slots) : Obj := frO (fe H T 0 "expected" (.ref le) :: fe H T 1 "actual" (.ref la) :: es) n sl
noncomputable abbrev uf3 (H : Nat → Int) (T : Nat → Nat) (le la lm : Nat) (sl : Slots) : Obj := uf H T le la [fe H T 2 "missing" (.ref lm)] 3 sl
noncomputable abbrev uf4 (H : Nat → Int) (T : Nat → Nat) (le la lm : Nat) (x : Int) (tx : Nat) (sl : Slots) : Obj := uf H T le la [fe H T 2 "missing" (.ref lm),fe H T 3 "item" (.int x tx)] 4 sl
noncomputable def lenI (jl l : Nat) (vs : List Value) (n m : Nat) : Inst := ⟨.builtin "len" ⟨[.ref l],[]⟩,[(jl,l,lstO vs n)],fun ω _ => .ok (.ret (.int (Int.ofNat m) (ω 0))),fun _ _ => [lstO vs n],fun _ _ => []⟩
theorem ulen0 (w:World) (l n:Nat) (nn tt om xi ps):Ends (go w 60 (Sem.call (.builtin "len" ⟨[.ref l],[]⟩) none false [] Sem.pure) [0,1,0,1,1] ([(l,lstO [] n)]) .nil nn tt om xi ps) ([0]) (.ok (.ok (.ret (.int 0 (tt 0+1))))) ([(l,lstO [] n)]) := by trivial
theorem ulen1 (w:World) (l n:Nat) (v0:Value) (nn tt om xi ps):Ends (go w 60 (Sem.call (.builtin "len" ⟨[.ref l],[]⟩) none false [] Sem.pure) [0,1,0,1,1] ([(l,lstO [v0] n)]) .nil nn tt om xi ps) ([0]) (.ok (.ok (.ret (.int 1 (tt 0+1))))) ([(l,lstO [v0] n)]) := by trivial
theorem ulen2 (w:World) (l n:Nat) (v0 v1:Value) (nn tt om xi ps):Ends (go w 60 (Sem.call (.builtin "len" ⟨[.ref l],[]⟩) none false [] Sem.pure) [0,1,0,1,1] ([(l,lstO [v0,v1] n)]) .nil nn tt om xi ps) ([0]) (.ok (.ok (.ret (.int 2 (tt 0+1))))) ([(l,lstO [v0,v1] n)]) := by trivial
theorem ulen3 (w:World) (l n:Nat) (v0 v1 v2:Value) (nn tt om xi ps):Ends (go w 60 (Sem.call (.builtin "len" ⟨[.ref l],[]⟩) none false [] Sem.pure) [0,1,0,1,1] ([(l,lstO [v0,v1,v2] n)]) .nil nn tt om xi ps) ([0]) (.ok (.ok (.ret (.int 3 (tt 0+1))))) ([(l,lstO [v0,v1,v2] n)]) := by trivial
theorem ulen4 (w:World) (l n:Nat) (v0 v1 v2 v3:Value) (nn tt om xi ps):Ends (go w 60 (Sem.call (.builtin "len" ⟨[.ref l],[]⟩) none false [] Sem.pure) [0,1,0,1,1] ([(l,lstO [v0,v1,v2,v3] n)]) .nil nn tt om xi ps) ([0]) (.ok (.ok (.ret (.int 4 (tt 0+1))))) ([(l,lstO [v0,v1,v2,v3] n)]) := by trivial
theorem ulen5 (w:World) (l n:Nat) (v0 v1 v2 v3 v4:Value) (nn tt om xi ps):Ends (go w 60 (Sem.call (.builtin "len" ⟨[.ref l],[]⟩) none false [] Sem.pure) [0,1,0,1,1] ([(l,lstO [v0,v1,v2,v3,v4] n)]) .nil nn tt om xi ps) ([0]) (.ok (.ok (.ret (.int 5 (tt 0+1))))) ([(l,lstO [v0,v1,v2,v3,v4] n)]) := by trivial
theorem ulen6 (w:World) (l n:Nat) (v0 v1 v2 v3 v4 v5:Value) (nn tt om xi ps):Ends (go w 60 (Sem.call (.builtin "len" ⟨[.ref l],[]⟩) none false [] Sem.pure) [0,1,0,1,1] ([(l,lstO [v0,v1,v2,v3,v4,v5] n)]) .nil nn tt om xi ps) ([0]) (.ok (.ok (.ret (.int 6 (tt 0+1))))) ([(l,lstO [v0,v1,v2,v3,v4,v5] n)]) := by trivial
theorem ulen7 (w:World) (l n:Nat) (v0 v1 v2 v3 v4 v5 v6:Value) (nn tt om xi ps):Ends (go w 60 (Sem.call (.builtin "len" ⟨[.ref l],[]⟩) none false [] Sem.pure) [0,1,0,1,1] ([(l,lstO [v0,v1,v2,v3,v4,v5,v6] n)]) .nil nn tt om xi ps) ([0]) (.ok (.ok (.ret (.int 7 (tt 0+1))))) ([(l,lstO [v0,v1,v2,v3,v4,v5,v6] n)]) := by trivial
theorem ulen8 (w:World) (l n:Nat) (v0 v1 v2 v3 v4 v5 v6 v7:Value) (nn tt om xi ps):Ends (go w 60 (Sem.call (.builtin "len" ⟨[.ref l],[]⟩) none false [] Sem.pure) [0,1,0,1,1] ([(l,lstO [v0,v1,v2,v3,v4,v5,v6,v7] n)]) .nil nn tt om xi ps) ([0]) (.ok (.ok (.ret (.int 8 (tt 0+1))))) ([(l,lstO [v0,v1,v2,v3,v4,v5,v6,v7] n)]) := by trivial
theorem ulen9 (w:World) (l n:Nat) (v0 v1 v2 v3 v4 v5 v6 v7 v8:Value) (nn tt om xi ps):Ends (go w 60 (Sem.call (.builtin "len" ⟨[.ref l],[]⟩) none false [] Sem.pure) [0,1,0,1,1] ([(l,lstO [v0,v1,v2,v3,v4,v5,v6,v7,v8] n)]) .nil nn tt om xi ps) ([0]) (.ok (.ok (.ret (.int 9 (tt 0+1))))) ([(l,lstO [v0,v1,v2,v3,v4,v5,v6,v7,v8] n)]) := by trivial
theorem n35 (w:World) (le la:Nat) (nn tt om xi ps):Ends (go w 60 (nfe w.params 35 [("expected",.ref le),("actual",.ref la)]) [1,1,1,1] ([]) .nil nn tt om xi ps) ([0]) (.ok (envAt w.params 35 (nn 0))) ([(nn 0,uf (fun i=>match i with | 0=>hs w.params "expected" | _=>hs w.params "actual") (fun i=>match i with | 0=>tt 0 | _=>tt 0+1) le la [] 2 #[])]) := by trivial
theorem u0 (w:World) (L le la lm n m:Nat) (vs:List Value) (x y:Int) (tx ty:Nat) (sl:Slots) (H:NI) (T:NN) (nn tt om xi ps):Ends (go w 60 (exec (nthS w.params 35 0) (envAt w.params 35 L)) [1,1] ([(L,uf H T le la [] 2 sl)]) .nil nn tt om xi ps) ([0,1]) (.ok .next) ([(L,uf3 (ov H 2 (hs w.params "missing")) (ov T 2 (tt 0)) le la (nn 0) sl),(nn 0,lstO [] 0)]) := by trivial
theorem utt3 (w:World) (L le la lm n m:Nat) (vs:List Value) (x y:Int) (tx ty:Nat) (sl:Slots) (H:NI) (T:NN) (b c:Bool) (nn tt om xi ps):Ends (go (wf w b c) 60 (tstT (nthS (wf w b c).params 35 1) (envAt (wf w b c).params 35 L)) [1,2,2,1] ([(L,uf3 H T le la lm sl),(le,lstO vs n)]) (IL fun nn tt om xi=>[lenI 1 le vs n (m+1)]) nn tt om xi ps) ([0,1]) (.ok true) ([(L,uf3 H T le la lm sl),(le,lstO vs n)]) := by cases b <;> trivial
theorem utf3 (w:World) (L le la lm n m:Nat) (vs:List Value) (x y:Int) (tx ty:Nat) (sl:Slots) (H:NI) (T:NN) (b c:Bool) (nn tt om xi ps):Ends (go (wf w b c) 60 (den (whC (nthS (wf w b c).params 35 1) (envAt (wf w b c).params 35 L))) [1,2,2,1] ([(L,uf3 H T le la lm sl),(le,lstO [] n)]) (IL fun nn tt om xi=>[lenI 1 le [] n 0]) nn tt om xi ps) ([0,1]) (.ok (.done .next)) ([(L,uf3 H T le la lm sl),(le,lstO [] n)]) := by cases b <;> trivial
theorem up3 (w:World) (L le la lm n m:Nat) (vs:List Value) (x y:Int) (tx ty:Nat) (sl:Slots) (H:NI) (T:NN) (b c:Bool) (nn tt om xi ps):Ends (go (wf w b c) 200 (exec (uPop (wf w b c).params) (envAt (wf w b c).params 35 L)) [1,2,2,2,2,1,1,1] ([(L,uf3 H T le la lm sl),(le,lstO (vs++[.int y ty]) n)]) (IL fun nn tt om xi=>[lpopI 1 le vs (.int y ty) n]) nn tt om xi ps) ([0,1]) (.ok .next) ([(L,uf4 (ov H 3 (hs (wf w b c).params "item")) (ov T 3 (tt 1)) le la lm y ty sl),(le,lstO vs (n+1))]) := by cases b <;> trivial
theorem ur3 (w:World) (L le la lm n m:Nat) (vs:List Value) (x y:Int) (tx ty:Nat) (sl:Slots) (H:NI) (T:NN) (nn tt om xi ps):Ends (go w 60 (exec (nthS w.params 35 2) (envAt w.params 35 L)) [1,1] ([(L,uf3 H T le la lm sl)]) .nil nn tt om xi ps) ([1]) (.ok (.ret (.ref (nn 0)))) ([(nn 0,tupO [.ref lm,.ref la])]) := by trivial
theorem utt4 (w:World) (L le la lm n m:Nat) (vs:List Value) (x y:Int) (tx ty:Nat) (sl:Slots) (H:NI) (T:NN) (b c:Bool) (nn tt om xi ps):Ends (go (wf w b c) 60 (tstT (nthS (wf w b c).params 35 1) (envAt (wf w b c).params 35 L)) [1,2,2,1] ([(L,uf4 H T le la lm x tx sl),(le,lstO vs n)]) (IL fun nn tt om xi=>[lenI 1 le vs n (m+1)]) nn tt om xi ps) ([0,1]) (.ok true) ([(L,uf4 H T le la lm x tx sl),(le,lstO vs n)]) := by cases b <;> trivial
theorem utf4 (w:World) (L le la lm n m:Nat) (vs:List Value) (x y:Int) (tx ty:Nat) (sl:Slots) (H:NI) (T:NN) (b c:Bool) (nn tt om xi ps):Ends (go (wf w b c) 60 (den (whC (nthS (wf w b c).params 35 1) (envAt (wf w b c).params 35 L))) [1,2,2,1] ([(L,uf4 H T le la lm x tx sl),(le,lstO [] n)]) (IL fun nn tt om xi=>[lenI 1 le [] n 0]) nn tt om xi ps) ([0,1]) (.ok (.done .next)) ([(L,uf4 H T le la lm x tx sl),(le,lstO [] n)]) := by cases b <;> trivial
theorem up4 (w:World) (L le la lm n m:Nat) (vs:List Value) (x y:Int) (tx ty:Nat) (sl:Slots) (H:NI) (T:NN) (b c:Bool) (nn tt om xi ps):Ends (go (wf w b c) 200 (exec (uPop (wf w b c).params) (envAt (wf w b c).params 35 L)) [1,2,2,2,2,1,1,1] ([(L,uf4 H T le la lm x tx sl),(le,lstO (vs++[.int y ty]) n)]) (IL fun nn tt om xi=>[lpopI 1 le vs (.int y ty) n]) nn tt om xi ps) ([0,1]) (.ok .next) ([(L,uf4 H T le la lm y ty sl),(le,lstO vs (n+1))]) := by cases b <;> trivial
theorem ur4 (w:World) (L le la lm n m:Nat) (vs:List Value) (x y:Int) (tx ty:Nat) (sl:Slots) (H:NI) (T:NN) (nn tt om xi ps):Ends (go w 60 (exec (nthS w.params 35 2) (envAt w.params 35 L)) [1,1] ([(L,uf4 H T le la lm x tx sl)]) .nil nn tt om xi ps) ([1]) (.ok (.ret (.ref (nn 0)))) ([(nn 0,tupO [.ref lm,.ref la])]) := by trivial
theorem urk (w:World) (L le la lm n m:Nat) (vs:List Value) (x y:Int) (tx ty:Nat) (sl:Slots) (H:NI) (T:NN) (us:List Value) (b c:Bool) (nn tt om xi ps):Ends (go (wf w b c) 200 (exec (uRm (wf w b c).params) (envAt (wf w b c).params 35 L)) [1,2,2,2,2,1,1] ([(L,uf4 H T le la lm x tx sl),(la,lstO vs n)]) (IL fun nn tt om xi=>[lremI 1 la vs n x tx us]) nn tt om xi ps) ([0,1]) (.ok .next) ([(L,uf4 H T le la lm x tx sl),(la,lstO us (n+1))]) := by cases b <;> trivial
theorem ure (w:World) (L le la lm n m:Nat) (vs:List Value) (x y:Int) (tx ty:Nat) (sl:Slots) (H:NI) (T:NN) (b c:Bool) (nn tt om xi ps):Ends (go (wf w b c) 200 (exec (uRm (wf w b c).params) (envAt (wf w b c).params 35 L)) [1,2,2,2,2,1,1] ([(L,uf4 H T le la lm x tx sl),(la,lstO vs n)]) (IL fun nn tt om xi=>[lremEI 1 la vs n x tx]) nn tt om xi ps) ([0,1,3]) (.error (.ref (om 0 1))) ([(L,uf4 H T le la lm x tx sl),(la,lstO vs n),(om 0 1,excO "ValueError" #[.ref (om 0 0),.none,.none,.none,.bool false,.none])]) := by cases b <;> trivial
theorem uh0 (w:World) (L le la lm n m:Nat) (vs:List Value) (x y:Int) (tx ty:Nat) (sl:Slots) (H:NI) (T:NN) (hd:Option Value) (nn tt om xi ps):Ends (goH (hd) w 60 (eval (uHT w.params) (envAt w.params 35 L)) [0,0] ([(L,uf4 H T le la lm x tx sl)]) .nil nn tt om xi ps) ([0]) (.ok (.type "ValueError")) ([(L,uf4 H T le la lm x tx sl)]) := by trivial
theorem uh1 (w:World) (L le la lm n m:Nat) (vs:List Value) (x y:Int) (tx ty:Nat) (sl:Slots) (H:NI) (T:NN) (hd:Option Value) (b c:Bool) (nn tt om xi ps):Ends (goH (hd) (wf w b c) 200 (exec (uHn (wf w b c).params) (envAt (wf w b c).params 35 L)) [1,2,2,2,2,1,1] ([(L,uf4 H T le la lm x tx sl),(lm,lstO vs n)]) (IL fun nn tt om xi=>[lappI 1 lm vs n (.int x tx)]) nn tt om xi ps) ([0,1]) (.ok .next) ([(L,uf4 H T le la lm x tx sl),(lm,lstO (vs++[.int x tx]) (n+1))]) := by cases b <;> trivial
theorem len_ok {w : World} {C : Around → Prop} (hh : ∀ A,C A → A.handled = none) {jl l : Nat} {vs : List Value} {n m : Nat} (h : vs.length = m) (hm : m ≤ 9) : IOk theP w (MyK w.params) C (lenI jl l vs n m) := by
  subst h
  rcases vs with _ | ⟨v0,_ | ⟨v1,_ | ⟨v2,_ | ⟨v3,_ | ⟨v4,_ | ⟨v5,_ | ⟨v6,_ | ⟨v7,_ | ⟨v8,_ | ⟨v9,r⟩⟩⟩⟩⟩⟩⟩⟩⟩⟩
  · exact segI (I := lenI jl l [] n 0) (ulen0 w l n ) hh noIns fun nn tt om xi => ⟨fun _ => tt 0 + 1,fun _ => #[],rfl,rfl,rfl⟩
  · exact segI (I := lenI jl l [v0] n 1) (ulen1 w l n v0) hh noIns fun nn tt om xi => ⟨fun _ => tt 0 + 1,fun _ => #[],rfl,rfl,rfl⟩
  · exact segI (I := lenI jl l [v0,v1] n 2) (ulen2 w l n v0 v1) hh noIns fun nn tt om xi => ⟨fun _ => tt 0 + 1,fun _ => #[],rfl,rfl,rfl⟩
  · exact segI (I := lenI jl l [v0,v1,v2] n 3) (ulen3 w l n v0 v1 v2) hh noIns fun nn tt om xi => ⟨fun _ => tt 0 + 1,fun _ => #[],rfl,rfl,rfl⟩
  · exact segI (I := lenI jl l [v0,v1,v2,v3] n 4) (ulen4 w l n v0 v1 v2 v3) hh noIns fun nn tt om xi => ⟨fun _ => tt 0 + 1,fun _ => #[],rfl,rfl,rfl⟩
  · exact segI (I := lenI jl l [v0,v1,v2,v3,v4] n 5) (ulen5 w l n v0 v1 v2 v3 v4) hh noIns fun nn tt om xi => ⟨fun _ => tt 0 + 1,fun _ => #[],rfl,rfl,rfl⟩
  · exact segI (I := lenI jl l [v0,v1,v2,v3,v4,v5] n 6) (ulen6 w l n v0 v1 v2 v3 v4 v5) hh noIns fun nn tt om xi => ⟨fun _ => tt 0 + 1,fun _ => #[],rfl,rfl,rfl⟩
  · exact segI (I := lenI jl l [v0,v1,v2,v3,v4,v5,v6] n 7) (ulen7 w l n v0 v1 v2 v3 v4 v5 v6) hh noIns fun nn tt om xi => ⟨fun _ => tt 0 + 1,fun _ => #[],rfl,rfl,rfl⟩
  · exact segI (I := lenI jl l [v0,v1,v2,v3,v4,v5,v6,v7] n 8) (ulen8 w l n v0 v1 v2 v3 v4 v5 v6 v7) hh noIns fun nn tt om xi => ⟨fun _ => tt 0 + 1,fun _ => #[],rfl,rfl,rfl⟩
  · exact segI (I := lenI jl l [v0,v1,v2,v3,v4,v5,v6,v7,v8] n 9) (ulen9 w l n v0 v1 v2 v3 v4 v5 v6 v7 v8) hh noIns fun nn tt om xi => ⟨fun _ => tt 0 + 1,fun _ => #[],rfl,rfl,rfl⟩
  · simp only [List.length_cons] at hm; omega
noncomputable def uHP (P : Params) : Pos := match uTry P with | .Try _ [.ExceptHandler _ _ _ p] _ _ _ => p | _ => ⟨0,0,0,0⟩
noncomputable def uH (P : Params) : ExceptHandler := .ExceptHandler (some (uHT P)) none [uHn P] (uHP P)
theorem uTry_eq (P : Params) : uTry P = .Try [uRm P] [uH P] [] [] (trPo (uTry P)) := rfl
theorem while35 (P : Params) : nthS P 35 1 = .While (whTe (nthS P 35 1)) [uPop P,uTry P] (whOr (nthS P 35 1)) (whPo (nthS P 35 1)) := rfl
theorem w35_eq (P : Params) (env : Env) : Code.whileLoop (whTe (nthS P 35 1)) [uPop P,uTry P] (whOr (nthS P 35 1)) env = whC (nthS P 35 1) env := rfl
theorem ve_exc : isSubtype (.type "ValueError") (.type "BaseException") = pure true := by rw [isSubtype_type]; kernel_rfl
theorem ve_tup : isSubtype (.type ((Manifest.find? "ValueError").elim "type" fun x => x.metatype)) (.type "tuple") = pure false := by rw [isSubtype_type]; kernel_rfl
theorem ve_ve : isSubtype (.type "ValueError") (.type "ValueError") = pure true := by rw [isSubtype_type]; kernel_rfl
structure UV where
  H : Nat → Int
  T : Nat → Nat
  x : Int
  tx : Nat
  vE : List Value
  ne : Nat
  vA : List Value
  na : Nat
  vM : List Value
  nM : Nat
  sl : Slots
  sl4 : Slots
  sl1 : Slots
noncomputable abbrev UL (k : SC) (v : UV) : Led := [(k.L,uf4 v.H v.T k.le k.la k.lm v.x v.tx v.sl),(k.L4,frO k.es4 k.n4 v.sl4),(k.L1,frO k.es1 k.n1 v.sl1),(k.le,lstO v.vE v.ne),(k.la,lstO v.vA v.na),(k.lm,lstO v.vM v.nM)]
theorem kf_are {vs : List Value} {ns : List Int} (h : IntsAre vs ns) (x : Int) : (∃ j,kf_at x vs = some j ∧ ns.contains x = true ∧ IntsAre (vs.eraseIdx j) (ns.erase x)) ∨ (kf_at x vs = none ∧ ns.contains x = false) := by
  induction h with
  | nil => exact .inr ⟨rfl,rfl⟩
  | @cons n t vs ns h' ih =>
    have hi : isInt x (.int n t) = (n == x) := rfl
    by_cases e : n = x
    · subst e
      refine .inl ⟨0,?_,by simp,?_⟩
      · unfold kf_at; rw [hi,beq_self_eq_true]; rfl
      · rw [List.erase_cons_head]; exact h'
    · have e1 : (n == x) = false := beq_eq_false_iff_ne.mpr e
      have e2 : ¬ x = n := fun z => e z.symm
      rcases ih with ⟨j,a1,a2,a3⟩ | ⟨a1,a2⟩
      · refine .inl ⟨j + 1,?_,?_,?_⟩
        · unfold kf_at; rw [hi,e1,a1]; rfl
        · rw [List.contains_cons,a2,Bool.or_true]
        · rw [List.erase_cons_tail (by simp [e1])]
          exact .cons _ _ a3
      · refine .inr ⟨?_,?_⟩
        · unfold kf_at; rw [hi,e1,a1]; rfl
        · rw [List.contains_cons,a2,Bool.or_false]; exact beq_eq_false_iff_ne.mpr e2
noncomputable def uStep (x : Int) (A M : List Int) : List Int × List Int := match A.contains x with
  | true => (A.erase x,M)
  | false => (A,M ++ [x])
noncomputable def uldF : List Int → List Int → List Int → List Int × List Int
  | [],A,M => (M,A)
  | x :: r,A,M => uldF r (uStep x A M).1 (uStep x A M).2
noncomputable abbrev en35 (P : Params) (L : Nat) : Env := envAt P 35 L
theorem pmU {α : Type} (a b c d e f x : α) : ([a,b,c] ++ (x :: [d,e,f])).Perm [a,e,x,b,c,d,f] := by
  classical
  refine List.perm_iff_count.mpr fun q => ?_
  simp only [List.count_append,List.count_cons,List.count_nil]
  omega
theorem pmV {α : Type} (a b c d e f x y : α) : (y :: ([a,b,c,d,e,f] ++ [x])).Perm ([a,b,c] ++ (x :: y :: [d,e,f])) := by
  classical
  refine List.perm_iff_count.mpr fun q => ?_
  simp only [List.count_append,List.count_cons,List.count_nil]
  omega
theorem uTryL (w : World) (b c : Bool) {A : Around} {g : Heap} {A0 : List Addr} {Q : Flow → Shared → Prop} {Er : Value → Shared → Prop} {e4 e0 : Env} (hA : AB 839 6900 A) (k : SC) (F : Fr3 A (en35 (wf w b c).params k.L) e4 e0 k.L k.L4 k.L1) (v : UV) (Ac M : List Int) (hAc : IntsAre v.vA Ac) (hM : IntsAre v.vM M) (hl : Ac.length ≤ 9) (hl2 : M.length ≤ 20) (s : Shared)
    (D : Rp (MyK (wf w b c).params) g A0 s.heap (UL k v))
    (h : ∀ (v' : UV) h' tk',v'.vE = v.vE → v'.ne = v.ne → IntsAre v'.vA (uStep v.x Ac M).1 → IntsAre v'.vM (uStep v.x Ac M).2 → Rp (MyK (wf w b c).params) g A0 h' (UL k v') → Q .next { s with heap := h',toks := tk' }) :
    wpAny (MM (wf w b c)) A (exec (uTry (wf w b c).params) (en35 (wf w b c).params k.L)) Q Er s := by
  rw [uTry_eq]
  refine wpAny_Try_except ?_
  refine wpAny_execs_cons ?_
  rcases kf_are hAc v.x with ⟨j,a1,a2,a3⟩ | ⟨a1,a2⟩
  · refine fragQ [(k.L4,frO k.es4 k.n4 v.sl4),(k.L1,frO k.es1 k.n1 v.sl1),(k.le,lstO v.vE v.ne),(k.lm,lstO v.vM v.nM)] (D.sel [0,4,1,2,3,5] (by decide)) (List.Perm.refl _) (urk w k.L k.le k.la k.lm v.na 0 v.vA v.x 0 v.tx 0 v.sl v.H v.T (v.vA.eraseIdx j) b c) AB.hh hA (okIL _ fun nn tt om xi => oneIns (lrem_ok hAc (by rw [hAc.length]; omega) a1 rfl) nilIns) ?_
    intro nn1 tt1 om1 xi1 h1 k1 D1
    refine wpAny_execs_nil (wpAny_execs_nil (h { v with vA := v.vA.eraseIdx j,na := v.na + 1 } h1 k1 rfl rfl ?_ ?_ (D1.sel [0,2,3,4,1,5] (by decide))))
    · unfold uStep; rw [a2]; exact a3
    · unfold uStep; rw [a2]; exact hM
  · refine fragQ [(k.L4,frO k.es4 k.n4 v.sl4),(k.L1,frO k.es1 k.n1 v.sl1),(k.le,lstO v.vE v.ne),(k.lm,lstO v.vM v.nM)] (D.sel [0,4,1,2,3,5] (by decide)) (List.Perm.refl _) (ure w k.L k.le k.la k.lm v.na 0 v.vA v.x 0 v.tx 0 v.sl v.H v.T b c) AB.hh hA (okIL _ fun nn tt om xi => oneIns (lremE_ok AB.hh hAc a1) nilIns) ?_
    intro nn1 tt1 om1 xi1 h1 k1 D1
    generalize om1 0 1 = ex at D1 ⊢
    generalize om1 0 0 = tp at D1
    have D2 : Rp (MyK (wf w b c).params) g A0 h1 ([(k.L,uf4 v.H v.T k.le k.la k.lm v.x v.tx v.sl),(k.L4,frO k.es4 k.n4 v.sl4),(k.L1,frO k.es1 k.n1 v.sl1)] ++ ((ex,excO "ValueError" #[.ref tp,.none,.none,.none,.bool false,.none]) :: [(k.le,lstO v.vE v.ne),(k.la,lstO v.vA v.na),(k.lm,lstO v.vM v.nM)])) := D1.perm (pmU _ _ _ _ _ _ _)
    refine noteNew F (by simp) D2 ?_
    intro T ts p q r h2 ht D3
    have h3 : 3 < ts.size := (Array.getElem?_eq_some_iff.mp ht).1
    have hx1 : (#[Value.ref tp,.none,.none,.none,.bool false,.none].setIfInBounds 1 (.ref T))[1]? = some (Value.ref T) := by simp
    generalize #[Value.ref tp,.none,.none,.none,.bool false,.none].setIfInBounds 1 (.ref T) = vx at D3 hx1
    have D4 : Rp (MyK (wf w b c).params) g A0 h2 ((T,tbO ts) :: (UL k { v with sl := p,sl4 := q,sl1 := r } ++ [(ex,excO "ValueError" vx)])) := D3.perm (pmV _ _ _ _ _ _ _ _)
    refine setFl hx1 h3 D4 (D3.has _ (.tail _ (.tail _ (.tail _ (.head _))))) ?_
    intro h4 D5
    generalize hts : ts.setIfInBounds 3 _ = ts1 at D5
    have ht1 : 3 < ts1.size := by rw [← hts,Array.size_setIfInBounds]; exact h3
    clear D1 D2 D3 D4
    refine wpAny_handleBy_builtin ve_exc ve_tup ve_ve ?_
    have hC : CHd ex (A.mark (some (.ref ex))) := rfl
    refine fragQH (hd := some (.ref ex)) (C := CHd ex) [(T,tbO ts1),(k.L4,frO k.es4 k.n4 q),(k.L1,frO k.es1 k.n1 r),(k.le,lstO v.vE v.ne),(k.la,lstO v.vA v.na),(k.lm,lstO v.vM v.nM),(ex,excO "ValueError" vx)] (D5.sel [1,0,2,3,4,5,6,7] (by decide)) (List.Perm.refl _) (uh0 (wf w b c) k.L k.le k.la k.lm 0 0 [] v.x 0 v.tx 0 p v.H v.T (some (.ref ex))) (fun _ h => h) hC noIns ?_
    intro nn6 tt6 om6 xi6 h6 k6 D6
    have he6 : h6.get? ex = some (excO "ValueError" vx) := D6.has (ex,excO "ValueError" vx) (.tail _ (.tail _ (.tail _ (.tail _ (.tail _ (.tail _ (.tail _ (.head _))))))))
    refine ⟨rfl,⟨_,he6,rfl⟩,?_⟩
    rw [if_pos rfl]
    refine setFl hx1 ht1 (D6.sel [1,0,2,3,4,5,6] (by decide)) he6 ?_
    intro h7 D7
    generalize ts1.setIfInBounds 3 _ = ts2 at D7
    refine wpAny_execs_cons ?_
    refine fragQH (hd := some (.ref ex)) (C := CHd ex) [(k.L4,frO k.es4 k.n4 q),(k.L1,frO k.es1 k.n1 r),(k.le,lstO v.vE v.ne),(k.la,lstO v.vA v.na)] (D7.sel [1,6,2,3,4,5] (by decide)) (List.Perm.refl _) (uh1 w k.L k.le k.la k.lm v.nM 0 v.vM v.x 0 v.tx 0 p v.H v.T (some (.ref ex)) b c) (fun _ h => h) hC (okIL _ fun nn tt om xi => oneIns (lapp_ok (by rw [hM.length]; omega)) nilIns) ?_
    intro nn8 tt8 om8 xi8 h8 k8 D8
    refine wpAny_execs_nil (h { v with vM := v.vM ++ [.int v.x v.tx],nM := v.nM + 1,sl := p,sl4 := q,sl1 := r } h8 k8 rfl rfl ?_ ?_ (D8.sel [0,2,3,4,5,1] (by decide)))
    · unfold uStep; rw [a2]; exact hAc
    · unfold uStep; rw [a2]; exact are_app hM _ _
theorem uStep_len (x : Int) (A M : List Int) : (uStep x A M).1.length ≤ A.length ∧ (uStep x A M).2.length ≤ M.length + 1 := by
  unfold uStep
  split
  · refine ⟨?_,Nat.le_succ _⟩
    exact List.length_erase_le
  · simp
theorem are_last {vs : List Value} {ns : List Int} (h : IntsAre vs ns) : ns = [] ∧ vs = [] ∨ ∃ vs' ns' y ty,vs = vs' ++ [.int y ty] ∧ ns = ns' ++ [y] ∧ IntsAre vs' ns' := by
  induction h with
  | nil => exact .inl ⟨rfl,rfl⟩
  | @cons n t vs ns h' ih =>
    rcases ih with ⟨rfl,rfl⟩ | ⟨vs',ns',y,ty,rfl,rfl,h2⟩
    · exact .inr ⟨[],[],n,t,rfl,rfl,.nil⟩
    · exact .inr ⟨.int n t :: vs',n :: ns',y,ty,rfl,rfl,.cons _ _ h2⟩
theorem uLoop (w : World) (b c : Bool) {A : Around} {g : Heap} {A0 : List Addr} {R : Result → Shared → Prop} {e4 e0 : Env} (hA : AB 839 6900 A) (k : SC) (F : Fr3 A (en35 (wf w b c).params k.L) e4 e0 k.L k.L4 k.L1) :
    ∀ (n : Nat) (v : UV) (E Ac M : List Int) (sh : Shared),E.length = n → n ≤ 9 → IntsAre v.vE E → IntsAre v.vA Ac → IntsAre v.vM M → Ac.length ≤ 9 → M.length + n ≤ 20 → Rp (MyK (wf w b c).params) g A0 sh.heap (UL k v) →
    (∀ (v' : UV) h' tk',v'.vE = [] → IntsAre v'.vM (uldF E.reverse Ac M).1 → IntsAre v'.vA (uldF E.reverse Ac M).2 → Rp (MyK (wf w b c).params) g A0 h' (UL k v') → R (.ok .next) { sh with heap := h',toks := tk' }) →
    codeAny (MM (wf w b c)) A (whC (nthS (wf w b c).params 35 1) (en35 (wf w b c).params k.L)) R sh := by
  intro n
  induction n with
  | zero =>
    intro v E Ac M sh hn h9 hE hAc hM hl hl2 D hR
    have e0' : E = [] := List.eq_nil_of_length_eq_zero hn
    subst e0'
    have ev : v.vE = [] := List.eq_nil_of_length_eq_zero (by rw [hE.length]; rfl)
    refine codeTurn (by kernel_rfl) ?_
    have D' := D.sel [0,3,1,2,4,5] (by decide)
    have D1 : Rp (MyK (wf w b c).params) g A0 sh.heap ([(k.L,uf4 v.H v.T k.le k.la k.lm v.x v.tx v.sl),(k.le,lstO [] v.ne)] ++ [(k.L4,frO k.es4 k.n4 v.sl4),(k.L1,frO k.es1 k.n1 v.sl1),(k.la,lstO v.vA v.na),(k.lm,lstO v.vM v.nM)]) := by rw [← ev]; exact D'
    refine fragQ [(k.L4,frO k.es4 k.n4 v.sl4),(k.L1,frO k.es1 k.n1 v.sl1),(k.la,lstO v.vA v.na),(k.lm,lstO v.vM v.nM)] D1 (List.Perm.refl _) (utf4 w k.L k.le k.la k.lm v.ne 0 [] v.x 0 v.tx 0 v.sl v.H v.T b c) AB.hh hA (okIL _ fun nn tt om xi => oneIns (len_ok AB.hh rfl (by decide)) nilIns) ?_
    intro nn2 tt2 om2 xi2 h2 k2 D2
    exact hR { v with vE := [] } h2 k2 rfl hM hAc (D2.sel [0,2,3,1,4,5] (by decide))
  | succ n ih =>
    intro v E Ac M sh hn h9 hE hAc hM hl hl2 D hR
    rcases are_last hE with ⟨e,_⟩ | ⟨vE',E',y,ty,ev,eE,hE'⟩
    · rw [e] at hn; cases hn
    have hlen : v.vE.length = n + 1 := by rw [hE.length,hn]
    have hn' : E'.length = n := by rw [eE,List.length_append] at hn; exact Nat.succ.inj hn
    refine whileGo (while35 _) ?_
    refine fragQ [(k.L4,frO k.es4 k.n4 v.sl4),(k.L1,frO k.es1 k.n1 v.sl1),(k.la,lstO v.vA v.na),(k.lm,lstO v.vM v.nM)] (D.sel [0,3,1,2,4,5] (by decide)) (List.Perm.refl _) (utt4 w k.L k.le k.la k.lm v.ne n v.vE v.x 0 v.tx 0 v.sl v.H v.T b c) AB.hh hA (okIL _ fun nn tt om xi => oneIns (len_ok AB.hh hlen (by omega)) nilIns) ?_
    intro nn1 tt1 om1 xi1 h1 k1 D1
    refine ⟨rfl,wpAny_execs_cons ?_⟩
    rw [ev] at D1
    refine fragQ [(k.L4,frO k.es4 k.n4 v.sl4),(k.L1,frO k.es1 k.n1 v.sl1),(k.la,lstO v.vA v.na),(k.lm,lstO v.vM v.nM)] D1 (List.Perm.refl _) (up4 w k.L k.le k.la k.lm v.ne 0 vE' v.x y v.tx ty v.sl v.H v.T b c) AB.hh hA (okIL _ fun nn tt om xi => oneIns (lpop_ok (by rw [hE'.length]; omega)) nilIns) ?_
    intro nn2 tt2 om2 xi2 h2 k2 D2
    refine wpAny_execs_cons ?_
    refine uTryL w b c hA k F { v with x := y,tx := ty,vE := vE',ne := v.ne + 1 } Ac M hAc hM hl (by omega) _ (D2.sel [0,2,3,1,4,5] (by decide)) ?_
    intro v' h3 k3 q1 q2 q3 q4 D3
    have q1 : v'.vE = vE' := q1
    have hsl := uStep_len y Ac M
    refine wpAny_execs_nil ?_
    refine ih v' E' (uStep y Ac M).1 (uStep y Ac M).2 _ hn' (by omega) (by rw [q1]; exact hE') q3 q4 (by omega) (by omega) D3 ?_
    intro v2 h4 k4 r1 r2 r3 D4
    have er : uldF E.reverse Ac M = uldF E'.reverse (uStep y Ac M).1 (uStep y Ac M).2 := by rw [eE,List.reverse_append]; rfl
    exact hR v2 h4 k4 r1 (by rw [er]; exact r2) (by rw [er]; exact r3) D4
theorem fn35 (P : Params) : fnOk P 35 := ⟨_,_,_,_,_,rfl,rfl,rfl,rfl,rfl,rfl,rfl⟩
theorem body35 (P : Params) : bodyOf P 35 = [nthS P 35 0,nthS P 35 1,nthS P 35 2] := rfl
theorem kind35 (P : Params) (L : Nat) : (envAt P 35 L).scope.kind ≠ .module := by
  have e : (envAt P 35 L).scope.kind = .function := rfl
  rw [e]; intro z; cases z
noncomputable def uldR (E Ac : List Int) : List Int × List Int := uldF E.reverse Ac []
noncomputable def uldI (jE jA j4 j1 le la L4 L1 : Nat) (vE : List Value) (ne : Nat) (vA : List Value) (na : Nat) (E Ac : List Int) (es4 : List DictEntry) (n4 : Nat) (sl4 : Slots) (es1 : List DictEntry) (n1 : Nat) (sl1 : Slots) : Inst :=
  ⟨.call (.ref 35) ⟨[.ref le,.ref la],[]⟩,[(jE,le,lstO vE ne),(jA,la,lstO vA na),(j4,L4,frO es4 n4 sl4),(j1,L1,frO es1 n1 sl1)],fun ω _ => .ok (.ret (.ref (ω 0))),
   fun ω ξ => [lstO [] (ω 2),lstO (iv (uldR E Ac).2 fun i => ω (2 * i + 6)) (ω 3),frO es4 n4 (ξ 0),frO es1 n1 (ξ 1)],
   fun ω _ => [(ω 0,tupO [.ref (ω 1),.ref la]),(ω 1,lstO (iv (uldR E Ac).1 fun i => ω (2 * i + 5)) (ω 4))]⟩
theorem uld_ok (w : World) (b c : Bool) (jE jA j4 j1 le la L4 L1 : Nat) (vE : List Value) (ne : Nat) (vA : List Value) (na : Nat) (E Ac : List Int) (es4 : List DictEntry) (n4 : Nat) (sl4 : Slots) (es1 : List DictEntry) (n1 : Nat) (sl1 : Slots) (hE : IntsAre vE E) (hAc : IntsAre vA Ac) (hl : E.length ≤ 9) (hl' : Ac.length ≤ 9) (h0 : 0 < E.length) (e4 e1 : Env) :
    IOk theP (wf w b c) (MyK (wf w b c).params) (C4 e4 e1 L4 L1) (uldI jE jA j4 j1 le la L4 L1 vE ne vA na E Ac es4 n4 sl4 es1 n1 sl1) := by
  intro A s R hA hK hn hd ho hlo hR
  have D := Rp.start _ hK hn hd ho hlo
  refine x_call ?_ (by intro z; cases z)
  refine enterFn 35 60 _ [.ref le,.ref la] [("expected",.ref le),("actual",.ref la)] _ (fn35 _) (by kernel_rfl) hA.ab.1 (limit_ok (Nat.le_trans hA.ab.2.1 (by decide))) D (fun nn tt om xi ps => n35 (wf w b c) le la nn tt om xi ps) ?_
  intro L T h1 k1 D1
  have hA' : AB 839 6900 ((A.mark none).deeper (envAt (wf w b c).params 35 L)) := (AB.deep hA.ab).mono (by decide) (by decide)
  have F : Fr3 ((A.mark none).deeper (envAt (wf w b c).params 35 L)) (en35 (wf w b c).params L) e4 e1 L L4 L1 :=
    ⟨Around.frames_deeper hA.fr,kind35 _ _,hA.k4,hA.k1,rfl,hA.f4,hA.f1⟩
  refine ks_codeAny_funcAt (wpAt_of_wpAny ?_)
  rw [body35]
  refine wpAny_execs_cons ?_
  refine fragQ [(le,lstO vE ne),(la,lstO vA na),(L4,frO es4 n4 sl4),(L1,frO es1 n1 sl1)] (D1.sel [4,0,1,2,3] (by decide)) (List.Perm.refl _) (u0 (wf w b c) L le la 0 0 0 [] 0 0 0 0 #[] _ _) AB.hh hA' noIns ?_
  intro nn2 tt2 om2 xi2 h2 k2 D2
  generalize nn2 0 = lm at D2
  obtain ⟨H5,T5,D5⟩ : ∃ H T',Rp (MyK (wf w b c).params) s.heap (adrs (uldI jE jA j4 j1 le la L4 L1 vE ne vA na E Ac es4 n4 sl4 es1 n1 sl1).need) h2 [(L,uf3 H T' le la lm #[]),(le,lstO vE ne),(la,lstO vA na),(L4,frO es4 n4 sl4),(L1,frO es1 n1 sl1),(lm,lstO [] 0)] :=
    ⟨_,_,D2.sel [0,2,3,4,5,1] (by decide)⟩
  clear D1 D2
  refine wpAny_execs_cons ?_
  rw [while35]
  refine wpAny_While ?_
  rw [w35_eq]
  rcases are_last hE with ⟨e,_⟩ | ⟨vE',E',y,ty,ev,eE,hE'⟩
  · rw [e] at h0; exact absurd h0 (Nat.lt_irrefl _)
  have hn' : E.length = E'.length + 1 := by rw [eE,List.length_append]; rfl
  have hlen : vE.length = E'.length + 1 := by rw [hE.length,hn']
  refine whileGo (while35 _) ?_
  refine fragQ [(la,lstO vA na),(L4,frO es4 n4 sl4),(L1,frO es1 n1 sl1),(lm,lstO [] 0)] D5 (List.Perm.refl _) (utt3 w L le la lm ne E'.length vE 0 0 0 0 #[] H5 T5 b c) AB.hh hA' (okIL _ fun nn tt om xi => oneIns (len_ok AB.hh hlen (by omega)) nilIns) ?_
  intro nn6 tt6 om6 xi6 h6 k6 D6
  refine ⟨rfl,wpAny_execs_cons ?_⟩
  rw [ev] at D6
  refine fragQ [(la,lstO vA na),(L4,frO es4 n4 sl4),(L1,frO es1 n1 sl1),(lm,lstO [] 0)] D6 (List.Perm.refl _) (up3 w L le la lm ne 0 vE' 0 y 0 ty #[] H5 T5 b c) AB.hh hA' (okIL _ fun nn tt om xi => oneIns (lpop_ok (by rw [hE'.length]; omega)) nilIns) ?_
  intro nn7 tt7 om7 xi7 h7 k7 D7
  refine wpAny_execs_cons ?_
  refine uTryL w b c hA' ⟨L,L4,L1,le,la,lm,0,0,0,n4,n1,[],[],es4,es1⟩ F ⟨_,_,y,ty,vE',ne + 1,vA,na,[],0,#[],sl4,sl1⟩ Ac [] hAc .nil hl' (by decide) _ (D7.sel [0,3,4,1,2,5] (by decide)) ?_
  intro v' h8 k8 q1 q2 q3 q4 D8
  have q1 : v'.vE = vE' := q1
  have hsl := uStep_len y Ac []
  refine wpAny_execs_nil ?_
  refine uLoop w b c hA' ⟨L,L4,L1,le,la,lm,0,0,0,n4,n1,[],[],es4,es1⟩ F E'.length v' E' (uStep y Ac []).1 (uStep y Ac []).2 _ rfl (by omega) (by rw [q1]; exact hE') q3 q4 (by omega) (by show (uStep y Ac []).2.length + _ ≤ 20; have : (uStep y Ac []).2.length ≤ 1 := hsl.2; omega) D8 ?_
  intro v2 h9 k9 r1 r2 r3 D9
  have er : uldR E Ac = uldF E'.reverse (uStep y Ac []).1 (uStep y Ac []).2 := by unfold uldR; rw [eE,List.reverse_append]; rfl
  rw [← er] at r2 r3
  refine wpAny_execs_cons ?_
  refine fragQ [(L4,frO es4 n4 v2.sl4),(L1,frO es1 n1 v2.sl1),(le,lstO v2.vE v2.ne),(la,lstO v2.vA v2.na),(lm,lstO v2.vM v2.nM)] D9 (List.Perm.refl _) (ur4 (wf w b c) L le la lm 0 0 [] v2.x 0 v2.tx 0 v2.sl v2.H v2.T) AB.hh hA' noIns ?_
  intro nn10 tt10 om10 xi10 h10 k10 D10
  obtain ⟨tm,em⟩ := are_iv r2
  obtain ⟨tu,eu⟩ := are_iv r3
  rw [em,eu,r1] at D10
  refine wpAny_pure (hR (fun i => match i with | 0 => nn10 0 | 1 => lm | 2 => v2.ne | 3 => v2.na | 4 => v2.nM | i + 5 => if i % 2 = 0 then tm (i / 2) else tu (i / 2)) (fun i => match i with | 0 => v2.sl4 | _ => v2.sl1) h10 k10 rfl ?_)
  have D11 := D10.sel [3,4,1,2,0,5] (by decide)
  refine Eff.ofApp (l := (uldI jE jA j4 j1 le la L4 L1 vE ne vA na E Ac es4 n4 sl4 es1 n1 sl1).need) (D11.perm (List.Perm.of_eq ?_)) rfl
  have e1 : (fun i => (if (2 * i) % 2 = 0 then tm (2 * i / 2) else tu (2 * i / 2))) = tm := funext fun i => by rw [if_pos (by omega)]; congr 1; omega
  have e2 : (fun i => (if (2 * i + 1) % 2 = 0 then tm ((2 * i + 1) / 2) else tu ((2 * i + 1) / 2))) = tu := funext fun i => by rw [if_neg (by omega)]; congr 1; omega
  show [_,(la,lstO (iv (uldR E Ac).2 (fun i => (if (2 * i + 1) % 2 = 0 then tm ((2 * i + 1) / 2) else tu ((2 * i + 1) / 2)))) v2.na),_,_,(nn10 0,tupO [.ref lm,.ref la]),(lm,lstO (iv (uldR E Ac).1 (fun i => (if (2 * i) % 2 = 0 then tm (2 * i / 2) else tu (2 * i / 2)))) v2.nM)] = _
  rw [e1,e2]
  rfl
noncomputable def insI (x : Int) : List Int → List Int
  | [] => [x]
  | y :: l => match decide (x ≤ y) with
    | true => x :: y :: l
    | false => y :: insI x l
noncomputable def isort : List Int → List Int
  | [] => []
  | x :: l => insI x (isort l)
theorem insI_perm (x : Int) : ∀ l : List Int,(insI x l).Perm (x :: l)
  | [] => .refl _
  | y :: l => by
    unfold insI
    split
    · exact .refl _
    · exact ((insI_perm x l).cons y).trans (.swap _ _ _)
theorem isort_perm : ∀ l : List Int,(isort l).Perm l
  | [] => .refl _
  | x :: l => (insI_perm x _).trans ((isort_perm l).cons x)
theorem insI_sorted (x : Int) : ∀ l : List Int,l.Pairwise (· ≤ ·) → (insI x l).Pairwise (· ≤ ·)
  | [],_ => by simp [insI]
  | y :: l,h => by
    unfold insI
    rw [List.pairwise_cons] at h
    split
    · rename_i e
      have e := of_decide_eq_true e
      refine List.pairwise_cons.mpr ⟨fun z hz => ?_,List.pairwise_cons.mpr h⟩
      rcases List.mem_cons.mp hz with rfl | hz
      · exact e
      · exact Int.le_trans e (h.1 z hz)
    · rename_i e
      have e := of_decide_eq_false e
      refine List.pairwise_cons.mpr ⟨fun z hz => ?_,insI_sorted x l h.2⟩
      rcases List.mem_cons.mp ((insI_perm x l).mem_iff.mp hz) with rfl | hz
      · omega
      · exact h.1 z hz
theorem isort_sorted : ∀ l : List Int,(isort l).Pairwise (· ≤ ·)
  | [] => List.Pairwise.nil
  | x :: l => insI_sorted x _ (isort_sorted l)
theorem dw_mem {x a : Int} (h : x ≠ a) : ∀ A : List Int,x ∈ A → x ∈ A.dropWhile (· == a)
  | b :: A,hx => by
    rw [List.dropWhile_cons]
    split
    · rename_i e
      rcases List.mem_cons.mp hx with rfl | hx
      · exact absurd (beq_iff_eq.mp e) h
      · exact dw_mem h A hx
    · exact hx
theorem sldF_mem : ∀ (n : Nat) (E A : List Int),sldF n E A = ([],[]) → ∀ x ∈ A,x ∈ E
  | 0,E,A,h,x,hx => by cases h; cases hx
  | n + 1,[],A,h,x,hx => by cases h; cases hx
  | n + 1,e :: E,[],h,x,hx => by cases hx
  | n + 1,e :: E,a :: A,h,x,hx => by
    have h1 : (stepP e a E A).1.1 ++ (sldF n (stepP e a E A).2.1 (stepP e a E A).2.2).1 = [] := congrArg Prod.fst h
    have h2 : (stepP e a E A).1.2 ++ (sldF n (stepP e a E A).2.1 (stepP e a E A).2.2).2 = [] := congrArg Prod.snd h
    rw [List.append_eq_nil_iff] at h1 h2
    cases q1 : decide (e < a) with
    | true =>
      have : (stepP e a E A).1.1 = [e] := by unfold stepP; rw [q1]
      rw [this] at h1; cases h1.1
    | false =>
      cases q2 : decide (e > a) with
      | true =>
        have : (stepP e a E A).1.2 = [a] := by unfold stepP; rw [q1,q2]
        rw [this] at h2; cases h2.1
      | false =>
        have h3 : (stepP e a E A).2 = (E.dropWhile (· == e),A.dropWhile (· == a)) := by unfold stepP; rw [q1,q2]
        have ea : e = a := by
          have := of_decide_eq_false q1
          have := of_decide_eq_false q2
          omega
        have h4 : sldF n (E.dropWhile (· == e)) (A.dropWhile (· == a)) = ([],[]) := by
          rw [h3] at h1 h2
          exact Prod.ext h1.2 h2.2
        rcases List.mem_cons.mp hx with rfl | hx
        · rw [ea]; exact .head _
        · by_cases qx : x = a
          · rw [qx,← ea]; exact .head _
          · have hm : x ∈ A.dropWhile (· == a) := dw_mem qx A hx
            exact .tail _ ((List.dropWhile_sublist _).subset (sldF_mem n _ _ h4 x hm))
theorem uldF_mem : ∀ (r A M : List Int),(uldF r A M).2 = [] → ∀ x ∈ A,x ∈ r
  | [],A,M,h,x,hx => by
    have h : A = [] := h
    rw [h] at hx; cases hx
  | y :: r,A,M,h,x,hx => by
    by_cases q : x = y
    · rw [q]; exact .head _
    · refine .tail _ (uldF_mem r _ _ h x ?_)
      unfold uStep
      split
      · exact (List.mem_erase_of_ne q).mpr hx
      · exact hx
noncomputable def gen (Q : List Nat → Bool) : Nat → List Nat → List (List Nat)
  | 0,p => [p]
  | n + 1,p => ((List.range 9).filter fun c => !p.contains c && Q (p ++ [c])).flatMap fun c => gen Q n (p ++ [c])
theorem gen_mem (Q : List Nat → Bool) : ∀ (q p : List Nat),(p ++ q).Nodup → (∀ c ∈ q,c < 9) → (∀ i,1 ≤ i → i ≤ q.length → Q (p ++ q.take i) = true) → p ++ q ∈ gen Q q.length p
  | [],p,_,_,_ => by rw [List.append_nil]; exact .head _
  | c :: q,p,hn,h9,hQ => by
    show p ++ c :: q ∈ ((List.range 9).filter _).flatMap _
    rw [List.mem_flatMap]
    refine ⟨c,?_,?_⟩
    · rw [List.mem_filter]
      refine ⟨List.mem_range.mpr (h9 c (.head _)),?_⟩
      have h1 : p.contains c = false := by
        rw [List.nodup_append] at hn
        cases e : p.contains c with
        | false => rfl
        | true => exact absurd rfl (hn.2.2 c (List.contains_iff_mem.mp e) c (.head _))
      have h2 := hQ 1 (Nat.le_refl _) (Nat.succ_le_succ (Nat.zero_le _))
      rw [h1]
      exact h2
    · have e : p ++ c :: q = (p ++ [c]) ++ q := by simp
      rw [e]
      refine gen_mem Q q (p ++ [c]) (by rw [← e]; exact hn) (fun d hd => h9 d (.tail _ hd)) fun i h1 h2 => ?_
      have := hQ (i + 1) (Nat.succ_le_succ (Nat.zero_le _)) (Nat.succ_le_succ h2)
      rw [List.take_succ_cons] at this
      rw [List.append_assoc]
      exact this
noncomputable def mx (p : List Nat) : Nat := p.foldl max 0
noncomputable def mn (p : List Nat) : Nat := p.foldl min 9
noncomputable def runsQ (p : List Nat) : Bool := mx p + 1 == mn p + p.length
noncomputable def frontsQ (p : List Nat) : Bool := (List.range p.length).all fun x => (p.map (· % p.length)).contains x
noncomputable def rngI (j : Nat) : List Int := (List.range j).map Int.ofNat
noncomputable def leftI (cs : List Nat) (j : Nat) : List Int := cs.map fun c => Int.ofNat (c % j)
noncomputable def ksOf (j : Nat) : List Nat := (List.range (9 / j)).map fun i => (i + 1) * j
noncomputable def runsB (cs : List Nat) : Bool := (List.range 9).all fun i => runsQ (cs.take (i + 1))
noncomputable def frontsB (cs : List Nat) : Bool := (List.range 9).all fun i => decide (sldR (isort ((leftI cs (i + 1)).take (i + 1))) (rngI (i + 1)) = ([],[]))
noncomputable def stretchesB (cs : List Nat) : Bool := (List.range 9).all fun i => (ksOf (i + 1)).all fun k => decide (uldR (((leftI cs (i + 1)).drop (k - (i + 1))).take (i + 1)) (rngI (i + 1)) = ([],[]))
noncomputable def offB (o : List Nat) : Bool := (List.range 10).any fun k => fitG o (abc.take k).reverse (abc.drop k)
noncomputable def paths : Nat → List Nat → List Nat → List (List Nat)
  | 0,_,_ => [[]]
  | n + 1,D,T => (match D with | [] => [] | d :: D' => (paths n D' T).map (d :: ·)) ++ (match T with | [] => [] | t :: T' => (paths n D T').map (t :: ·))
theorem fit_paths : ∀ (o D T : List Nat),fitG o D T = true → o ∈ paths o.length D T
  | [],_,_,_ => .head _
  | c :: o,D,T,h => by
    unfold fitG at h
    show c :: o ∈ _ ++ _
    split at h
    · rename_i e
      cases D with
      | nil => simp at e
      | cons d D =>
        have : d = c := by simpa using e
        subst this
        exact List.mem_append.mpr (.inl (List.mem_map_of_mem (fit_paths o D T h)))
    · split at h
      · rename_i e
        cases T with
        | nil => simp at e
        | cons t T =>
          have : t = c := by simpa using e
          subst this
          exact List.mem_append.mpr (.inr (List.mem_map_of_mem (fit_paths o D T h)))
      · cases h
noncomputable def csOf (o : List Nat) : List Nat := o.map (· - 97)
set_option maxHeartbeats 0 in
theorem mA : ((List.range 10).all fun k => (paths 9 (abc.take k).reverse (abc.drop k)).all fun o => runsB (csOf o)) = true := by decide +kernel
set_option maxHeartbeats 0 in
theorem mB : ((gen frontsQ 9 []).all runsB) = true := by decide +kernel
set_option maxHeartbeats 0 in
theorem mC : ((gen runsQ 9 []).all fun cs => offB (cs.map (· + 97)) && (frontsB cs && stretchesB cs)) = true := by decide +kernel
theorem abc_cs : csOf abc = List.range 9 := by decide
structure IsOrd (o : List Nat) : Prop where
  perm : o.Perm abc
theorem cs_perm {o : List Nat} (h : o.Perm abc) : (csOf o).Perm (List.range 9) := by rw [← abc_cs]; exact h.map _
theorem cs_nodup {o : List Nat} (h : o.Perm abc) : (csOf o).Nodup := (cs_perm h).nodup_iff.mpr List.nodup_range
theorem cs_lt {o : List Nat} (h : o.Perm abc) : ∀ c ∈ csOf o,c < 9 := fun c hc => List.mem_range.mp ((cs_perm h).mem_iff.mp hc)
theorem cs_len {o : List Nat} (h : o.Perm abc) : (csOf o).length = 9 := by rw [(cs_perm h).length_eq]; rfl
theorem ge97 : ∀ c ∈ abc,97 ≤ c := by decide
theorem cs_back {o : List Nat} (h : o.Perm abc) : (csOf o).map (· + 97) = o := by
  unfold csOf
  rw [List.map_map]
  conv => rhs; rw [← List.map_id o]
  refine List.map_congr_left fun c hc => ?_
  have : c ∈ abc := h.mem_iff.mp hc
  have : 97 ≤ c := ge97 c this
  show c - 97 + 97 = c
  omega
theorem in_gen {Q : List Nat → Bool} {o : List Nat} (h : o.Perm abc) (hQ : ∀ i,i < 9 → Q ((csOf o).take (i + 1)) = true) : csOf o ∈ gen Q 9 [] := by
  have z := gen_mem Q (csOf o) [] (by rw [List.nil_append]; exact cs_nodup h) (cs_lt h) fun i h1 h2 => by
    rw [cs_len h] at h2
    obtain ⟨j,rfl⟩ : ∃ j,i = j + 1 := ⟨i - 1,by omega⟩
    rw [List.nil_append]
    exact hQ j (by omega)
  rw [List.nil_append,cs_len h] at z
  exact z
theorem frontsQ_of {cs : List Nat} {j : Nat} (hl : cs.length = 9) (hj : j ≤ 9) (h : ∀ x ∈ rngI j,x ∈ (leftI cs j).take j) : frontsQ (cs.take j) = true := by
  have hlen : (cs.take j).length = j := by rw [List.length_take,hl]; omega
  unfold frontsQ
  rw [hlen,List.all_eq_true]
  intro x hx
  have hm : Int.ofNat x ∈ (leftI cs j).take j := h _ (List.mem_map_of_mem hx)
  unfold leftI at hm
  rw [← List.map_take] at hm
  obtain ⟨c,hc,e⟩ := List.mem_map.mp hm
  rw [List.contains_iff_mem]
  exact List.mem_map.mpr ⟨c,hc,Int.ofNat.inj e⟩
theorem runs_all {o : List Nat} (h : o.Perm abc) (hr : runsB (csOf o) = true) : offB o = true ∧ frontsB (csOf o) = true ∧ stretchesB (csOf o) = true := by
  have hm : csOf o ∈ gen runsQ 9 [] := in_gen h fun i hi => by
    unfold runsB at hr
    rw [List.all_eq_true] at hr
    exact hr i (List.mem_range.mpr hi)
  have z := List.all_eq_true.mp mC _ hm
  rw [Bool.and_eq_true,Bool.and_eq_true,cs_back h] at z
  exact z
theorem off_runs {o : List Nat} (h : o.Perm abc) (hr : offB o = true) : runsB (csOf o) = true := by
  unfold offB at hr
  rw [List.any_eq_true] at hr
  obtain ⟨k,hk,hf⟩ := hr
  have hp := fit_paths o _ _ hf
  have hl : o.length = 9 := by rw [h.length_eq]; rfl
  rw [hl] at hp
  exact List.all_eq_true.mp (List.all_eq_true.mp mA k hk) o hp
theorem fronts_runs {o : List Nat} (h : o.Perm abc) (hr : frontsB (csOf o) = true) : runsB (csOf o) = true := by
  unfold frontsB at hr
  rw [List.all_eq_true] at hr
  refine List.all_eq_true.mp mB _ (in_gen h fun i hi => frontsQ_of (cs_len h) (by omega) fun x hx => ?_)
  have e := of_decide_eq_true (hr i (List.mem_range.mpr hi))
  exact (isort_perm _).mem_iff.mp (sldF_mem _ _ _ e x hx)
theorem stretches_runs {o : List Nat} (h : o.Perm abc) (hr : stretchesB (csOf o) = true) : runsB (csOf o) = true := by
  unfold stretchesB at hr
  rw [List.all_eq_true] at hr
  refine List.all_eq_true.mp mB _ (in_gen h fun i hi => frontsQ_of (cs_len h) (by omega) fun x hx => ?_)
  have e1 := List.all_eq_true.mp (hr i (List.mem_range.mpr hi)) (i + 1) (by
    unfold ksOf
    refine List.mem_map.mpr ⟨0,List.mem_range.mpr (Nat.div_pos (by omega) (Nat.succ_pos _)),?_⟩
    rw [Nat.zero_add,Nat.one_mul])
  have e := of_decide_eq_true e1
  rw [Nat.sub_self,List.drop_zero] at e
  have z := uldF_mem _ _ _ (congrArg Prod.snd e) x hx
  exact List.mem_reverse.mp z
theorem four_eq {o : List Nat} (h : o.Perm abc) : offB o = runsB (csOf o) ∧ frontsB (csOf o) = runsB (csOf o) ∧ stretchesB (csOf o) = runsB (csOf o) := by
  cases q : runsB (csOf o) with
  | true => exact runs_all h q
  | false =>
    refine ⟨?_,?_,?_⟩
    · cases e : offB o with
      | false => rfl
      | true => rw [off_runs h e] at q; cases q
    · cases e : frontsB (csOf o) with
      | false => rfl
      | true => rw [fronts_runs h e] at q; cases q
    · cases e : stretchesB (csOf o) with
      | false => rfl
      | true => rw [stretches_runs h e] at q; cases q
theorem rif_paths : ∀ (s D T : List Nat),D.length + T.length = s.length → rif s D T ∈ paths s.length D T
  | [],D,T,_ => by simp [rif,paths]
  | c :: s,[],[],h => by simp at h
  | c :: s,y :: D,[],h => by
    show _ ∈ _ ++ _
    have e : rif (c :: s) (y :: D) [] = y :: rif s D [] := by simp [rif]
    rw [e]
    exact List.mem_append.mpr (.inl (List.mem_map_of_mem (rif_paths s D [] (by simp at h ⊢; omega))))
  | c :: s,[],z :: T,h => by
    show _ ∈ _ ++ _
    have e : rif (c :: s) [] (z :: T) = z :: rif s [] T := by simp [rif]
    rw [e]
    exact List.mem_append.mpr (.inr (List.mem_map_of_mem (rif_paths s [] T (by simp at h ⊢; omega))))
  | c :: s,y :: D,z :: T,h => by
    show _ ∈ _ ++ _
    cases q : isR c with
    | true =>
      have e : rif (c :: s) (y :: D) (z :: T) = y :: rif s D (z :: T) := by simp [rif,q]
      rw [e]
      exact List.mem_append.mpr (.inl (List.mem_map_of_mem (rif_paths s D (z :: T) (by simp at h ⊢; omega))))
    | false =>
      have e : rif (c :: s) (y :: D) (z :: T) = z :: rif s (y :: D) T := by simp [rif,q]
      rw [e]
      exact List.mem_append.mpr (.inr (List.mem_map_of_mem (rif_paths s (y :: D) T (by simp at h ⊢; omega))))
theorem paths_perm : ∀ (n : Nat) (D T o : List Nat),D.length + T.length = n → o ∈ paths n D T → o.Perm (D ++ T)
  | 0,D,T,o,h,ho => by
    have : D = [] := List.eq_nil_of_length_eq_zero (by omega)
    have h2 : T = [] := List.eq_nil_of_length_eq_zero (by omega)
    subst this; subst h2
    have : o = [] := by simpa [paths] using ho
    rw [this]; exact .refl _
  | n + 1,D,T,o,h,ho => by
    have ho : o ∈ _ ++ _ := ho
    rcases List.mem_append.mp ho with ho | ho
    · cases D with
      | nil => cases ho
      | cons d D =>
        obtain ⟨o',h1,rfl⟩ := List.mem_map.mp ho
        exact (paths_perm n D T o' (by simp at h; omega) h1).cons d
    · cases T with
      | nil => cases ho
      | cons t T =>
        obtain ⟨o',h1,rfl⟩ := List.mem_map.mp ho
        exact ((paths_perm n D T o' (by simp at h; omega) h1).cons t).trans List.perm_middle.symm
theorem rif_ord {s : List Nat} {k : Nat} (hs : s.length = 9) (hk : k ≤ 9) : (rif s (abc.take k).reverse (abc.drop k)).Perm abc ∧ runsB (csOf (rif s (abc.take k).reverse (abc.drop k))) = true := by
  have h9 : abc.length = 9 := rfl
  have hl : (abc.take k).reverse.length + (abc.drop k).length = s.length := by rw [List.length_reverse,List.length_take,List.length_drop,hs,h9]; omega
  have hm := rif_paths s _ _ hl
  rw [hs] at hm hl
  refine ⟨?_,List.all_eq_true.mp (List.all_eq_true.mp mA k (List.mem_range.mpr (by omega))) _ hm⟩
  refine (paths_perm 9 _ _ _ hl hm).trans ?_
  have e : abc.take k ++ abc.drop k = abc := List.take_append_drop k abc
  conv => rhs; rw [← e]
  exact (List.reverse_perm _).append_right _
theorem swp_perm {o : List Nat} {s : Nat} (h : o.length = 9) (hs : s < 81) : (swp o s).Perm o := by
  unfold swp
  split
  · rename_i e
    have e := of_decide_eq_true e
    generalize min (s / 9) (s % 9) = lo at e
    have h8 : max (s / 9) (s % 9) ≤ 8 := by omega
    generalize max (s / 9) (s % 9) = hi at e h8
    have h1 : o = o.take lo ++ ([o.getD lo 0] ++ ((o.take hi).drop (lo + 1) ++ ([o.getD hi 0] ++ o.drop (hi + 1)))) := by
      obtain ⟨c0,c1,c2,c3,c4,c5,c6,c7,c8,rfl⟩ := nine h
      rcases lo with _ | _ | _ | _ | _ | _ | _ | _ | lo <;> rcases hi with _ | _ | _ | _ | _ | _ | _ | _ | _ | hi <;> first | rfl | (exfalso; omega)
    conv => rhs; rw [h1]
    generalize o.take lo = a
    generalize (o.take hi).drop (lo + 1) = b
    generalize o.drop (hi + 1) = c
    generalize o.getD lo 0 = x
    generalize o.getD hi 0 = y
    refine List.perm_iff_count.mpr fun q => ?_
    simp only [List.count_append,List.count_cons,List.count_nil]
    omega
  · exact .refl _
theorem chg_perm : ∀ (sw o : List Nat),o.length = 9 → (∀ s ∈ sw,s < 81) → (chgF o sw).Perm o
  | [],o,_,_ => .refl _
  | s :: sw,o,h,h81 => (chg_perm sw (swp o s) (swp_length h (h81 s (.head _))) fun q hq => h81 q (.tail _ hq)).trans (swp_perm h (h81 s (.head _)))
theorem abc_drop {h : Nat} (hh : h ≤ 8) : abc.drop h = abcAt h :: abc.drop (h + 1) := by
  rcases h with _ | _ | _ | _ | _ | _ | _ | _ | _ | h <;> first | rfl | omega
theorem abc_take {l : Nat} (hl : l ≤ 8) : (abc.take (l + 1)).reverse = abcAt l :: (abc.take l).reverse := by
  rcases l with _ | _ | _ | _ | _ | _ | _ | _ | _ | l <;> first | rfl | omega
theorem bit_rif {r : Nat} {s : List Nat} (hs : s.length = 9) (hb : ∀ i c,s[i]? = some c → isR c = (bitAt r i == 1)) : ∀ (n i l h : Nat),i + n = 9 → l + (9 - h) = n → h ≤ 9 → bitF r n i l h = rif (s.drop i) (abc.take l).reverse (abc.drop h)
  | 0,i,l,h,hi,hl,h9 => by
    have : s.drop i = [] := List.drop_eq_nil_of_le (by omega)
    rw [this]; simp [bitF,rif]
  | n + 1,i,l,h,hi,hl,h9 => by
    have hlt : i < s.length := by omega
    have hd : s.drop i = s[i] :: s.drop (i + 1) := List.drop_eq_getElem_cons hlt
    have hc := hb i s[i] (List.getElem?_eq_getElem hlt)
    rw [hd]
    by_cases h8 : 8 < h
    · have e9 : h = 9 := by omega
      subst e9
      obtain ⟨l,rfl⟩ : ∃ l',l = l' + 1 := ⟨l - 1,by omega⟩
      rw [abc_take (by omega)]
      have e : abc.drop 9 = [] := rfl
      have ih := bit_rif hs hb n (i + 1) l 9 (by omega) (by omega) (by omega)
      rw [e] at ih ⊢
      simp only [bitF,rif,decide_true,Bool.true_or,show decide (8 < 9) = true from rfl]
      rw [ih]
    · rw [abc_drop (by omega)]
      rcases l with _ | l
      · have ih := bit_rif hs hb n (i + 1) 0 (h + 1) (by omega) (by omega) (by omega)
        simp only [bitF]
        rw [ih]
        rfl
      · rw [abc_take (by omega)]
        cases q : bitAt r i == 1 with
        | true =>
          have ih := bit_rif hs hb n (i + 1) l h (by omega) (by omega) h9
          rw [abc_drop (by omega)] at ih
          simp only [bitF,rif,hc,q,Bool.or_true]
          rw [ih]
        | false =>
          have ih := bit_rif hs hb n (i + 1) (l + 1) (h + 1) (by omega) (by omega) (by omega)
          rw [abc_take (by omega)] at ih
          simp only [bitF,rif,hc,q,decide_eq_false h8,Bool.or_self]
          rw [ih]
theorem and2pow (m n : Nat) : m &&& 2 ^ n = (m.testBit n).toNat * 2 ^ n := by
  refine Nat.eq_of_testBit_eq fun i => ?_
  rw [Nat.testBit_and,Nat.testBit_two_pow]
  cases q : m.testBit n with
  | true =>
    rw [Bool.toNat_true,Nat.one_mul,Nat.testBit_two_pow]
    by_cases e : n = i
    · subst e; rw [q]; rfl
    · simp [e]
  | false =>
    rw [Bool.toNat_false,Nat.zero_mul,Nat.zero_testBit]
    by_cases e : n = i
    · subst e; rw [q]; rfl
    · simp [e]
theorem landbit (m n : Nat) : (Nat.land m (2 ^ n) == 2 ^ n) = (m / 2 ^ n % 2 == 1) := by
  show (m &&& 2 ^ n == 2 ^ n) = _
  rw [and2pow,Nat.testBit_eq_decide_div_mod_eq]
  have hp : 0 < 2 ^ n := Nat.two_pow_pos n
  cases q : decide (m / 2 ^ n % 2 = 1) with
  | true => rw [Bool.toNat_true,Nat.one_mul,beq_self_eq_true,beq_iff_eq.mpr (of_decide_eq_true q)]
  | false =>
    rw [Bool.toNat_false,Nat.zero_mul,beq_eq_false_iff_ne.mpr (of_decide_eq_false q),beq_eq_false_iff_ne]
    omega
theorem land2 (m a b : Nat) : Nat.land m (2 ^ a ||| 2 ^ b) = (m.testBit a).toNat * 2 ^ a ||| (m.testBit b).toNat * 2 ^ b := by
  show m &&& (2 ^ a ||| 2 ^ b) = _
  rw [Nat.and_or_distrib_left,and2pow,and2pow]
theorem bit512 (m n : Nat) (hn : n ≤ 8) : m % 512 / 2 ^ n % 2 = m / 2 ^ n % 2 := by
  rcases n with _ | _ | _ | _ | _ | _ | _ | _ | _ | n <;> first | (simp only [Nat.reducePow,Nat.reduceAdd,Nat.zero_add]; omega) | omega
theorem tb (m n : Nat) : (m / 2 ^ n % 2 == 1) = m.testBit n := by
  rw [Nat.testBit_eq_decide_div_mod_eq]
  rfl
theorem one_ok (m n c : Nat) (hn : n ≤ 8) (hc : isR c = true) (hm : c ∈ signs8) (b : Nat) (hb : b = 2 ^ n) : pickM m [(b,c)] ∈ signs8 ∧ isR (pickM m [(b,c)]) = (bitAt (m % 512) (8 - n) == 1) := by
  subst hb
  have e : bitAt (m % 512) (8 - n) = m / 2 ^ n % 2 := by
    unfold bitAt
    rw [show 8 - (8 - n) = n by omega]
    exact bit512 m n hn
  rw [e,← landbit]
  cases q : Nat.land m (2 ^ n) == 2 ^ n with
  | true => rw [pickM_t q]; exact ⟨hm,hc⟩
  | false =>
    rw [pickM_f q]
    exact ⟨by show 45 ∈ signs8; decide,rfl⟩
theorem three_ok (m n k c1 c2 c3 : Nat) (hn : n ≤ 8) (h1 : isR c1 = true) (h2 : isR c2 = false) (h3 : isR c3 = true) (m1 : c1 ∈ signs8) (m2 : c2 ∈ signs8) (m3 : c3 ∈ signs8) (b1 b2 b3 : Nat) (e1 : b1 = 2 ^ n ||| 2 ^ k) (e2 : b2 = 2 ^ k) (e3 : b3 = 2 ^ n)
    (hd : ∀ x y : Bool,(x.toNat * 2 ^ n ||| y.toNat * 2 ^ k == 2 ^ n ||| 2 ^ k) = (x && y)) :
    pickM m [(b1,c1),(b2,c2),(b3,c3)] ∈ signs8 ∧ isR (pickM m [(b1,c1),(b2,c2),(b3,c3)]) = (bitAt (m % 512) (8 - n) == 1) := by
  subst e1; subst e2; subst e3
  have e : bitAt (m % 512) (8 - n) = m / 2 ^ n % 2 := by
    unfold bitAt
    rw [show 8 - (8 - n) = n by omega]
    exact bit512 m n hn
  rw [e,tb]
  have q1 : (Nat.land m (2 ^ n ||| 2 ^ k) == 2 ^ n ||| 2 ^ k) = (m.testBit n && m.testBit k) := by rw [land2]; exact hd _ _
  have q2 : (Nat.land m (2 ^ k) == 2 ^ k) = m.testBit k := by rw [landbit,tb]
  have q3 : (Nat.land m (2 ^ n) == 2 ^ n) = m.testBit n := by rw [landbit,tb]
  cases x : m.testBit n with
  | true =>
    cases y : m.testBit k with
    | true =>
      rw [x,y] at q1
      rw [pickM_t q1]; exact ⟨m1,h1⟩
    | false =>
      rw [x,y] at q1
      rw [y] at q2
      rw [x] at q3
      rw [pickM_f q1,pickM_f q2,pickM_t q3]; exact ⟨m3,h3⟩
  | false =>
    cases y : m.testBit k with
    | true =>
      rw [x,y] at q1
      rw [y] at q2
      rw [pickM_f q1,pickM_t q2]; exact ⟨m2,h2⟩
    | false =>
      rw [x,y] at q1
      rw [y] at q2
      rw [x] at q3
      rw [pickM_f q1,pickM_f q2,pickM_f q3]; exact ⟨by show 45 ∈ signs8; decide,rfl⟩
theorem fm_tail (m : Nat) : (fmRow m).tail = [pickM m ent1,pickM m ent2,pickM m ent3,pickM m ent4,pickM m ent5,pickM m ent6,pickM m ent7,pickM m ent8,pickM m ent9] := rfl
theorem fm_facts (m : Nat) : ∀ i c,(fmRow m).tail[i]? = some c → c ∈ signs8 ∧ isR c = (bitAt (m % 512) i == 1) := by
  have f0 := one_ok m 8 114 (by decide) rfl (by decide) 256 rfl
  have f1 := one_ok m 7 119 (by decide) rfl (by decide) 128 rfl
  have f2 := three_ok m 6 11 115 83 120 (by decide) rfl rfl rfl (by decide) (by decide) (by decide) 2112 2048 64 rfl rfl rfl (by decide)
  have f3 := one_ok m 5 114 (by decide) rfl (by decide) 32 rfl
  have f4 := one_ok m 4 119 (by decide) rfl (by decide) 16 rfl
  have f5 := three_ok m 3 10 115 83 120 (by decide) rfl rfl rfl (by decide) (by decide) (by decide) 1032 1024 8 rfl rfl rfl (by decide)
  have f6 := one_ok m 2 114 (by decide) rfl (by decide) 4 rfl
  have f7 := one_ok m 1 119 (by decide) rfl (by decide) 2 rfl
  have f8 := three_ok m 0 9 116 84 120 (by decide) rfl rfl rfl (by decide) (by decide) (by decide) 513 512 1 rfl rfl rfl (by decide)
  intro i c h
  rw [fm_tail] at h
  rcases i with _ | _ | _ | _ | _ | _ | _ | _ | _ | i
  · cases h; exact f0
  · cases h; exact f1
  · cases h; exact f2
  · cases h; exact f3
  · cases h; exact f4
  · cases h; exact f5
  · cases h; exact f6
  · cases h; exact f7
  · cases h; exact f8
  · simp at h
theorem fm_signs (m : Nat) : ∀ c ∈ (fmRow m).tail,c ∈ signs8 := fun c hc => by
  obtain ⟨i,hi,e⟩ := List.getElem_of_mem hc
  exact (fm_facts m i c (by rw [← e]; exact List.getElem?_eq_getElem hi)).1
theorem bits_rif (m k : Nat) (hk : k ≤ 9) : bitF (m % 512) 9 0 k k = rif (fmRow m).tail (abc.take k).reverse (abc.drop k) :=
  bit_rif (s := (fmRow m).tail) rfl (fun i c h => (fm_facts m i c h).2) 9 0 k k rfl (by omega) hk
noncomputable def env4 (P : Params) (L : Nat) : Env := { scope := (fdOf P 204).scope,locals := L,globals := (fdOf P 204).globals,cells := [("j",L + 2),("order",L + 1)],qual := (fdOf P 204).qualname ++ (".<locals>." : Str),func := some 204,code := (fdOf P 204).code,frame := some L,builtins := (fdOf P 204).builtins }
noncomputable abbrev celO (v : Option Value) : Obj := ⟨.type "cell",none,.cell v,#[]⟩
noncomputable def lcA (P : Params) : Expr := match nthS P 204 0 with | .Assign _ e _ => e | _ => .Name "x" ⟨0,0,0,0⟩
noncomputable def lcB (P : Params) : Expr := match nthS P 204 1 with | .Assign _ (.Compare _ _ [e] _) _ => e | _ => .Name "x" ⟨0,0,0,0⟩
noncomputable def jB (P : Params) (k : Nat) : Stmt := match nthS P 204 5 with | .For _ _ b _ _ => b.getD k (.Pass ⟨0,0,0,0⟩) | _ => .Pass ⟨0,0,0,0⟩
noncomputable def lcC (P : Params) : Expr := match jB P 0 with | .Assign _ e _ => e | _ => .Name "x" ⟨0,0,0,0⟩
noncomputable def lcS4 (P : Params) (L : Nat) (e : Expr) : Scope := { lcScope e with names := (lcScope e).names.map fun p => if p.2 == .free && (env4 P L).scope.kind == .function && (env4 P L).kindOf p.1 == some .cell then (p.1,.cell) else (p.1,p.2) }
noncomputable def cenv4 (P : Params) (L Lc : Nat) (e : Expr) (cells : List (Str × Addr)) : Env := { scope := lcS4 P L e,locals := Lc,globals := (fdOf P 204).globals,cells := cells,qual := (fdOf P 204).qualname ++ (".<locals>." : Str),func := none,code := (fdOf P 204).code,frame := some L,builtins := (fdOf P 204).builtins }
theorem fAs (w:World) (L Lc it acc t i:Nat) (s:List Nat) (b:Bool) (nn tt om xi ps):Ends (go (wf w b true) 100 (den (.compStart (lcA (wf w b true).params) 0 (.ref it) (.ref acc) (cenv4 (wf w b true).params L Lc (lcA (wf w b true).params) []))) [] ([(it,iterO s t i)]) .nil nn tt om xi ps) ([0]) (.ok (.again (.compLoop (lcA (wf w b true).params) 0 (.ref it) (.ref acc) (cenv4 (wf w b true).params L Lc (lcA (wf w b true).params) [])))) ([(it,iterO s t i)]) := by cases b <;> trivial
theorem fAf (w:World) (L Lc it acc t i:Nat) (s:List Nat) (b:Bool) (nn tt om xi ps):Ends (go (wf w b false) 100 (den (.compStart (lcA (wf w b false).params) 0 (.ref it) (.ref acc) (cenv4 (wf w b false).params L Lc (lcA (wf w b false).params) []))) [1,1,0,1,1] ([(it,iterO s t i)]) .nil nn tt om xi ps) ([0]) (.ok (.again (.compLoop (lcA (wf w b false).params) 0 (.ref it) (.ref acc) (cenv4 (wf w b false).params L Lc (lcA (wf w b false).params) [])))) ([(it,iterO s t i)]) := by cases b <;> trivial
theorem fAa (w:World) (L Lc it acc t i na:Nat) (s:List Nat) (us:List Value) (c0:Nat) (m:Int) (y:Value) (H:NI) (T:NN) (b c:Bool) (nn tt om xi ps):Ends (go (wf w b c) 200 (den (.compLoop (lcA (wf w b c).params) 0 (.ref it) (.ref acc) (cenv4 (wf w b c).params L Lc (lcA (wf w b c).params) []))) [2,1,1,1,1,1,1] ([(Lc,cdO [] 0),(it,iterO s t i),(acc,lstO us na)]) (IL fun nn tt om xi=>[snextI 1 it s t i c0,bI "str.index" [.str ⟨⟨abc⟩⟩ (tt 1+1),.str ⟨⟨[c0]⟩⟩ (om 0 0)] (intR m),lappI 2 acc us na (.int m (om 1 0))]) nn tt om xi ps) ([0,1,2]) (.ok (.again (.compLoop (lcA (wf w b c).params) 0 (.ref it) (.ref acc) (cenv4 (wf w b c).params L Lc (lcA (wf w b c).params) [])))) ([(Lc,cdO [en (hs (wf w b c).params "letter") "letter" (tt 1) (.str ⟨⟨[c0]⟩⟩ (om 0 0))] 1),(it,iterO s t (i+1)),(acc,lstO (us++[.int m (om 1 0)]) (na+1))]) := by cases b <;> trivial
theorem fAb (w:World) (L Lc it acc t i na:Nat) (s:List Nat) (us:List Value) (c0:Nat) (m:Int) (y:Value) (H:NI) (T:NN) (b c:Bool) (nn tt om xi ps):Ends (go (wf w b c) 200 (den (.compLoop (lcA (wf w b c).params) 0 (.ref it) (.ref acc) (cenv4 (wf w b c).params L Lc (lcA (wf w b c).params) []))) [2,1,1,1,1,1,1] ([(Lc,cdO [fe H T 0 "letter" y] 1),(it,iterO s t i),(acc,lstO us na)]) (IL fun nn tt om xi=>[snextI 1 it s t i c0,bI "str.index" [.str ⟨⟨abc⟩⟩ (tt 1+1),.str ⟨⟨[c0]⟩⟩ (om 0 0)] (intR m),lappI 2 acc us na (.int m (om 1 0))]) nn tt om xi ps) ([0,1,2]) (.ok (.again (.compLoop (lcA (wf w b c).params) 0 (.ref it) (.ref acc) (cenv4 (wf w b c).params L Lc (lcA (wf w b c).params) [])))) ([(Lc,cdO [fe H T 0 "letter" (.str ⟨⟨[c0]⟩⟩ (om 0 0))] 1),(it,iterO s t (i+1)),(acc,lstO (us++[.int m (om 1 0)]) (na+1))]) := by cases b <;> trivial
theorem fAe (w:World) (L Lc it acc t i na:Nat) (s:List Nat) (us:List Value) (c0:Nat) (m:Int) (y:Value) (H:NI) (T:NN) (nn tt om xi ps):Ends (go w 100 (den (.compLoop (lcA w.params) 0 (.ref it) (.ref acc) (cenv4 w.params L Lc (lcA w.params) []))) [1,1,3] ([(it,iterO s t i)]) (IL fun nn tt om xi=>[sendI 0 it s t i]) nn tt om xi ps) ([0]) (.ok (.done .next)) ([(it,endO i)]) := by trivial
theorem sidx0 (w:World) (t u:Nat) (nn tt om xi ps):Ends (go w 60 (Sem.call (.call (.builtin "str.index") ⟨[.str ⟨⟨abc⟩⟩ t,.str ⟨⟨[97]⟩⟩ u],[]⟩) none false [] Sem.pure) [0] ([]) .nil nn tt om xi ps) ([]) (.ok ((intR 0) tt)) ([]) := by trivial
theorem sidx1 (w:World) (t u:Nat) (nn tt om xi ps):Ends (go w 60 (Sem.call (.call (.builtin "str.index") ⟨[.str ⟨⟨abc⟩⟩ t,.str ⟨⟨[98]⟩⟩ u],[]⟩) none false [] Sem.pure) [0] ([]) .nil nn tt om xi ps) ([]) (.ok ((intR 1) tt)) ([]) := by trivial
theorem sidx2 (w:World) (t u:Nat) (nn tt om xi ps):Ends (go w 60 (Sem.call (.call (.builtin "str.index") ⟨[.str ⟨⟨abc⟩⟩ t,.str ⟨⟨[99]⟩⟩ u],[]⟩) none false [] Sem.pure) [0] ([]) .nil nn tt om xi ps) ([]) (.ok ((intR 2) tt)) ([]) := by trivial
theorem sidx3 (w:World) (t u:Nat) (nn tt om xi ps):Ends (go w 60 (Sem.call (.call (.builtin "str.index") ⟨[.str ⟨⟨abc⟩⟩ t,.str ⟨⟨[100]⟩⟩ u],[]⟩) none false [] Sem.pure) [0] ([]) .nil nn tt om xi ps) ([]) (.ok ((intR 3) tt)) ([]) := by trivial
theorem sidx4 (w:World) (t u:Nat) (nn tt om xi ps):Ends (go w 60 (Sem.call (.call (.builtin "str.index") ⟨[.str ⟨⟨abc⟩⟩ t,.str ⟨⟨[101]⟩⟩ u],[]⟩) none false [] Sem.pure) [0] ([]) .nil nn tt om xi ps) ([]) (.ok ((intR 4) tt)) ([]) := by trivial
theorem sidx5 (w:World) (t u:Nat) (nn tt om xi ps):Ends (go w 60 (Sem.call (.call (.builtin "str.index") ⟨[.str ⟨⟨abc⟩⟩ t,.str ⟨⟨[102]⟩⟩ u],[]⟩) none false [] Sem.pure) [0] ([]) .nil nn tt om xi ps) ([]) (.ok ((intR 5) tt)) ([]) := by trivial
theorem sidx6 (w:World) (t u:Nat) (nn tt om xi ps):Ends (go w 60 (Sem.call (.call (.builtin "str.index") ⟨[.str ⟨⟨abc⟩⟩ t,.str ⟨⟨[103]⟩⟩ u],[]⟩) none false [] Sem.pure) [0] ([]) .nil nn tt om xi ps) ([]) (.ok ((intR 6) tt)) ([]) := by trivial
theorem sidx7 (w:World) (t u:Nat) (nn tt om xi ps):Ends (go w 60 (Sem.call (.call (.builtin "str.index") ⟨[.str ⟨⟨abc⟩⟩ t,.str ⟨⟨[104]⟩⟩ u],[]⟩) none false [] Sem.pure) [0] ([]) .nil nn tt om xi ps) ([]) (.ok ((intR 7) tt)) ([]) := by trivial
theorem sidx8 (w:World) (t u:Nat) (nn tt om xi ps):Ends (go w 60 (Sem.call (.call (.builtin "str.index") ⟨[.str ⟨⟨abc⟩⟩ t,.str ⟨⟨[105]⟩⟩ u],[]⟩) none false [] Sem.pure) [0] ([]) .nil nn tt om xi ps) ([]) (.ok ((intR 8) tt)) ([]) := by trivial
theorem fBs (w:World) (L Lc it acc:Nat) (i m:Int) (b:Bool) (nn tt om xi ps):Ends (go (wf w b true) 100 (den (.compStart (lcB (wf w b true).params) 0 (.ref it) (.ref acc) (cenv4 (wf w b true).params L Lc (lcB (wf w b true).params) [("order",L+1)]))) [] ([(it,rngO i m)]) .nil nn tt om xi ps) ([0]) (.ok (.again (.compLoop (lcB (wf w b true).params) 0 (.ref it) (.ref acc) (cenv4 (wf w b true).params L Lc (lcB (wf w b true).params) [("order",L+1)])))) ([(it,rngO i m)]) := by cases b <;> trivial
theorem fBf (w:World) (L Lc it acc:Nat) (i m:Int) (b:Bool) (nn tt om xi ps):Ends (go (wf w b false) 100 (den (.compStart (lcB (wf w b false).params) 0 (.ref it) (.ref acc) (cenv4 (wf w b false).params L Lc (lcB (wf w b false).params) [("order",L+1)]))) [1,1,0,1,1] ([(it,rngO i m)]) .nil nn tt om xi ps) ([0]) (.ok (.again (.compLoop (lcB (wf w b false).params) 0 (.ref it) (.ref acc) (cenv4 (wf w b false).params L Lc (lcB (wf w b false).params) [("order",L+1)])))) ([(it,rngO i m)]) := by cases b <;> trivial
theorem fBa (w:World) (L Lc it acc i na to:Nat) (m:Int) (o:List Nat) (us:List Value) (y:Value) (H:NI) (T:NN) (b c:Bool) (nn tt om xi ps):Ends (go (wf w b c) 300 (den (.compLoop (lcB (wf w b c).params) 0 (.ref it) (.ref acc) (cenv4 (wf w b c).params L Lc (lcB (wf w b c).params) [("order",L+1)]))) [2,1,1,1,0,4,1,0,1,1] ([(Lc,cdO [] 0),(it,rngO (Int.ofNat i) m),(acc,lstO us na),(L+1,celO (some (.str ⟨⟨o⟩⟩ to)))]) (IL fun nn tt om xi=>[rnxI 1 it (Int.ofNat i) m,fitI o to i (om 0 0),lappI 2 acc us na (.bool (fitG o (abc.take i).reverse (abc.drop i)))]) nn tt om xi ps) ([0,1,2,3]) (.ok (.again (.compLoop (lcB (wf w b c).params) 0 (.ref it) (.ref acc) (cenv4 (wf w b c).params L Lc (lcB (wf w b c).params) [("order",L+1)])))) ([(Lc,cdO [en (hs (wf w b c).params "count") "count" (tt 1) (.int (Int.ofNat i) (om 0 0))] 1),(it,rngO (Int.ofNat i+1) (m - 1)),(acc,lstO (us++[.bool (fitG o (abc.take i).reverse (abc.drop i))]) (na+1)),(L+1,celO (some (.str ⟨⟨o⟩⟩ to)))]) := by cases b <;> trivial
theorem fBb (w:World) (L Lc it acc i na to:Nat) (m:Int) (o:List Nat) (us:List Value) (y:Value) (H:NI) (T:NN) (b c:Bool) (nn tt om xi ps):Ends (go (wf w b c) 300 (den (.compLoop (lcB (wf w b c).params) 0 (.ref it) (.ref acc) (cenv4 (wf w b c).params L Lc (lcB (wf w b c).params) [("order",L+1)]))) [2,1,1,1,0,4,1,0,1,1] ([(Lc,cdO [fe H T 0 "count" y] 1),(it,rngO (Int.ofNat i) m),(acc,lstO us na),(L+1,celO (some (.str ⟨⟨o⟩⟩ to)))]) (IL fun nn tt om xi=>[rnxI 1 it (Int.ofNat i) m,fitI o to i (om 0 0),lappI 2 acc us na (.bool (fitG o (abc.take i).reverse (abc.drop i)))]) nn tt om xi ps) ([0,1,2,3]) (.ok (.again (.compLoop (lcB (wf w b c).params) 0 (.ref it) (.ref acc) (cenv4 (wf w b c).params L Lc (lcB (wf w b c).params) [("order",L+1)])))) ([(Lc,cdO [fe H T 0 "count" (.int (Int.ofNat i) (om 0 0))] 1),(it,rngO (Int.ofNat i+1) (m - 1)),(acc,lstO (us++[.bool (fitG o (abc.take i).reverse (abc.drop i))]) (na+1)),(L+1,celO (some (.str ⟨⟨o⟩⟩ to)))]) := by cases b <;> trivial
theorem fBe (w:World) (L Lc it acc i na to:Nat) (m:Int) (o:List Nat) (us:List Value) (y:Value) (H:NI) (T:NN) (nn tt om xi ps):Ends (go w 100 (den (.compLoop (lcB w.params) 0 (.ref it) (.ref acc) (cenv4 w.params L Lc (lcB w.params) [("order",L+1)]))) [1,1,3] ([(it,rngO (Int.ofNat i) 0)]) (IL fun nn tt om xi=>[rendI 0 it (Int.ofNat i)]) nn tt om xi ps) ([0]) (.ok (.done .next)) ([(it,rngO (Int.ofNat i) 0)]) := by trivial
theorem fCs (w:World) (L Lc it acc ls i:Nat) (b:Bool) (nn tt om xi ps):Ends (go (wf w b true) 100 (den (.compStart (lcC (wf w b true).params) 0 (.ref it) (.ref acc) (cenv4 (wf w b true).params L Lc (lcC (wf w b true).params) [("j",L+2)]))) [] ([(it,litO ls i)]) .nil nn tt om xi ps) ([0]) (.ok (.again (.compLoop (lcC (wf w b true).params) 0 (.ref it) (.ref acc) (cenv4 (wf w b true).params L Lc (lcC (wf w b true).params) [("j",L+2)])))) ([(it,litO ls i)]) := by cases b <;> trivial
theorem fCf (w:World) (L Lc it acc ls i:Nat) (b:Bool) (nn tt om xi ps):Ends (go (wf w b false) 100 (den (.compStart (lcC (wf w b false).params) 0 (.ref it) (.ref acc) (cenv4 (wf w b false).params L Lc (lcC (wf w b false).params) [("j",L+2)]))) [1,1,0,1,1] ([(it,litO ls i)]) .nil nn tt om xi ps) ([0]) (.ok (.again (.compLoop (lcC (wf w b false).params) 0 (.ref it) (.ref acc) (cenv4 (wf w b false).params L Lc (lcC (wf w b false).params) [("j",L+2)])))) ([(it,litO ls i)]) := by cases b <;> trivial
theorem fCa (w:World) (L Lc it acc ls n i na j tj:Nat) (vs us:List Value) (x m:Int) (tx:Nat) (y:Value) (H:NI) (T:NN) (b c:Bool) (nn tt om xi ps):Ends (go (wf w b c) 300 (den (.compLoop (lcC (wf w b c).params) 0 (.ref it) (.ref acc) (cenv4 (wf w b c).params L Lc (lcC (wf w b c).params) [("j",L+2)]))) [3,1,1,1,1,5,1,1] ([(Lc,cdO [] 0),(ls,lstO vs n),(it,litO ls i),(acc,lstO us na),(L+2,celO (some (.int (Int.ofNat (j+1)) tj)))]) (IL fun nn tt om xi=>[lnextI 1 2 ls it vs n i (.int x tx),bI "int.__mod__" [.int x tx,.int (Int.ofNat (j+1)) tj] (intR m),lappI 3 acc us na (.int m (om 1 0))]) nn tt om xi ps) ([0,1,2,3,4]) (.ok (.again (.compLoop (lcC (wf w b c).params) 0 (.ref it) (.ref acc) (cenv4 (wf w b c).params L Lc (lcC (wf w b c).params) [("j",L+2)])))) ([(Lc,cdO [en (hs (wf w b c).params "code") "code" (tt 1) (.int x tx)] 1),(ls,lstO vs n),(it,litO ls (i+1)),(acc,lstO (us++[.int m (om 1 0)]) (na+1)),(L+2,celO (some (.int (Int.ofNat (j+1)) tj)))]) := by cases b <;> trivial
theorem fCb (w:World) (L Lc it acc ls n i na j tj:Nat) (vs us:List Value) (x m:Int) (tx:Nat) (y:Value) (H:NI) (T:NN) (b c:Bool) (nn tt om xi ps):Ends (go (wf w b c) 300 (den (.compLoop (lcC (wf w b c).params) 0 (.ref it) (.ref acc) (cenv4 (wf w b c).params L Lc (lcC (wf w b c).params) [("j",L+2)]))) [3,1,1,1,1,5,1,1] ([(Lc,cdO [fe H T 0 "code" y] 1),(ls,lstO vs n),(it,litO ls i),(acc,lstO us na),(L+2,celO (some (.int (Int.ofNat (j+1)) tj)))]) (IL fun nn tt om xi=>[lnextI 1 2 ls it vs n i (.int x tx),bI "int.__mod__" [.int x tx,.int (Int.ofNat (j+1)) tj] (intR m),lappI 3 acc us na (.int m (om 1 0))]) nn tt om xi ps) ([0,1,2,3,4]) (.ok (.again (.compLoop (lcC (wf w b c).params) 0 (.ref it) (.ref acc) (cenv4 (wf w b c).params L Lc (lcC (wf w b c).params) [("j",L+2)])))) ([(Lc,cdO [fe H T 0 "code" (.int x tx)] 1),(ls,lstO vs n),(it,litO ls (i+1)),(acc,lstO (us++[.int m (om 1 0)]) (na+1)),(L+2,celO (some (.int (Int.ofNat (j+1)) tj)))]) := by cases b <;> trivial
theorem fCe (w:World) (L Lc it acc ls n i na j tj:Nat) (vs us:List Value) (x m:Int) (tx:Nat) (y:Value) (H:NI) (T:NN) (nn tt om xi ps):Ends (go w 100 (den (.compLoop (lcC w.params) 0 (.ref it) (.ref acc) (cenv4 w.params L Lc (lcC w.params) [("j",L+2)]))) [2,1,4] ([(ls,lstO vs n),(it,litO ls i)]) (IL fun nn tt om xi=>[lendI 0 1 ls it vs n i]) nn tt om xi ps) ([0,1]) (.ok (.done .next)) ([(ls,lstO vs n),(it,lieO i)]) := by trivial
section
variable {w : World} {C : Around → Prop} (hh : ∀ A,C A → A.handled = none)
include hh
theorem sidx_ok {t u c : Nat} (hc : c ∈ abc) : IOk theP w (MyK w.params) C (bI "str.index" [.str ⟨⟨abc⟩⟩ t,.str ⟨⟨[c]⟩⟩ u] (intR (Int.ofNat (c - 97)))) := by
  simp only [abc,List.mem_cons,List.not_mem_nil,or_false] at hc
  rcases hc with rfl | rfl | rfl | rfl | rfl | rfl | rfl | rfl | rfl
  · exact pureI _ (sidx0 w t u) hh
  · exact pureI _ (sidx1 w t u) hh
  · exact pureI _ (sidx2 w t u) hh
  · exact pureI _ (sidx3 w t u) hh
  · exact pureI _ (sidx4 w t u) hh
  · exact pureI _ (sidx5 w t u) hh
  · exact pureI _ (sidx6 w t u) hh
  · exact pureI _ (sidx7 w t u) hh
  · exact pureI _ (sidx8 w t u) hh
end
theorem lpA4 (w : World) (b c : Bool) {A : Around} {g : Heap} {A0 : List Addr} {R : Result → Shared → Prop} (hA : AB 780 5900 A) (L Lc it acc : Nat) (t0 : Nat) (s : List Nat) (hs9 : s.length = 9) (hab : ∀ c ∈ s,c ∈ abc) :
    ∀ (m i na : Nat) (us : List Value) (fr : Obj) (sh : Shared),i + m = s.length → IntsAre us ((s.take i).map fun c => Int.ofNat (c - 97)) → ((i = 0 ∧ fr = cdO [] 0) ∨ (0 < i ∧ ∃ t u : Nat,fr = cdO [⟨hs (wf w b c).params "letter",.str "letter" t,.str ⟨⟨[s.getD (i - 1) 0]⟩⟩ u⟩] 1)) →
    Rp (MyK (wf w b c).params) g A0 sh.heap [(Lc,fr),(it,iterO s t0 i),(acc,lstO us na)] →
    (∀ na' us' (t u : Nat) h' tk',IntsAre us' ((s.take s.length).map fun c => Int.ofNat (c - 97)) → Rp (MyK (wf w b c).params) g A0 h' [(Lc,cdO [⟨hs (wf w b c).params "letter",.str "letter" t,.str ⟨⟨[s.getD (s.length - 1) 0]⟩⟩ u⟩] 1),(it,endO s.length),(acc,lstO us' na')] → R (.ok .next) { sh with heap := h',toks := tk' }) →
    codeAny (MM (wf w b c)) A (.compLoop (lcA (wf w b c).params) 0 (.ref it) (.ref acc) (cenv4 (wf w b c).params L Lc (lcA (wf w b c).params) [])) R sh := by
  intro m
  induction m with
  | zero =>
    intro i na us fr sh hi hus hfr D hR
    refine codeTurn (by kernel_rfl) ?_
    have hi : i = s.length := by omega
    subst hi
    rcases hfr with ⟨h0,_⟩ | ⟨h0,t,u,rfl⟩
    · exact absurd h0 (by omega)
    refine fragQ [(acc,lstO us na),(Lc,cdO [⟨hs (wf w b c).params "letter",.str "letter" t,.str ⟨⟨[s.getD (s.length - 1) 0]⟩⟩ u⟩] 1)] (D.sel [1,2,0] (by decide)) (List.Perm.refl _) (fAe (wf w b c) L Lc it acc t0 s.length 0 s [] 0 0 .none (fun _ => 0) (fun _ => 0)) AB.hh hA (okIL _ fun nn tt om xi => oneIns (send_ok AB.hh rfl (by omega)) nilIns) ?_
    intro nn tt om xi h' tk' D'
    exact hR na us t u h' tk' hus (D'.sel [2,0,1] (by decide))
  | succ m ih =>
    intro i na us fr sh hi hus hfr D hR
    refine codeTurn (by kernel_rfl) ?_
    have hlt : i < s.length := by omega
    obtain ⟨c0,hc0⟩ : ∃ c0,s[i]? = some c0 := ⟨_,List.getElem?_eq_getElem hlt⟩
    have hg : s.getD (i + 1 - 1) 0 = c0 := by show s.getD i 0 = c0; rw [List.getD_eq_getElem?_getD,hc0]; rfl
    have hin : c0 ∈ abc := hab _ (List.mem_of_getElem? hc0)
    have hlu : us.length ≤ 100 := by rw [hus.length,List.length_map,List.length_take]; omega
    have step : ∀ (t u tv : Nat) h' tk',Rp (MyK (wf w b c).params) g A0 h' [(Lc,cdO [⟨hs (wf w b c).params "letter",.str "letter" t,.str ⟨⟨[s.getD ((i + 1) - 1) 0]⟩⟩ u⟩] 1),(it,iterO s t0 (i + 1)),(acc,lstO (us ++ [.int (Int.ofNat (c0 - 97)) tv]) (na + 1))] → codeAny (MM (wf w b c)) A (.compLoop (lcA (wf w b c).params) 0 (.ref it) (.ref acc) (cenv4 (wf w b c).params L Lc (lcA (wf w b c).params) [])) R { sh with heap := h',toks := tk' } := by
      intro t u tv h' tk' D'
      exact ih (i + 1) (na + 1) _ _ { sh with heap := h',toks := tk' } (by omega) (by rw [List.take_add_one,hc0]; show IntsAre _ (List.map _ (_ ++ [c0])); rw [List.map_append]; exact are_app hus _ _) (.inr ⟨Nat.succ_pos _,t,u,rfl⟩) D' hR
    rcases hfr with ⟨h0,rfl⟩ | ⟨h0,t,u,rfl⟩
    · refine fragQ [] D (List.Perm.refl _) (fAa w L Lc it acc t0 i na s us c0 (Int.ofNat (c0 - 97)) .none (fun _ => 0) (fun _ => 0) b c) AB.hh hA (okIL _ fun nn tt om xi => oneIns (snext_ok AB.hh hc0 (by omega)) (oneIns (sidx_ok AB.hh hin) (oneIns (lapp_ok hlu) nilIns))) ?_
      intro nn tt om xi h' tk' D'
      exact ⟨by kernel_rfl,step _ (om 0 0) (om 1 0) h' tk' (by rw [hg]; exact D')⟩
    · refine fragQ [] D (List.Perm.refl _) (fAb w L Lc it acc t0 i na s us c0 (Int.ofNat (c0 - 97)) _ (fun _ => hs (wf w b c).params "letter") (fun _ => t) b c) AB.hh hA (okIL _ fun nn tt om xi => oneIns (snext_ok AB.hh hc0 (by omega)) (oneIns (sidx_ok AB.hh hin) (oneIns (lapp_ok hlu) nilIns))) ?_
      intro nn tt om xi h' tk' D'
      exact ⟨by kernel_rfl,step _ (om 0 0) (om 1 0) h' tk' (by rw [hg]; exact D')⟩
theorem lpB4 (w : World) (b c : Bool) {A : Around} {g : Heap} {A0 : List Addr} {R : Result → Shared → Prop} (hA : AB 780 5900 A) (L Lc it acc : Nat) (o : List Nat) (to : Nat) (ho : o.length ≤ 9) (h128 : ∀ x ∈ o,x < 128) :
    ∀ (m i na : Nat) (us : List Value) (fr : Obj) (sh : Shared),i + m = 10 → (us = (List.range i).map fun q => Value.bool (fitG o (abc.take q).reverse (abc.drop q))) → ((i = 0 ∧ fr = cdO [] 0) ∨ (0 < i ∧ ∃ t u : Nat,fr = cdO [⟨hs (wf w b c).params "count",.str "count" t,.int (Int.ofNat (i - 1)) u⟩] 1)) →
    Rp (MyK (wf w b c).params) g A0 sh.heap [(Lc,fr),(it,rngO (Int.ofNat i) (10 - Int.ofNat i)),(acc,lstO us na),(L + 1,celO (some (.str ⟨⟨o⟩⟩ to)))] →
    (∀ na' us' (t u : Nat) h' tk',(us' = (List.range 10).map fun q => Value.bool (fitG o (abc.take q).reverse (abc.drop q))) → Rp (MyK (wf w b c).params) g A0 h' [(Lc,cdO [⟨hs (wf w b c).params "count",.str "count" t,.int (Int.ofNat (10 - 1)) u⟩] 1),(it,rngO 10 0),(acc,lstO us' na'),(L + 1,celO (some (.str ⟨⟨o⟩⟩ to)))] → R (.ok .next) { sh with heap := h',toks := tk' }) →
    codeAny (MM (wf w b c)) A (.compLoop (lcB (wf w b c).params) 0 (.ref it) (.ref acc) (cenv4 (wf w b c).params L Lc (lcB (wf w b c).params) [("order",L + 1)])) R sh := by
  intro m
  induction m with
  | zero =>
    intro i na us fr sh hi hus hfr D hR
    refine codeTurn (by kernel_rfl) ?_
    have hi : i = 10 := by omega
    subst hi
    rcases hfr with ⟨h0,_⟩ | ⟨h0,t,u,rfl⟩
    · exact absurd h0 (by decide)
    refine fragQ [(acc,lstO us na),(L + 1,celO (some (.str ⟨⟨o⟩⟩ to))),(Lc,cdO [⟨hs (wf w b c).params "count",.str "count" t,.int (Int.ofNat (10 - 1)) u⟩] 1)] (D.sel [1,2,3,0] (by decide)) (List.Perm.refl _) (fBe (wf w b c) L Lc it acc 10 0 0 0 [] [] .none (fun _ => 0) (fun _ => 0)) AB.hh hA (okIL _ fun nn tt om xi => oneIns (rend_ok AB.hh) nilIns) ?_
    intro nn tt om xi h' tk' D'
    exact hR na us t u h' tk' hus (D'.sel [3,0,1,2] (by decide))
  | succ m ih =>
    intro i na us fr sh hi hus hfr D hR
    refine codeTurn (by kernel_rfl) ?_
    have hlt : i < 10 := by omega
    have hlu : us.length ≤ 100 := by rw [hus,List.length_map,List.length_range]; omega
    have em : (10 - Int.ofNat i : Int) = Int.ofNat (9 - i + 1) := by show (10 : Int) - (i : Int) = ((9 - i + 1 : Nat) : Int); omega
    have em2 : (10 - Int.ofNat i - 1 : Int) = 10 - Int.ofNat (i + 1) := by show (10 : Int) - (i : Int) - 1 = 10 - ((i + 1 : Nat) : Int); omega
    have hnx : ∀ j,IOk theP (wf w b c) (MyK (wf w b c).params) (AB 780 5900) (rnxI j it (Int.ofNat i) (10 - Int.ofNat i)) := fun j => by rw [em]; exact rnx_ok AB.hh
    have step : ∀ (t u tv : Nat) h' tk',Rp (MyK (wf w b c).params) g A0 h' [(Lc,cdO [⟨hs (wf w b c).params "count",.str "count" t,.int (Int.ofNat ((i + 1) - 1)) u⟩] 1),(it,rngO (Int.ofNat (i + 1)) (10 - Int.ofNat (i + 1))),(acc,lstO (us ++ [.bool (fitG o (abc.take i).reverse (abc.drop i))]) (na + 1)),(L + 1,celO (some (.str ⟨⟨o⟩⟩ to)))] → codeAny (MM (wf w b c)) A (.compLoop (lcB (wf w b c).params) 0 (.ref it) (.ref acc) (cenv4 (wf w b c).params L Lc (lcB (wf w b c).params) [("order",L + 1)])) R { sh with heap := h',toks := tk' } := by
      intro t u tv h' tk' D'
      exact ih (i + 1) (na + 1) _ _ { sh with heap := h',toks := tk' } (by omega) (by rw [hus,List.range_succ,List.map_append]; rfl) (.inr ⟨Nat.succ_pos _,t,u,rfl⟩) D' hR
    rcases hfr with ⟨h0,rfl⟩ | ⟨h0,t,u,rfl⟩
    · refine fragQ [] D (List.Perm.refl _) (fBa w L Lc it acc i na to (10 - Int.ofNat i) o us .none (fun _ => 0) (fun _ => 0) b c) AB.hh hA (okIL _ fun nn tt om xi => oneIns (hnx _) (oneIns ((fit_ok w b c o to i _ (by omega) ho h128).ab) (oneIns (lapp_ok hlu) nilIns))) ?_
      intro nn tt om xi h' tk' D'
      exact ⟨by kernel_rfl,step _ (om 0 0) 0 h' tk' (by rw [← em2]; exact D')⟩
    · refine fragQ [] D (List.Perm.refl _) (fBb w L Lc it acc i na to (10 - Int.ofNat i) o us _ (fun _ => hs (wf w b c).params "count") (fun _ => t) b c) AB.hh hA (okIL _ fun nn tt om xi => oneIns (hnx _) (oneIns ((fit_ok w b c o to i _ (by omega) ho h128).ab) (oneIns (lapp_ok hlu) nilIns))) ?_
      intro nn tt om xi h' tk' D'
      exact ⟨by kernel_rfl,step _ (om 0 0) 0 h' tk' (by rw [← em2]; exact D')⟩
theorem lpC4c (w : World) (b c : Bool) {A : Around} {g : Heap} {A0 : List Addr} {R : Result → Shared → Prop} (hA : AB 780 5900 A) (L Lc it acc : Nat) (ls n : Nat) (vs : List Value) (xs : List Int) (hv : IntsAre vs xs) (h9 : vs.length = 9) (j tj : Nat) :
    ∀ (m i na : Nat) (us : List Value) (fr : Obj) (sh : Shared),i + m = vs.length → IntsAre us (mods j (xs.take i)) → ((i = 0 ∧ fr = cdO [] 0) ∨ (0 < i ∧ ∃ t u : Nat,fr = cdO [⟨hs (wf w b c).params "code",.str "code" t,vs.getD (i - 1) .none⟩] 1)) →
    Rp (MyK (wf w b c).params) g A0 sh.heap [(Lc,fr),(ls,lstO vs n),(it,litO ls i),(acc,lstO us na),(L + 2,celO (some (.int (Int.ofNat (j + 1)) tj)))] →
    (∀ na' us' (t u : Nat) h' tk',IntsAre us' (mods j (xs.take vs.length)) → Rp (MyK (wf w b c).params) g A0 h' [(Lc,cdO [⟨hs (wf w b c).params "code",.str "code" t,vs.getD (vs.length - 1) .none⟩] 1),(ls,lstO vs n),(it,lieO vs.length),(acc,lstO us' na'),(L + 2,celO (some (.int (Int.ofNat (j + 1)) tj)))] → R (.ok .next) { sh with heap := h',toks := tk' }) →
    codeAny (MM (wf w b c)) A (.compLoop (lcC (wf w b c).params) 0 (.ref it) (.ref acc) (cenv4 (wf w b c).params L Lc (lcC (wf w b c).params) [("j",L + 2)])) R sh := by
  intro m
  induction m with
  | zero =>
    intro i na us fr sh hi hus hfr D hR
    refine codeTurn (by kernel_rfl) ?_
    have hi : i = vs.length := by omega
    subst hi
    rcases hfr with ⟨h0,_⟩ | ⟨h0,t,u,rfl⟩
    · exact absurd h0 (by omega)
    refine fragQ [(acc,lstO us na),(L + 2,celO (some (.int (Int.ofNat (j + 1)) tj))),(Lc,cdO [⟨hs (wf w b c).params "code",.str "code" t,vs.getD (vs.length - 1) .none⟩] 1)] (D.sel [1,2,3,4,0] (by decide)) (List.Perm.refl _) (fCe (wf w b c) L Lc it acc ls n vs.length 0 0 0 vs [] 0 0 0 .none (fun _ => 0) (fun _ => 0)) AB.hh hA (okIL _ fun nn tt om xi => oneIns (lend_ok AB.hh rfl (by omega)) nilIns) ?_
    intro nn tt om xi h' tk' D'
    exact hR na us t u h' tk' hus (D'.sel [4,0,1,2,3] (by decide))
  | succ m ih =>
    intro i na us fr sh hi hus hfr D hR
    refine codeTurn (by kernel_rfl) ?_
    have hlt : i < vs.length := by omega
    have hxl : xs.length = vs.length := hv.length.symm
    obtain ⟨x,tx,hx,hx2,hxd⟩ := are_get hv (i := i) (by omega)
    have hg : vs.getD (i + 1 - 1) .none = .int x tx := by show vs.getD i .none = _; rw [List.getD_eq_getElem?_getD,hx]; rfl
    have hlu : us.length ≤ 100 := by rw [hus.length]; unfold mods; rw [List.length_map,List.length_take]; omega
    have hmd : ∀ t u,IOk theP (wf w b c) (MyK (wf w b c).params) (AB 780 5900) (bI "int.__mod__" [.int x t,.int (Int.ofNat (j + 1)) u] (intR (Int.fmod x (Int.ofNat (j + 1))))) := fun t u => imod_ok AB.hh rfl
    have step : ∀ (t u tv : Nat) h' tk',Rp (MyK (wf w b c).params) g A0 h' [(Lc,cdO [⟨hs (wf w b c).params "code",.str "code" t,vs.getD ((i + 1) - 1) .none⟩] 1),(ls,lstO vs n),(it,litO ls (i + 1)),(acc,lstO (us ++ [.int (Int.fmod x (Int.ofNat (j + 1))) tv]) (na + 1)),(L + 2,celO (some (.int (Int.ofNat (j + 1)) tj)))] → codeAny (MM (wf w b c)) A (.compLoop (lcC (wf w b c).params) 0 (.ref it) (.ref acc) (cenv4 (wf w b c).params L Lc (lcC (wf w b c).params) [("j",L + 2)])) R { sh with heap := h',toks := tk' } := by
      intro t u tv h' tk' D'
      exact ih (i + 1) (na + 1) _ _ { sh with heap := h',toks := tk' } (by omega) (by rw [List.take_add_one,hx2]; show IntsAre _ (List.map _ (_ ++ [x])); rw [List.map_append]; exact are_app hus _ _) (.inr ⟨Nat.succ_pos _,t,u,rfl⟩) D' hR
    rcases hfr with ⟨h0,rfl⟩ | ⟨h0,t,u,rfl⟩
    · refine fragQ [] D (List.Perm.refl _) (fCa w L Lc it acc ls n i na j tj vs us x (Int.fmod x (Int.ofNat (j + 1))) tx .none (fun _ => 0) (fun _ => 0) b c) AB.hh hA (okIL _ fun nn tt om xi => oneIns (lnext_ok AB.hh hx (by omega)) (oneIns (hmd _ _) (oneIns (lapp_ok hlu) nilIns))) ?_
      intro nn tt om xi h' tk' D'
      exact ⟨by kernel_rfl,step _ 0 (om 1 0) h' tk' (by rw [hg]; exact D')⟩
    · refine fragQ [] D (List.Perm.refl _) (fCb w L Lc it acc ls n i na j tj vs us x (Int.fmod x (Int.ofNat (j + 1))) tx _ (fun _ => hs (wf w b c).params "code") (fun _ => t) b c) AB.hh hA (okIL _ fun nn tt om xi => oneIns (lnext_ok AB.hh hx (by omega)) (oneIns (hmd _ _) (oneIns (lapp_ok hlu) nilIns))) ?_
      intro nn tt om xi h' tk' D'
      exact ⟨by kernel_rfl,step _ 0 (om 1 0) h' tk' (by rw [hg]; exact D')⟩
noncomputable def cmpA (w : World) (b c : Bool) (L Lc it acc : Nat) (t0 : Nat) (s : List Nat) (jt ja jd : Nat) : Inst := ⟨(.compStart (lcA (wf w b c).params) 0 (.ref it) (.ref acc) (cenv4 (wf w b c).params L Lc (lcA (wf w b c).params) [])),[(jt,it,iterO s t0 0),(ja,acc,lstO [] 0),(jd,Lc,cdO [] 0)],fun _ _ => .ok .next,fun ω _ => [endO s.length,lstO (iv (s.map fun c => Int.ofNat (c - 97)) fun i => ω (i + 3)) (ω 1),cdO [⟨hs (wf w b c).params "letter",.str "letter" (ω 0),.str ⟨⟨[s.getD (s.length - 1) 0]⟩⟩ (ω 2)⟩] 1],fun _ _ => []⟩
theorem cmpA_ok (w : World) (b c : Bool) (L Lc it acc : Nat) (t0 : Nat) (s : List Nat) (jt ja jd : Nat) (hs9 : s.length = 9) (hab : ∀ c ∈ s,c ∈ abc) : IOk theP (wf w b c) (MyK (wf w b c).params) (AB 780 5900) (cmpA w b c L Lc it acc t0 s jt ja jd) := by
  intro A s0 R hA hK hn hd hof hlo hR
  have D := Rp.start _ hK hn hd hof hlo
  refine x_call ?_ (by intro z; cases z)
  refine codeTurn (by kernel_rfl) ?_
  have hA' : AB 780 5900 (A.mark none) := hA
  have key : ∀ h' tk',Rp (MyK (wf w b c).params) s0.heap (adrs (cmpA w b c L Lc it acc t0 s jt ja jd).need) h' ([(it,iterO s t0 0)] ++ [(acc,lstO [] 0),(Lc,cdO [] 0)]) →
      codeAny (MM (wf w b c)) (A.mark none) (.compLoop (lcA (wf w b c).params) 0 (.ref it) (.ref acc) (cenv4 (wf w b c).params L Lc (lcA (wf w b c).params) [])) (fun r s' => wpAny (model theP (wf w b c)) A (Sem.pure r) R (fun _ _ => False) s') { s0 with heap := h',toks := tk' } := by
    intro h' tk' D'
    refine lpA4 w b c hA' L Lc it acc t0 s hs9 hab s.length 0 0 [] _ _ (Nat.zero_add _) .nil (.inl ⟨rfl,rfl⟩) (D'.sel [2,0,1] (by decide)) ?_
    intro na' us' t u h2 tk2 hus D2
    rw [List.take_of_length_le (Nat.le_refl _)] at hus
    obtain ⟨ts,eu⟩ := are_iv hus
    rw [eu] at D2
    exact wpAny_pure (hR (fun i => match i with | 0 => t | 1 => na' | 2 => u | i + 3 => ts i) (fun _ => #[]) h2 tk2 rfl (Eff.ofApp (nw := []) (D2.sel [1,2,0] (by decide)) rfl))
  cases c with
  | true =>
    refine fragQ [(acc,lstO [] 0),(Lc,cdO [] 0)] (D.sel [0,1,2] (by decide)) (List.Perm.refl _) (fAs w L Lc it acc t0 0 s b) AB.hh hA' noIns ?_
    intro nn tt om xi h' tk' D'
    exact ⟨by kernel_rfl,key h' tk' D'⟩
  | false =>
    refine fragQ [(acc,lstO [] 0),(Lc,cdO [] 0)] (D.sel [0,1,2] (by decide)) (List.Perm.refl _) (fAf w L Lc it acc t0 0 s b) AB.hh hA' noIns ?_
    intro nn tt om xi h' tk' D'
    exact ⟨by kernel_rfl,key h' tk' D'⟩
noncomputable def cmpB (w : World) (b c : Bool) (L Lc it acc : Nat) (o : List Nat) (to : Nat) (jt ja jd jc : Nat) : Inst := ⟨(.compStart (lcB (wf w b c).params) 0 (.ref it) (.ref acc) (cenv4 (wf w b c).params L Lc (lcB (wf w b c).params) [("order",L + 1)])),[(jt,it,rngO 0 10),(ja,acc,lstO [] 0),(jd,Lc,cdO [] 0),(jc,L + 1,celO (some (.str ⟨⟨o⟩⟩ to)))],fun _ _ => .ok .next,fun ω _ => [rngO 10 0,lstO ((List.range 10).map fun q => Value.bool (fitG o (abc.take q).reverse (abc.drop q))) (ω 1),cdO [⟨hs (wf w b c).params "count",.str "count" (ω 0),.int (Int.ofNat (10 - 1)) (ω 2)⟩] 1,celO (some (.str ⟨⟨o⟩⟩ to))],fun _ _ => []⟩
theorem cmpB_ok (w : World) (b c : Bool) (L Lc it acc : Nat) (o : List Nat) (to : Nat) (jt ja jd jc : Nat) (ho : o.length ≤ 9) (h128 : ∀ x ∈ o,x < 128) : IOk theP (wf w b c) (MyK (wf w b c).params) (AB 780 5900) (cmpB w b c L Lc it acc o to jt ja jd jc) := by
  intro A s0 R hA hK hn hd hof hlo hR
  have D := Rp.start _ hK hn hd hof hlo
  refine x_call ?_ (by intro z; cases z)
  refine codeTurn (by kernel_rfl) ?_
  have hA' : AB 780 5900 (A.mark none) := hA
  have key : ∀ h' tk',Rp (MyK (wf w b c).params) s0.heap (adrs (cmpB w b c L Lc it acc o to jt ja jd jc).need) h' ([(it,rngO 0 10)] ++ [(acc,lstO [] 0),(Lc,cdO [] 0),(L + 1,celO (some (.str ⟨⟨o⟩⟩ to)))]) →
      codeAny (MM (wf w b c)) (A.mark none) (.compLoop (lcB (wf w b c).params) 0 (.ref it) (.ref acc) (cenv4 (wf w b c).params L Lc (lcB (wf w b c).params) [("order",L + 1)])) (fun r s' => wpAny (model theP (wf w b c)) A (Sem.pure r) R (fun _ _ => False) s') { s0 with heap := h',toks := tk' } := by
    intro h' tk' D'
    refine lpB4 w b c hA' L Lc it acc o to ho h128 10 0 0 [] _ _ rfl rfl (.inl ⟨rfl,rfl⟩) (D'.sel [2,0,1,3] (by decide)) ?_
    intro na' us' t u h2 tk2 hus D2
    rw [hus] at D2
    exact wpAny_pure (hR (fun i => match i with | 0 => t | 1 => na' | _ => u) (fun _ => #[]) h2 tk2 rfl (Eff.ofApp (nw := []) (D2.sel [1,2,0,3] (by decide)) rfl))
  cases c with
  | true =>
    refine fragQ [(acc,lstO [] 0),(Lc,cdO [] 0),(L + 1,celO (some (.str ⟨⟨o⟩⟩ to)))] (D.sel [0,1,2,3] (by decide)) (List.Perm.refl _) (fBs w L Lc it acc 0 10 b) AB.hh hA' noIns ?_
    intro nn tt om xi h' tk' D'
    exact ⟨by kernel_rfl,key h' tk' D'⟩
  | false =>
    refine fragQ [(acc,lstO [] 0),(Lc,cdO [] 0),(L + 1,celO (some (.str ⟨⟨o⟩⟩ to)))] (D.sel [0,1,2,3] (by decide)) (List.Perm.refl _) (fBf w L Lc it acc 0 10 b) AB.hh hA' noIns ?_
    intro nn tt om xi h' tk' D'
    exact ⟨by kernel_rfl,key h' tk' D'⟩
noncomputable def cmpC (w : World) (b c : Bool) (L Lc it acc : Nat) (ls n : Nat) (vs : List Value) (xs : List Int) (j tj : Nat) (jl jt ja jd jc : Nat) : Inst := ⟨(.compStart (lcC (wf w b c).params) 0 (.ref it) (.ref acc) (cenv4 (wf w b c).params L Lc (lcC (wf w b c).params) [("j",L + 2)])),[(jl,ls,lstO vs n),(jt,it,litO ls 0),(ja,acc,lstO [] 0),(jd,Lc,cdO [] 0),(jc,L + 2,celO (some (.int (Int.ofNat (j + 1)) tj)))],fun _ _ => .ok .next,fun ω _ => [lstO vs n,lieO vs.length,lstO (iv (mods j xs) fun i => ω (i + 2)) (ω 1),cdO [⟨hs (wf w b c).params "code",.str "code" (ω 0),vs.getD (vs.length - 1) .none⟩] 1,celO (some (.int (Int.ofNat (j + 1)) tj))],fun _ _ => []⟩
theorem cmpC_ok (w : World) (b c : Bool) (L Lc it acc : Nat) (ls n : Nat) (vs : List Value) (xs : List Int) (j tj : Nat) (jl jt ja jd jc : Nat) (hv : IntsAre vs xs) (h9 : vs.length = 9) : IOk theP (wf w b c) (MyK (wf w b c).params) (AB 780 5900) (cmpC w b c L Lc it acc ls n vs xs j tj jl jt ja jd jc) := by
  intro A s0 R hA hK hn hd hof hlo hR
  have D := Rp.start _ hK hn hd hof hlo
  refine x_call ?_ (by intro z; cases z)
  refine codeTurn (by kernel_rfl) ?_
  have hA' : AB 780 5900 (A.mark none) := hA
  have key : ∀ h' tk',Rp (MyK (wf w b c).params) s0.heap (adrs (cmpC w b c L Lc it acc ls n vs xs j tj jl jt ja jd jc).need) h' ([(it,litO ls 0)] ++ [(ls,lstO vs n),(acc,lstO [] 0),(Lc,cdO [] 0),(L + 2,celO (some (.int (Int.ofNat (j + 1)) tj)))]) →
      codeAny (MM (wf w b c)) (A.mark none) (.compLoop (lcC (wf w b c).params) 0 (.ref it) (.ref acc) (cenv4 (wf w b c).params L Lc (lcC (wf w b c).params) [("j",L + 2)])) (fun r s' => wpAny (model theP (wf w b c)) A (Sem.pure r) R (fun _ _ => False) s') { s0 with heap := h',toks := tk' } := by
    intro h' tk' D'
    refine lpC4c w b c hA' L Lc it acc ls n vs xs hv h9 j tj vs.length 0 0 [] _ _ (Nat.zero_add _) .nil (.inl ⟨rfl,rfl⟩) (D'.sel [3,1,0,2,4] (by decide)) ?_
    intro na' us' t u h2 tk2 hus D2
    rw [List.take_of_length_le (by rw [hv.length]; exact Nat.le_refl _)] at hus
    obtain ⟨ts,eu⟩ := are_iv hus
    rw [eu] at D2
    exact wpAny_pure (hR (fun i => match i with | 0 => t | 1 => na' | i + 2 => ts i) (fun _ => #[]) h2 tk2 rfl (Eff.ofApp (nw := []) (D2.sel [1,2,3,0,4] (by decide)) rfl))
  cases c with
  | true =>
    refine fragQ [(ls,lstO vs n),(acc,lstO [] 0),(Lc,cdO [] 0),(L + 2,celO (some (.int (Int.ofNat (j + 1)) tj)))] (D.sel [1,0,2,3,4] (by decide)) (List.Perm.refl _) (fCs w L Lc it acc ls 0 b) AB.hh hA' noIns ?_
    intro nn tt om xi h' tk' D'
    exact ⟨by kernel_rfl,key h' tk' D'⟩
  | false =>
    refine fragQ [(ls,lstO vs n),(acc,lstO [] 0),(Lc,cdO [] 0),(L + 2,celO (some (.int (Int.ofNat (j + 1)) tj)))] (D.sel [1,0,2,3,4] (by decide)) (List.Perm.refl _) (fCf w L Lc it acc ls 0 b) AB.hh hA' noIns ?_
    intro nn tt om xi h' tk' D'
    exact ⟨by kernel_rfl,key h' tk' D'⟩
noncomputable def cmpAI (P : Params) (L Lc it acc t0 : Nat) (s : List Nat) (jt ja jd : Nat) : Inst := ⟨.compStart (lcA P) 0 (.ref it) (.ref acc) (cenv4 P L Lc (lcA P) []),[(jt,it,iterO s t0 0),(ja,acc,lstO [] 0),(jd,Lc,cdO [] 0)],fun _ _ => .ok .next,fun ω _ => [endO s.length,lstO (iv (s.map fun c => Int.ofNat (c - 97)) fun i => ω (i + 3)) (ω 1),cdO [⟨hs P "letter",.str "letter" (ω 0),.str ⟨⟨[s.getD (s.length - 1) 0]⟩⟩ (ω 2)⟩] 1],fun _ _ => []⟩
noncomputable def cmpBI (P : Params) (L Lc it acc : Nat) (o : List Nat) (to : Nat) (jt ja jd jc : Nat) : Inst := ⟨.compStart (lcB P) 0 (.ref it) (.ref acc) (cenv4 P L Lc (lcB P) [("order",L + 1)]),[(jt,it,rngO 0 10),(ja,acc,lstO [] 0),(jd,Lc,cdO [] 0),(jc,L + 1,celO (some (.str ⟨⟨o⟩⟩ to)))],fun _ _ => .ok .next,fun ω _ => [rngO 10 0,lstO ((List.range 10).map fun q => Value.bool (fitG o (abc.take q).reverse (abc.drop q))) (ω 1),cdO [⟨hs P "count",.str "count" (ω 0),.int (Int.ofNat (10 - 1)) (ω 2)⟩] 1,celO (some (.str ⟨⟨o⟩⟩ to))],fun _ _ => []⟩
noncomputable def cmpCI (P : Params) (L Lc it acc ls n : Nat) (vs : List Value) (xs : List Int) (j tj : Nat) (jl jt ja jd jc : Nat) : Inst := ⟨.compStart (lcC P) 0 (.ref it) (.ref acc) (cenv4 P L Lc (lcC P) [("j",L + 2)]),[(jl,ls,lstO vs n),(jt,it,litO ls 0),(ja,acc,lstO [] 0),(jd,Lc,cdO [] 0),(jc,L + 2,celO (some (.int (Int.ofNat (j + 1)) tj)))],fun _ _ => .ok .next,fun ω _ => [lstO vs n,lieO vs.length,lstO (iv (mods j xs) fun i => ω (i + 2)) (ω 1),cdO [⟨hs P "code",.str "code" (ω 0),vs.getD (vs.length - 1) .none⟩] 1,celO (some (.int (Int.ofNat (j + 1)) tj))],fun _ _ => []⟩
noncomputable def lconI (jl l : Nat) (vs : List Value) (n : Nat) (r : Bool) : Inst := ⟨.call (.builtin "list.__contains__") ⟨[.ref l,.bool true],[]⟩,[(jl,l,lstO vs n)],fun _ _ => .ok (.ret (.bool r)),fun _ _ => [lstO vs n],fun _ _ => []⟩
theorem n204 (w:World) (o:List Nat) (to:Nat) (nn tt om xi ps):Ends (go w 60 (nfe w.params 204 [("order",.str ⟨⟨o⟩⟩ to)]) [2,2] ([]) .nil nn tt om xi ps) ([0,1,2]) (.ok (env4 w.params (nn 0))) ([(nn 0,frO [] 0 #[]),(nn 0+1,celO (some (.str ⟨⟨o⟩⟩ to))),(nn 0+2,celO none)]) := by trivial
theorem q0 (w:World) (L:Nat) (o:List Nat) (to:Nat) (sl:Slots) (H:NI) (T:NN) (b c:Bool) (nn tt om xi ps):Ends (go (wf w b c) 300 (exec (nthS (wf w b c).params 204 0) (env4 (wf w b c).params L)) [2,1,3,1,1,1,5,5,5] ([(L,frO [] 0 sl),(L+1,celO (some (.str ⟨⟨o⟩⟩ to)))]) (IL fun nn tt om xi=>[siterI o to,cmpAI (wf w b c).params L (nn 1+1) (om 0 0) (nn 1) to o 2 3 4]) nn tt om xi ps) ([0,1,3]) (.ok .next) ([(L,frO [en (hs (wf w b c).params "codes") "codes" (tt 2) (.ref (nn 1))] 1 sl),(L+1,celO (some (.str ⟨⟨o⟩⟩ to))),(nn 1,lstO (iv (o.map fun c=>Int.ofNat (c - 97)) fun i=>om 1 (i+3)) (om 1 1))]) := by cases b <;> trivial
theorem q1 (w:World) (L lc:Nat) (o:List Nat) (to:Nat) (r:Bool) (sl:Slots) (H:NI) (T:NN) (b c:Bool) (nn tt om xi ps):Ends (go (wf w b c) 300 (exec (nthS (wf w b c).params 204 1) (env4 (wf w b c).params L)) [0,0,0,0,3,3,0,3,3,3,3,0,3,3,3,3,4,1,6,6,6,5,5,1,1,1] ([(L,frO [fe H T 0 "codes" (.ref lc)] 1 sl),(L+1,celO (some (.str ⟨⟨o⟩⟩ to)))]) (IL fun nn tt om xi=>[cmpBI (wf w b c).params L (nn 0+3) (nn 0+1) (nn 0+2) o to 3 4 5 1,lconI 4 (nn 0+2) ((List.range 10).map fun q=>Value.bool (fitG o (abc.take q).reverse (abc.drop q))) (om 0 1) r]) nn tt om xi ps) ([0,1]) (.ok .next) ([(L,frO [fe H T 0 "codes" (.ref lc),en (hs (wf w b c).params "off") "off" (tt 2) (.bool r)] 2 sl),(L+1,celO (some (.str ⟨⟨o⟩⟩ to)))]) := by cases b <;> trivial
theorem q2 (w:World) (L lc:Nat) (r r2 r3 r4:Bool) (sl:Slots) (H:NI) (T:NN) (nn tt om xi ps):Ends (go w 60 (exec (nthS w.params 204 2) (env4 w.params L)) [1,1] ([(L,frO [fe H T 0 "codes" (.ref lc),fe H T 1 "off" (.bool r)] 2 sl)]) .nil nn tt om xi ps) ([0]) (.ok .next) ([(L,frO [fe H T 0 "codes" (.ref lc),fe H T 1 "off" (.bool r),en (hs w.params "fronts") "fronts" (tt 0) (.bool true)] 3 sl)]) := by trivial
theorem q3 (w:World) (L lc:Nat) (r r2 r3 r4:Bool) (sl:Slots) (H:NI) (T:NN) (nn tt om xi ps):Ends (go w 60 (exec (nthS w.params 204 3) (env4 w.params L)) [1,1] ([(L,frO [fe H T 0 "codes" (.ref lc),fe H T 1 "off" (.bool r),fe H T 2 "fronts" (.bool r2)] 3 sl)]) .nil nn tt om xi ps) ([0]) (.ok .next) ([(L,frO [fe H T 0 "codes" (.ref lc),fe H T 1 "off" (.bool r),fe H T 2 "fronts" (.bool r2),en (hs w.params "stretches") "stretches" (tt 0) (.bool true)] 4 sl)]) := by trivial
theorem q4 (w:World) (L lc:Nat) (r r2 r3 r4:Bool) (sl:Slots) (H:NI) (T:NN) (nn tt om xi ps):Ends (go w 60 (exec (nthS w.params 204 4) (env4 w.params L)) [1,1] ([(L,frO [fe H T 0 "codes" (.ref lc),fe H T 1 "off" (.bool r),fe H T 2 "fronts" (.bool r2),fe H T 3 "stretches" (.bool r3)] 4 sl)]) .nil nn tt om xi ps) ([0]) (.ok .next) ([(L,frO [fe H T 0 "codes" (.ref lc),fe H T 1 "off" (.bool r),fe H T 2 "fronts" (.bool r2),fe H T 3 "stretches" (.bool r3),en (hs w.params "runs") "runs" (tt 0) (.bool true)] 5 sl)]) := by trivial
theorem q5 (w:World) (L lc:Nat) (r r2 r3 r4:Bool) (sl:Slots) (H:NI) (T:NN) (b c:Bool) (nn tt om xi ps):Ends (go (wf w b c) 300 (itT (nthS (wf w b c).params 204 5) (env4 (wf w b c).params L)) [0,0,0,0,2,2,0,2,2,2,2,0,2,2,2,2,3] ([(L,frO [fe H T 0 "codes" (.ref lc),fe H T 1 "off" (.bool r),fe H T 2 "fronts" (.bool r2),fe H T 3 "stretches" (.bool r3),fe H T 4 "runs" (.bool r4)] 5 sl)]) .nil nn tt om xi ps) ([0,2]) (.ok (.ref (nn 0+1))) ([(L,frO [fe H T 0 "codes" (.ref lc),fe H T 1 "off" (.bool r),fe H T 2 "fronts" (.bool r2),fe H T 3 "stretches" (.bool r3),fe H T 4 "runs" (.bool r4)] 5 sl),(nn 0+1,rngO 1 9)]) := by cases b <;> trivial
noncomputable abbrev ragO (j a b c : Nat) : Obj := ⟨.type "range",none,.fields #[.int 0 a,.int (Int.ofNat j) b,.int 1 c],#[]⟩
noncomputable def lrgI (jr q j a b c : Nat) : Inst := ⟨.call (.type "list") ⟨[.ref q],[]⟩,[(jr,q,ragO j a b c)],fun ω _ => .ok (.ret (.ref (ω 0))),fun _ _ => [ragO j a b c],fun ω _ => [(ω 0,lstO (iv (rngI j) fun i => ω (i + 2)) (ω 1))]⟩
theorem are_of : ∀ (vs : List Value) (ns : List Int),vs.length = ns.length → (∀ (i : Nat) v n,vs[i]? = some v → ns[i]? = some n → ∃ t,v = .int n t) → IntsAre vs ns
  | [],[],_,_ => .nil
  | [],_ :: _,h,_ => by cases h
  | _ :: _,[],h,_ => by cases h
  | v :: vs,n :: ns,h,hx => by
    obtain ⟨t,rfl⟩ := hx 0 v n rfl rfl
    exact .cons _ _ (are_of vs ns (Nat.succ.inj h) fun i v n h1 h2 => hx (i + 1) v n h1 h2)
theorem lrg_ok {w : World} {C : Around → Prop} (hh : ∀ A,C A → A.handled = none) {jr q j a b c : Nat} (hj : j ≤ 9) : IOk theP w (MyK w.params) C (lrgI jr q j a b c) := by
  intro A s R hA hK hn hd ho hlo hR
  have h0 : s.heap.get? q = some (ragO j a b c) := hn _ (.head _)
  have hsz : 219 ≤ s.heap.objs.size := bigK w s.heap hK
  have hs : Builtin.Range.small 0 (Int.ofNat j) 1 = true := by
    rcases j with _ | _ | _ | _ | _ | _ | _ | _ | _ | _ | j <;> first | (decide) | (exfalso; omega)
  have hr : Builtin.Range.rangeSize 0 (Int.ofNat j) 1 = ((j : Nat) : Int) := by
    rcases j with _ | _ | _ | _ | _ | _ | _ | _ | _ | _ | j <;> first | (decide) | (exfalso; omega)
  refine callI_of (call_list_range (hh A hA) h0 hs hr (by omega) fun h' tk acc' c' hk hS' hacc => ?_)
  have hlen : acc'.toList.length = (rngI j).length := by rw [Array.length_toList,hacc.1]; unfold rngI; rw [List.length_map,List.length_range]
  have hI : IntsAre acc'.toList (rngI j) := are_of _ _ hlen fun i v n h1 h2 => by
    obtain ⟨t,rfl⟩ := hacc.2 i v (by rw [← Array.getElem?_toList]; exact h1)
    refine ⟨t,?_⟩
    unfold rngI at h2
    rw [List.getElem?_map] at h2
    have hi : i < j := by
      have := (List.getElem?_eq_some_iff.mp h1).1
      rw [Array.length_toList,hacc.1] at this
      exact this
    rw [List.getElem?_range hi] at h2
    have e2 : n = ((i : Nat) : Int) := (Option.some.inj h2).symm
    have e : (0 : Int) + ((i : Nat) : Int) * 1 = n := by rw [e2]; omega
    rw [← e]
  obtain ⟨ts,et⟩ := are_iv hI
  refine hR (fun i => match i with | 0 => s.heap.objs.size | 1 => c' | i + 2 => ts i) (fun _ => #[]) h' tk rfl ⟨fun p hp => ?_,fun p hp => ?_,by simp [lrgI],fun b o hb _ => hk b o hb⟩
  · rw [List.mem_singleton.mp hp]; exact hk _ _ h0
  · rw [List.mem_singleton.mp hp]
    refine ⟨?_,Heap.get?_none_of_le (Nat.le_refl _),hsz⟩
    show h'.get? s.heap.objs.size = some (lstO (iv (rngI j) ts) c')
    rw [hS',← et]
end Mine
open PySem.SeqAt
namespace Mine
theorem lcon_ok {w : World} {C : Around → Prop} {jl l : Nat} {bs : List Bool} {n : Nat} : IOk theP w (MyK w.params) C (lconI jl l (bs.map Value.bool) n (bs.any fun x => x)) := by
  intro A s R hA hK hn hd ho hlo hR
  have h0 : s.heap.get? l = some (lstO (bs.map Value.bool) n) := hn _ (.head _)
  refine callI_of (call_meets PySem.F.slot_list_contains ⟨_,h0,rfl⟩ PySem.F.entry_list_contains (PySem.F.args_list_contains_2 _ _) (list_containsAt l (bs.map Value.bool).toArray n none #[] (.bool true) (fun v => match v with | .bool b => b | _ => false)) ⟨h0,?_,?_⟩)
  · intro y hy
    obtain ⟨b,_,rfl⟩ := List.mem_map.mp (List.mem_toArray.mp hy)
    have := EqAt.bool_bool (A := A.in1) (s := s) b true
    rw [show (b == true) = b from by cases b <;> rfl] at this
    exact this
  · have e : (bs.map Value.bool).toArray.any (fun v => match v with | .bool b => b | _ => false) = bs.any fun x => x := by
      rw [List.any_toArray,List.any_map]; rfl
    rw [e]
    exact hR (fun _ => 0) (fun _ => #[]) s.heap s.toks rfl ⟨fun p hp => by rw [List.mem_singleton.mp hp]; exact h0,fun p hp => (nomatch hp),.nil,fun b o hb _ => hb⟩
noncomputable abbrev f45 (H : Nat → Int) (T : Nat → Nat) (lc : Nat) (r r2 r3 r4 : Bool) (sl : Slots) : Obj := frO [fe H T 0 "codes" (.ref lc),fe H T 1 "off" (.bool r),fe H T 2 "fronts" (.bool r2),fe H T 3 "stretches" (.bool r3),fe H T 4 "runs" (.bool r4)] 5 sl
noncomputable abbrev e47 (H : Nat → Int) (T : Nat → Nat) (lc ll : Nat) (r r2 r3 r4 : Bool) (vk : Value) : List DictEntry := [fe H T 0 "codes" (.ref lc),fe H T 1 "off" (.bool r),fe H T 2 "fronts" (.bool r2),fe H T 3 "stretches" (.bool r3),fe H T 4 "runs" (.bool r4),fe H T 5 "left" (.ref ll),fe H T 6 "k" vk]
noncomputable abbrev e46 (H : Nat → Int) (T : Nat → Nat) (lc ll : Nat) (r r2 r3 r4 : Bool) : List DictEntry := [fe H T 0 "codes" (.ref lc),fe H T 1 "off" (.bool r),fe H T 2 "fronts" (.bool r2),fe H T 3 "stretches" (.bool r3),fe H T 4 "runs" (.bool r4),fe H T 5 "left" (.ref ll)]
noncomputable def tsL (st : Stmt) : Expr := match st with | .If (.Compare l _ _ _) _ _ _ => l | _ => .Name "x" ⟨0,0,0,0⟩
noncomputable def tsR (st : Stmt) : Expr := match st with | .If (.Compare _ _ [r] _) _ _ _ => r | _ => .Name "x" ⟨0,0,0,0⟩
noncomputable def tsB (st : Stmt) : List Stmt := match st with | .If _ b _ _ => b | _ => []
theorem jL6 (w:World) (L nl j tj:Nat) (lc ll:Nat) (r r2 r3 r4:Bool) (vs rs:List Value) (ns:List Int) (sl:Slots) (H:NI) (T:NN) (L1 n1:Nat) (es1:List DictEntry) (sl1:Slots) (b c:Bool) (nn tt om xi ps):Ends (go (wf w b c) 300 (eval (tsL (jB (wf w b c).params 1)) (env4 (wf w b c).params L)) [0,0,0,1,2,3,3,3,1,1,0,0,0,0,2,0,0,8,8,0,8,8,1,0,1] ([(L,frO (e46 H T lc ll r r2 r3 r4) 6 sl),(L+2,celO (some (.int (Int.ofNat (j+1)) tj))),(ll,lstO vs nl),(L1,frO es1 n1 sl1)]) (IL fun nn tt om xi=>[lslI 2 4 ll (nn 0) vs nl .none (.int (Int.ofNat (j+1)) tj) rs,sortI 5 (om 0 0) rs 0 ns,lrgI 7 (nn 2) (j+1) (tt 2) tj (tt 2+1),sldI 6 8 0 3 (om 1 0) (om 2 0) L L1 (iv ns fun i=>om 1 (i+2)) (om 1 1) (iv (rngI (j+1)) fun i=>om 2 (i+2)) (om 2 1) ns (rngI (j+1)) (e46 H T lc ll r r2 r3 r4) 6 sl es1 n1 sl1]) nn tt om xi ps) ([0,1,2,3,9,10,11]) (.ok (.ref (om 3 0))) ([(L,frO (e46 H T lc ll r r2 r3 r4) 6 (xi 3 0)),(L+2,celO (some (.int (Int.ofNat (j+1)) tj))),(ll,lstO vs nl),(L1,frO es1 n1 (xi 3 1)),(om 3 0,tupO [.ref (om 3 1),.ref (om 3 2)]),(om 3 1,lstO (iv (sldR ns (rngI (j+1))).1 fun i=>om 3 (2 * i+5)) (om 3 3)),(om 3 2,lstO (iv (sldR ns (rngI (j+1))).2 fun i=>om 3 (2 * i+6)) (om 3 4))]) := by cases b <;> trivial
theorem jF6 (w:World) (L:Nat) (lc ll:Nat) (r r2 r3 r4:Bool) (sl:Slots) (H:NI) (T:NN) (nn tt om xi ps):Ends (go w 60 (execs (tsB (jB w.params 1)) (env4 w.params L)) [1,1] ([(L,frO (e46 H T lc ll r r2 r3 r4) 6 sl)]) .nil nn tt om xi ps) ([0]) (.ok .next) ([(L,frO (e46 H T lc ll r false r3 r4) 6 sl)]) := by trivial
theorem jL7 (w:World) (L nl j tj:Nat) (lc ll:Nat) (r r2 r3 r4:Bool) (vk:Value) (vs rs:List Value) (ns:List Int) (sl:Slots) (H:NI) (T:NN) (L1 n1:Nat) (es1:List DictEntry) (sl1:Slots) (b c:Bool) (nn tt om xi ps):Ends (go (wf w b c) 300 (eval (tsL (jB (wf w b c).params 1)) (env4 (wf w b c).params L)) [0,0,0,1,2,3,3,3,1,1,0,0,0,0,2,0,0,8,8,0,8,8,1,0,1] ([(L,frO (e47 H T lc ll r r2 r3 r4 vk) 7 sl),(L+2,celO (some (.int (Int.ofNat (j+1)) tj))),(ll,lstO vs nl),(L1,frO es1 n1 sl1)]) (IL fun nn tt om xi=>[lslI 2 4 ll (nn 0) vs nl .none (.int (Int.ofNat (j+1)) tj) rs,sortI 5 (om 0 0) rs 0 ns,lrgI 7 (nn 2) (j+1) (tt 2) tj (tt 2+1),sldI 6 8 0 3 (om 1 0) (om 2 0) L L1 (iv ns fun i=>om 1 (i+2)) (om 1 1) (iv (rngI (j+1)) fun i=>om 2 (i+2)) (om 2 1) ns (rngI (j+1)) (e47 H T lc ll r r2 r3 r4 vk) 7 sl es1 n1 sl1]) nn tt om xi ps) ([0,1,2,3,9,10,11]) (.ok (.ref (om 3 0))) ([(L,frO (e47 H T lc ll r r2 r3 r4 vk) 7 (xi 3 0)),(L+2,celO (some (.int (Int.ofNat (j+1)) tj))),(ll,lstO vs nl),(L1,frO es1 n1 (xi 3 1)),(om 3 0,tupO [.ref (om 3 1),.ref (om 3 2)]),(om 3 1,lstO (iv (sldR ns (rngI (j+1))).1 fun i=>om 3 (2 * i+5)) (om 3 3)),(om 3 2,lstO (iv (sldR ns (rngI (j+1))).2 fun i=>om 3 (2 * i+6)) (om 3 4))]) := by cases b <;> trivial
theorem jF7 (w:World) (L:Nat) (lc ll:Nat) (r r2 r3 r4:Bool) (vk:Value) (sl:Slots) (H:NI) (T:NN) (nn tt om xi ps):Ends (go w 60 (execs (tsB (jB w.params 1)) (env4 w.params L)) [1,1] ([(L,frO (e47 H T lc ll r r2 r3 r4 vk) 7 sl)]) .nil nn tt om xi ps) ([0]) (.ok .next) ([(L,frO (e47 H T lc ll r false r3 r4 vk) 7 sl)]) := by trivial
theorem jR (w:World) (L:Nat) (nn tt om xi ps):Ends (go w 60 (eval (tsR (jB w.params 1)) (env4 w.params L)) [] ([]) .nil nn tt om xi ps) ([0,1,2]) (.ok (.ref (nn 0+2))) ([(nn 0,lstO [] 0),(nn 0+1,lstO [] 0),(nn 0+2,tupO [.ref (nn 0),.ref (nn 0+1)])]) := by trivial
theorem reads_iv {h : Heap} : ∀ (ns : List Int) (t : Nat → Nat),ReadsAll h (iv ns t) (ns.map PyData.int) []
  | [],_ => .nil
  | n :: ns,t => ReadsAll.cons (as := []) (bs := []) (.int n (t 0)) (reads_iv ns fun i => t (i + 1))
theorem pdLay : ∀ ns : List Int,PyData.canLayAll0 (ns.map PyData.int) = true
  | [] => by simp [PyData.canLayAll0]
  | n :: ns => by simp [PyData.canLayAll0,PyData.canLay0,pdLay ns]
theorem pdDep : ∀ ns : List Int,PyData.depthAll (ns.map PyData.int) = 0
  | [] => by simp [PyData.depthAll]
  | n :: ns => by simp [PyData.depthAll,PyData.depth,pdDep ns]
theorem pd_shaped (ns ms : List Int) : SeqAt.shaped (.tuple [.list (ns.map PyData.int),.list (ms.map PyData.int)]) = true := by
  simp [SeqAt.shaped,PyData.canLay0,PyData.canLayAll0,PyData.depth,PyData.depthAll,pdLay,pdDep]
theorem pd_eqv (ns ms : List Int) : PyData.eqv (.tuple [.list (ns.map PyData.int),.list (ms.map PyData.int)]) (.tuple [.list [],.list []]) = decide ((ns,ms) = ([],[])) := by
  cases ns <;> cases ms <;> simp [PyData.eqv,PyData.eqvAll]
theorem pairNe {w : World} {A : Around} {s : Shared} {Q : Value → Shared → Prop} {E : Value → Shared → Prop} {a p q x y z n m : Nat} {ns ms : List Int} {f g : Nat → Nat}
    (ha : s.heap.get? a = some (tupO [.ref p,.ref q])) (hp : s.heap.get? p = some (lstO (iv ns f) n)) (hq : s.heap.get? q = some (lstO (iv ms g) m))
    (hz : s.heap.get? z = some (tupO [.ref x,.ref y])) (hx : s.heap.get? x = some (lstO [] 0)) (hy : s.heap.get? y = some (lstO [] 0)) (hu : A.units ≤ 9000)
    (h : Q (.bool (!decide ((ns,ms) = ([],[])))) s) : wpAny (MM w) A (compareOp .NotEq (.ref a) (.ref z)) Q E s := by
  have r1 := reads_list_at hp rfl rfl (reads_iv ns f)
  have r2 := reads_list_at hq rfl rfl (reads_iv ms g)
  have r3 := reads_list_at hx rfl rfl (ReadsAll.nil (h := s.heap))
  have r4 := reads_list_at hy rfl rfl (ReadsAll.nil (h := s.heap))
  refine ne_dataH (reads_tuple_at ha rfl rfl (.cons r1 (.cons r2 .nil))) (reads_tuple_at hz rfl rfl (.cons r3 (.cons r4 .nil))) (pd_shaped ns ms) (pd_shaped [] []) ?_ ?_
  · show A.units + 64 < 9900
    omega
  · rw [pd_eqv]; exact h
noncomputable abbrev rgsO (i m s : Int) : Obj := ⟨.type "range_iterator",none,.fields #[.int i 0,.int m 0,.int s 0],#[]⟩
noncomputable def kB (P : Params) : Stmt := match jB P 2 with | .For _ _ b _ _ => b.getD 0 (.Pass ⟨0,0,0,0⟩) | _ => .Pass ⟨0,0,0,0⟩
theorem jN (w:World) (it i m:Nat) (nn tt om xi ps):Ends (go w 60 (pyNext (.ref it)) [1,1] ([(it,rngO (Int.ofNat i) (Int.ofNat (m+1)))]) (IL fun nn tt om xi=>[rnxI 0 it (Int.ofNat i) (Int.ofNat (m+1))]) nn tt om xi ps) ([0]) (.ok (some (.int (Int.ofNat i) (om 0 0)))) ([(it,rngO (Int.ofNat i+1) (Int.ofNat (m+1) - 1))]) := by trivial
theorem jE (w:World) (it i:Nat) (nn tt om xi ps):Ends (go w 60 (pyNext (.ref it)) [1,0,1,1,1,1,3] ([(it,rngO (Int.ofNat i) 0)]) .nil nn tt om xi ps) ([]) (.ok none) ([]) := by trivial
theorem jA (w:World) (L:Nat) (x:Option Value) (i:Int) (ti:Nat) (nn tt om xi ps):Ends (go w 60 (fasg (nthS w.params 204 5) (env4 w.params L) (.int i ti)) [1,1] ([(L+2,celO x)]) .nil nn tt om xi ps) ([0]) (.ok ()) ([(L+2,celO (some (.int i ti)))]) := by trivial
theorem j05 (w:World) (L nc j tj lc:Nat) (r r2 r3 r4:Bool) (vs:List Value) (xs:List Int) (sl:Slots) (H:NI) (T:NN) (b c:Bool) (nn tt om xi ps):Ends (go (wf w b c) 300 (exec (jB (wf w b c).params 0) (env4 (wf w b c).params L)) [1,3,3,0,3,4,1,1,1,6,6,6] ([(L,frO ([fe H T 0 "codes" (.ref lc),fe H T 1 "off" (.bool r),fe H T 2 "fronts" (.bool r2),fe H T 3 "stretches" (.bool r3),fe H T 4 "runs" (.bool r4)]) 5 sl),(L+2,celO (some (.int (Int.ofNat (j+1)) tj))),(lc,lstO vs nc)]) (IL fun nn tt om xi=>[cmpCI (wf w b c).params L (nn 0+2) (nn 0) (nn 0+1) lc nc vs xs j tj 2 3 4 5 1]) nn tt om xi ps) ([0,1,2,4]) (.ok .next) ([(L,frO ([fe H T 0 "codes" (.ref lc),fe H T 1 "off" (.bool r),fe H T 2 "fronts" (.bool r2),fe H T 3 "stretches" (.bool r3),fe H T 4 "runs" (.bool r4),en (hs (wf w b c).params "left") "left" (tt 1) (.ref (nn 0+1))]) 6 sl),(L+2,celO (some (.int (Int.ofNat (j+1)) tj))),(lc,lstO vs nc),(nn 0+1,lstO (iv (mods j xs) fun i=>om 0 (i+2)) (om 0 1))]) := by cases b <;> trivial
theorem j07 (w:World) (L nc j tj lc:Nat) (r r2 r3 r4:Bool) (ll:Nat) (vk:Value) (vs:List Value) (xs:List Int) (sl:Slots) (H:NI) (T:NN) (b c:Bool) (nn tt om xi ps):Ends (go (wf w b c) 300 (exec (jB (wf w b c).params 0) (env4 (wf w b c).params L)) [1,3,3,0,3,4,1,1,1,6,6,6] ([(L,frO (e47 H T lc ll r r2 r3 r4 vk) 7 sl),(L+2,celO (some (.int (Int.ofNat (j+1)) tj))),(lc,lstO vs nc)]) (IL fun nn tt om xi=>[cmpCI (wf w b c).params L (nn 0+2) (nn 0) (nn 0+1) lc nc vs xs j tj 2 3 4 5 1]) nn tt om xi ps) ([0,1,2,4]) (.ok .next) ([(L,frO (e47 H T lc (nn 0+1) r r2 r3 r4 vk) 7 sl),(L+2,celO (some (.int (Int.ofNat (j+1)) tj))),(lc,lstO vs nc),(nn 0+1,lstO (iv (mods j xs) fun i=>om 0 (i+2)) (om 0 1))]) := by cases b <;> trivial
theorem kI1 (w:World) (L tj lc ll:Nat) (r r2 r3 r4:Bool) (sl:Slots) (H:NI) (T:NN) (b c:Bool) (nn tt om xi ps):Ends (go (wf w b c) 300 (itT (jB (wf w b c).params 2) (env4 (wf w b c).params L)) [0,0,2,2,0,0,3,3,0,3,3,3,3,0,3,3,3,3,4] ([(L,frO (e46 H T lc ll r r2 r3 r4) 6 sl),(L+2,celO (some (.int 1 tj)))]) .nil nn tt om xi ps) ([0,1,3]) (.ok (.ref (nn 0+1))) ([(L,frO (e46 H T lc ll r r2 r3 r4) 6 sl),(L+2,celO (some (.int 1 tj))),(nn 0+1,rgsO 1 9 1)]) := by cases b <;> trivial
theorem kI2 (w:World) (L tj lc ll:Nat) (r r2 r3 r4:Bool) (vk:Value) (sl:Slots) (H:NI) (T:NN) (b c:Bool) (nn tt om xi ps):Ends (go (wf w b c) 300 (itT (jB (wf w b c).params 2) (env4 (wf w b c).params L)) [0,0,2,2,0,0,3,3,0,3,3,3,3,0,3,3,3,3,4] ([(L,frO (e47 H T lc ll r r2 r3 r4 vk) 7 sl),(L+2,celO (some (.int 2 tj)))]) .nil nn tt om xi ps) ([0,1,3]) (.ok (.ref (nn 0+1))) ([(L,frO (e47 H T lc ll r r2 r3 r4 vk) 7 sl),(L+2,celO (some (.int 2 tj))),(nn 0+1,rgsO 2 4 2)]) := by cases b <;> trivial
theorem kI3 (w:World) (L tj lc ll:Nat) (r r2 r3 r4:Bool) (vk:Value) (sl:Slots) (H:NI) (T:NN) (b c:Bool) (nn tt om xi ps):Ends (go (wf w b c) 300 (itT (jB (wf w b c).params 2) (env4 (wf w b c).params L)) [0,0,2,2,0,0,3,3,0,3,3,3,3,0,3,3,3,3,4] ([(L,frO (e47 H T lc ll r r2 r3 r4 vk) 7 sl),(L+2,celO (some (.int 3 tj)))]) .nil nn tt om xi ps) ([0,1,3]) (.ok (.ref (nn 0+1))) ([(L,frO (e47 H T lc ll r r2 r3 r4 vk) 7 sl),(L+2,celO (some (.int 3 tj))),(nn 0+1,rgsO 3 3 3)]) := by cases b <;> trivial
theorem kI4 (w:World) (L tj lc ll:Nat) (r r2 r3 r4:Bool) (vk:Value) (sl:Slots) (H:NI) (T:NN) (b c:Bool) (nn tt om xi ps):Ends (go (wf w b c) 300 (itT (jB (wf w b c).params 2) (env4 (wf w b c).params L)) [0,0,2,2,0,0,3,3,0,3,3,3,3,0,3,3,3,3,4] ([(L,frO (e47 H T lc ll r r2 r3 r4 vk) 7 sl),(L+2,celO (some (.int 4 tj)))]) .nil nn tt om xi ps) ([0,1,3]) (.ok (.ref (nn 0+1))) ([(L,frO (e47 H T lc ll r r2 r3 r4 vk) 7 sl),(L+2,celO (some (.int 4 tj))),(nn 0+1,rgsO 4 2 4)]) := by cases b <;> trivial
theorem kI5 (w:World) (L tj lc ll:Nat) (r r2 r3 r4:Bool) (vk:Value) (sl:Slots) (H:NI) (T:NN) (b c:Bool) (nn tt om xi ps):Ends (go (wf w b c) 300 (itT (jB (wf w b c).params 2) (env4 (wf w b c).params L)) [0,0,2,2,0,0,3,3,0,3,3,3,3,0,3,3,3,3,4] ([(L,frO (e47 H T lc ll r r2 r3 r4 vk) 7 sl),(L+2,celO (some (.int 5 tj)))]) .nil nn tt om xi ps) ([0,1,3]) (.ok (.ref (nn 0+1))) ([(L,frO (e47 H T lc ll r r2 r3 r4 vk) 7 sl),(L+2,celO (some (.int 5 tj))),(nn 0+1,rgsO 5 1 5)]) := by cases b <;> trivial
theorem kI6 (w:World) (L tj lc ll:Nat) (r r2 r3 r4:Bool) (vk:Value) (sl:Slots) (H:NI) (T:NN) (b c:Bool) (nn tt om xi ps):Ends (go (wf w b c) 300 (itT (jB (wf w b c).params 2) (env4 (wf w b c).params L)) [0,0,2,2,0,0,3,3,0,3,3,3,3,0,3,3,3,3,4] ([(L,frO (e47 H T lc ll r r2 r3 r4 vk) 7 sl),(L+2,celO (some (.int 6 tj)))]) .nil nn tt om xi ps) ([0,1,3]) (.ok (.ref (nn 0+1))) ([(L,frO (e47 H T lc ll r r2 r3 r4 vk) 7 sl),(L+2,celO (some (.int 6 tj))),(nn 0+1,rgsO 6 1 6)]) := by cases b <;> trivial
theorem kI7 (w:World) (L tj lc ll:Nat) (r r2 r3 r4:Bool) (vk:Value) (sl:Slots) (H:NI) (T:NN) (b c:Bool) (nn tt om xi ps):Ends (go (wf w b c) 300 (itT (jB (wf w b c).params 2) (env4 (wf w b c).params L)) [0,0,2,2,0,0,3,3,0,3,3,3,3,0,3,3,3,3,4] ([(L,frO (e47 H T lc ll r r2 r3 r4 vk) 7 sl),(L+2,celO (some (.int 7 tj)))]) .nil nn tt om xi ps) ([0,1,3]) (.ok (.ref (nn 0+1))) ([(L,frO (e47 H T lc ll r r2 r3 r4 vk) 7 sl),(L+2,celO (some (.int 7 tj))),(nn 0+1,rgsO 7 1 7)]) := by cases b <;> trivial
theorem kI8 (w:World) (L tj lc ll:Nat) (r r2 r3 r4:Bool) (vk:Value) (sl:Slots) (H:NI) (T:NN) (b c:Bool) (nn tt om xi ps):Ends (go (wf w b c) 300 (itT (jB (wf w b c).params 2) (env4 (wf w b c).params L)) [0,0,2,2,0,0,3,3,0,3,3,3,3,0,3,3,3,3,4] ([(L,frO (e47 H T lc ll r r2 r3 r4 vk) 7 sl),(L+2,celO (some (.int 8 tj)))]) .nil nn tt om xi ps) ([0,1,3]) (.ok (.ref (nn 0+1))) ([(L,frO (e47 H T lc ll r r2 r3 r4 vk) 7 sl),(L+2,celO (some (.int 8 tj))),(nn 0+1,rgsO 8 1 8)]) := by cases b <;> trivial
theorem kI9 (w:World) (L tj lc ll:Nat) (r r2 r3 r4:Bool) (vk:Value) (sl:Slots) (H:NI) (T:NN) (b c:Bool) (nn tt om xi ps):Ends (go (wf w b c) 300 (itT (jB (wf w b c).params 2) (env4 (wf w b c).params L)) [0,0,2,2,0,0,3,3,0,3,3,3,3,0,3,3,3,3,4] ([(L,frO (e47 H T lc ll r r2 r3 r4 vk) 7 sl),(L+2,celO (some (.int 9 tj)))]) .nil nn tt om xi ps) ([0,1,3]) (.ok (.ref (nn 0+1))) ([(L,frO (e47 H T lc ll r r2 r3 r4 vk) 7 sl),(L+2,celO (some (.int 9 tj))),(nn 0+1,rgsO 9 1 9)]) := by cases b <;> trivial
theorem kN (w:World) (it i m s:Nat) (nn tt om xi ps):Ends (go w 60 (pyNext (.ref it)) [1,0,1,1,1,1,1,1,1,1] ([(it,rgsO (Int.ofNat i) (Int.ofNat (m+1)) (Int.ofNat (s+1)))]) .nil nn tt om xi ps) ([0]) (.ok (some (.int (Int.ofNat i) (tt 0)))) ([(it,rgsO (Int.ofNat i+Int.ofNat (s+1)) (Int.ofNat (m+1) - 1) (Int.ofNat (s+1)))]) := by trivial
theorem kE (w:World) (it i s:Nat) (nn tt om xi ps):Ends (go w 60 (pyNext (.ref it)) [1,0,1,1,1,1,3] ([(it,rgsO (Int.ofNat i) 0 (Int.ofNat (s+1)))]) .nil nn tt om xi ps) ([]) (.ok none) ([]) := by trivial
theorem kA6 (w:World) (L lc ll:Nat) (r r2 r3 r4:Bool) (i:Int) (ti:Nat) (sl:Slots) (H:NI) (T:NN) (nn tt om xi ps):Ends (go w 60 (fasg (jB w.params 2) (env4 w.params L) (.int i ti)) [1,1] ([(L,frO (e46 H T lc ll r r2 r3 r4) 6 sl)]) .nil nn tt om xi ps) ([0]) (.ok ()) ([(L,frO [fe H T 0 "codes" (.ref lc),fe H T 1 "off" (.bool r),fe H T 2 "fronts" (.bool r2),fe H T 3 "stretches" (.bool r3),fe H T 4 "runs" (.bool r4),fe H T 5 "left" (.ref ll),en (hs w.params "k") "k" (tt 0) (.int i ti)] 7 sl)]) := by trivial
theorem kA7 (w:World) (L lc ll:Nat) (r r2 r3 r4:Bool) (vk:Value) (i:Int) (ti:Nat) (sl:Slots) (H:NI) (T:NN) (nn tt om xi ps):Ends (go w 60 (fasg (jB w.params 2) (env4 w.params L) (.int i ti)) [1,1] ([(L,frO (e47 H T lc ll r r2 r3 r4 vk) 7 sl)]) .nil nn tt om xi ps) ([0]) (.ok ()) ([(L,frO (e47 H T lc ll r r2 r3 r4 (.int i ti)) 7 sl)]) := by trivial
theorem kL (w:World) (L nl j tj k tk lc ll:Nat) (r r2 r3 r4:Bool) (vs rs:List Value) (ns:List Int) (d:Int) (sl:Slots) (H:NI) (T:NN) (L1 n1:Nat) (es1:List DictEntry) (sl1:Slots) (b c:Bool) (nn tt om xi ps):Ends (go (wf w b c) 300 (eval (tsL (kB (wf w b c).params)) (env4 (wf w b c).params L)) [0,1,1,2,1,1,3,3,3,1,0,0,0,0,2,0,0,7,7,0,7,7,1,0,1] ([(L,frO (e47 H T lc ll r r2 r3 r4 (.int (Int.ofNat k) tk)) 7 sl),(L+2,celO (some (.int (Int.ofNat (j+1)) tj))),(ll,lstO vs nl),(L1,frO es1 n1 sl1)]) (IL fun nn tt om xi=>[bI "int.__sub__" [.int (Int.ofNat k) tk,.int (Int.ofNat (j+1)) tj] (intR d),lslI 2 4 ll (nn 1) vs nl (.int d (om 0 0)) (.int (Int.ofNat k) tk) rs,lrgI 6 (nn 2) (j+1) (tt 2) tj (tt 2+1),uldI 5 7 0 3 (om 1 0) (om 2 0) L L1 rs 0 (iv (rngI (j+1)) fun i=>om 2 (i+2)) (om 2 1) ns (rngI (j+1)) (e47 H T lc ll r r2 r3 r4 (.int (Int.ofNat k) tk)) 7 sl es1 n1 sl1]) nn tt om xi ps) ([0,1,2,3,7,8,9]) (.ok (.ref (om 3 0))) ([(L,frO (e47 H T lc ll r r2 r3 r4 (.int (Int.ofNat k) tk)) 7 (xi 3 0)),(L+2,celO (some (.int (Int.ofNat (j+1)) tj))),(ll,lstO vs nl),(L1,frO es1 n1 (xi 3 1)),(om 2 0,lstO (iv (uldR ns (rngI (j+1))).2 fun i=>om 3 (2 * i+6)) (om 3 3)),(om 3 0,tupO [.ref (om 3 1),.ref (om 2 0)]),(om 3 1,lstO (iv (uldR ns (rngI (j+1))).1 fun i=>om 3 (2 * i+5)) (om 3 4))]) := by cases b <;> trivial
theorem kR (w:World) (L:Nat) (nn tt om xi ps):Ends (go w 60 (eval (tsR (kB w.params)) (env4 w.params L)) [] ([]) .nil nn tt om xi ps) ([0,1,2]) (.ok (.ref (nn 0+2))) ([(nn 0,lstO [] 0),(nn 0+1,lstO [] 0),(nn 0+2,tupO [.ref (nn 0),.ref (nn 0+1)])]) := by trivial
theorem kF (w:World) (L lc ll:Nat) (r r2 r3 r4:Bool) (vk:Value) (sl:Slots) (H:NI) (T:NN) (nn tt om xi ps):Ends (go w 60 (execs (tsB (kB w.params)) (env4 w.params L)) [1,1] ([(L,frO (e47 H T lc ll r r2 r3 r4 vk) 7 sl)]) .nil nn tt om xi ps) ([0]) (.ok .next) ([(L,frO (e47 H T lc ll r r2 false r4 vk) 7 sl)]) := by trivial
theorem jm1 (w:World) (L nc j tj lc ll:Nat) (r r2 r3 r4:Bool) (vk:Value) (vs rs:List Value) (mx mn d1 d2:Int) (sl:Slots) (H:NI) (T:NN) (b c:Bool) (nn tt om xi ps):Ends (go (wf w b c) 300 (exec (jB (wf w b c).params 3) (env4 (wf w b c).params L)) [0,0,1,2,3,3,3,1,1,0,0,1,2,3,3,3,1,1,1,2,1,1,1,1] ([(L,frO (e47 H T lc ll r r2 r3 r4 vk) 7 sl),(L+2,celO (some (.int (Int.ofNat (j+1)) tj))),(lc,lstO vs nc)]) (IL fun nn tt om xi=>[lslI 2 3 lc (nn 0) vs nc .none (.int (Int.ofNat (j+1)) tj) rs,mmI "max" 4 (om 0 0) rs 0 mx,lslI 2 5 lc (nn 2) vs nc .none (.int (Int.ofNat (j+1)) tj) rs,mmI "min" 6 (om 2 0) rs 0 mn,bI "int.__sub__" [.int mx (om 1 0),.int mn (om 3 0)] (intR d1),bI "int.__sub__" [.int (Int.ofNat (j+1)) tj,.int 1 (tt 5)] (intR d2),bI "int.__ne__" [.int d1 (om 4 0),.int d2 (om 5 0)] (boolR true)]) nn tt om xi ps) ([0,1,2]) (.ok .next) ([(L,frO (e47 H T lc ll r r2 r3 false vk) 7 sl),(L+2,celO (some (.int (Int.ofNat (j+1)) tj))),(lc,lstO vs nc)]) := by cases b <;> trivial
theorem jm0 (w:World) (L nc j tj lc ll:Nat) (r r2 r3 r4:Bool) (vk:Value) (vs rs:List Value) (mx mn d1 d2:Int) (sl:Slots) (H:NI) (T:NN) (b c:Bool) (nn tt om xi ps):Ends (go (wf w b c) 300 (exec (jB (wf w b c).params 3) (env4 (wf w b c).params L)) [0,0,1,2,3,3,3,1,1,0,0,1,2,3,3,3,1,1,1,2,1,1] ([(L,frO (e47 H T lc ll r r2 r3 r4 vk) 7 sl),(L+2,celO (some (.int (Int.ofNat (j+1)) tj))),(lc,lstO vs nc)]) (IL fun nn tt om xi=>[lslI 2 3 lc (nn 0) vs nc .none (.int (Int.ofNat (j+1)) tj) rs,mmI "max" 4 (om 0 0) rs 0 mx,lslI 2 5 lc (nn 2) vs nc .none (.int (Int.ofNat (j+1)) tj) rs,mmI "min" 6 (om 2 0) rs 0 mn,bI "int.__sub__" [.int mx (om 1 0),.int mn (om 3 0)] (intR d1),bI "int.__sub__" [.int (Int.ofNat (j+1)) tj,.int 1 (tt 5)] (intR d2),bI "int.__ne__" [.int d1 (om 4 0),.int d2 (om 5 0)] (boolR false)]) nn tt om xi ps) ([0,1,2]) (.ok .next) ([(L,frO (e47 H T lc ll r r2 r3 r4 vk) 7 sl),(L+2,celO (some (.int (Int.ofNat (j+1)) tj))),(lc,lstO vs nc)]) := by cases b <;> trivial
theorem q6 (w:World) (L lc ll:Nat) (r r2 r3 r4:Bool) (vk:Value) (sl:Slots) (H:NI) (T:NN) (nn tt om xi ps):Ends (go w 60 (exec (nthS w.params 204 6) (env4 w.params L)) [1,1,1,1] ([(L,frO (e47 H T lc ll r r2 r3 r4 vk) 7 sl)]) .nil nn tt om xi ps) ([1]) (.ok (.ret (.ref (nn 0)))) ([(nn 0,lstO [.bool r,.bool r2,.bool r3,.bool r4] 0)]) := by trivial
structure CF (e4 e1 : Env) (L4 L1 : Nat) (A : Around) : Prop where
  ab : AB 780 5900 A
  fr : A.frames = some [e4,e1]
  k4 : e4.scope.kind ≠ .module
  k1 : e1.scope.kind ≠ .module
  f4 : e4.frame = some L4
  f1 : e1.frame = some L1
theorem CF.hh {e4 e1 : Env} {L4 L1 : Nat} : ∀ A,CF e4 e1 L4 L1 A → A.handled = none := fun _ h => h.ab.1
theorem CF.c4 {e4 e1 : Env} {L4 L1 : Nat} : ∀ A,CF e4 e1 L4 L1 A → C4 e4 e1 L4 L1 A := fun _ h => ⟨h.ab.mono (by decide) (by decide),h.fr,h.k4,h.k1,h.f4,h.f1⟩
noncomputable def tsP (st : Stmt) : Pos := match st with | .If (.Compare _ _ _ p) _ _ _ => p | _ => ⟨0,0,0,0⟩
noncomputable def tsQ (st : Stmt) : Pos := match st with | .If _ _ _ p => p | _ => ⟨0,0,0,0⟩
theorem neTest {w : World} {A : Around} {s : Shared} {Q : Flow → Shared → Prop} {E : Value → Shared → Prop} {st : Stmt} {env : Env} (hst : st = .If (.Compare (tsL st) [.NotEq] [tsR st] (tsP st)) (tsB st) [] (tsQ st)) (hm : behindInMarks .NotEq (tsR st) = false)
    (h : wpAny (MM w) A (eval (tsL st) env) (fun a s₁ => wpAny (MM w) A (eval (tsR st) env) (fun b s₂ => wpAny (MM w) A (compareOp .NotEq a b) (fun c s₃ => ∃ x : Bool,c = .bool x ∧ match x with | true => wpAny (MM w) A (execs (tsB st) env) Q E s₃ | false => Q .next s₃) E s₂) E s₁) E s) : wpAny (MM w) A (exec st env) Q E s := by
  have e : exec st env = exec (.If (.Compare (tsL st) [.NotEq] [tsR st] (tsP st)) (tsB st) [] (tsQ st)) env := congrArg (fun z => exec z env) hst
  rw [e]
  refine wpAny_If (wpAny_isTrue_Compare1 (wpAny_mono h (fun a s₁ h₁ => wpAny_mono h₁ (fun b s₂ h₂ => wpAny_mono h₂ (fun c s₃ h₃ => ?_) fun _ _ q => q) fun _ _ q => q) fun _ _ q => q) hm)
  obtain ⟨x,rfl,hx⟩ := h₃
  refine wpAny_truthy_bool ?_
  cases x with
  | true => exact hx
  | false => exact wpAny_execs_nil hx
noncomputable def fNi (st : Stmt) : Str := match st with | .For (.Name x _) _ _ _ _ => x | _ => ""
noncomputable def fNp (st : Stmt) : Pos := match st with | .For (.Name _ p) _ _ _ _ => p | _ => ⟨0,0,0,0⟩
theorem nmTurn {w : World} {A : Around} {s : Shared} {R : Result → Shared → Prop} {st : Stmt} {e : Nat} {env : Env}
    (hst : st = .For (.Name (fNi st) (fNp st)) (fI st) (fB st) (fO st) (fP st))
    (h : wpAny (MM w) A (pyNext (.ref e)) (fun r s₁ => match r with
      | none => codeAny (MM w) A (.block (fO st) env) R s₁
      | some v => wpAny (MM w) A (fasg st env v) (fun _ s₃ => wpAny (MM w) A (fbody st env) (fun f s₄ => match f with
          | .next | .cont => codeAny (MM w) A (loopC st (.ref e) env) R s₄
          | .brk => R (.ok .next) s₄
          | .ret v => R (.ok (.ret v)) s₄) (fun _ _ => False) s₃) (fun _ _ => False) s₁) (fun _ _ => False) s) :
    codeAny (MM w) A (loopC st (.ref e) env) R s := by
  rw [hst,loopC_for]
  refine forTurn1 (wpAny_mono h (fun r s₁ h₁ => ?_) fun _ _ z => z)
  cases r with
  | none => exact h₁
  | some v =>
    refine wpAny_pure ?_
    rw [hst] at h₁
    exact h₁
theorem ifK (P : Params) : kB P = .If (.Compare (tsL (kB P)) [.NotEq] [tsR (kB P)] (tsP (kB P))) (tsB (kB P)) [] (tsQ (kB P)) := by kernel_rfl
theorem ifJ (P : Params) : jB P 1 = .If (.Compare (tsL (jB P 1)) [.NotEq] [tsR (jB P 1)] (tsP (jB P 1))) (tsB (jB P 1)) [] (tsQ (jB P 1)) := by kernel_rfl
theorem mkK (P : Params) : behindInMarks .NotEq (tsR (kB P)) = false := by kernel_rfl
theorem mkJ (P : Params) : behindInMarks .NotEq (tsR (jB P 1)) = false := by kernel_rfl
theorem nmK (P : Params) : jB P 2 = .For (.Name (fNi (jB P 2)) (fNp (jB P 2))) (fI (jB P 2)) (fB (jB P 2)) (fO (jB P 2)) (fP (jB P 2)) := by kernel_rfl
theorem nmJ (P : Params) : nthS P 204 5 = .For (.Name (fNi (nthS P 204 5)) (fNp (nthS P 204 5))) (fI (nthS P 204 5)) (fB (nthS P 204 5)) (fO (nthS P 204 5)) (fP (nthS P 204 5)) := by kernel_rfl
theorem frK (P : Params) : jB P 2 = .For (fT (jB P 2)) (fI (jB P 2)) (fB (jB P 2)) (fO (jB P 2)) (fP (jB P 2)) := by kernel_rfl
theorem frJ (P : Params) : nthS P 204 5 = .For (fT (nthS P 204 5)) (fI (nthS P 204 5)) (fB (nthS P 204 5)) (fO (nthS P 204 5)) (fP (nthS P 204 5)) := by kernel_rfl
theorem bdK (P : Params) (env : Env) : fbody (jB P 2) env = execs [kB P] env := by kernel_rfl
theorem bdJ (P : Params) (env : Env) : fbody (nthS P 204 5) env = execs [jB P 0,jB P 1,jB P 2,jB P 3] env := by kernel_rfl
theorem orK (P : Params) : fO (jB P 2) = [] := by kernel_rfl
theorem orJ (P : Params) : fO (nthS P 204 5) = [] := by kernel_rfl
structure FK where
  (L L1 lc ll n1 nl nc j tj ij : Nat)
  es1 : List DictEntry
  (vs vc : List Value)
  r : Bool
  oj : Obj
noncomputable abbrev T7 (k : FK) (sl1 : Slots) : Led := [(k.L + 2,celO (some (.int (Int.ofNat (k.j + 1)) k.tj))),(k.ll,lstO k.vs k.nl),(k.L1,frO k.es1 k.n1 sl1),(k.lc,lstO k.vc k.nc),(k.ij,k.oj)]
noncomputable abbrev F7 (k : FK) (H : Nat → Int) (T : Nat → Nat) (r2 r3 r4 : Bool) (vk : Value) (sl sl1 : Slots) : Led := (k.L,frO (e47 H T k.lc k.ll k.r r2 r3 r4 vk) 7 sl) :: T7 k sl1
noncomputable def stB (xs : List Int) (j q : Nat) : Bool := decide (uldR ((xs.drop (q - (j + 1))).take (j + 1)) (rngI (j + 1)) = ([],[]))
theorem rng_len (j : Nat) : (rngI j).length = j := by unfold rngI; rw [List.length_map,List.length_range]
section
variable (w : World) (b c : Bool) {A : Around} {g : Heap} {A0 : List Addr}
theorem kTurn {Q : Flow → Shared → Prop} {s : Shared} {e1 : Env} (k : FK) (hA : CF (env4 (wf w b c).params k.L) e1 k.L k.L1 A) (hj : k.j ≤ 8) (xs : List Int) (hv : IntsAre k.vs xs) (h9 : xs.length = 9) (H : Nat → Int) (T : Nat → Nat) (r2 r3 r4 : Bool) (sl sl1 : Slots) (q tq ik : Nat) (ok : Obj) (hq : k.j + 1 ≤ q) (hq9 : q ≤ 9)
    (D : Rp (MyK (wf w b c).params) g A0 s.heap (F7 k H T r2 r3 r4 (.int (Int.ofNat q) tq) sl sl1 ++ [(ik,ok)]))
    (h : ∀ sl' sl1' h' tk',Rp (MyK (wf w b c).params) g A0 h' (F7 k H T r2 (r3 && stB xs k.j q) r4 (.int (Int.ofNat q) tq) sl' sl1' ++ [(ik,ok)]) → Q .next { s with heap := h',toks := tk' }) :
    wpAny (MM (wf w b c)) A (execs [kB (wf w b c).params] (env4 (wf w b c).params k.L)) Q (fun _ _ => False) s := by
  obtain ⟨d,hd⟩ : ∃ d,q = d + (k.j + 1) := ⟨q - (k.j + 1),by omega⟩
  have hd' : q - (k.j + 1) = d := by omega
  have hsub : Int.ofNat q - Int.ofNat (k.j + 1) = Int.ofNat d := by subst hd; simp only [Int.ofNat_eq_natCast]; omega
  have hpick : slicePick k.vs.toArray (some (Int.ofNat d)) (some (Int.ofNat q)) none = ((k.vs.drop d).take (k.j + 1)).toArray := by
    have z := pickFT k.vs d q (by omega)
    rw [z,show q - d = k.j + 1 by omega]
  have hvl : k.vs.length ≤ 1000 := by rw [hv.length,h9]; decide
  have hrs : IntsAre ((k.vs.drop d).take (k.j + 1)) ((xs.drop d).take (k.j + 1)) := are_take (are_drop hv d) _
  have hl1 : ((xs.drop d).take (k.j + 1)).length = k.j + 1 := by rw [List.length_take,List.length_drop,h9]; omega
  have hstB : stB xs k.j q = decide (uldR ((xs.drop d).take (k.j + 1)) (rngI (k.j + 1)) = ([],[])) := by unfold stB; rw [hd']
  refine wpAny_execs_cons (neTest (ifK _) (mkK _) ?_)
  refine fragQ (C := CF (env4 (wf w b c).params k.L) e1 k.L k.L1) [(k.lc,lstO k.vc k.nc),(k.ij,k.oj),(ik,ok)] D (List.Perm.refl _)
    (kL w k.L k.nl k.j k.tj q tq k.lc k.ll k.r r2 r3 r4 k.vs ((k.vs.drop d).take (k.j + 1)) ((xs.drop d).take (k.j + 1)) (Int.ofNat d) sl H T k.L1 k.n1 k.es1 sl1 b c) CF.hh hA
    (okIL _ fun nn tt om xi => oneIns (isub_ok CF.hh hsub) (oneIns (lsl_ok (.int _ _) (.int _ _) hpick hvl) (oneIns (lrg_ok CF.hh (by omega)) (oneIns ((uld_ok w b c _ _ _ _ _ _ _ _ _ _ _ _ _ _ _ _ _ _ _ _ hrs (iv_are _ _) (by omega) (by rw [rng_len]; omega) (by omega) _ _).mono CF.c4) nilIns)))) ?_
  intro nn tt om xi h1 k1 D1
  refine fragQ (led := []) _ D1 (List.Perm.refl _) (kR (wf w b c) k.L) CF.hh hA noIns ?_
  intro nn2 tt2 om2 xi2 h2 k2 D2
  have hm : ∀ i p,ledAt ([(nn2 0,lstO [] 0),(nn2 0 + 1,lstO [] 0),(nn2 0 + 2,tupO [.ref (nn2 0),.ref (nn2 0 + 1)])] ++ ([(k.L,frO (e47 H T k.lc k.ll k.r r2 r3 r4 (.int (Int.ofNat q) tq)) 7 (xi 3 0)),(k.L + 2,celO (some (.int (Int.ofNat (k.j + 1)) k.tj))),(k.ll,lstO k.vs k.nl),(k.L1,frO k.es1 k.n1 (xi 3 1)),(om 2 0,lstO (iv (uldR ((xs.drop d).take (k.j + 1)) (rngI (k.j + 1))).2 fun i => om 3 (2 * i + 6)) (om 3 3)),(om 3 0,tupO [.ref (om 3 1),.ref (om 2 0)]),(om 3 1,lstO (iv (uldR ((xs.drop d).take (k.j + 1)) (rngI (k.j + 1))).1 fun i => om 3 (2 * i + 5)) (om 3 4))] ++ [(k.lc,lstO k.vc k.nc),(k.ij,k.oj),(ik,ok)])) i = some p → h2.get? p.1 = some p.2 := fun i p e => D2.has p (ledAt_mem e)
  refine pairNe (hm 8 _ rfl) (hm 9 _ rfl) (hm 7 _ rfl) (hm 2 _ rfl) (hm 0 _ rfl) (hm 1 _ rfl) (Nat.le_trans hA.ab.2.2 (by decide)) ?_
  refine ⟨_,rfl,?_⟩
  have D3 := D2.sel [3,4,5,6,10,11,12] (by decide)
  have he : decide (((uldR ((xs.drop d).take (k.j + 1)) (rngI (k.j + 1))).1,(uldR ((xs.drop d).take (k.j + 1)) (rngI (k.j + 1))).2) = ([],[])) = stB xs k.j q := hstB.symm
  rw [he]
  cases hb : stB xs k.j q with
  | true =>
    rw [hb,Bool.and_true] at h
    exact wpAny_execs_nil (h _ _ h2 k2 D3)
  | false =>
    rw [hb,Bool.and_false] at h
    refine fragQ [(k.L + 2,celO (some (.int (Int.ofNat (k.j + 1)) k.tj))),(k.ll,lstO k.vs k.nl),(k.L1,frO k.es1 k.n1 (xi 3 1)),(k.lc,lstO k.vc k.nc),(k.ij,k.oj),(ik,ok)] D3 (List.Perm.refl _) (kF (wf w b c) k.L k.lc k.ll k.r r2 r3 r4 _ _ H T) CF.hh hA noIns ?_
    intro nn3 tt3 om3 xi3 h3 k3 D4
    exact wpAny_execs_nil (h _ _ h3 k3 D4)
end
theorem all_succ (f : Nat → Bool) (m : Nat) : (List.range (m + 1)).all f = (f 0 && (List.range m).all fun i => f (i + 1)) := by
  rw [List.range_succ_eq_map,List.all_cons,List.all_map]; rfl
section
variable (w : World) (b c : Bool) {A : Around} {g : Heap} {A0 : List Addr}
theorem kLoop {R : Result → Shared → Prop} {e1 : Env} (k : FK) (hA : CF (env4 (wf w b c).params k.L) e1 k.L k.L1 A) (hj : k.j ≤ 8) (xs : List Int) (hv : IntsAre k.vs xs) (h9 : xs.length = 9) (H : Nat → Int) (T : Nat → Nat) (r2 r4 : Bool) (ik : Nat) :
    ∀ (m t : Nat) (r3 : Bool) (vk : Value) (sl sl1 : Slots) (s : Shared),(t + m) * (k.j + 1) ≤ 9 →
    Rp (MyK (wf w b c).params) g A0 s.heap (F7 k H T r2 r3 r4 vk sl sl1 ++ [(ik,rgsO (Int.ofNat ((t + 1) * (k.j + 1))) (Int.ofNat m) (Int.ofNat (k.j + 1)))]) →
    (∀ vk' sl' sl1' h' tk',Rp (MyK (wf w b c).params) g A0 h' (F7 k H T r2 (r3 && (List.range m).all fun i => stB xs k.j ((t + i + 1) * (k.j + 1))) r4 vk' sl' sl1') → R (.ok .next) { s with heap := h',toks := tk' }) →
    codeAny (MM (wf w b c)) A (loopC (jB (wf w b c).params 2) (.ref ik) (env4 (wf w b c).params k.L)) R s := by
  intro m
  induction m with
  | zero =>
    intro t r3 vk sl sl1 s hm D hR
    refine nmTurn (nmK _) ?_
    refine fragQ (F7 k H T r2 r3 r4 vk sl sl1) D List.perm_append_comm (kE (wf w b c) ik ((t + 1) * (k.j + 1)) k.j) CF.hh hA noIns ?_
    intro _ _ _ _ h' k' D'
    show codeAny _ _ (.block (fO _) _) _ _
    rw [orK]
    have e : (r3 && (List.range 0).all fun i => stB xs k.j ((t + i + 1) * (k.j + 1))) = r3 := Bool.and_true r3
    rw [e] at hR
    exact codeBlk (hR _ _ _ h' k' D')
  | succ m ih =>
    intro t r3 vk sl sl1 s hm D hR
    have hq : (t + 1) * (k.j + 1) ≤ (t + (m + 1)) * (k.j + 1) := Nat.mul_le_mul_right _ (by omega)
    have hq1 : 1 * (k.j + 1) ≤ (t + 1) * (k.j + 1) := Nat.mul_le_mul_right _ (by omega)
    refine nmTurn (nmK _) ?_
    refine fragQ (F7 k H T r2 r3 r4 vk sl sl1) D List.perm_append_comm (kN (wf w b c) ik ((t + 1) * (k.j + 1)) m k.j) CF.hh hA noIns ?_
    intro nn tt om xi h1 k1 D1
    refine fragQ (T7 k sl1 ++ [(ik,rgsO (Int.ofNat ((t + 1) * (k.j + 1)) + Int.ofNat (k.j + 1)) (Int.ofNat (m + 1) - 1) (Int.ofNat (k.j + 1)))]) (D1.sel [1,2,3,4,5,6,0] (by decide)) (List.Perm.refl _) (kA7 (wf w b c) k.L k.lc k.ll k.r r2 r3 r4 vk _ _ sl H T) CF.hh hA noIns ?_
    intro nn2 tt2 om2 xi2 h2 k2 D2
    rw [bdK]
    refine kTurn w b c k hA hj xs hv h9 H T r2 r3 r4 sl sl1 ((t + 1) * (k.j + 1)) _ ik _ (by omega) (by omega) D2 ?_
    intro sl' sl1' h3 k3 D3
    have e1 : Int.ofNat ((t + 1) * (k.j + 1)) + Int.ofNat (k.j + 1) = Int.ofNat ((t + 1 + 1) * (k.j + 1)) := by rw [Nat.succ_mul (t + 1)]; rfl
    have e2 : Int.ofNat (m + 1) - 1 = Int.ofNat m := by simp only [Int.ofNat_eq_natCast]; omega
    rw [e1,e2] at D3
    have e3 : (r3 && (List.range (m + 1)).all fun i => stB xs k.j ((t + i + 1) * (k.j + 1))) = ((r3 && stB xs k.j ((t + 1) * (k.j + 1))) && (List.range m).all fun i => stB xs k.j ((t + 1 + i + 1) * (k.j + 1))) := by
      rw [all_succ,Bool.and_assoc]
      have : (fun i => stB xs k.j ((t + (i + 1) + 1) * (k.j + 1))) = fun i => stB xs k.j ((t + 1 + i + 1) * (k.j + 1)) := funext fun i => by rw [show t + (i + 1) + 1 = t + 1 + i + 1 by omega]
      rw [this]
    rw [e3] at hR
    exact ih (t + 1) _ _ _ _ _ (by rw [show t + 1 + m = t + (m + 1) by omega]; exact hm) D3 hR
end
noncomputable abbrev F6 (k : FK) (H : Nat → Int) (T : Nat → Nat) (r2 r3 r4 : Bool) (sl sl1 : Slots) : Led := (k.L,frO (e46 H T k.lc k.ll k.r r2 r3 r4) 6 sl) :: T7 k sl1
noncomputable def frtB (xs : List Int) (j : Nat) : Bool := decide (sldR (isort (xs.take (j + 1))) (rngI (j + 1)) = ([],[]))
theorem isort_len (l : List Int) : (isort l).length = l.length := (isort_perm l).length_eq
theorem fold_max : ∀ (p : List Nat) (a : Nat),(a ≤ p.foldl max a ∧ ∀ x ∈ p,x ≤ p.foldl max a) ∧ (p.foldl max a = a ∨ p.foldl max a ∈ p)
  | [],a => ⟨⟨Nat.le_refl _,fun _ h => nomatch h⟩,.inl rfl⟩
  | y :: p,a => by
    obtain ⟨⟨h1,h2⟩,h3⟩ := fold_max p (max a y)
    refine ⟨⟨Nat.le_trans (Nat.le_max_left a y) h1,fun x hx => ?_⟩,?_⟩
    · rcases List.mem_cons.mp hx with rfl | hx
      · exact Nat.le_trans (Nat.le_max_right a x) h1
      · exact h2 x hx
    · rcases h3 with h3 | h3
      · rcases Nat.le_total a y with q | q
        · rw [Nat.max_eq_right q] at h3
          exact .inr (by rw [List.foldl_cons,Nat.max_eq_right q,h3]; exact .head _)
        · rw [Nat.max_eq_left q] at h3
          exact .inl (by rw [List.foldl_cons,Nat.max_eq_left q,h3])
      · exact .inr (.tail _ h3)
theorem fold_min : ∀ (p : List Nat) (a : Nat),(p.foldl min a ≤ a ∧ ∀ x ∈ p,p.foldl min a ≤ x) ∧ (p.foldl min a = a ∨ p.foldl min a ∈ p)
  | [],a => ⟨⟨Nat.le_refl _,fun _ h => nomatch h⟩,.inl rfl⟩
  | y :: p,a => by
    obtain ⟨⟨h1,h2⟩,h3⟩ := fold_min p (min a y)
    refine ⟨⟨Nat.le_trans h1 (Nat.min_le_left a y),fun x hx => ?_⟩,?_⟩
    · rcases List.mem_cons.mp hx with rfl | hx
      · exact Nat.le_trans h1 (Nat.min_le_right a x)
      · exact h2 x hx
    · rcases h3 with h3 | h3
      · rcases Nat.le_total a y with q | q
        · rw [Nat.min_eq_left q] at h3
          exact .inl (by rw [List.foldl_cons,Nat.min_eq_left q,h3])
        · rw [Nat.min_eq_right q] at h3
          exact .inr (by rw [List.foldl_cons,Nat.min_eq_right q,h3]; exact .head _)
      · exact .inr (.tail _ h3)
theorem mx_mem {p : List Nat} (h : 0 < p.length) : mx p ∈ p := by
  obtain ⟨⟨_,h2⟩,h3⟩ := fold_max p 0
  rcases h3 with h3 | h3
  · cases p with
    | nil => cases h
    | cons x p =>
      have z := h2 x (.head _)
      rw [h3] at z
      show List.foldl max 0 (x :: p) ∈ _
      rw [h3,← Nat.le_zero.mp z]; exact .head _
  · exact h3
theorem mn_mem {p : List Nat} (h : 0 < p.length) (h9 : ∀ x ∈ p,x < 9) : mn p ∈ p := by
  obtain ⟨⟨_,h2⟩,h3⟩ := fold_min p 9
  rcases h3 with h3 | h3
  · cases p with
    | nil => cases h
    | cons x p =>
      have z := h2 x (.head _)
      rw [h3] at z
      exact absurd (h9 x (.head _)) (Nat.not_lt.mpr z)
  · exact h3
section
variable (w : World) (b c : Bool) {A : Around} {g : Heap} {A0 : List Addr}
theorem jTest6 {Q : Flow → Shared → Prop} {s : Shared} {e1 : Env} (k : FK) (hA : CF (env4 (wf w b c).params k.L) e1 k.L k.L1 A) (hj : k.j ≤ 8) (xs : List Int) (hv : IntsAre k.vs xs) (h9 : xs.length = 9) (H : Nat → Int) (T : Nat → Nat) (r2 r3 r4 : Bool) (sl sl1 : Slots)
    (D : Rp (MyK (wf w b c).params) g A0 s.heap (F6 k H T r2 r3 r4 sl sl1))
    (h : ∀ sl' sl1' h' tk',Rp (MyK (wf w b c).params) g A0 h' (F6 k H T (r2 && frtB xs k.j) r3 r4 sl' sl1') → Q .next { s with heap := h',toks := tk' }) :
    wpAny (MM (wf w b c)) A (exec (jB (wf w b c).params 1) (env4 (wf w b c).params k.L)) Q (fun _ _ => False) s := by
  have hvl : k.vs.length ≤ 1000 := by rw [hv.length,h9]; decide
  have hrs : IntsAre (k.vs.take (k.j + 1)) (xs.take (k.j + 1)) := are_take hv _
  have hl1 : (xs.take (k.j + 1)).length = k.j + 1 := by rw [List.length_take,h9]; omega
  have hl2 : (isort (xs.take (k.j + 1))).length = k.j + 1 := by rw [isort_len,hl1]
  refine neTest (ifJ _) (mkJ _) ?_
  refine fragQ (C := CF (env4 (wf w b c).params k.L) e1 k.L k.L1) [(k.lc,lstO k.vc k.nc),(k.ij,k.oj)] D (List.Perm.refl _)
    (jL6 w k.L k.nl k.j k.tj k.lc k.ll k.r r2 r3 r4 k.vs (k.vs.take (k.j + 1)) (isort (xs.take (k.j + 1))) sl H T k.L1 k.n1 k.es1 sl1 b c) CF.hh hA
    (okIL _ fun nn tt om xi => oneIns (lsl_ok .none (.int _ _) (pickTo _ _) hvl) (oneIns (sort_ok hrs (by rw [hrs.length]; omega) (isort_perm _) (isort_sorted _)) (oneIns (lrg_ok CF.hh (by omega)) (oneIns ((sld_ok w b c _ _ _ _ _ _ _ _ _ _ _ _ _ _ _ _ _ _ _ _ (iv_are _ _) (iv_are _ _) (by omega) (by rw [rng_len]; omega) (by omega) (by rw [rng_len]; omega) _ _).mono CF.c4) nilIns)))) ?_
  intro nn tt om xi h1 k1 D1
  refine fragQ (led := []) _ D1 (List.Perm.refl _) (jR (wf w b c) k.L) CF.hh hA noIns ?_
  intro nn2 tt2 om2 xi2 h2 k2 D2
  have hm : ∀ i p,ledAt ([(nn2 0,lstO [] 0),(nn2 0 + 1,lstO [] 0),(nn2 0 + 2,tupO [.ref (nn2 0),.ref (nn2 0 + 1)])] ++ ([(k.L,frO (e46 H T k.lc k.ll k.r r2 r3 r4) 6 (xi 3 0)),(k.L + 2,celO (some (.int (Int.ofNat (k.j + 1)) k.tj))),(k.ll,lstO k.vs k.nl),(k.L1,frO k.es1 k.n1 (xi 3 1)),(om 3 0,tupO [.ref (om 3 1),.ref (om 3 2)]),(om 3 1,lstO (iv (sldR (isort (xs.take (k.j + 1))) (rngI (k.j + 1))).1 fun i => om 3 (2 * i + 5)) (om 3 3)),(om 3 2,lstO (iv (sldR (isort (xs.take (k.j + 1))) (rngI (k.j + 1))).2 fun i => om 3 (2 * i + 6)) (om 3 4))] ++ [(k.lc,lstO k.vc k.nc),(k.ij,k.oj)])) i = some p → h2.get? p.1 = some p.2 := fun i p e => D2.has p (ledAt_mem e)
  refine pairNe (hm 7 _ rfl) (hm 8 _ rfl) (hm 9 _ rfl) (hm 2 _ rfl) (hm 0 _ rfl) (hm 1 _ rfl) (Nat.le_trans hA.ab.2.2 (by decide)) ?_
  refine ⟨_,rfl,?_⟩
  have D3 := D2.sel [3,4,5,6,10,11] (by decide)
  have he : decide (((sldR (isort (xs.take (k.j + 1))) (rngI (k.j + 1))).1,(sldR (isort (xs.take (k.j + 1))) (rngI (k.j + 1))).2) = ([],[])) = frtB xs k.j := rfl
  rw [he]
  cases hb : frtB xs k.j with
  | true =>
    rw [hb,Bool.and_true] at h
    exact h _ _ h2 k2 D3
  | false =>
    rw [hb,Bool.and_false] at h
    refine fragQ [(k.L + 2,celO (some (.int (Int.ofNat (k.j + 1)) k.tj))),(k.ll,lstO k.vs k.nl),(k.L1,frO k.es1 k.n1 (xi 3 1)),(k.lc,lstO k.vc k.nc),(k.ij,k.oj)] D3 (List.Perm.refl _) (jF6 (wf w b c) k.L k.lc k.ll k.r r2 r3 r4 _ H T) CF.hh hA noIns ?_
    intro nn3 tt3 om3 xi3 h3 k3 D4
    exact h _ _ h3 k3 D4
theorem jTest7 {Q : Flow → Shared → Prop} {s : Shared} {e1 : Env} (k : FK) (hA : CF (env4 (wf w b c).params k.L) e1 k.L k.L1 A) (hj : k.j ≤ 8) (xs : List Int) (hv : IntsAre k.vs xs) (h9 : xs.length = 9) (H : Nat → Int) (T : Nat → Nat) (r2 r3 r4 : Bool) (vk : Value) (sl sl1 : Slots)
    (D : Rp (MyK (wf w b c).params) g A0 s.heap (F7 k H T r2 r3 r4 vk sl sl1))
    (h : ∀ sl' sl1' h' tk',Rp (MyK (wf w b c).params) g A0 h' (F7 k H T (r2 && frtB xs k.j) r3 r4 vk sl' sl1') → Q .next { s with heap := h',toks := tk' }) :
    wpAny (MM (wf w b c)) A (exec (jB (wf w b c).params 1) (env4 (wf w b c).params k.L)) Q (fun _ _ => False) s := by
  have hvl : k.vs.length ≤ 1000 := by rw [hv.length,h9]; decide
  have hrs : IntsAre (k.vs.take (k.j + 1)) (xs.take (k.j + 1)) := are_take hv _
  have hl1 : (xs.take (k.j + 1)).length = k.j + 1 := by rw [List.length_take,h9]; omega
  have hl2 : (isort (xs.take (k.j + 1))).length = k.j + 1 := by rw [isort_len,hl1]
  refine neTest (ifJ _) (mkJ _) ?_
  refine fragQ (C := CF (env4 (wf w b c).params k.L) e1 k.L k.L1) [(k.lc,lstO k.vc k.nc),(k.ij,k.oj)] D (List.Perm.refl _)
    (jL7 w k.L k.nl k.j k.tj k.lc k.ll k.r r2 r3 r4 vk k.vs (k.vs.take (k.j + 1)) (isort (xs.take (k.j + 1))) sl H T k.L1 k.n1 k.es1 sl1 b c) CF.hh hA
    (okIL _ fun nn tt om xi => oneIns (lsl_ok .none (.int _ _) (pickTo _ _) hvl) (oneIns (sort_ok hrs (by rw [hrs.length]; omega) (isort_perm _) (isort_sorted _)) (oneIns (lrg_ok CF.hh (by omega)) (oneIns ((sld_ok w b c _ _ _ _ _ _ _ _ _ _ _ _ _ _ _ _ _ _ _ _ (iv_are _ _) (iv_are _ _) (by omega) (by rw [rng_len]; omega) (by omega) (by rw [rng_len]; omega) _ _).mono CF.c4) nilIns)))) ?_
  intro nn tt om xi h1 k1 D1
  refine fragQ (led := []) _ D1 (List.Perm.refl _) (jR (wf w b c) k.L) CF.hh hA noIns ?_
  intro nn2 tt2 om2 xi2 h2 k2 D2
  have hm : ∀ i p,ledAt ([(nn2 0,lstO [] 0),(nn2 0 + 1,lstO [] 0),(nn2 0 + 2,tupO [.ref (nn2 0),.ref (nn2 0 + 1)])] ++ ([(k.L,frO (e47 H T k.lc k.ll k.r r2 r3 r4 vk) 7 (xi 3 0)),(k.L + 2,celO (some (.int (Int.ofNat (k.j + 1)) k.tj))),(k.ll,lstO k.vs k.nl),(k.L1,frO k.es1 k.n1 (xi 3 1)),(om 3 0,tupO [.ref (om 3 1),.ref (om 3 2)]),(om 3 1,lstO (iv (sldR (isort (xs.take (k.j + 1))) (rngI (k.j + 1))).1 fun i => om 3 (2 * i + 5)) (om 3 3)),(om 3 2,lstO (iv (sldR (isort (xs.take (k.j + 1))) (rngI (k.j + 1))).2 fun i => om 3 (2 * i + 6)) (om 3 4))] ++ [(k.lc,lstO k.vc k.nc),(k.ij,k.oj)])) i = some p → h2.get? p.1 = some p.2 := fun i p e => D2.has p (ledAt_mem e)
  refine pairNe (hm 7 _ rfl) (hm 8 _ rfl) (hm 9 _ rfl) (hm 2 _ rfl) (hm 0 _ rfl) (hm 1 _ rfl) (Nat.le_trans hA.ab.2.2 (by decide)) ?_
  refine ⟨_,rfl,?_⟩
  have D3 := D2.sel [3,4,5,6,10,11] (by decide)
  have he : decide (((sldR (isort (xs.take (k.j + 1))) (rngI (k.j + 1))).1,(sldR (isort (xs.take (k.j + 1))) (rngI (k.j + 1))).2) = ([],[])) = frtB xs k.j := rfl
  rw [he]
  cases hb : frtB xs k.j with
  | true =>
    rw [hb,Bool.and_true] at h
    exact h _ _ h2 k2 D3
  | false =>
    rw [hb,Bool.and_false] at h
    refine fragQ [(k.L + 2,celO (some (.int (Int.ofNat (k.j + 1)) k.tj))),(k.ll,lstO k.vs k.nl),(k.L1,frO k.es1 k.n1 (xi 3 1)),(k.lc,lstO k.vc k.nc),(k.ij,k.oj)] D3 (List.Perm.refl _) (jF7 (wf w b c) k.L k.lc k.ll k.r r2 r3 r4 vk _ H T) CF.hh hA noIns ?_
    intro nn3 tt3 om3 xi3 h3 k3 D4
    exact h _ _ h3 k3 D4
theorem itK7 {Q : Value → Shared → Prop} {E : Value → Shared → Prop} {s : Shared} {C : Around → Prop} (hh : ∀ A,C A → A.handled = none) (hA : C A) (rest : Led) (L j tj lc ll : Nat) (h1 : 1 ≤ j) (h8 : j ≤ 8) (r r2 r3 r4 : Bool) (vk : Value) (sl : Slots) (H : Nat → Int) (T : Nat → Nat)
    (D : Rp (MyK (wf w b c).params) g A0 s.heap ([(L,frO (e47 H T lc ll r r2 r3 r4 vk) 7 sl),(L + 2,celO (some (.int (Int.ofNat (j + 1)) tj)))] ++ rest))
    (h : ∀ ik h' tk',Rp (MyK (wf w b c).params) g A0 h' ([(L,frO (e47 H T lc ll r r2 r3 r4 vk) 7 sl),(L + 2,celO (some (.int (Int.ofNat (j + 1)) tj))),(ik,rgsO (Int.ofNat (j + 1)) (Int.ofNat (9 / (j + 1))) (Int.ofNat (j + 1)))] ++ rest) → Q (.ref ik) { s with heap := h',toks := tk' }) :
    wpAny (MM (wf w b c)) A (itT (jB (wf w b c).params 2) (env4 (wf w b c).params L)) Q E s := by
  rcases j with _ | _ | _ | _ | _ | _ | _ | _ | _ | j
  · omega
  · exact fragQ rest D (List.Perm.refl _) (kI2 w L tj lc ll r r2 r3 r4 vk sl H T b c) hh hA noIns fun nn tt om xi h2 k2 D2 => h _ h2 k2 D2
  · exact fragQ rest D (List.Perm.refl _) (kI3 w L tj lc ll r r2 r3 r4 vk sl H T b c) hh hA noIns fun nn tt om xi h2 k2 D2 => h _ h2 k2 D2
  · exact fragQ rest D (List.Perm.refl _) (kI4 w L tj lc ll r r2 r3 r4 vk sl H T b c) hh hA noIns fun nn tt om xi h2 k2 D2 => h _ h2 k2 D2
  · exact fragQ rest D (List.Perm.refl _) (kI5 w L tj lc ll r r2 r3 r4 vk sl H T b c) hh hA noIns fun nn tt om xi h2 k2 D2 => h _ h2 k2 D2
  · exact fragQ rest D (List.Perm.refl _) (kI6 w L tj lc ll r r2 r3 r4 vk sl H T b c) hh hA noIns fun nn tt om xi h2 k2 D2 => h _ h2 k2 D2
  · exact fragQ rest D (List.Perm.refl _) (kI7 w L tj lc ll r r2 r3 r4 vk sl H T b c) hh hA noIns fun nn tt om xi h2 k2 D2 => h _ h2 k2 D2
  · exact fragQ rest D (List.Perm.refl _) (kI8 w L tj lc ll r r2 r3 r4 vk sl H T b c) hh hA noIns fun nn tt om xi h2 k2 D2 => h _ h2 k2 D2
  · exact fragQ rest D (List.Perm.refl _) (kI9 w L tj lc ll r r2 r3 r4 vk sl H T b c) hh hA noIns fun nn tt om xi h2 k2 D2 => h _ h2 k2 D2
  · omega
theorem jFor7 {Q : Flow → Shared → Prop} {s : Shared} {e1 : Env} (k : FK) (hA : CF (env4 (wf w b c).params k.L) e1 k.L k.L1 A) (hj : k.j ≤ 8) (xs : List Int) (hv : IntsAre k.vs xs) (h9 : xs.length = 9) (H : Nat → Int) (T : Nat → Nat) (hj1 : 1 ≤ k.j) (r2 r3 r4 : Bool) (vk : Value) (sl sl1 : Slots)
    (D : Rp (MyK (wf w b c).params) g A0 s.heap (F7 k H T r2 r3 r4 vk sl sl1))
    (h : ∀ vk' sl' sl1' h' tk',Rp (MyK (wf w b c).params) g A0 h' (F7 k H T r2 (r3 && (ksOf (k.j + 1)).all (stB xs k.j)) r4 vk' sl' sl1') → Q .next { s with heap := h',toks := tk' }) :
    wpAny (MM (wf w b c)) A (exec (jB (wf w b c).params 2) (env4 (wf w b c).params k.L)) Q (fun _ _ => False) s := by
  refine forStmt (frK _) ?_
  refine itK7 w b c CF.hh hA [(k.ll,lstO k.vs k.nl),(k.L1,frO k.es1 k.n1 sl1),(k.lc,lstO k.vc k.nc),(k.ij,k.oj)] k.L k.j k.tj k.lc k.ll hj1 hj k.r r2 r3 r4 vk sl H T D ?_
  intro ik h1 k1 D1
  have D2 := D1.sel [0,1,3,4,5,6,2] (by decide)
  have e : Int.ofNat (k.j + 1) = Int.ofNat ((0 + 1) * (k.j + 1)) := by rw [Nat.zero_add,Nat.one_mul]
  have D3 : Rp (MyK (wf w b c).params) g A0 h1 (F7 k H T r2 r3 r4 vk sl sl1 ++ [(ik,rgsO (Int.ofNat ((0 + 1) * (k.j + 1))) (Int.ofNat (9 / (k.j + 1))) (Int.ofNat (k.j + 1)))]) := by rw [← e]; exact D2
  refine kLoop w b c k hA hj xs hv h9 H T r2 r4 ik (9 / (k.j + 1)) 0 r3 vk sl sl1 _ (by rw [Nat.zero_add]; exact Nat.div_mul_le_self 9 _) D3 ?_
  intro vk' sl' sl1' h2 k2 D4
  have e2 : ((List.range (9 / (k.j + 1))).all fun i => stB xs k.j ((0 + i + 1) * (k.j + 1))) = (ksOf (k.j + 1)).all (stB xs k.j) := by
    unfold ksOf
    rw [List.all_map]
    have : (fun i => stB xs k.j ((0 + i + 1) * (k.j + 1))) = (stB xs k.j ∘ fun i => (i + 1) * (k.j + 1)) := funext fun i => by rw [Nat.zero_add]; rfl
    rw [this]
  rw [e2] at D4
  exact h vk' sl' sl1' h2 k2 D4
theorem jFor6 {Q : Flow → Shared → Prop} {s : Shared} {e1 : Env} (k : FK) (hA : CF (env4 (wf w b c).params k.L) e1 k.L k.L1 A) (hj : k.j ≤ 8) (xs : List Int) (hv : IntsAre k.vs xs) (h9 : xs.length = 9) (H : Nat → Int) (T : Nat → Nat) (hj0 : k.j = 0) (r2 r3 r4 : Bool) (sl sl1 : Slots)
    (D : Rp (MyK (wf w b c).params) g A0 s.heap (F6 k H T r2 r3 r4 sl sl1))
    (h : ∀ H' T' vk' sl' sl1' h' tk',Rp (MyK (wf w b c).params) g A0 h' (F7 k H' T' r2 (r3 && (ksOf (k.j + 1)).all (stB xs k.j)) r4 vk' sl' sl1') → Q .next { s with heap := h',toks := tk' }) :
    wpAny (MM (wf w b c)) A (exec (jB (wf w b c).params 2) (env4 (wf w b c).params k.L)) Q (fun _ _ => False) s := by
  obtain ⟨L,L1,lc,ll,n1,nl,nc,j,tj,ij,es1,vs,vc,r,oj⟩ := k
  have hj0 : j = 0 := hj0
  subst hj0
  refine forStmt (frK _) ?_
  refine fragQ [(ll,lstO vs nl),(L1,frO es1 n1 sl1),(lc,lstO vc nc),(ij,oj)] D (List.Perm.refl _) (kI1 w L tj lc ll r r2 r3 r4 sl H T b c) CF.hh hA noIns ?_
  intro nn tt om xi h1 k1 D1
  generalize nn 0 + 1 = ik at D1
  refine nmTurn (nmK _) ?_
  refine fragQ [(L,frO (e46 H T lc ll r r2 r3 r4) 6 sl),(L + 2,celO (some (.int 1 tj))),(ll,lstO vs nl),(L1,frO es1 n1 sl1),(lc,lstO vc nc),(ij,oj)] (D1.sel [2,0,1,3,4,5,6] (by decide)) (List.Perm.refl _) (kN (wf w b c) ik 1 8 0) CF.hh hA noIns ?_
  intro nn2 tt2 om2 xi2 h2 k2 D2
  refine fragQ [(L + 2,celO (some (.int 1 tj))),(ll,lstO vs nl),(L1,frO es1 n1 sl1),(lc,lstO vc nc),(ij,oj),(ik,rgsO 2 8 1)] (D2.sel [1,2,3,4,5,6,0] (by decide)) (List.Perm.refl _) (kA6 (wf w b c) L lc ll r r2 r3 r4 _ _ sl H T) CF.hh hA noIns ?_
  intro nn3 tt3 om3 xi3 h3 k3 D3
  rw [bdK]
  obtain ⟨H',T',D4⟩ : ∃ H' T',Rp (MyK (wf w b c).params) g A0 h3 (F7 ⟨L,L1,lc,ll,n1,nl,nc,0,tj,ij,es1,vs,vc,r,oj⟩ H' T' r2 r3 r4 (.int (Int.ofNat 1) (tt2 0)) sl sl1 ++ [(ik,rgsO 2 8 1)]) :=
    ⟨ov H 6 (hs (wf w b c).params "k"),ov T 6 (tt3 0),D3⟩
  refine kTurn w b c ⟨L,L1,lc,ll,n1,nl,nc,0,tj,ij,es1,vs,vc,r,oj⟩ hA hj xs hv h9 H' T' r2 r3 r4 sl sl1 1 (tt2 0) ik _ (by show 0 + 1 ≤ 1; decide) (by decide) D4 ?_
  intro sl' sl1' h4 k4 D5
  refine kLoop w b c ⟨L,L1,lc,ll,n1,nl,nc,0,tj,ij,es1,vs,vc,r,oj⟩ hA hj xs hv h9 H' T' r2 r4 ik 8 1 _ _ sl' sl1' _ (by show (1 + 8) * (0 + 1) ≤ 9; decide) D5 ?_
  intro vk' sl2 sl2' h5 k5 D6
  have e : ((r3 && stB xs 0 1) && (List.range 8).all fun i => stB xs 0 ((1 + i + 1) * (0 + 1))) = (r3 && (ksOf (0 + 1)).all (stB xs 0)) := by
    rw [Bool.and_assoc]; rfl
  have D7 : Rp (MyK (wf w b c).params) g A0 h5 (F7 ⟨L,L1,lc,ll,n1,nl,nc,0,tj,ij,es1,vs,vc,r,oj⟩ H' T' r2 (r3 && (ksOf (0 + 1)).all (stB xs 0)) r4 vk' sl2 sl2') := by rw [← e]; exact D6
  exact h H' T' vk' sl2 sl2' h5 k5 D7
theorem jMax {Q : Flow → Shared → Prop} {s : Shared} {e1 : Env} (k : FK) (hA : CF (env4 (wf w b c).params k.L) e1 k.L k.L1 A) (hj : k.j ≤ 8) (cs : List Nat) (hv : IntsAre k.vc (cs.map Int.ofNat)) (h9 : cs.length = 9) (hlt : ∀ x ∈ cs,x < 9) (H : Nat → Int) (T : Nat → Nat) (r2 r3 r4 : Bool) (vk : Value) (sl sl1 : Slots)
    (D : Rp (MyK (wf w b c).params) g A0 s.heap (F7 k H T r2 r3 r4 vk sl sl1))
    (h : ∀ h' tk',Rp (MyK (wf w b c).params) g A0 h' (F7 k H T r2 r3 (r4 && runsQ (cs.take (k.j + 1))) vk sl sl1) → Q .next { s with heap := h',toks := tk' }) :
    wpAny (MM (wf w b c)) A (exec (jB (wf w b c).params 3) (env4 (wf w b c).params k.L)) Q (fun _ _ => False) s := by
  have hvl : k.vc.length ≤ 1000 := by rw [hv.length,List.length_map,h9]; decide
  have hrs : IntsAre (k.vc.take (k.j + 1)) ((cs.take (k.j + 1)).map Int.ofNat) := by rw [List.map_take]; exact are_take hv _
  have hl1 : (cs.take (k.j + 1)).length = k.j + 1 := by rw [List.length_take,h9]; omega
  have hlt1 : ∀ x ∈ cs.take (k.j + 1),x < 9 := fun x hx => hlt x (List.mem_of_mem_take hx)
  have hM := mx_mem (p := cs.take (k.j + 1)) (by omega)
  have hm := mn_mem (p := cs.take (k.j + 1)) (by omega) hlt1
  have hMx : ∀ a ∈ (cs.take (k.j + 1)).map Int.ofNat,a ≤ Int.ofNat (mx (cs.take (k.j + 1))) := fun a ha => by
    obtain ⟨x,hx,rfl⟩ := List.mem_map.mp ha
    exact Int.ofNat_le.mpr ((fold_max _ 0).1.2 x hx)
  have hmn : ∀ a ∈ (cs.take (k.j + 1)).map Int.ofNat,Int.ofNat (mn (cs.take (k.j + 1))) ≤ a := fun a ha => by
    obtain ⟨x,hx,rfl⟩ := List.mem_map.mp ha
    exact Int.ofNat_le.mpr ((fold_min _ 9).1.2 x hx)
  have e1 : Int.ofNat (k.j + 1) - 1 = Int.ofNat k.j := by simp only [Int.ofNat_eq_natCast]; omega
  cases hb : runsQ (cs.take (k.j + 1)) with
  | true =>
    have hne : (Int.ofNat (mx (cs.take (k.j + 1))) - Int.ofNat (mn (cs.take (k.j + 1))) != Int.ofNat k.j) = false := by
      unfold runsQ at hb
      have := eq_of_beq hb
      rw [hl1] at this
      rw [bne_eq_false_iff_eq]
      simp only [Int.ofNat_eq_natCast]; omega
    rw [hb,Bool.and_true] at h
    refine fragQ [(k.ll,lstO k.vs k.nl),(k.L1,frO k.es1 k.n1 sl1),(k.ij,k.oj)] (D.sel [0,1,4,2,3,5] (by decide)) (List.Perm.refl _)
      (jm0 w k.L k.nc k.j k.tj k.lc k.ll k.r r2 r3 r4 vk k.vc (k.vc.take (k.j + 1)) (Int.ofNat (mx (cs.take (k.j + 1)))) (Int.ofNat (mn (cs.take (k.j + 1)))) _ _ sl H T b c) CF.hh hA
      (okIL _ fun nn tt om xi => oneIns (lsl_ok .none (.int _ _) (pickTo _ _) hvl) (oneIns (max_ok CF.hh hrs (List.mem_map_of_mem hM) hMx) (oneIns (lsl_ok .none (.int _ _) (pickTo _ _) hvl) (oneIns (min_ok CF.hh hrs (List.mem_map_of_mem hm) hmn) (oneIns (isub_ok CF.hh rfl) (oneIns (isub_ok CF.hh e1) (oneIns (ine_ok CF.hh hne) nilIns))))))) ?_
    intro nn2 tt2 om2 xi2 h2 k2 D2
    exact h h2 k2 (D2.sel [0,1,3,4,2,5] (by decide))
  | false =>
    have hne : (Int.ofNat (mx (cs.take (k.j + 1))) - Int.ofNat (mn (cs.take (k.j + 1))) != Int.ofNat k.j) = true := by
      unfold runsQ at hb
      have := beq_eq_false_iff_ne.mp hb
      rw [hl1] at this
      rw [bne_iff_ne]
      simp only [Int.ofNat_eq_natCast]
      have h5 := (fold_min (cs.take (k.j + 1)) 9).1.2 _ hM
      intro z
      apply this
      have h5 : mn (cs.take (k.j + 1)) ≤ mx (cs.take (k.j + 1)) := h5
      omega
    rw [hb,Bool.and_false] at h
    refine fragQ [(k.ll,lstO k.vs k.nl),(k.L1,frO k.es1 k.n1 sl1),(k.ij,k.oj)] (D.sel [0,1,4,2,3,5] (by decide)) (List.Perm.refl _)
      (jm1 w k.L k.nc k.j k.tj k.lc k.ll k.r r2 r3 r4 vk k.vc (k.vc.take (k.j + 1)) (Int.ofNat (mx (cs.take (k.j + 1)))) (Int.ofNat (mn (cs.take (k.j + 1)))) _ _ sl H T b c) CF.hh hA
      (okIL _ fun nn tt om xi => oneIns (lsl_ok .none (.int _ _) (pickTo _ _) hvl) (oneIns (max_ok CF.hh hrs (List.mem_map_of_mem hM) hMx) (oneIns (lsl_ok .none (.int _ _) (pickTo _ _) hvl) (oneIns (min_ok CF.hh hrs (List.mem_map_of_mem hm) hmn) (oneIns (isub_ok CF.hh rfl) (oneIns (isub_ok CF.hh e1) (oneIns (ine_ok CF.hh hne) nilIns))))))) ?_
    intro nn2 tt2 om2 xi2 h2 k2 D2
    exact h h2 k2 (D2.sel [0,1,3,4,2,5] (by decide))
end
theorem mods_left (cs : List Nat) (j : Nat) : mods j (cs.map Int.ofNat) = leftI cs (j + 1) := by
  unfold mods leftI
  rw [List.map_map]
  refine List.map_congr_left fun x _ => ?_
  show Int.fmod (Int.ofNat x) (Int.ofNat (j + 1)) = Int.ofNat (x % (j + 1))
  have := Int.fmod_eq_emod_of_nonneg (Int.ofNat x) (Int.natCast_nonneg (j + 1))
  exact this.trans rfl
theorem left_len (cs : List Nat) (j : Nat) : (leftI cs j).length = cs.length := by unfold leftI; rw [List.length_map]
structure GK where
  (L L1 lc n1 nc ij : Nat)
  es1 : List DictEntry
  vc : List Value
  r : Bool
noncomputable abbrev GT (k : GK) (x : Option Value) (sl1 : Slots) : Led := [(k.L + 2,celO x),(k.lc,lstO k.vc k.nc),(k.L1,frO k.es1 k.n1 sl1)]
noncomputable abbrev GF (k : GK) (H : Nat → Int) (T : Nat → Nat) (ll : Nat) (r2 r3 r4 : Bool) (vk : Value) (sl : Slots) (x : Option Value) (sl1 : Slots) : Led := (k.L,frO (e47 H T k.lc ll k.r r2 r3 r4 vk) 7 sl) :: GT k x sl1
section
variable (w : World) (b c : Bool) {A : Around} {g : Heap} {A0 : List Addr}
theorem jTurn7 {Q : Flow → Shared → Prop} {s : Shared} {e1 : Env} (k : GK) (hA : CF (env4 (wf w b c).params k.L) e1 k.L k.L1 A) (cs : List Nat) (hv : IntsAre k.vc (cs.map Int.ofNat)) (h9 : cs.length = 9) (hlt : ∀ x ∈ cs,x < 9) (H : Nat → Int) (T : Nat → Nat) (j tj ll : Nat) (hj1 : 1 ≤ j) (hj : j ≤ 8) (r2 r3 r4 : Bool) (vk : Value) (sl sl1 : Slots) (oj : Obj)
    (D : Rp (MyK (wf w b c).params) g A0 s.heap (GF k H T ll r2 r3 r4 vk sl (some (.int (Int.ofNat (j + 1)) tj)) sl1 ++ [(k.ij,oj)]))
    (h : ∀ ll' vk' sl' sl1' h' tk',Rp (MyK (wf w b c).params) g A0 h' (GF k H T ll' (r2 && frtB (leftI cs (j + 1)) j) (r3 && (ksOf (j + 1)).all (stB (leftI cs (j + 1)) j)) (r4 && runsQ (cs.take (j + 1))) vk' sl' (some (.int (Int.ofNat (j + 1)) tj)) sl1' ++ [(k.ij,oj)]) → Q .next { s with heap := h',toks := tk' }) :
    wpAny (MM (wf w b c)) A (execs [jB (wf w b c).params 0,jB (wf w b c).params 1,jB (wf w b c).params 2,jB (wf w b c).params 3] (env4 (wf w b c).params k.L)) Q (fun _ _ => False) s := by
  have h9' : k.vc.length = 9 := by rw [hv.length,List.length_map,h9]
  refine wpAny_execs_cons ?_
  refine fragQ (C := CF (env4 (wf w b c).params k.L) e1 k.L k.L1) [(k.L1,frO k.es1 k.n1 sl1),(k.ij,oj)] D (List.Perm.refl _) (j07 w k.L k.nc j tj k.lc k.r r2 r3 r4 ll vk k.vc (cs.map Int.ofNat) sl H T b c) CF.hh hA
    (okIL _ fun nn tt om xi => oneIns ((cmpC_ok w b c _ _ _ _ _ _ _ _ _ _ _ _ _ _ _ hv h9').mono fun _ h => h.ab) nilIns) ?_
  intro nn tt om xi h1 k1 D1
  have D2 := D1.sel [0,1,3,4,2,5] (by decide)
  rw [mods_left] at D2
  have hl : (leftI cs (j + 1)).length = 9 := by rw [left_len,h9]
  refine wpAny_execs_cons (jTest7 w b c ⟨k.L,k.L1,k.lc,nn 0 + 1,k.n1,om 0 1,k.nc,j,tj,k.ij,k.es1,iv (leftI cs (j + 1)) fun i => om 0 (i + 2),k.vc,k.r,oj⟩ hA hj (leftI cs (j + 1)) (iv_are _ _) hl H T r2 r3 r4 vk sl sl1 D2 ?_)
  intro sl2 sl12 h2 k2 D3
  refine wpAny_execs_cons (jFor7 w b c ⟨k.L,k.L1,k.lc,nn 0 + 1,k.n1,om 0 1,k.nc,j,tj,k.ij,k.es1,iv (leftI cs (j + 1)) fun i => om 0 (i + 2),k.vc,k.r,oj⟩ hA hj (leftI cs (j + 1)) (iv_are _ _) hl H T hj1 _ r3 r4 vk sl2 sl12 D3 ?_)
  intro vk3 sl3 sl13 h3 k3 D4
  refine wpAny_execs_cons (jMax w b c ⟨k.L,k.L1,k.lc,nn 0 + 1,k.n1,om 0 1,k.nc,j,tj,k.ij,k.es1,iv (leftI cs (j + 1)) fun i => om 0 (i + 2),k.vc,k.r,oj⟩ hA hj cs hv h9 hlt H T _ _ r4 vk3 sl3 sl13 D4 ?_)
  intro h4 k4 D5
  exact wpAny_execs_nil (h _ vk3 sl3 sl13 h4 k4 (D5.sel [0,1,4,3,5] (by decide)))
theorem jTurn5 {Q : Flow → Shared → Prop} {s : Shared} {e1 : Env} (k : GK) (hA : CF (env4 (wf w b c).params k.L) e1 k.L k.L1 A) (cs : List Nat) (hv : IntsAre k.vc (cs.map Int.ofNat)) (h9 : cs.length = 9) (hlt : ∀ x ∈ cs,x < 9) (H : Nat → Int) (T : Nat → Nat) (tj : Nat) (r2 r3 r4 : Bool) (sl sl1 : Slots) (oj : Obj)
    (D : Rp (MyK (wf w b c).params) g A0 s.heap ((k.L,f45 H T k.lc k.r r2 r3 r4 sl) :: GT k (some (.int (Int.ofNat (0 + 1)) tj)) sl1 ++ [(k.ij,oj)]))
    (h : ∀ H' T' ll' vk' sl' sl1' h' tk',Rp (MyK (wf w b c).params) g A0 h' (GF k H' T' ll' (r2 && frtB (leftI cs (0 + 1)) 0) (r3 && (ksOf (0 + 1)).all (stB (leftI cs (0 + 1)) 0)) (r4 && runsQ (cs.take (0 + 1))) vk' sl' (some (.int (Int.ofNat (0 + 1)) tj)) sl1' ++ [(k.ij,oj)]) → Q .next { s with heap := h',toks := tk' }) :
    wpAny (MM (wf w b c)) A (execs [jB (wf w b c).params 0,jB (wf w b c).params 1,jB (wf w b c).params 2,jB (wf w b c).params 3] (env4 (wf w b c).params k.L)) Q (fun _ _ => False) s := by
  have h9' : k.vc.length = 9 := by rw [hv.length,List.length_map,h9]
  refine wpAny_execs_cons ?_
  refine fragQ (C := CF (env4 (wf w b c).params k.L) e1 k.L k.L1) [(k.L1,frO k.es1 k.n1 sl1),(k.ij,oj)] D (List.Perm.refl _) (j05 w k.L k.nc 0 tj k.lc k.r r2 r3 r4 k.vc (cs.map Int.ofNat) sl H T b c) CF.hh hA
    (okIL _ fun nn tt om xi => oneIns ((cmpC_ok w b c _ _ _ _ _ _ _ _ _ _ _ _ _ _ _ hv h9').mono fun _ h => h.ab) nilIns) ?_
  intro nn tt om xi h1 k1 D1
  have D2 := D1.sel [0,1,3,4,2,5] (by decide)
  rw [mods_left] at D2
  have hl : (leftI cs (0 + 1)).length = 9 := by rw [left_len,h9]
  refine wpAny_execs_cons (jTest6 w b c ⟨k.L,k.L1,k.lc,nn 0 + 1,k.n1,om 0 1,k.nc,0,tj,k.ij,k.es1,iv (leftI cs (0 + 1)) fun i => om 0 (i + 2),k.vc,k.r,oj⟩ hA (Nat.zero_le 8) (leftI cs (0 + 1)) (iv_are _ _) hl (ov H 5 (hs (wf w b c).params "left")) (ov T 5 (tt 1)) r2 r3 r4 sl sl1 D2 ?_)
  intro sl2 sl12 h2 k2 D3
  refine wpAny_execs_cons (jFor6 w b c ⟨k.L,k.L1,k.lc,nn 0 + 1,k.n1,om 0 1,k.nc,0,tj,k.ij,k.es1,iv (leftI cs (0 + 1)) fun i => om 0 (i + 2),k.vc,k.r,oj⟩ hA (Nat.zero_le 8) (leftI cs (0 + 1)) (iv_are _ _) hl _ _ rfl _ r3 r4 sl2 sl12 D3 ?_)
  intro H3 T3 vk3 sl3 sl13 h3 k3 D4
  refine wpAny_execs_cons (jMax w b c ⟨k.L,k.L1,k.lc,nn 0 + 1,k.n1,om 0 1,k.nc,0,tj,k.ij,k.es1,iv (leftI cs (0 + 1)) fun i => om 0 (i + 2),k.vc,k.r,oj⟩ hA (Nat.zero_le 8) cs hv h9 hlt H3 T3 _ _ r4 vk3 sl3 sl13 D4 ?_)
  intro h4 k4 D5
  exact wpAny_execs_nil (h H3 T3 _ vk3 sl3 sl13 h4 k4 (D5.sel [0,1,4,3,5] (by decide)))
theorem jLoop {R : Result → Shared → Prop} {e1 : Env} (k : GK) (hA : CF (env4 (wf w b c).params k.L) e1 k.L k.L1 A) (cs : List Nat) (hv : IntsAre k.vc (cs.map Int.ofNat)) (h9 : cs.length = 9) (hlt : ∀ x ∈ cs,x < 9) (H : Nat → Int) (T : Nat → Nat) :
    ∀ (m j ll : Nat) (r2 r3 r4 : Bool) (vk : Value) (sl : Slots) (x : Option Value) (sl1 : Slots) (s : Shared),1 ≤ j → j + m = 9 →
    Rp (MyK (wf w b c).params) g A0 s.heap (GF k H T ll r2 r3 r4 vk sl x sl1 ++ [(k.ij,rngO (Int.ofNat (j + 1)) (Int.ofNat m))]) →
    (∀ ll' vk' sl' x' sl1' h' tk',Rp (MyK (wf w b c).params) g A0 h' (GF k H T ll' (r2 && (List.range m).all fun i => frtB (leftI cs (j + i + 1)) (j + i)) (r3 && (List.range m).all fun i => (ksOf (j + i + 1)).all (stB (leftI cs (j + i + 1)) (j + i))) (r4 && (List.range m).all fun i => runsQ (cs.take (j + i + 1))) vk' sl' x' sl1') → R (.ok .next) { s with heap := h',toks := tk' }) →
    codeAny (MM (wf w b c)) A (loopC (nthS (wf w b c).params 204 5) (.ref k.ij) (env4 (wf w b c).params k.L)) R s := by
  intro m
  induction m with
  | zero =>
    intro j ll r2 r3 r4 vk sl x sl1 s hj1 hm D hR
    refine nmTurn (nmJ _) ?_
    refine fragQ (GF k H T ll r2 r3 r4 vk sl x sl1) D List.perm_append_comm (jE (wf w b c) k.ij (j + 1)) CF.hh hA noIns ?_
    intro _ _ _ _ h' k' D'
    show codeAny _ _ (.block (fO _) _) _ _
    rw [orJ]
    have e2 : (r2 && (List.range 0).all fun i => frtB (leftI cs (j + i + 1)) (j + i)) = r2 := Bool.and_true r2
    have e3 : (r3 && (List.range 0).all fun i => (ksOf (j + i + 1)).all (stB (leftI cs (j + i + 1)) (j + i))) = r3 := Bool.and_true r3
    have e4 : (r4 && (List.range 0).all fun i => runsQ (cs.take (j + i + 1))) = r4 := Bool.and_true r4
    rw [e2,e3,e4] at hR
    exact codeBlk (hR _ _ _ _ _ h' k' D')
  | succ m ih =>
    intro j ll r2 r3 r4 vk sl x sl1 s hj1 hm D hR
    refine nmTurn (nmJ _) ?_
    refine fragQ (GF k H T ll r2 r3 r4 vk sl x sl1) D List.perm_append_comm (jN (wf w b c) k.ij (j + 1) m) CF.hh hA (okIL _ fun nn tt om xi => oneIns (rnx_ok CF.hh) nilIns) ?_
    intro nn tt om xi h1 k1 D1
    refine fragQ [(k.L,frO (e47 H T k.lc ll k.r r2 r3 r4 vk) 7 sl),(k.lc,lstO k.vc k.nc),(k.L1,frO k.es1 k.n1 sl1),(k.ij,rngO (Int.ofNat (j + 1) + 1) (Int.ofNat (m + 1) - 1))] (D1.sel [2,1,3,4,0] (by decide)) (List.Perm.refl _) (jA (wf w b c) k.L x _ _) CF.hh hA noIns ?_
    intro nn2 tt2 om2 xi2 h2 k2 D2
    rw [bdJ]
    refine jTurn7 w b c k hA cs hv h9 hlt H T j _ ll hj1 (by omega) r2 r3 r4 vk sl sl1 _ (D2.sel [1,0,2,3,4] (by decide)) ?_
    intro ll' vk' sl' sl1' h3 k3 D3
    have e1 : Int.ofNat (j + 1) + 1 = Int.ofNat (j + 1 + 1) := rfl
    have e2 : Int.ofNat (m + 1) - 1 = Int.ofNat m := by simp only [Int.ofNat_eq_natCast]; omega
    rw [e1,e2] at D3
    have ef : ∀ (f : Nat → Bool) (r : Bool),(r && (List.range (m + 1)).all fun i => f (j + i)) = ((r && f j) && (List.range m).all fun i => f (j + 1 + i)) := fun f r => by
      rw [all_succ (fun i => f (j + i)),Bool.and_assoc]
      have : (fun i => f (j + (i + 1))) = fun i => f (j + 1 + i) := funext fun i => by rw [show j + (i + 1) = j + 1 + i by omega]
      rw [this]
      rfl
    rw [ef (fun i => frtB (leftI cs (i + 1)) i),ef (fun i => (ksOf (i + 1)).all (stB (leftI cs (i + 1)) i)),ef (fun i => runsQ (cs.take (i + 1)))] at hR
    exact ih (j + 1) ll' _ _ _ vk' sl' _ sl1' _ (by omega) (by omega) D3 hR
end
structure C1 (e1 : Env) (L1 : Nat) (A : Around) : Prop where
  ab : AB 770 5000 A
  fr : A.frames = some [e1]
  k1 : e1.scope.kind ≠ .module
  f1 : e1.frame = some L1
theorem fn204 (P : Params) : fnOk P 204 := ⟨_,_,_,_,_,rfl,rfl,rfl,rfl,rfl,rfl,rfl⟩
theorem body204 (P : Params) : bodyOf P 204 = [nthS P 204 0,nthS P 204 1,nthS P 204 2,nthS P 204 3,nthS P 204 4,nthS P 204 5,nthS P 204 6] := rfl
noncomputable def fourI (j1 L1 : Nat) (o : List Nat) (to : Nat) (es1 : List DictEntry) (n1 : Nat) (sl1 : Slots) : Inst := ⟨.call (.ref 204) ⟨[.str ⟨⟨o⟩⟩ to],[]⟩,[(j1,L1,frO es1 n1 sl1)],fun ω _ => .ok (.ret (.ref (ω 0))),fun _ ξ => [frO es1 n1 (ξ 0)],
  fun ω _ => [(ω 0,lstO [.bool (offB o),.bool (frontsB (csOf o)),.bool (stretchesB (csOf o)),.bool (runsB (csOf o))] 0)]⟩
theorem four_ok (w : World) (b c : Bool) (j1 L1 : Nat) (o : List Nat) (to : Nat) (es1 : List DictEntry) (n1 : Nat) (sl1 : Slots) (ho : o.Perm abc) (e1 : Env) : IOk theP (wf w b c) (MyK (wf w b c).params) (C1 e1 L1) (fourI j1 L1 o to es1 n1 sl1) := by
  intro A s R hA hK hn hd hof hlo hR
  have D := Rp.start _ hK hn hd hof hlo
  have hab : ∀ x ∈ o,x ∈ abc := fun x hx => ho.mem_iff.mp hx
  have h128 : ∀ x ∈ o,x < 128 := fun x hx => abc128 x (hab x hx)
  have ho9 : o.length = 9 := by rw [ho.length_eq]; rfl
  refine x_call ?_ (by intro z; cases z)
  obtain ⟨cc,vs,t,od,osl,p1,p2,p3,p4,p5,p6,p7⟩ := fn204 (wf w b c).params
  refine codeAny_call_function (limit_ok (Nat.le_trans hA.ab.2.1 (by decide))) (D.top _ _ p1) rfl p5 p6 p7 ⟨cc,_,vs,t,p2,D.top _ _ p3,rfl,p4⟩ ?_
  rw [show bindArgs (fdOf (wf w b c).params 204) ⟨[.str ⟨⟨o⟩⟩ to],[]⟩ = (pure [("order",Value.str ⟨⟨o⟩⟩ to)] : Sem (List (Str × Value))) from by kernel_rfl]
  refine wpAny_pure ?_
  refine frag (C := fun A => A.handled = none) 60 _ [] .nil [0,1,2] (fun nn _ _ _ => .ok (env4 (wf w b c).params (nn 0))) _ (n204 (wf w b c) o to) (fun _ h => h) hA.ab.1 trivial (Rp.nil D.top) ?_
  intro nn tt om xi h1 k1 D1
  refine ⟨nolimit (wf w b c) D1.top,?_⟩
  have D1 := D.more D1
  generalize nn 0 = L at D1 ⊢
  have hA' : CF (env4 (wf w b c).params L) e1 L L1 ((A.mark none).deeper (env4 (wf w b c).params L)) := ⟨(AB.deep hA.ab).mono (by decide) (by decide),Around.frames_deeper hA.fr,kind204 (wf w b c).params L,hA.k1,rfl,hA.f1⟩
  refine ks_codeAny_funcAt (wpAt_of_wpAny ?_)
  rw [body204]
  refine wpAny_execs_cons ?_
  refine fragQ (C := CF (env4 (wf w b c).params L) e1 L L1) [(L + 2,celO none),(L1,frO es1 n1 sl1)] (D1.sel [1,2,3,0] (by decide)) (List.Perm.refl _) (q0 w L o to #[] (fun _ => 0) (fun _ => 0) b c) CF.hh hA'
    (okIL _ fun nn tt om xi => oneIns (siter_ok CF.hh h128) (oneIns ((cmpA_ok w b c _ _ _ _ _ _ _ _ _ ho9 hab).mono fun _ h => h.ab) nilIns)) ?_
  intro nn2 tt2 om2 xi2 h2 k2 D2
  generalize nn2 1 = lc at D2
  refine wpAny_execs_cons ?_
  have hcon : ∀ (jl l n : Nat),IOk theP (wf w b c) (MyK (wf w b c).params) (CF (env4 (wf w b c).params L) e1 L L1) (lconI jl l ((List.range 10).map fun q => Value.bool (fitG o (abc.take q).reverse (abc.drop q))) n (offB o)) := fun jl l n => by
    have z := lcon_ok (w := wf w b c) (C := CF (env4 (wf w b c).params L) e1 L L1) (jl := jl) (l := l) (bs := (List.range 10).map fun q => fitG o (abc.take q).reverse (abc.drop q)) (n := n)
    rw [List.map_map,List.any_map] at z
    exact z
  refine fragQ (C := CF (env4 (wf w b c).params L) e1 L L1) [(lc,lstO (iv (o.map fun c => Int.ofNat (c - 97)) fun i => om2 1 (i + 3)) (om2 1 1)),(L + 2,celO none),(L1,frO es1 n1 sl1)] D2 (List.Perm.refl _) (q1 w L lc o to (offB o) #[] (fun _ => hs (wf w b c).params "codes") (fun _ => tt2 2) b c) CF.hh hA'
    (okIL _ fun nn tt om xi => oneIns ((cmpB_ok w b c _ _ _ _ _ _ _ _ _ _ (by omega) h128).mono fun _ h => h.ab) (oneIns (hcon _ _ _) nilIns)) ?_
  intro nn3 tt3 om3 xi3 h3 k3 D3
  obtain ⟨H3,T3,D3⟩ : ∃ H T,Rp (MyK (wf w b c).params) s.heap (adrs (fourI j1 L1 o to es1 n1 sl1).need) h3 [(L,frO [fe H T 0 "codes" (.ref lc),fe H T 1 "off" (.bool (offB o))] 2 #[]),(L + 1,celO (some (.str ⟨⟨o⟩⟩ to))),(lc,lstO (iv (o.map fun c => Int.ofNat (c - 97)) fun i => om2 1 (i + 3)) (om2 1 1)),(L + 2,celO none),(L1,frO es1 n1 sl1)] :=
    ⟨ov (fun _ => hs (wf w b c).params "codes") 1 (hs (wf w b c).params "off"),ov (fun _ => tt2 2) 1 (tt3 2),D3⟩
  have ecs : (o.map fun c => Int.ofNat (c - 97)) = (csOf o).map Int.ofNat := by unfold csOf; rw [List.map_map]; rfl
  rw [ecs] at D3
  have hvc := iv_are ((csOf o).map Int.ofNat) fun i => om2 1 (i + 3)
  generalize iv ((csOf o).map Int.ofNat) (fun i => om2 1 (i + 3)) = vc at D3 hvc
  generalize om2 1 1 = nc at D3
  refine wpAny_execs_cons ?_
  refine fragQ [(lc,lstO vc nc),(L + 2,celO none),(L1,frO es1 n1 sl1)] (D3.sel [0,2,3,4] (by decide)) (List.Perm.refl _) (q2 (wf w b c) L lc (offB o) true true true #[] H3 T3) CF.hh hA' noIns ?_
  intro nn4 tt4 om4 xi4 h4 k4 D4
  refine wpAny_execs_cons ?_
  refine fragQ _ D4 (List.Perm.refl _) (q3 (wf w b c) L lc (offB o) true true true #[] (ov H3 2 (hs (wf w b c).params "fronts")) (ov T3 2 (tt4 0))) CF.hh hA' noIns ?_
  intro nn5 tt5 om5 xi5 h5 k5 D5
  refine wpAny_execs_cons ?_
  refine fragQ _ D5 (List.Perm.refl _) (q4 (wf w b c) L lc (offB o) true true true #[] (ov (ov H3 2 (hs (wf w b c).params "fronts")) 3 (hs (wf w b c).params "stretches")) (ov (ov T3 2 (tt4 0)) 3 (tt5 0))) CF.hh hA' noIns ?_
  intro nn6 tt6 om6 xi6 h6 k6 D6
  obtain ⟨H6,T6,D6⟩ : ∃ H T,Rp (MyK (wf w b c).params) s.heap (adrs (fourI j1 L1 o to es1 n1 sl1).need) h6 [(L,f45 H T lc (offB o) true true true #[]),(lc,lstO vc nc),(L + 2,celO none),(L1,frO es1 n1 sl1)] :=
    ⟨ov (ov (ov H3 2 (hs (wf w b c).params "fronts")) 3 (hs (wf w b c).params "stretches")) 4 (hs (wf w b c).params "runs"),ov (ov (ov T3 2 (tt4 0)) 3 (tt5 0)) 4 (tt6 0),D6⟩
  clear D1 D2 D3 D4 D5
  refine wpAny_execs_cons (forStmt (frJ _) ?_)
  refine fragQ [(lc,lstO vc nc),(L + 2,celO none),(L1,frO es1 n1 sl1)] D6 (List.Perm.refl _) (q5 w L lc (offB o) true true true #[] H6 T6 b c) CF.hh hA' noIns ?_
  intro nn7 tt7 om7 xi7 h7 k7 D7
  generalize nn7 0 + 1 = ij at D7 ⊢
  refine nmTurn (nmJ _) ?_
  refine fragQ [(L,f45 H6 T6 lc (offB o) true true true #[]),(lc,lstO vc nc),(L + 2,celO none),(L1,frO es1 n1 sl1)] (D7.sel [1,0,2,3,4] (by decide)) (List.Perm.refl _) (jN (wf w b c) ij 1 8) CF.hh hA' (okIL _ fun nn tt om xi => oneIns (rnx_ok CF.hh) nilIns) ?_
  intro nn8 tt8 om8 xi8 h8 k8 D8
  refine fragQ [(L,f45 H6 T6 lc (offB o) true true true #[]),(lc,lstO vc nc),(L1,frO es1 n1 sl1),(ij,rngO 2 8)] (D8.sel [3,1,2,4,0] (by decide)) (List.Perm.refl _) (jA (wf w b c) L none _ _) CF.hh hA' noIns ?_
  intro nn9 tt9 om9 xi9 h9 k9 D9
  rw [bdJ]
  refine jTurn5 w b c ⟨L,L1,lc,n1,nc,ij,es1,vc,offB o⟩ hA' (csOf o) hvc (cs_len ho) (cs_lt ho) H6 T6 _ true true true #[] sl1 _ (D9.sel [1,0,2,3,4] (by decide)) ?_
  intro H10 T10 ll10 vk10 sl10 sl1' h10 k10 D10
  refine jLoop w b c ⟨L,L1,lc,n1,nc,ij,es1,vc,offB o⟩ hA' (csOf o) hvc (cs_len ho) (cs_lt ho) H10 T10 8 1 ll10 _ _ _ vk10 sl10 _ sl1' _ (Nat.le_refl 1) rfl D10 ?_
  intro ll11 vk11 sl11 x11 sl11' h11 k11 D11
  refine wpAny_execs_cons ?_
  refine fragQ [(L + 2,celO x11),(lc,lstO vc nc),(L1,frO es1 n1 sl11')] D11 (List.Perm.refl _) (q6 (wf w b c) L lc ll11 (offB o) _ _ _ vk11 sl11 H10 T10) CF.hh hA' noIns ?_
  intro nn12 tt12 om12 xi12 h12 k12 D12
  have ef : ∀ f : Nat → Bool,((true && f 0) && (List.range 8).all fun i => f (1 + i)) = (List.range 9).all f := fun f => by
    rw [all_succ f 8,Bool.true_and]
    have : (fun i => f (1 + i)) = fun i => f (i + 1) := funext fun i => by rw [Nat.add_comm]
    rw [this]
  have e2 := ef fun i => frtB (leftI (csOf o) (i + 1)) i
  have e3 := ef fun i => (ksOf (i + 1)).all (stB (leftI (csOf o) (i + 1)) i)
  have e4 := ef fun i => runsQ ((csOf o).take (i + 1))
  have D13 : Rp (MyK (wf w b c).params) s.heap (adrs (fourI j1 L1 o to es1 n1 sl1).need) h12 ([(L1,frO es1 n1 sl11')] ++ [(nn12 0,lstO [.bool (offB o),.bool (frontsB (csOf o)),.bool (stretchesB (csOf o)),.bool (runsB (csOf o))] 0)]) := by
    show Rp _ _ _ _ ([(L1,frO es1 n1 sl11')] ++ [(nn12 0,lstO [.bool (offB o),.bool ((List.range 9).all fun i => frtB (leftI (csOf o) (i + 1)) i),.bool ((List.range 9).all fun i => (ksOf (i + 1)).all (stB (leftI (csOf o) (i + 1)) i)),.bool ((List.range 9).all fun i => runsQ ((csOf o).take (i + 1)))] 0)])
    rw [← e2,← e3,← e4]
    exact D12.sel [3,0] (by decide)
  exact wpAny_pure (hR (fun _ => nn12 0) (fun _ => sl11') h12 k12 rfl (Eff.ofApp (nw := [(nn12 0,_)]) D13 rfl))
end Mine
open PySem.SeqAt
namespace Mine
noncomputable abbrev v4 (v : Bool) : List Value := [.bool v,.bool v,.bool v,.bool v]
noncomputable abbrev dv4 (v : Bool) : PyData := .list [.bool v,.bool v,.bool v,.bool v]
noncomputable def fourVI (j1 L1 : Nat) (o : List Nat) (to : Nat) (es1 : List DictEntry) (n1 : Nat) (sl1 : Slots) (v : Bool) : Inst := ⟨.call (.ref 204) ⟨[.str ⟨⟨o⟩⟩ to],[]⟩,[(j1,L1,frO es1 n1 sl1)],fun ω _ => .ok (.ret (.ref (ω 0))),fun _ ξ => [frO es1 n1 (ξ 0)],fun ω _ => [(ω 0,lstO (v4 v) 0)]⟩
theorem fourV_ok (w : World) (b c : Bool) (j1 L1 : Nat) (o : List Nat) (to : Nat) (es1 : List DictEntry) (n1 : Nat) (sl1 : Slots) (v : Bool) (ho : o.Perm abc) (hv : runsB (csOf o) = v) (e1 : Env) : IOk theP (wf w b c) (MyK (wf w b c).params) (C1 e1 L1) (fourVI j1 L1 o to es1 n1 sl1 v) := by
  have z := four_ok w b c j1 L1 o to es1 n1 sl1 ho e1
  obtain ⟨q1,q2,q3⟩ := four_eq ho
  unfold fourI at z
  rw [q1,q2,q3,hv] at z
  exact z
theorem rd4 {h : Heap} {a n : Nat} {v : Bool} (ha : h.get? a = some (lstO (v4 v) n)) : ∃ as,Reads h (.ref a) (dv4 v) as :=
  ⟨_,reads_list_at ha rfl rfl (.cons (.bool v) (.cons (.bool v) (.cons (.bool v) (.cons (.bool v) .nil))))⟩
theorem eqv4 (u v : Bool) : PyData.eqv (dv4 u) (dv4 v) = (u == v) := by
  cases u <;> cases v <;> simp [PyData.eqv,PyData.eqvAll]
theorem shp4 (v : Bool) : SeqAt.shaped (dv4 v) = true := by
  simp [SeqAt.shaped,PyData.canLay0,PyData.canLayAll0,PyData.depth,PyData.depthAll]
theorem ne4 {w : World} {A : Around} {s : Shared} {Q : Value → Shared → Prop} {E : Value → Shared → Prop} {a z n m : Nat} {u v : Bool}
    (ha : s.heap.get? a = some (lstO (v4 u) n)) (hz : s.heap.get? z = some (lstO (v4 v) m)) (hu : A.units ≤ 9000)
    (h : Q (.bool (!(u == v))) s) : wpAny (MM w) A (compareOp .NotEq (.ref a) (.ref z)) Q E s := by
  obtain ⟨_,r1⟩ := rd4 ha
  obtain ⟨_,r2⟩ := rd4 hz
  refine ne_dataH r1 r2 (shp4 u) (shp4 v) ?_ ?_
  · show A.units + 64 < 9900
    omega
  · rw [eqv4]; exact h
noncomputable def contI (jo ja jb jx o a b x : Nat) (v : Bool) : Inst := ⟨.call (.builtin "list.__contains__") ⟨[.ref o,.ref x],[]⟩,[(jo,o,lstO [.ref a,.ref b] 0),(ja,a,lstO (v4 true) 0),(jb,b,lstO (v4 false) 0),(jx,x,lstO (v4 v) 0)],fun _ _ => .ok (.ret (.bool true)),fun _ _ => [lstO [.ref a,.ref b] 0,lstO (v4 true) 0,lstO (v4 false) 0,lstO (v4 v) 0],fun _ _ => []⟩
theorem cont_ok {w : World} {C : Around → Prop} (hC : ∀ A,C A → A.units ≤ 9000) {jo ja jb jx o a b x : Nat} {v : Bool} : IOk theP w (MyK w.params) C (contI jo ja jb jx o a b x v) := by
  intro A s R hA hK hn hd ho hlo hR
  have h0 : s.heap.get? o = some (lstO [.ref a,.ref b] 0) := hn _ (.head _)
  have h1 : s.heap.get? a = some (lstO (v4 true) 0) := hn _ (.tail _ (.head _))
  have h2 : s.heap.get? b = some (lstO (v4 false) 0) := hn _ (.tail _ (.tail _ (.head _)))
  have h3 : s.heap.get? x = some (lstO (v4 v) 0) := hn _ (.tail _ (.tail _ (.tail _ (.head _))))
  have hne : b ≠ a := fun z => by
    rw [z] at h2
    rw [h2] at h1
    cases h1
  have hu : (A.in1).units + 64 < cLine := by
    have := hC A hA
    show A.units + 1 + 64 < 9900
    omega
  obtain ⟨_,r1⟩ := rd4 h1
  obtain ⟨_,r2⟩ := rd4 h2
  obtain ⟨_,r3⟩ := rd4 h3
  have hl : ∀ u,(dv4 u).canLay0 = true := fun u => by simp [PyData.canLay0,PyData.canLayAll0]
  have hdp : ∀ u t,(A.in1).units + min (dv4 u).depth (dv4 t).depth < cLine := fun u t => by
    have e : (dv4 u).depth = 1 := by simp [PyData.depth,PyData.depthAll]
    rw [e]
    have := Nat.min_le_left 1 (dv4 t).depth
    omega
  refine callI_of (call_meets PySem.F.slot_list_contains ⟨_,h0,rfl⟩ PySem.F.entry_list_contains (PySem.F.args_list_contains_2 _ _) (list_containsAt o [.ref a,.ref b].toArray 0 none #[] (.ref x) (fun y => match y with | .ref q => (match Nat.beq q a with | true => true == v | false => false == v) | _ => false)) ⟨h0,?_,?_⟩)
  · intro y hy
    have hy' : y = .ref a ∨ y = .ref b := by simpa using hy
    rcases hy' with rfl | rfl
    · have z := eqAt_reads _ _ A.in1 s _ _ _ _ r1 r3 (hl _) (hl _) (hdp _ _)
      rw [eqv4] at z
      have e : Nat.beq a a = true := Nat.beq_refl a
      show EqAt _ _ _ _ (match Nat.beq a a with | true => true == v | false => false == v)
      rw [e]; exact z
    · have z := eqAt_reads _ _ A.in1 s _ _ _ _ r2 r3 (hl _) (hl _) (hdp _ _)
      rw [eqv4] at z
      have e : Nat.beq b a = false := by cases q : Nat.beq b a with | false => rfl | true => exact absurd (Nat.eq_of_beq_eq_true q) hne
      show EqAt _ _ _ _ (match Nat.beq b a with | true => true == v | false => false == v)
      rw [e]; exact z
  · have e1 : Nat.beq a a = true := Nat.beq_refl a
    have e2 : Nat.beq b a = false := by cases q : Nat.beq b a with | false => rfl | true => exact absurd (Nat.eq_of_beq_eq_true q) hne
    have e : ([.ref a,.ref b].toArray : Array Value).any (fun y => match y with | .ref q => (match Nat.beq q a with | true => true == v | false => false == v) | _ => false) = true := by
      rw [List.any_toArray]
      show ((match Nat.beq a a with | true => true == v | false => false == v) || ((match Nat.beq b a with | true => true == v | false => false == v) || false)) = true
      rw [e1,e2]
      cases v <;> rfl
    rw [e]
    refine hR (fun _ => 0) (fun _ => #[]) s.heap s.toks rfl ⟨fun p hp => ?_,fun p hp => (nomatch hp),.nil,fun b o hb _ => hb⟩
    simp only [contI,adrs,List.map_cons,List.map_nil,List.zip_cons_cons,List.zip_nil_right,List.mem_cons,List.not_mem_nil,or_false] at hp
    rcases hp with rfl | rfl | rfl | rfl
    · exact h0
    · exact h1
    · exact h2
    · exact h3
noncomputable def oA (P : Params) : Expr := match nthS P 218 2 with | .If (.BoolOp _ (a :: _) _) _ _ _ => a | _ => .Name "x" ⟨0,0,0,0⟩
noncomputable def oB (P : Params) : Expr := match nthS P 218 2 with | .If (.BoolOp _ (_ :: a :: _) _) _ _ _ => a | _ => .Name "x" ⟨0,0,0,0⟩
noncomputable def cmL (e : Expr) : Expr := match e with | .Compare l _ _ _ => l | _ => .Name "x" ⟨0,0,0,0⟩
noncomputable def cmR (e : Expr) : Expr := match e with | .Compare _ _ [r] _ => r | _ => .Name "x" ⟨0,0,0,0⟩
noncomputable abbrev l4 (H : Nat → Int) (T : Nat → Nat) (s m tm k tk ls : Nat) : List DictEntry := [fe H T 0 "script" (.ref s),fe H T 1 "mode" (.int (Int.ofNat m) tm),fe H T 2 "count" (.int (Int.ofNat k) tk),fe H T 3 "swaps" (.ref ls)]
noncomputable abbrev l5 (H : Nat → Int) (T : Nat → Nat) (s m tm k tk ls : Nat) (o : List Nat) (to : Nat) : List DictEntry := [fe H T 0 "script" (.ref s),fe H T 1 "mode" (.int (Int.ofNat m) tm),fe H T 2 "count" (.int (Int.ofNat k) tk),fe H T 3 "swaps" (.ref ls),fe H T 4 "order" (.str ⟨⟨o⟩⟩ to)]
noncomputable abbrev l6 (H : Nat → Int) (T : Nat → Nat) (s m tm k tk ls : Nat) (o : List Nat) (to : Nat) (o2 : List Nat) (to2 : Nat) : List DictEntry := [fe H T 0 "script" (.ref s),fe H T 1 "mode" (.int (Int.ofNat m) tm),fe H T 2 "count" (.int (Int.ofNat k) tk),fe H T 3 "swaps" (.ref ls),fe H T 4 "order" (.str ⟨⟨o⟩⟩ to),fe H T 5 "changed" (.str ⟨⟨o2⟩⟩ to2)]
theorem n218 (w:World) (s:Nat) (nn tt om xi ps):Ends (go w 60 (nfe w.params 218 [("script",.ref s)]) [1,1] ([]) .nil nn tt om xi ps) ([0]) (.ok (envAt w.params 218 (nn 0))) ([(nn 0,frO [en (hs w.params "script") "script" (tt 0) (.ref s)] 1 #[])]) := by trivial
theorem w0 (w:World) (L s n:Nat) (xs:List Int) (ts:NN) (sl:Slots) (H:NI) (T:NN) (b c:Bool) (nn tt om xi ps):Ends (go (wf w b c) 300 (exec (nthS (wf w b c).params 218 0) (envAt (wf w b c).params 218 L)) [0,1,0,1,4,4,4,0,4,5,5,0,5,5,5,4,5,5,5,0,5,5,5,4,5,5,5,0,5,5,5,4,5,5,5,0,5,5,5,4,5,5,7,1,1,1,1,1,1] ([(L,frO [fe H T 0 "script" (.ref s)] 1 sl),(s,lstO (iv xs ts) n)]) (IL fun nn tt om xi=>[drwI 1 s xs ts n]) nn tt om xi ps) ([0,1,2]) (.ok .next) ([(L,frO [fe H T 0 "script" (.ref s),en (hs (wf w b c).params "mode") "mode" (tt 1) (.int (Int.ofNat (drMode xs)) (om 0 1)),en (hs (wf w b c).params "count") "count" (tt 1+1) (.int (Int.ofNat (drCount xs)) (om 0 2)),en (hs (wf w b c).params "swaps") "swaps" (tt 1+2) (.ref (om 0 3))] 4 sl),(s,lstO (iv xs ts) n),(om 0 3,lstO (iv ((drSwaps xs).map Int.ofNat) fun i=>om 0 (i+5)) (om 0 4))]) := by cases b <;> trivial
theorem w1 (w:World) (L s m tm k tk ls:Nat) (sl:Slots) (H:NI) (T:NN) (b c:Bool) (nn tt om xi ps):Ends (go (wf w b c) 300 (exec (nthS (wf w b c).params 218 1) (envAt (wf w b c).params 218 L)) [0,0,1,0,1,1,0,1,1,1] ([(L,frO (l4 H T s m tm k tk ls) 4 sl)]) (IL fun nn tt om xi=>[fmI m tm,rifI (fmRow m) (om 0 0) k tk]) nn tt om xi ps) ([0]) (.ok .next) ([(L,frO (l4 H T s m tm k tk ls++[en (hs (wf w b c).params "order") "order" (tt 2) (.str ⟨⟨rif (fmRow m).tail (abc.take k).reverse (abc.drop k)⟩⟩ (om 1 0))]) 5 sl)]) := by cases b <;> trivial
theorem w2a (w:World) (L s m tm k tk ls:Nat) (o:List Nat) (to:Nat) (sl:Slots) (H:NI) (T:NN) (b c:Bool) (nn tt om xi ps):Ends (go (wf w b c) 300 (isTrue (oA (wf w b c).params) (envAt (wf w b c).params 218 L) (eval (oA (wf w b c).params) (envAt (wf w b c).params 218 L))) [1,0,1,1,1,0,1,1] ([(L,frO (l5 H T s m tm k tk ls o to) 5 sl)]) (IL fun nn tt om xi=>[bI "int.__mod__" [.int (Int.ofNat m) tm,.int 512 (tt 0)] (intR (Int.ofNat (m % 512))),bitI (m % 512) (om 0 0) k tk,bI "str.__ne__" [.str ⟨⟨o⟩⟩ to,.str ⟨⟨bitF (m % 512) 9 0 k k⟩⟩ (om 1 0)] (boolR false)]) nn tt om xi ps) ([0]) (.ok false) ([(L,frO (l5 H T s m tm k tk ls o to) 5 sl)]) := by cases b <;> trivial
theorem w2b (w:World) (L s m tm k tk ls:Nat) (o:List Nat) (to:Nat) (v:Bool) (sl:Slots) (H:NI) (T:NN) (b c:Bool) (nn tt om xi ps):Ends (go (wf w b c) 300 (eval (cmL (oB (wf w b c).params)) (envAt (wf w b c).params 218 L)) [0,1,0,1] ([(L,frO (l5 H T s m tm k tk ls o to) 5 sl)]) (IL fun nn tt om xi=>[fourVI 0 L o to (l5 H T s m tm k tk ls o to) 5 sl v]) nn tt om xi ps) ([0,1]) (.ok (.ref (om 0 0))) ([(L,frO (l5 H T s m tm k tk ls o to) 5 (xi 0 0)),(om 0 0,lstO (v4 v) 0)]) := by cases b <;> trivial
theorem w2c (w:World) (L:Nat) (nn tt om xi ps):Ends (go w 60 (eval (cmR (oB w.params)) (envAt w.params 218 L)) [] ([]) .nil nn tt om xi ps) ([0]) (.ok (.ref (nn 0))) ([(nn 0,lstO (v4 true) 0)]) := by trivial
theorem w3 (w:World) (L s m tm k tk ls:Nat) (o:List Nat) (to:Nat) (n:Nat) (sw:List Nat) (ts:NN) (sl:Slots) (H:NI) (T:NN) (b c:Bool) (nn tt om xi ps):Ends (go (wf w b c) 300 (exec (nthS (wf w b c).params 218 3) (envAt (wf w b c).params 218 L)) [0,1,1,0,1,1,1] ([(L,frO (l5 H T s m tm k tk ls o to) 5 sl),(ls,lstO (iv (sw.map Int.ofNat) ts) n)]) (IL fun nn tt om xi=>[chgI 1 o to ls sw ts n]) nn tt om xi ps) ([0]) (.ok .next) ([(L,frO (l5 H T s m tm k tk ls o to++[en (hs (wf w b c).params "changed") "changed" (tt 1) (.str ⟨⟨chgF o sw⟩⟩ (om 0 0))]) 6 sl)]) := by cases b <;> trivial
theorem w4t (w:World) (L s m tm k tk ls:Nat) (o:List Nat) (to:Nat) (o2:List Nat) (to2:Nat) (sl:Slots) (H:NI) (T:NN) (b c:Bool) (nn tt om xi ps):Ends (go (wf w b c) 300 (exec (nthS (wf w b c).params 218 4) (envAt (wf w b c).params 218 L)) [1,1,1] ([(L,frO (l6 H T s m tm k tk ls o to o2 to2) 6 sl)]) (IL fun nn tt om xi=>[bI "str.__eq__" [.str ⟨⟨o2⟩⟩ to2,.str ⟨⟨o⟩⟩ to] (boolR true)]) nn tt om xi ps) ([]) (.ok (.ret (.bool true))) ([]) := by cases b <;> trivial
theorem w4f (w:World) (L s m tm k tk ls:Nat) (o:List Nat) (to:Nat) (o2:List Nat) (to2:Nat) (sl:Slots) (H:NI) (T:NN) (b c:Bool) (nn tt om xi ps):Ends (go (wf w b c) 300 (exec (nthS (wf w b c).params 218 4) (envAt (wf w b c).params 218 L)) [1,1,1] ([(L,frO (l6 H T s m tm k tk ls o to o2 to2) 6 sl)]) (IL fun nn tt om xi=>[bI "str.__eq__" [.str ⟨⟨o2⟩⟩ to2,.str ⟨⟨o⟩⟩ to] (boolR false)]) nn tt om xi ps) ([0]) (.ok .next) ([(L,frO (l6 H T s m tm k tk ls o to o2 to2) 6 sl)]) := by cases b <;> trivial
theorem w5 (w:World) (L s m tm k tk ls:Nat) (o:List Nat) (to:Nat) (o2:List Nat) (to2:Nat) (v:Bool) (sl:Slots) (H:NI) (T:NN) (b c:Bool) (nn tt om xi ps):Ends (go (wf w b c) 300 (exec (nthS (wf w b c).params 218 5) (envAt (wf w b c).params 218 L)) [0,1,0,1,5,5,1] ([(L,frO (l6 H T s m tm k tk ls o to o2 to2) 6 sl)]) (IL fun nn tt om xi=>[fourVI 0 L o2 to2 (l6 H T s m tm k tk ls o to o2 to2) 6 sl v,contI 4 2 3 1 (nn 1+2) (nn 1) (nn 1+1) (om 0 0) v]) nn tt om xi ps) ([]) (.ok (.ret (.bool true))) ([]) := by cases b <;> trivial
theorem C1.hh {e1 : Env} {L1 : Nat} : ∀ A,C1 e1 L1 A → A.handled = none := fun _ h => h.ab.1
theorem C1.ab7 {e1 : Env} {L1 : Nat} : ∀ A,C1 e1 L1 A → AB 790 6000 A := fun _ h => h.ab.mono (by decide) (by decide)
structure CT (A : Around) : Prop where
  ab : AB 760 4900 A
  fr : A.frames = some []
theorem toNat_lt {a : Int} (k : Nat) : (Int.fmod a (Int.ofNat (k + 1))).toNat < k + 1 := by
  have h2 : Int.fmod a (Int.ofNat (k + 1)) < Int.ofNat (k + 1) := Int.fmod_lt_of_pos a (Int.natCast_pos.mpr (Nat.succ_pos k))
  have h2 : Int.fmod a (Int.ofNat (k + 1)) < ((k + 1 : Nat) : Int) := h2
  omega
theorem drCount_le (xs : List Int) : drCount xs ≤ 9 := Nat.le_of_lt_succ (toNat_lt 9)
theorem drSwaps_le (xs : List Int) : (drSwaps xs).length ≤ 8 := by unfold drSwaps; rw [List.length_map,List.length_take]; omega
theorem drSwaps_lt (xs : List Int) : ∀ s ∈ drSwaps xs,s < 81 := fun s hs => by
  unfold drSwaps at hs
  obtain ⟨x,_,rfl⟩ := List.mem_map.mp hs
  exact toNat_lt 80
theorem fn218 (P : Params) : fnOk P 218 := ⟨_,_,_,_,_,rfl,rfl,rfl,rfl,rfl,rfl,rfl⟩
theorem body218 (P : Params) : bodyOf P 218 = [nthS P 218 0,nthS P 218 1,nthS P 218 2,nthS P 218 3,nthS P 218 4,nthS P 218 5] := rfl
theorem ifO (P : Params) : ∃ p q body,nthS P 218 2 = .If (.BoolOp .Or [oA P,oB P] p) body [] q := ⟨_,_,_,rfl⟩
theorem cmO (P : Params) : ∃ p,oB P = .Compare (cmL (oB P)) [.NotEq] [cmR (oB P)] p := ⟨_,rfl⟩
theorem mkO (P : Params) : behindInMarks .NotEq (cmR (oB P)) = false := by kernel_rfl
theorem neIs {w : World} {A : Around} {s : Shared} {Q : Bool → Shared → Prop} {E : Value → Shared → Prop} {e : Expr} {env : Env} (he : ∃ p,e = .Compare (cmL e) [.NotEq] [cmR e] p) (hm : behindInMarks .NotEq (cmR e) = false)
    (h : wpAny (MM w) A (eval (cmL e) env) (fun a s₁ => wpAny (MM w) A (eval (cmR e) env) (fun b s₂ => wpAny (MM w) A (compareOp .NotEq a b) (fun c s₃ => ∃ x : Bool,c = .bool x ∧ Q x s₃) E s₂) E s₁) E s) : wpAny (MM w) A (isTrue e env (eval e env)) Q E s := by
  obtain ⟨p,hp⟩ := he
  have e1 : isTrue e env (eval e env) = isTrue (.Compare (cmL e) [.NotEq] [cmR e] p) env (eval (.Compare (cmL e) [.NotEq] [cmR e] p) env) := congrArg (fun z => isTrue z env (eval z env)) hp
  rw [e1]
  refine wpAny_isTrue_Compare1 (wpAny_mono h (fun a s₁ h₁ => wpAny_mono h₁ (fun b s₂ h₂ => wpAny_mono h₂ (fun c s₃ h₃ => ?_) fun _ _ q => q) fun _ _ q => q) fun _ _ q => q) hm
  obtain ⟨x,rfl,hx⟩ := h₃
  exact wpAny_truthy_bool hx
noncomputable def lawI (jl l : Nat) (xs : List Int) (ts : Nat → Nat) (n : Nat) : Inst := ⟨.call (.ref 218) ⟨[.ref l],[]⟩,[(jl,l,lstO (iv xs ts) n)],fun _ _ => .ok (.ret (.bool true)),fun _ _ => [lstO (iv xs ts) n],fun _ _ => []⟩
theorem law_ok (w : World) (b c : Bool) (jl l : Nat) (xs : List Int) (ts : Nat → Nat) (n : Nat) (hx : xs.length ≤ 63) : IOk theP (wf w b c) (MyK (wf w b c).params) CT (lawI jl l xs ts n) := by
  intro A s R hA hK hn hd hof hlo hR
  have D := Rp.start _ hK hn hd hof hlo
  refine x_call ?_ (by intro z; cases z)
  refine enterFn 218 60 _ [.ref l] [("script",.ref l)] _ (fn218 _) (by kernel_rfl) hA.ab.1 (limit_ok (Nat.le_trans hA.ab.2.1 (by decide))) D (fun nn tt om xi ps => n218 (wf w b c) l nn tt om xi ps) ?_
  intro L T h1 k1 D1
  have hA' : C1 (envAt (wf w b c).params 218 L) L ((A.mark none).deeper (envAt (wf w b c).params 218 L)) := ⟨(AB.deep hA.ab).mono (by decide) (by decide),Around.frames_deeper hA.fr,kind218 (wf w b c).params L,rfl⟩
  refine ks_codeAny_funcAt (wpAt_of_wpAny ?_)
  rw [body218]
  refine wpAny_execs_cons ?_
  refine fragQ (C := C1 (envAt (wf w b c).params 218 L) L) [] (D1.sel [1,0] (by decide)) (List.Perm.refl _) (w0 w L l n xs ts #[] (fun _ => hs (wf w b c).params "script") (fun _ => T 0) b c) C1.hh hA'
    (okIL _ fun nn tt om xi => oneIns ((drw_ok w b c _ _ _ _ _ hx).mono C1.ab7) nilIns) ?_
  intro nn2 tt2 om2 xi2 h2 k2 D2
  have hk9 := drCount_le xs
  have hsl := drSwaps_le xs
  have h81 := drSwaps_lt xs
  obtain ⟨H2,T2,D2⟩ : ∃ H T,Rp (MyK (wf w b c).params) s.heap (adrs (lawI jl l xs ts n).need) h2 [(L,frO (l4 H T l (drMode xs) (om2 0 1) (drCount xs) (om2 0 2) (om2 0 3)) 4 #[]),(l,lstO (iv xs ts) n),(om2 0 3,lstO (iv ((drSwaps xs).map Int.ofNat) fun i => om2 0 (i + 5)) (om2 0 4))] :=
    ⟨ov (ov (ov (fun _ => hs (wf w b c).params "script") 1 (hs (wf w b c).params "mode")) 2 (hs (wf w b c).params "count")) 3 (hs (wf w b c).params "swaps"),ov (ov (ov (fun _ => T 0) 1 (tt2 1)) 2 (tt2 1 + 1)) 3 (tt2 1 + 2),D2⟩
  generalize drMode xs = m at D2
  generalize drCount xs = k at D2 hk9
  generalize drSwaps xs = sw at D2 hsl h81
  generalize om2 0 1 = tm at D2
  generalize om2 0 2 = tk at D2
  generalize om2 0 3 = ls at D2
  generalize om2 0 4 = n4 at D2
  generalize (fun i => om2 0 (i + 5)) = t5 at D2
  clear D D1
  have hrl : (fmRow m).tail.length = 9 := rfl
  obtain ⟨hperm,hruns⟩ := rif_ord (s := (fmRow m).tail) (k := k) hrl hk9
  have hbits := bits_rif m k hk9
  refine wpAny_execs_cons ?_
  refine fragQ (C := C1 (envAt (wf w b c).params 218 L) L) [(l,lstO (iv xs ts) n),(ls,lstO (iv (sw.map Int.ofNat) t5) n4)] D2 (List.Perm.refl _) (w1 w L l m tm k tk ls #[] H2 T2 b c) C1.hh hA'
    (okIL _ fun nn tt om xi => oneIns ((fm_ok w b c _ _).mono C1.ab7) (oneIns ((rif_ok w b c _ _ _ _ hk9 rfl (fm_signs m)).mono C1.ab7) nilIns)) ?_
  intro nn3 tt3 om3 xi3 h3 k3 D3
  generalize rif (fmRow m).tail (abc.take k).reverse (abc.drop k) = o at D3 hperm hruns hbits
  obtain ⟨H3,T3,D3⟩ : ∃ H T,Rp (MyK (wf w b c).params) s.heap (adrs (lawI jl l xs ts n).need) h3 [(L,frO (l5 H T l m tm k tk ls o (om3 1 0)) 5 #[]),(l,lstO (iv xs ts) n),(ls,lstO (iv (sw.map Int.ofNat) t5) n4)] :=
    ⟨ov H2 4 (hs (wf w b c).params "order"),ov T2 4 (tt3 2),D3⟩
  generalize om3 1 0 = to at D3
  have ho9 : o.length = 9 := by rw [hperm.length_eq]; rfl
  obtain ⟨p,q,body,eif⟩ := ifO (wf w b c).params
  refine wpAny_execs_cons ?_
  rw [eif]
  refine wpAny_If (wpAny_isTrue_BoolOp ?_)
  show wpAny _ _ (isTrue (oA (wf w b c).params) _ (eval (oA (wf w b c).params) _) >>= _) _ _ _
  refine wpAny_bind ?_
  refine fragQ (C := C1 (envAt (wf w b c).params 218 L) L) [(l,lstO (iv xs ts) n),(ls,lstO (iv (sw.map Int.ofNat) t5) n4)] D3 (List.Perm.refl _) (w2a w L l m tm k tk ls o to #[] H3 T3 b c) C1.hh hA'
    (okIL _ fun nn tt om xi => oneIns (imod_ok (k := 511) C1.hh (by have := Int.fmod_eq_emod_of_nonneg (Int.ofNat m) (Int.natCast_nonneg 512); exact this.trans rfl)) (oneIns ((bit_ok w b c _ _ _ _ hk9).mono C1.ab7) (oneIns (sne_ok C1.hh (by show (!(List.beq o (bitF (m % 512) 9 0 k k))) = false; rw [hbits,show List.beq o o = true from beq_self_eq_true o]; rfl)) nilIns))) ?_
  intro nn4 tt4 om4 xi4 h4 k4 D4
  show wpAny _ _ (isTrue (oB (wf w b c).params) _ (eval (oB (wf w b c).params) _) >>= _) _ _ _
  refine wpAny_bind (neIs (cmO _) (mkO _) ?_)
  refine fragQ (C := C1 (envAt (wf w b c).params 218 L) L) [(l,lstO (iv xs ts) n),(ls,lstO (iv (sw.map Int.ofNat) t5) n4)] D4 (List.Perm.refl _) (w2b w L l m tm k tk ls o to true #[] H3 T3 b c) C1.hh hA'
    (okIL _ fun nn tt om xi => oneIns (fourV_ok w b c _ _ _ _ _ _ _ _ hperm hruns _) nilIns) ?_
  intro nn5 tt5 om5 xi5 h5 k5 D5
  refine fragQ (led := []) _ D5 (List.Perm.refl _) (w2c (wf w b c) L) C1.hh hA' noIns ?_
  intro nn6 tt6 om6 xi6 h6 k6 D6
  have hm : ∀ i p,ledAt ([(nn6 0,lstO (v4 true) 0)] ++ ([(L,frO (l5 H3 T3 l m tm k tk ls o to) 5 (xi5 0 0)),(om5 0 0,lstO (v4 true) 0)] ++ [(l,lstO (iv xs ts) n),(ls,lstO (iv (sw.map Int.ofNat) t5) n4)])) i = some p → h6.get? p.1 = some p.2 := fun i p e => D6.has p (ledAt_mem e)
  refine ne4 (hm 2 _ rfl) (hm 0 _ rfl) (Nat.le_trans hA'.ab.2.2 (by decide)) ?_
  refine ⟨_,rfl,?_⟩
  show wpAny _ _ (pure false) _ _ _
  refine wpAny_pure ?_
  refine wpAny_execs_nil ?_
  have D7 := D6.sel [1,3,4] (by decide)
  refine wpAny_execs_cons ?_
  refine fragQ (C := C1 (envAt (wf w b c).params 218 L) L) [(l,lstO (iv xs ts) n)] (D7.sel [0,2,1] (by decide)) (List.Perm.refl _) (w3 w L l m tm k tk ls o to n4 sw t5 (xi5 0 0) H3 T3 b c) C1.hh hA'
    (okIL _ fun nn tt om xi => oneIns ((chg_ok w b c _ _ _ _ _ _ _ ho9 hsl h81).mono C1.ab7) nilIns) ?_
  intro nn8 tt8 om8 xi8 h8 k8 D8
  have hperm2 : (chgF o sw).Perm abc := (chg_perm sw o ho9 h81).trans hperm
  generalize chgF o sw = o2 at D8 hperm2
  obtain ⟨H8,T8,D8⟩ : ∃ H T,Rp (MyK (wf w b c).params) s.heap (adrs (lawI jl l xs ts n).need) h8 [(L,frO (l6 H T l m tm k tk ls o to o2 (om8 0 0)) 6 (xi5 0 0)),(l,lstO (iv xs ts) n)] :=
    ⟨ov H3 5 (hs (wf w b c).params "changed"),ov T3 5 (tt8 1),D8⟩
  refine wpAny_execs_cons ?_
  cases hbe : List.beq o2 o with
  | true =>
    refine fragQ (C := C1 (envAt (wf w b c).params 218 L) L) [(l,lstO (iv xs ts) n)] D8 (List.Perm.refl _) (w4t w L l m tm k tk ls o to o2 (om8 0 0) (xi5 0 0) H8 T8 b c) C1.hh hA'
      (okIL _ fun nn tt om xi => oneIns (seq_ok C1.hh hbe) nilIns) ?_
    intro nn9 tt9 om9 xi9 h9 k9 D9
    exact wpAny_pure (hR (fun _ => 0) (fun _ => #[]) h9 k9 rfl (Eff.ofApp (nw := []) D9 rfl))
  | false =>
    refine fragQ (C := C1 (envAt (wf w b c).params 218 L) L) [(l,lstO (iv xs ts) n)] D8 (List.Perm.refl _) (w4f w L l m tm k tk ls o to o2 (om8 0 0) (xi5 0 0) H8 T8 b c) C1.hh hA'
      (okIL _ fun nn tt om xi => oneIns (seq_ok C1.hh hbe) nilIns) ?_
    intro nn9 tt9 om9 xi9 h9 k9 D9
    refine wpAny_execs_cons ?_
    refine fragQ (C := C1 (envAt (wf w b c).params 218 L) L) [(l,lstO (iv xs ts) n)] D9 (List.Perm.refl _) (w5 w L l m tm k tk ls o to o2 (om8 0 0) (runsB (csOf o2)) (xi5 0 0) H8 T8 b c) C1.hh hA'
      (okIL _ fun nn tt om xi => oneIns (fourV_ok w b c _ _ _ _ _ _ _ _ hperm2 rfl _) (oneIns (cont_ok fun A h => Nat.le_trans h.ab.2.2 (by decide)) nilIns)) ?_
    intro nn10 tt10 om10 xi10 h10 k10 D10
    exact wpAny_pure (hR (fun _ => 0) (fun _ => #[]) h10 k10 rfl (Eff.ofApp (nw := []) D10 rfl))
theorem items_int {R : WRecords} : ∀ {xs : List WData},WShape.hasItems R xs .int = true → ∃ ns : List Int,xs = ns.map WData.int
  | [],_ => ⟨[],rfl⟩
  | d :: xs,h => by
    have h' : WShape.has R d .int = true ∧ WShape.hasItems R xs .int = true := by simpa [WShape.hasItems] using h
    obtain ⟨i,rfl⟩ := hasW_int h'.1
    obtain ⟨ns,rfl⟩ := items_int h'.2
    exact ⟨i :: ns,rfl⟩
theorem well_ints {P : Params} {h : Heap} : ∀ {vs : List Value} {ns : List Int},WellAll P h vs (ns.map WData.int) → IntsAre vs ns
  | [],[],_ => .nil
  | [],_ :: _,q => by cases q
  | _ :: _,[],q => by cases q
  | v :: vs,n :: ns,q => by
    cases q with
    | cons q1 q2 =>
      cases q1
      exact .cons _ _ (well_ints q2)
theorem mgLaw (P : Params) : (match (MyK P).lookup 3 with | some o => (match o.data with | .dict es _ => nsFind es "law" | _ => none) | none => none) = some (.ref 218) := by kernel_rfl
theorem noK (P : Params) : ((MyK P).all fun p => noLst (some p.2)) = true := by kernel_rfl
theorem noL (vs : List Value) : noLst (some ⟨.type "list",none,.seq vs.toArray 0,#[]⟩) = false := by kernel_rfl
theorem lookup_mem {K : Frag} {a : Addr} {o : Obj} (h : K.lookup a = some o) : (a,o) ∈ K := by
  induction K with
  | nil => cases h
  | cons p K ih =>
    rw [List.lookup_cons] at h
    split at h
    · rename_i e
      have e := eq_of_beq e
      cases h
      rw [e]; exact .head _
    · exact .tail _ (ih h)
theorem law_all (w : World) (jl l : Nat) (xs : List Int) (ts : Nat → Nat) (n : Nat) (hx : xs.length ≤ 63) : IOk theP w (MyK w.params) CT (lawI jl l xs ts n) :=
  byWf (P := fun w => IOk theP w (MyK w.params) CT (lawI jl l xs ts n)) (fun w b c => law_ok w b c jl l xs ts n hx) w
theorem caller_ct : CT callerA := ⟨⟨rfl,by decide,by decide⟩,rfl⟩
end Mine
set_option maxRecDepth 1000000 in
theorem PySem.Challenge.cw_oc0114_01_holds : PySem.Challenge.rw_oc0114_01.Holds := by
  refine Mine.hd ?_
  intro w s₀ s₁ mg mb G Y a o pm cd doc dV kV ho hd hcd hD hmg hg args vals as hpre hlay hrd hwl hlo
  have hK : (Mine.MyK w.params).In s₁.heap := Y.1
  obtain ⟨o3,es,ep,h3,hd3,_,hfind⟩ := G.T.g
  have ha : a = 218 := by
    have e := Mine.mgLaw w.params
    cases q : (Mine.MyK w.params).lookup 3 with
    | none => rw [q] at e; cases e
    | some o' =>
      have h3' : s₁.heap.get? 3 = some o' := hK _ _ q
      have h3 : s₁.heap.get? 3 = some o3 := h3
      rw [h3'] at h3
      cases h3
      rw [q] at e
      dsimp only at e
      rw [hd3] at e
      dsimp only at e
      have z := hfind "law"
      rw [e] at z
      have z2 : mg "law" = some (.ref a) := hmg
      rw [z2] at z
      cases z; rfl
  subst ha
  clear hd hcd hD hmg ho hfind h3 hd3 G
  obtain ⟨hsh,hcond⟩ := pre_splitW hpre
  obtain ⟨d,r,rfl,hd1,hr1⟩ := hasAllW_cons hsh
  have := hasAllW_nil hr1
  subst this
  obtain ⟨xs',rfl,hit⟩ := hasW_list hd1
  obtain ⟨xs,rfl⟩ := Mine.items_int hit
  cases hwl with
  | cons hw1 hw2 =>
  cases hw2
  cases hw1 with
  | list hl hwi =>
  rename_i l vs
  have hx : xs.length ≤ 63 := by
    have z := (holds_andW hcond).1
    have z2 := condW_of z (by wtm_val)
    rw [List.length_map,Bool.not_eq_true',decide_eq_false_iff_not] at z2
    have z2 : ¬ ((63 : Int) < (xs.length : Int)) := z2
    omega
  have h219 : 219 ≤ l := by
    rcases Nat.lt_or_ge l 219 with q | q
    · have z := Y.2 l q
      rw [hl] at z
      rw [Mine.noL vs] at z
      cases z
    · exact q
  have hno : (Mine.MyK w.params).lookup l = none := by
    cases q : (Mine.MyK w.params).lookup l with
    | none => rfl
    | some o' =>
      have z : Mine.noLst (some o') = true := List.all_eq_true.mp (Mine.noK w.params) _ (Mine.lookup_mem q)
      have e := hK _ _ q
      rw [hl] at e
      cases e
      rw [Mine.noL vs] at z
      cases z
  obtain ⟨ts,rfl⟩ := Mine.are_iv (Mine.well_ints hwi)
  have run := Mine.law_all w 0 l xs ts 0 hx callerA s₁ (fun r s' => r = .ok (.ret (.bool true)) ∧ GoodW PySem.Challenge.rw_oc0114_01.row.toRowW.claim (classAt s₀.heap) (ExcName.means s₀.heap) [WData.list (xs.map WData.int)] s₁ r s') Mine.caller_ct hK
    (fun q hq => by rw [List.mem_singleton.mp hq]; exact hl) (List.nodup_cons.mpr ⟨List.not_mem_nil,List.nodup_nil⟩) (fun q hq => by rw [List.mem_singleton.mp hq]; exact hno) (fun q hq => by rw [List.mem_singleton.mp hq]; exact h219) ?_
  · refine Mine.call_of run ?_
    rintro r s' ⟨rfl,hr⟩
    exact wpAny_pure (GoodW.toG hr)
  · intro ω ξ h' tk' _ F
    refine ⟨rfl,.inl ⟨.bool true,.bool true,[],rfl,fun _ => rfl,.bool true,?_,fun _ => ⟨List.nodup_nil,fun _ h => nomatch h⟩⟩,?_,rfl,hg⟩
    · wrow_post
    · intro b o hb
      by_cases e : b = l
      · subst e
        have z := F.fup _ (.head _)
        rw [hl] at hb
        cases hb
        exact z
      · exact F.keep b o hb (fun z => by
          have z := List.mem_singleton.mp z
          exact e z)
