/- The walk layer: regions that draw their order are run in the text's order, under a plan that the kernel checks. -/
import Derived.WalkKit
import Derived.Orders
import Derived.Test.YtmbencknblcocaaGreatDoorProg
import Derived.KernelRfl
namespace Go.Wk
open Go Go.RowKit
section core
variable {P : Program} {R : World → World → Prop} {ops : Array Oper} {md : Region.Mode}
def UpC (P : Program) (R : World → World → Prop) (φ : Value → World → Prop) (w : World) : Result Next → Prop
 | .ok (.value u) w' => R w w' ∧ φ u w'
 | .ok .skip w' => R w w' ∧ φ undef w'
 | .ok (.enter f args) w' => Calls P f args w' (fun e w2 => ∃ u,e = .returned u ∧ R w w2 ∧ φ u w2)
 | _ => False
structure YC (P : Program) (R : World → World → Prop) (ops : Array Oper) (C : World → Prop) (o : Oper) (φ : Value → World → Prop) (a : Act) : Prop where
 yes : Region.wanted o (yielded ops a.tmps) = true → ∀ w,C w → UpC P R φ w ((execOp a.eval o).run P w)
 no : Region.wanted o (yielded ops a.tmps) = false → ∀ w,C w → φ undef w
theorem YC.wpOp {C : World → Prop} {o : Oper} {φ : Value → World → Prop} {a : Act} {i : Nat} {Q : Exit → Act → World → Prop} {K : Act → World → Prop} {w : World}
  (hrefl : ∀ w,R w w) (hi : ops[i]? = some o) (h : YC P R ops C o φ a) (hC : C w)
  (hk : ∀ v w',R w w' → φ v w' → K (a.put o.dst v) w') : Go.wpOp P ops Q i K a w:=by
 unfold Go.wpOp
 simp only [hi]
 cases hw : Region.wanted o (yielded ops a.tmps) with
 | true =>
  simp only [if_true]
  refine Or.inl ?_
  have hu:=h.yes hw w hC
  unfold Oper.wp
  generalize (execOp a.eval o).run P w = r at hu
  cases r with
  | halt x w' => exact hu.elim
  | ok n w' =>
   cases n <;> simp only [UpC] at hu <;> simp only [Oper.upon]
   case value u => exact hk _ _ hu.1 hu.2
   case skip => exact hk _ _ hu.1 hu.2
   case enter f args =>
    refine hu.mono ?_
    rintro e w2 ⟨u,rfl,h1,h2⟩
    exact hk _ _ h1 h2
 | false =>
  simp only [Bool.false_eq_true,if_false]
  exact hk _ _ (hrefl w) (h.no hw w hC)
theorem YC.ex {C : World → Prop} {o : Oper} {φ : Value → World → Prop} {a : Act} {w : World} (hrefl : ∀ w,R w w) (h : YC P R ops C o φ a) (hC : C w) :
  ∃ v w',R w w' ∧ φ v w':=by
 cases hw : Region.wanted o (yielded ops a.tmps) with
 | false => exact ⟨_,w,hrefl w,h.no hw w hC⟩
 | true =>
  have hu:=h.yes hw w hC
  generalize (execOp a.eval o).run P w = r at hu
  cases r with
  | halt x w' => exact hu.elim
  | ok n w' =>
   cases n <;> simp only [UpC] at hu
   case value u => exact ⟨_,_,hu⟩
   case skip => exact ⟨_,_,hu⟩
   case enter f args =>
    obtain ⟨e,w2,fr,⟨u,_,h1,h2⟩,_⟩:=hu []
    exact ⟨u,w2,h1,h2⟩
theorem YC.put {C : World → Prop} {o : Oper} {φ : Value → World → Prop} {a : Act} (h : YC P R ops C o φ a) (hs : ∀ cs b,o.op ≠ .select cs b)
  (dst : Option Tmp) (v : Value) (hd : ∀ d,dst = some d → d ∉ o.looksAt ops) : YC P R ops C o φ (a.put dst v):=by
 have he:=execOp_put (ops:=ops) o hs a dst v hd
 have hw:=wanted_put (ops:=ops) o a dst v hd
 exact ⟨fun h1 => he ▸ h.yes (hw ▸ h1),fun h1 => h.no (hw ▸ h1)⟩
theorem YC.unput {C : World → Prop} {o : Oper} {φ : Value → World → Prop} {a : Act} {dst : Option Tmp} {v : Value} (h : YC P R ops C o φ (a.put dst v)) (hs : ∀ cs b,o.op ≠ .select cs b)
  (hd : ∀ d,dst = some d → d ∉ o.looksAt ops) : YC P R ops C o φ a:=by
 have he:=execOp_put (ops:=ops) o hs a dst v hd
 have hw:=wanted_put (ops:=ops) o a dst v hd
 exact ⟨fun h1 => he ▸ h.yes (hw.symm ▸ h1),fun h1 => h.no (hw.symm ▸ h1)⟩
theorem YC.mono {C C' : World → Prop} {o : Oper} {φ : Value → World → Prop} {a : Act} (h : YC P R ops C o φ a) (hC : ∀ w,C' w → C w) : YC P R ops C' o φ a:=
 ⟨fun h1 w hw => h.yes h1 w (hC w hw),fun h1 w hw => h.no h1 w (hC w hw)⟩
def Closed (md : Region.Mode) (ops : Array Oper) (listed : Array Bool) : Prop:=
 ∀ j oj,ops[j]? = some oj → listed.getD j false = true → ∀ e ∈ oj.after,Region.binds md e = true → listed.getD e.on false = true
theorem Closed.set {listed : Array Bool} {i : Nat} (h : Closed md ops listed) (hi : i ∈ Region.ready md ops listed) : Closed md ops (listed.setIfInBounds i true):=by
 obtain ⟨_,oi,hoi,hall⟩:=mem_ready.1 hi
 intro j oj hj hl e he hb
 by_cases hij : i = j
 ·subst hij
  have : oj = oi:=Option.some.inj (hj.symm.trans hoi)
  subst this
  exact getD_set_true (hall e he hb)
 ·rw [getD_set_ne false hij] at hl
  exact getD_set_true (h j oj hj hl e he hb)
theorem Closed.init (n : Nat) : Closed md ops (Array.replicate n false):=by
 intro j oj _ hl
 exfalso
 rcases Nat.lt_or_ge j n with h | h
 ·simp [h] at hl
 ·simp [h] at hl
def wpS (P : Program) (R : World → World → Prop) (md : Region.Mode) (ops : Array Oper) (L : Array Bool → (World → Prop) → Act → Prop) :
  Nat → Array Bool → (World → Prop) → Act → Prop
 | 0,listed,C,a => L listed C a
 | f + 1,listed,C,a => Region.ready md ops listed ≠ [] ∧ ∀ i ∈ Region.ready md ops listed,∃ o φ,ops[i]? = some o ∧
   (∀ v w w',φ v w → R w w' → φ v w') ∧ YC P R ops C o φ a ∧
   ∀ v,(∃ w,C w ∧ φ v w) → wpS P R md ops L f (listed.setIfInBounds i true) (fun w => C w ∧ φ v w) (a.put o.dst v)
theorem wpS_first {L : Array Bool → (World → Prop) → Act → Prop} {i : Nat} {oi : Oper} {v : Value} (hi : ops[i]? = some oi)
  (hsel : ∀ (j : Nat) (o : Oper) cs b,ops[j]? = some o → o.op ≠ .select cs b)
  (hL0 : ∀ listed C a,Closed md ops listed → i ∈ Region.ready md ops listed → L (listed.setIfInBounds i true) C a → ∀ j ∈ Region.ready md ops listed,j = i) :
  ∀ (f : Nat) (listed : Array Bool) (C : World → Prop) (a : Act),Closed md ops listed → (∃ w,C w) →
   (∀ j oj,ops[j]? = some oj → j ≠ i → listed.getD j true = false → (∀ e ∈ oj.after,Region.binds md e = true → e.on ≠ i) → oi.apart ops oj = true) →
   i ∈ Region.ready md ops listed → YC P R ops C oi (fun u _ => u = v) a →
   (∀ u,(∃ w,C w ∧ u = v) → wpS P R md ops L f (listed.setIfInBounds i true) (fun w => C w ∧ u = v) (a.put oi.dst u)) →
   wpS P R md ops L (f + 1) listed C a:=by
 intro f
 induction f with
 | zero =>
  intro listed C a hcl hne _ hr hy H
  refine ⟨fun h => (by rw [h] at hr; cases hr),fun j hj => ?_⟩
  obtain ⟨w,hw⟩:=hne
  have hL:=H v ⟨w,hw,rfl⟩
  have hji:=hL0 listed _ _ hcl hr hL j hj
  subst hji
  exact ⟨oi,_,hi,fun _ _ _ h _ => h,hy,H⟩
 | succ f ih =>
  intro listed C a hcl hne hfree hr hy H
  refine ⟨fun h => (by rw [h] at hr; cases hr),fun j hj => ?_⟩
  by_cases hji : j = i
  ·subst hji; exact ⟨oi,_,hi,fun _ _ _ h _ => h,hy,H⟩
  ·obtain ⟨w0,hw0⟩:=hne
   have Hv:=H v ⟨w0,hw0,rfl⟩
   obtain ⟨oj,φ,hoj,hup,hyj,hnext⟩:=Hv.2 j (ready_mono hj hji)
   obtain ⟨hjun,oj',hoj',hall⟩:=mem_ready.1 hj
   have hoo : oj' = oj:=Option.some.inj (hoj'.symm.trans hoj)
   subst hoo
   have hnot : ∀ e ∈ oj'.after,Region.binds md e = true → e.on ≠ i:=fun e he hb heq => by
    have h1:=hall e he hb
    have h0:=(mem_ready.1 hr).1
    rw [heq] at h1
    rcases Nat.lt_or_ge i listed.size with h' | h'
    ·simp [h'] at h0 h1; rw [h0] at h1; cases h1
    ·simp [Array.getElem?_eq_none h'] at h1
   have hap:=hfree j oj' hoj hji hjun hnot
   obtain ⟨ha1,ha2,ha3⟩:=Oper.apart_spec hap
   have hsi : ∀ cs b,oi.op ≠ .select cs b:=fun cs b => hsel i oi cs b hi
   have hsj : ∀ cs b,oj'.op ≠ .select cs b:=fun cs b => hsel j oj' cs b hoj
   refine ⟨oj',φ,hoj,hup,(hyj.mono (fun w hw => ⟨hw,rfl⟩)).unput hsj ha1,fun u hu => ?_⟩
   obtain ⟨w1,hw1,hφ1⟩:=hu
   refine ih (listed.setIfInBounds j true) _ _ (hcl.set hj) ⟨w1,hw1,hφ1⟩ ?_ (ready_mono hr (Ne.symm hji))
    ((YC.mono (C':=fun w => C w ∧ φ u w) hy (fun w hw => hw.1)).put hsi oj'.dst u ha3) ?_
   ·intro k ok hk hki hun hno
    refine hfree k ok hk hki ?_ hno
    by_cases hjk : j = k
    ·subst hjk; exact hjun
    ·rw [getD_set_ne true hjk] at hun; exact hun
   ·rintro x ⟨w2,⟨hw2,hφ2⟩,rfl⟩
    have h3:=hnext u ⟨w1,⟨hw1,rfl⟩,hφ1⟩
    rw [Array.setIfInBounds_comm _ _ hji,← Act.put_comm a x u ha2]
    have hcls : (fun w => (C w ∧ φ u w) ∧ x = x) = (fun w => (C w ∧ x = x) ∧ φ u w):=by
     funext w
     exact propext ⟨fun h => ⟨⟨h.1.1,rfl⟩,h.1.2⟩,fun h => ⟨⟨h.1.1,h.2⟩,rfl⟩⟩
    rw [hcls]
    exact h3
theorem wpS_sound {L : Array Bool → (World → Prop) → Act → Prop} {Q : Exit → Act → World → Prop} {g : Nat} (hrefl : ∀ w,R w w)
  (hL : ∀ listed C a w,(∀ w w',C w → R w w' → C w') → C w → L listed C a → wpAny P md ops Q g listed a w) :
  ∀ (f : Nat) (listed : Array Bool) (C : World → Prop) (a : Act) (w : World),(∀ w w',C w → R w w' → C w') → C w →
   wpS P R md ops L f listed C a → wpAny P md ops Q (f + g) listed a w
 | 0,listed,C,a,w,hup,hC,h => by rw [Nat.zero_add]; exact hL _ _ _ _ hup hC h
 | f + 1,listed,C,a,w,hup,hC,h => by
  rw [show f + 1 + g = (f + g) + 1 by omega]
  refine ⟨fun h0 => absurd h0 h.1,fun i hi => ?_⟩
  obtain ⟨o,φ,ho,hφ,hy,hn⟩:=h.2 i hi
  refine hy.wpOp hrefl ho hC fun v w' hR hv => ?_
  exact wpS_sound hrefl hL f _ _ _ w' (fun w1 w2 h1 h2 => ⟨hup _ _ h1.1 h2,hφ _ _ _ h1.2 h2⟩) ⟨hup _ _ hC hR,hv⟩ (hn v ⟨w',hup _ _ hC hR,hv⟩)
def opE (P : Program) (ops : Array Oper) (Q : Exit → Act → World → Prop) (o : Oper) (a : Act) (w : World) (K : Act → World → Prop) : Prop:=
 if Region.wanted o (yielded ops a.tmps) then o.wp P a w K Q else K (a.put o.dst undef) w
def RW (P : Program) (R : World → World → Prop) (Q : Exit → Act → World → Prop) (ops : Array Oper) : List Nat → List Oper → (World → Prop) → Act → Prop
 | _,[],C,a => ∀ w,C w → Q .normal a w
 | 0 :: m,o :: r,C,a => ∃ v,YC P R ops C o (fun u _ => u = v) a ∧ RW P R Q ops m r C (a.put o.dst v)
 | 1 :: m,o :: r,C,a => ∃ φ : Value → World → Prop,(∀ v w w',φ v w → R w w' → φ v w') ∧ YC P R ops C o φ a ∧
   ∀ v,(∃ w,C w ∧ φ v w) → RW P R Q ops m r (fun w => C w ∧ φ v w) (a.put o.dst v)
 | m,o :: r,C,a => ∀ w,C w → opE P ops Q o a w (fun a' w' => RW P R Q ops m.tail r (R w') a')
theorem RW_nil {Q : Exit → Act → World → Prop} {m : List Nat} {C : World → Prop} {a : Act} : RW P R Q ops m [] C a = ∀ w,C w → Q .normal a w:=by
 unfold RW; rfl
theorem RW_zero {Q : Exit → Act → World → Prop} {m : List Nat} {C : World → Prop} {a : Act} {o : Oper} {r : List Oper} :
  RW P R Q ops (0 :: m) (o :: r) C a = ∃ v,YC P R ops C o (fun u _ => u = v) a ∧ RW P R Q ops m r C (a.put o.dst v):=by
 rw [RW]
theorem RW_one {Q : Exit → Act → World → Prop} {m : List Nat} {C : World → Prop} {a : Act} {o : Oper} {r : List Oper} :
  RW P R Q ops (1 :: m) (o :: r) C a = ∃ φ : Value → World → Prop,(∀ v w w',φ v w → R w w' → φ v w') ∧ YC P R ops C o φ a ∧
   ∀ v,(∃ w,C w ∧ φ v w) → RW P R Q ops m r (fun w => C w ∧ φ v w) (a.put o.dst v):=by
 rw [RW]
theorem RW_any {Q : Exit → Act → World → Prop} {k : Nat} {m : List Nat} {C : World → Prop} {a : Act} {o : Oper} {r : List Oper} :
  RW P R Q ops ((k + 2) :: m) (o :: r) C a = ∀ w,C w → opE P ops Q o a w (fun a' w' => RW P R Q ops m r (R w') a'):=by
 rw [RW]; rfl
 all_goals simp
theorem RW_none {Q : Exit → Act → World → Prop} {C : World → Prop} {a : Act} {o : Oper} {r : List Oper} :
  RW P R Q ops [] (o :: r) C a = ∀ w,C w → opE P ops Q o a w (fun a' w' => RW P R Q ops [] r (R w') a'):=by
 rw [RW]; rfl
 all_goals simp
def waits (md : Region.Mode) (ops : Array Oper) (j i : Nat) : Bool:=
 match ops[j]? with
 | some oj => oj.after.any fun e => Region.binds md e && e.on == i
 | none => false
def segT (md : Region.Mode) (ops : Array Oper) : List Nat → Nat → Array Bool → Nat × Array Bool
 | 0 :: m,k,listed => segT md ops m (k + 1) (listed.setIfInBounds k true)
 | 1 :: m,k,listed => segT md ops m (k + 1) (listed.setIfInBounds k true)
 | _,k,listed => (k,listed)
def sinkB (md : Region.Mode) (ops : Array Oper) (n : Nat) (listed : Array Bool) (i : Nat) : Bool:=
 (Region.ready md ops listed).isEmpty ||
 (decide (Region.ready md ops listed = [n]) && (List.range (n + 1)).any fun j => (j != i) && (j == n || listed.getD j false) && waits md ops j i)
def chk (md : Region.Mode) (ops : Array Oper) : List Nat → Nat → Array Bool → Bool
 | [],k,listed => (Region.ready md ops listed).isEmpty && decide (k = ops.size)
 | 0 :: m,k,listed => (Region.ready md ops listed).contains k && Region.free md ops listed k &&
   (let t:=segT md ops m (k + 1) (listed.setIfInBounds k true); sinkB md ops t.1 t.2 k) && chk md ops m (k + 1) (listed.setIfInBounds k true)
 | 1 :: m,k,listed => decide (Region.ready md ops listed = [k]) && chk md ops m (k + 1) (listed.setIfInBounds k true)
 | _ :: m,k,listed => decide (Region.ready md ops listed = [k]) && chk md ops m (k + 1) (listed.setIfInBounds k true)
def chkD (ops : Array Oper) (m : List Nat) : Bool:=Region.noSelect ops && chk .any ops m 0 (Array.replicate ops.size false)
theorem waits_spec {j i : Nat} (h : waits md ops j i = true) : ∃ oj,ops[j]? = some oj ∧ ∃ e ∈ oj.after,Region.binds md e = true ∧ e.on = i:=by
 unfold waits at h
 split at h
 ·rename_i oj hj
  obtain ⟨e,he,hb⟩:=Array.any_eq_true'.1 h
  simp only [Bool.and_eq_true,beq_iff_eq] at hb
  exact ⟨oj,hj,e,he,hb.1,hb.2⟩
 ·cases h
theorem sink_only {n i : Nat} {listed tgt : Array Bool} (hcl : Closed md ops listed) (hi : i ∈ Region.ready md ops listed)
  (ht : listed.setIfInBounds i true = tgt) (hs : sinkB md ops n tgt i = true) : ∀ j ∈ Region.ready md ops listed,j = i:=by
 intro j hj
 by_cases hji : j = i
 ·exact hji
 ·exfalso
  have hj2:=ready_mono hj hji
  rw [ht] at hj2
  have hiun:=(mem_ready.1 hi).1
  have hif : listed.getD i false = false:=by
   rcases Nat.lt_or_ge i listed.size with h' | h'
   ·simp [h'] at hiun ⊢; exact hiun
   ·simp [Array.getElem?_eq_none h']
  simp only [sinkB,Bool.or_eq_true,Bool.and_eq_true,decide_eq_true_eq,List.isEmpty_iff] at hs
  rcases hs with hs | ⟨hr,hs⟩
  ·rw [hs] at hj2; cases hj2
  ·rw [hr] at hj2
   have hjn : j = n:=by simpa using hj2
   subst hjn
   obtain ⟨x,hx,hx2⟩:=List.any_eq_true.1 hs
   simp only [Bool.and_eq_true,bne_iff_ne,ne_eq,Bool.or_eq_true,beq_iff_eq] at hx2
   obtain ⟨⟨hxi,hxl⟩,hw⟩:=hx2
   obtain ⟨ox,hox,e,he,hb,hon⟩:=waits_spec hw
   have hlisted : listed.getD i false = true:=by
    rcases hxl with rfl | hxl
    ·obtain ⟨_,oj,hoj,hall⟩:=mem_ready.1 hj
     have : oj = ox:=Option.some.inj (hoj.symm.trans hox)
     subst this
     have:=hall e he hb
     rwa [hon] at this
    ·rw [← ht,getD_set_ne false (Ne.symm hxi)] at hxl
     have:=hcl x ox hox hxl e he hb
     rwa [hon] at this
   rw [hif] at hlisted
   cases hlisted
def segM : List Nat → List Nat
 | 0 :: m => segM m
 | 1 :: m => segM m
 | m => m
def segL {α : Type} : List Nat → List α → List α
 | 0 :: m,l => segL m l.tail
 | 1 :: m,l => segL m l.tail
 | _,l => l
def segN : List Nat → Nat
 | 0 :: m => segN m + 1
 | 1 :: m => segN m + 1
 | _ => 0
theorem chk_seg : ∀ (m : List Nat) (k : Nat) (listed : Array Bool),chk md ops m k listed = true → chk md ops (segM m) (segT md ops m k listed).1 (segT md ops m k listed).2 = true
 | [],k,listed,h => by simpa [segM,segT] using h
 | 0 :: m,k,listed,h => by
  simp only [chk,Bool.and_eq_true] at h
  simpa [segM,segT] using chk_seg m _ _ h.2
 | 1 :: m,k,listed,h => by
  simp only [chk,Bool.and_eq_true] at h
  simpa [segM,segT] using chk_seg m _ _ h.2
 | (x + 2) :: m,k,listed,h => by simpa [segM,segT] using h
theorem seg_of_RW {Q : Exit → Act → World → Prop} (hrefl : ∀ w,R w w) (hsel : ∀ (j : Nat) (o : Oper) cs b,ops[j]? = some o → o.op ≠ .select cs b) :
  ∀ (m : List Nat) (l : List Oper) (k : Nat) (listed : Array Bool) (C : World → Prop) (a : Act),(∀ j,l[j]? = ops[k + j]?) → chk md ops m k listed = true →
   Closed md ops listed → (∃ w,C w) → RW P R Q ops m l C a →
   wpS P R md ops (fun listed' C' a' => listed' = (segT md ops m k listed).2 ∧ RW P R Q ops (segM m) (segL m l) C' a') (segN m) listed C a
 | [],l,k,listed,C,a,hl,hc,hcl,hne,h => by exact ⟨rfl,h⟩
 | (x + 2) :: m,l,k,listed,C,a,hl,hc,hcl,hne,h => by exact ⟨rfl,h⟩
 | 0 :: m,[],k,listed,C,a,hl,hc,hcl,hne,h => by
  exfalso
  simp only [chk,Bool.and_eq_true] at hc
  have hk : k ∈ Region.ready md ops listed:=by simpa using hc.1.1.1
  obtain ⟨_,o,ho,_⟩:=mem_ready.1 hk
  have:=hl 0
  simp [ho] at this
 | 1 :: m,[],k,listed,C,a,hl,hc,hcl,hne,h => by
  exfalso
  simp only [chk,Bool.and_eq_true,decide_eq_true_eq] at hc
  have hk : k ∈ Region.ready md ops listed:=by rw [hc.1]; simp
  obtain ⟨_,o,ho,_⟩:=mem_ready.1 hk
  have:=hl 0
  simp [ho] at this
 | 0 :: m,o :: r,k,listed,C,a,hl,hc,hcl,hne,h => by
  simp only [chk,Bool.and_eq_true] at hc
  obtain ⟨⟨⟨hrd,hfr⟩,hsk⟩,hrest⟩:=hc
  have hk : k ∈ Region.ready md ops listed:=by simpa using hrd
  have h0 : ops[k]? = some o:=by simpa using (hl 0).symm
  rw [RW_zero] at h
  obtain ⟨v,hy,hrw⟩:=h
  have hl' : ∀ j,r[j]? = ops[k + 1 + j]?:=fun j => by have:=hl (j + 1); simpa [Nat.add_assoc,Nat.add_comm 1 j] using this
  refine wpS_first (i:=k) (oi:=o) (v:=v) h0 hsel ?_ (segN m) listed C a hcl hne (Region.free_spec h0 hfr) hk hy ?_
  ·intro listed' C' a' hcl' hi' hL
   exact sink_only hcl' hi' hL.1 hsk
  ·rintro u ⟨w,hw,rfl⟩
   have hcls : (fun w => C w ∧ u = u) = C:=by
    funext w; exact propext ⟨fun h => h.1,fun h => ⟨h,rfl⟩⟩
   rw [hcls]
   exact seg_of_RW hrefl hsel m r (k + 1) _ C _ hl' hrest (hcl.set hk) hne hrw
 | 1 :: m,o :: r,k,listed,C,a,hl,hc,hcl,hne,h => by
  simp only [chk,Bool.and_eq_true,decide_eq_true_eq] at hc
  obtain ⟨hrd,hrest⟩:=hc
  have hk : k ∈ Region.ready md ops listed:=by rw [hrd]; simp
  have h0 : ops[k]? = some o:=by simpa using (hl 0).symm
  rw [RW_one] at h
  obtain ⟨φ,hφ,hy,hrw⟩:=h
  have hl' : ∀ j,r[j]? = ops[k + 1 + j]?:=fun j => by have:=hl (j + 1); simpa [Nat.add_assoc,Nat.add_comm 1 j] using this
  refine ⟨by rw [hrd]; simp,fun i hi => ?_⟩
  rw [hrd] at hi
  have hik : i = k:=by simpa using hi
  subst hik
  refine ⟨o,φ,h0,hφ,hy,fun v hv => ?_⟩
  exact seg_of_RW hrefl hsel m r (i + 1) _ _ _ hl' hrest (hcl.set hk) hv (hrw v hv)
theorem segT_closed {Q : Exit → Act → World → Prop} : ∀ (m : List Nat) (k : Nat) (listed : Array Bool),chk md ops m k listed = true → Closed md ops listed → Closed md ops (segT md ops m k listed).2
 | [],k,listed,h,hcl => by simpa [segT] using hcl
 | 0 :: m,k,listed,h,hcl => by
  simp only [chk,Bool.and_eq_true] at h
  simpa [segT] using segT_closed (Q:=Q) m _ _ h.2 (hcl.set (by simpa using h.1.1.1))
 | 1 :: m,k,listed,h,hcl => by
  simp only [chk,Bool.and_eq_true,decide_eq_true_eq] at h
  simpa [segT] using segT_closed (Q:=Q) m _ _ h.2 (hcl.set (by rw [h.1]; simp))
 | (x + 2) :: m,k,listed,h,hcl => by simpa [segT] using hcl
theorem segL_get {α : Type} (f : Nat → Option α) : ∀ (m : List Nat) (l : List α) (k : Nat) (listed : Array Bool),(∀ j,l[j]? = f (k + j)) →
  ∀ j,(segL m l)[j]? = f ((segT md ops m k listed).1 + j)
 | [],l,k,listed,h => by simpa [segL,segT] using h
 | (x + 2) :: m,l,k,listed,h => by simpa [segL,segT] using h
 | 0 :: m,l,k,listed,h => by
  simp only [segL,segT]
  refine segL_get f m l.tail (k + 1) _ fun j => ?_
  have:=h (j + 1)
  cases l <;> simpa [Nat.add_assoc,Nat.add_comm 1 j] using this
 | 1 :: m,l,k,listed,h => by
  simp only [segL,segT]
  refine segL_get f m l.tail (k + 1) _ fun j => ?_
  have:=h (j + 1)
  cases l <;> simpa [Nat.add_assoc,Nat.add_comm 1 j] using this
theorem segN_len : ∀ (m : List Nat),segN m + (segM m).length = m.length
 | [] => rfl
 | 0 :: m => by simp only [segN,segM,List.length_cons]; have:=segN_len m; omega
 | 1 :: m => by simp only [segN,segM,List.length_cons]; have:=segN_len m; omega
 | (x + 2) :: m => by simp [segN,segM]
theorem segM_form : ∀ (m : List Nat),segM m = [] ∨ ∃ x m',segM m = (x + 2) :: m'
 | [] => Or.inl rfl
 | 0 :: m => segM_form m
 | 1 :: m => segM_form m
 | (x + 2) :: m => Or.inr ⟨x,m,rfl⟩
theorem any_of_RW {Q : Exit → Act → World → Prop} (hrefl : ∀ w,R w w) (htrans : ∀ a b c,R a b → R b c → R a c)
  (hsel : ∀ (j : Nat) (o : Oper) cs b,ops[j]? = some o → o.op ≠ .select cs b) :
  ∀ (n : Nat) (m : List Nat) (l : List Oper) (k : Nat) (listed : Array Bool) (C : World → Prop) (a : Act) (w : World),m.length ≤ n → (∀ j,l[j]? = ops[k + j]?) →
   chk md ops m k listed = true → Closed md ops listed → (∀ w w',C w → R w w' → C w') → C w → RW P R Q ops m l C a → wpAny P md ops Q m.length listed a w:=by
 intro n
 induction n with
 | zero =>
  intro m l k listed C a w hm hl hc hcl hup hC h
  have hm0 : m = []:=List.eq_nil_of_length_eq_zero (by omega)
  subst hm0
  simp only [chk,Bool.and_eq_true,decide_eq_true_eq,List.isEmpty_iff] at hc
  have hl0 : l = []:=by
   cases l with
   | nil => rfl
   | cons o r => have:=hl 0; rw [hc.2] at this; simp at this
  subst hl0
  rw [RW_nil] at h
  exact ⟨hc.1,h w hC⟩
 | succ n ih =>
  intro m l k listed C a w hm hl hc hcl hup hC h
  have hs:=seg_of_RW (Q:=Q) hrefl hsel m l k listed C a hl hc hcl ⟨w,hC⟩ h
  have hc2:=chk_seg m k listed hc
  have hcl2:=segT_closed (Q:=Q) m k listed hc hcl
  have hl2:=segL_get (md:=md) (ops:=ops) (fun j => ops[j]?) m l k listed hl
  have hlen:=segN_len m
  have hL : ∀ (listed' : Array Bool) (C' : World → Prop) (a' : Act) (w' : World),(∀ w w',C' w → R w w' → C' w') → C' w' →
    (listed' = (segT md ops m k listed).2 ∧ RW P R Q ops (segM m) (segL m l) C' a') → wpAny P md ops Q (segM m).length listed' a' w':=by
   rintro listed' C' a' w' hup' hC' ⟨rfl,hrw⟩
   generalize (segT md ops m k listed).2 = tg at *
   generalize (segT md ops m k listed).1 = kk at *
   generalize segL m l = l2 at *
   have hform:=segM_form m
   rcases hform with he | ⟨x,m',he⟩
   ·rw [he] at hc2 hrw ⊢
    simp only [chk,Bool.and_eq_true,decide_eq_true_eq,List.isEmpty_iff] at hc2
    have hl0 : l2 = []:=by
     cases l2 with
     | nil => rfl
     | cons o r => have:=hl2 0; rw [hc2.2] at this; simp at this
    subst hl0
    rw [RW_nil] at hrw
    exact ⟨hc2.1,hrw w' hC'⟩
   ·rw [he] at hc2 hrw hlen ⊢
    simp only [chk,Bool.and_eq_true,decide_eq_true_eq] at hc2
    have hkk : kk ∈ Region.ready md ops tg:=by rw [hc2.1]; simp
    obtain ⟨_,o,ho,_⟩:=mem_ready.1 hkk
    cases l2 with
    | nil => have:=hl2 0; simp [ho] at this
    | cons o' r =>
     have hoo : o' = o:=by have:=hl2 0; simp [ho] at this; exact this
     subst hoo
     rw [RW_any] at hrw
     simp only [List.length_cons]
     refine ⟨fun h0 => (by rw [hc2.1] at h0; cases h0),fun i hi => ?_⟩
     rw [hc2.1] at hi
     have hik : i = kk:=by simpa using hi
     subst hik
     have hop:=hrw w' hC'
     unfold wpOp
     simp only [ho]
     unfold opE at hop
     have hstep : ∀ a2 w2,RW P R Q ops m' r (R w2) a2 → wpAny P md ops Q m'.length (tg.setIfInBounds i true) a2 w2:=fun a2 w2 h2 =>
      ih m' r (i + 1) _ (R w2) a2 w2 (by simp only [List.length_cons] at hlen; omega)
       (fun j => by have:=hl2 (j + 1); simpa [Nat.add_assoc,Nat.add_comm 1 j] using this) hc2.2 (hcl2.set hkk)
       (fun w3 w4 h3 h4 => htrans _ _ _ h3 h4) (hrefl w2) h2
     split
     ·rename_i hw
      rw [if_pos hw] at hop
      exact Or.inl (Oper.wp_mono hstep hop)
     ·rename_i hw
      rw [if_neg hw] at hop
      exact hstep _ _ hop
  have main:=wpS_sound (Q:=Q) (g:=(segM m).length) hrefl (L:=fun listed' C' a' => listed' = (segT md ops m k listed).2 ∧ RW P R Q ops (segM m) (segL m l) C' a') hL
   (segN m) listed C a w hup hC hs
  rw [hlen] at main
  exact main
theorem region_draw {id : Nat} {Q : Exit → Act → World → Prop} {a : Act} {w : World} {l : List Oper} (m : List Nat) (hm : P.follows .mixedOrders = true)
  (hrefl : ∀ w,R w w) (htrans : ∀ a b c,R a b → R b c → R a c) (hc : chkD l.toArray m = true)
  (h : RW P R Q l.toArray m l (R w.drew) a) : (Code.region id l.toArray true).wp P Q a w:=by
 simp only [chkD,Bool.and_eq_true] at hc
 refine wp_region_any hm ?_
 have hlen : m.length = l.toArray.size:=by
  have key : ∀ (m : List Nat) (k : Nat) (listed : Array Bool),chk .any l.toArray m k listed = true → k + m.length = l.toArray.size:=by
   intro m
   induction m with
   | nil => intro k listed h; simp only [chk,Bool.and_eq_true,decide_eq_true_eq] at h; simpa using h.2
   | cons x m ih =>
    intro k listed h
    match x with
    | 0 => simp only [chk,Bool.and_eq_true] at h; have:=ih _ _ h.2; simp only [List.length_cons]; omega
    | 1 => simp only [chk,Bool.and_eq_true] at h; have:=ih _ _ h.2; simp only [List.length_cons]; omega
    | x + 2 => simp only [chk,Bool.and_eq_true] at h; have:=ih _ _ h.2; simp only [List.length_cons]; omega
  have:=key m 0 _ hc.2
  omega
 have:=any_of_RW (md:=.any) (Q:=Q) hrefl htrans (Region.noSelect_spec hc.1) m.length m l 0 _ (R w.drew) a w.drew (Nat.le_refl _) (by simp) hc.2 (Closed.init _)
  (fun w1 w2 h1 h2 => htrans _ _ _ h1 h2) (hrefl _) h
 rw [hlen] at this
 exact this
theorem region_text {id : Nat} {Q : Exit → Act → World → Prop} {a : Act} {w : World} {l : List Oper} (hrefl : ∀ w,R w w)
  (h : RW P R Q l.toArray [] l (R w) a) : (Code.region id l.toArray false).wp P Q a w:=by
 refine wp_region_lit ?_
 suffices H : ∀ (l' : List Oper) (a : Act) (w : World),RW P R Q l.toArray [] l' (R w) a → wpList P l.toArray Q l' a w from H l a w h
 intro l'
 induction l' with
 | nil => intro a w h; rw [RW_nil] at h; exact h w (hrefl w)
 | cons o r ih =>
  intro a w h
  rw [RW_none] at h
  have hop:=h w (hrefl w)
  unfold opE at hop
  refine wpList_step fun K hK => ?_
  split
  ·rename_i hw
   rw [if_pos hw] at hop
   exact Oper.wp_mono (fun a2 w2 h2 => hK _ _ (ih a2 w2 h2)) hop
  ·rename_i hw
   rw [if_neg hw] at hop
   exact hK _ _ (ih _ _ hop)
end core
end Go.Wk
namespace Go.Wk
open Go Go.RowKit
abbrev Slots:=List (Nat × Value)
def look : Slots → Nat → Option Value
 | [],_ => none
 | (d,v) :: e,t => bif Nat.beq d t then some v else look e t
def ev (s : Slots) : Operand → Option Value
 | .tmp t => look s t
 | .const v => some v
 | .global g => some (.pointer (some ⟨g,0,none⟩))
 | .func f => some (.func (.func f) #[] #[])
def evs (s : Slots) : List Operand → Option (List Value)
 | [] => some []
 | x :: r => match ev s x with
  | none => none
  | some v => match evs s r with
   | none => none
   | some vs => some (v :: vs)
theorem beqF {a b : Nat} (h : ¬ a = b) : Nat.beq a b = false:=by
 cases hb : Nat.beq a b with
 | false => rfl
 | true => exact absurd (Nat.eq_of_beq_eq_true hb) h
structure Has (n : Nat) (s : Slots) (ds : List Deferred) (a : Act) : Prop where
 size : a.tmps.size = n
 ds : a.defers = ds
 val : ∀ t v,look s t = some v → a.tmps.getD t undef = v
theorem Has.put {n : Nat} {s : Slots} {ds : List Deferred} {a : Act} (h : Has n s ds a) {d : Nat} (hd : Nat.blt d n = true) (v : Value) : Has n ((d,v) :: s) ds (a.put (some d) v):=by
 have hlt : d < a.tmps.size:=by rw [h.size]; simpa [Nat.blt_eq] using hd
 refine ⟨by simp [Act.put,h.size],by simp [Act.put,h.ds],fun t u hu => ?_⟩
 simp only [look] at hu
 by_cases hdt : d = t
 ·subst hdt
  simp at hu
  subst hu
  simp [Act.put,hlt]
 ·have : Nat.beq d t = false:=beqF hdt
  rw [this] at hu
  have:=h.val t u (by simpa using hu)
  simp only [Act.put,Array.getD_eq_getD_getElem?,Array.getElem?_setIfInBounds_ne hdt] at this ⊢
  exact this
theorem Has.ev {n : Nat} {s : Slots} {ds : List Deferred} {a : Act} (h : Has n s ds a) {x : Operand} {v : Value} (hx : ev s x = some v) : a.eval x = v:=by
 cases x with
 | tmp t => exact h.val t v hx
 | const c => simpa [Wk.ev,Act.eval] using hx
 | global g => simpa [Wk.ev,Act.eval] using hx
 | func f => simpa [Wk.ev,Act.eval] using hx
theorem Has.evs {n : Nat} {s : Slots} {ds : List Deferred} {a : Act} (h : Has n s ds a) : ∀ {xs : List Operand} {vs : List Value},evs s xs = some vs → xs.map a.eval = vs
 | [],vs,hx => by simp only [Wk.evs,Option.some.injEq] at hx; subst hx; rfl
 | x :: r,vs,hx => by
  simp only [Wk.evs] at hx
  split at hx
  ·cases hx
  ·rename_i v hv
   split at hx
   ·cases hx
   ·rename_i us hu
    simp only [Option.some.injEq] at hx
    subst hx
    simp [h.ev hv,h.evs hu]
def SubL : Slots → Slots → Prop
 | [],_ => True
 | (d,v) :: s,s' => look s' d = some v ∧ SubL s s'
theorem SubL.look {s s' : Slots} (h : SubL s s') : ∀ t v,look s t = some v → look s' t = some v:=by
 induction s with
 | nil => intro t v hv; cases hv
 | cons p s ih =>
  obtain ⟨d,u⟩:=p
  intro t v hv
  simp only [Wk.look] at hv
  by_cases hdt : d = t
  ·subst hdt
   simp at hv
   subst hv
   exact h.1
  ·have : Nat.beq d t = false:=beqF hdt
   rw [this] at hv
   exact ih h.2 t v (by simpa using hv)
theorem Has.sub {n : Nat} {s s' : Slots} {ds : List Deferred} {a : Act} (h : Has n s' ds a) (hs : SubL s s') : Has n s ds a:=
 ⟨h.size,h.ds,fun t v hv => h.val t v (hs.look t v hv)⟩
structure Ks where
 n : Slots → List Deferred → World → Prop
 r : Slots → List Deferred → World → Prop
 x : Nat → Slots → List Deferred → World → Prop
def Ks.Q (k : Ks) (n : Nat) : Exit → Act → World → Prop
 | .normal,a,w => ∃ s ds,Has n s ds a ∧ k.n s ds w
 | .ret,a,w => ∃ s ds,Has n s ds a ∧ k.r s ds w
 | .exit i,a,w => ∃ s ds,Has n s ds a ∧ k.x i s ds w
 | _,_,_ => False
structure CE (P : Program) (n : Nat) (c : Code) (k : Ks) (s : Slots) (ds : List Deferred) (w : World) : Prop where
 out : ∀ a,Has n s ds a → c.wp P (k.Q n) a w
section code
variable {P : Program} {n : Nat} {k : Ks} {s : Slots} {ds : List Deferred} {w : World}
theorem CE.seq {x y : Code} (h : CE P n x ⟨fun s ds w => CE P n y k s ds w,k.r,k.x⟩ s ds w) : CE P n (.seq x y) k s ds w:=by
 refine ⟨fun a ha => wp_seq (wp_mono (h.out a ha) fun e a' w' hq => ?_)⟩
 cases e with
 | normal => obtain ⟨s',ds',h1,h2⟩:=hq; exact h2.out a' h1
 | _ => exact hq
theorem CE.skip (h : k.n s ds w) : CE P n .skip k s ds w:=⟨fun _ ha => wp_skip ⟨s,ds,ha,h⟩⟩
theorem CE.label {l : Nat} (h : k.n s ds w) : CE P n (.label l) k s ds w:=⟨fun _ ha => wp_label ⟨s,ds,ha,h⟩⟩
theorem CE.ret (h : k.r s ds w) : CE P n .ret k s ds w:=⟨fun _ ha => wp_ret ⟨s,ds,ha,h⟩⟩
theorem CE.exit {i : Nat} (h : k.x i s ds w) : CE P n (.exit i) k s ds w:=⟨fun _ ha => wp_exit ⟨s,ds,ha,h⟩⟩
theorem CE.block {i : Nat} {c : Code} (h : CE P n c ⟨k.n,k.r,fun j s ds w => bif Nat.beq j i then k.n s ds w else k.x j s ds w⟩ s ds w) : CE P n (.block i c) k s ds w:=by
 refine ⟨fun a ha => wp_block (wp_mono (h.out a ha) fun e a' w' hq => ?_)⟩
 cases e with
 | exit j =>
  obtain ⟨s',ds',h1,h2⟩:=hq
  show (if j = i then k.Q n .normal a' w' else k.Q n (.exit j) a' w')
  by_cases hji : j = i
  ·subst hji
   simp at h2
   rw [if_pos rfl]
   exact ⟨s',ds',h1,h2⟩
  ·have : Nat.beq j i = false:=beqF hji
   simp only [this,cond_false] at h2
   rw [if_neg hji]
   exact ⟨s',ds',h1,h2⟩
 | _ => exact hq
theorem CE.cond_t {c : Operand} {x y : Code} (hc : ev s c = some (.bool true)) (h : CE P n x k s ds w) : CE P n (.cond c x y) k s ds w:=
 ⟨fun a ha => wp_cond_true (ha.ev hc) (h.out a ha)⟩
theorem CE.cond_f {c : Operand} {x y : Code} (hc : ev s c = some (.bool false)) (h : CE P n y k s ds w) : CE P n (.cond c x y) k s ds w:=
 ⟨fun a ha => wp_cond_false (ha.ev hc) (h.out a ha)⟩
theorem Has.bool {a : Act} {t : Tmp} {b : Bool} (ha : Has n s ds a) (ht : look s t = some (.bool b)) : Has n ((t,.bool b) :: s) ds a:=by
 refine ⟨ha.size,ha.ds,fun u v hv => ?_⟩
 simp only [look] at hv
 by_cases htu : t = u
 ·subst htu
  simp at hv
  subst hv
  exact ha.val _ _ ht
 ·have : Nat.beq t u = false:=beqF htu
  rw [this] at hv
  exact ha.val u v (by simpa using hv)
theorem CE.cond_s {t : Tmp} {x y : Code} {b : Bool} (hc : look s t = some (.bool b)) (h1 : b = true → CE P n x k ((t,.bool true) :: s) ds w)
  (h2 : b = false → CE P n y k ((t,.bool false) :: s) ds w) : CE P n (.cond (.tmp t) x y) k s ds w:=
 ⟨fun a ha => wp_cond_split (ha.ev (x:=.tmp t) hc) (fun h => (h1 h).out a (h ▸ ha.bool hc)) (fun h => (h2 h).out a (h ▸ ha.bool hc))⟩
theorem CE.cond_d {t : Tmp} {x y : Code} {p : Prop} [Decidable p] (hc : look s t = some (.bool (decide p))) (h1 : p → CE P n x k ((t,.bool true) :: s) ds w)
  (h2 : ¬ p → CE P n y k ((t,.bool false) :: s) ds w) : CE P n (.cond (.tmp t) x y) k s ds w:=
 CE.cond_s hc (fun h => h1 (of_decide_eq_true h)) (fun h => h2 (of_decide_eq_false h))
theorem CE.sub {c : Code} {s' : Slots} (hs : SubL s' s) (h : CE P n c k s' ds w) : CE P n c k s ds w:=⟨fun a ha => h.out a (ha.sub hs)⟩
theorem CE.mono {c : Code} {k' : Ks} (h : CE P n c k s ds w) (hn : ∀ s ds w,k.n s ds w → k'.n s ds w) (hr : ∀ s ds w,k.r s ds w → k'.r s ds w)
  (hx : ∀ i s ds w,k.x i s ds w → k'.x i s ds w) : CE P n c k' s ds w:=by
 refine ⟨fun a ha => wp_mono (h.out a ha) fun e a' w' hq => ?_⟩
 cases e with
 | normal => obtain ⟨s',ds',h1,h2⟩:=hq; exact ⟨s',ds',h1,hn _ _ _ h2⟩
 | ret => obtain ⟨s',ds',h1,h2⟩:=hq; exact ⟨s',ds',h1,hr _ _ _ h2⟩
 | exit i => obtain ⟨s',ds',h1,h2⟩:=hq; exact ⟨s',ds',h1,hx _ _ _ _ h2⟩
 | _ => exact hq
theorem CE.cut {c : Code} (J : Slots → List Deferred → World → Prop) (h : CE P n c ⟨J,k.r,k.x⟩ s ds w) (hJ : ∀ s ds w,J s ds w → k.n s ds w) : CE P n c k s ds w:=
 h.mono hJ (fun _ _ _ h => h) (fun _ _ _ _ h => h)
theorem CE.loop {c : Code} {α : Type} (S : α → Slots) (W : α → World → Prop) (μ : α → Nat) (x0 : α) (hs : SubL (S x0) s) (h0 : W x0 w)
  (round : ∀ x w,W x w → CE P n c ⟨fun s' ds' w' => ∃ y,μ y < μ x ∧ ds' = ds ∧ SubL (S y) s' ∧ W y w',k.r,k.x⟩ (S x) ds w) : CE P n (.loop c) k s ds w:=by
 refine ⟨fun a ha b kk cs => ?_⟩
 have key : ∀ m,∀ x a w,μ x = m → Has n (S x) ds a → W x w →
   ∃ e a' w',k.Q n e a' w' ∧ Arrives P (lone (b.at a (.code c :: .inLoop c :: kk)) cs w) b kk cs e a' w':=by
  intro m
  induction m using Nat.strongRecOn with
  | _ m ih =>
   intro x a w hm ha hW
   obtain ⟨e,a1,w1,hq,harr⟩:=(round x w hW).out a ha b (.inLoop c :: kk) cs
   cases e with
   | normal =>
    obtain ⟨s',ds',h1,y,hlt,rfl,hsub,hW'⟩:=hq
    obtain ⟨e2,a2,w2,hq2,harr2⟩:=ih (μ y) (hm ▸ hlt) y a1 w1 rfl (h1.sub hsub) hW'
    exact ⟨e2,a2,w2,hq2,.of_steps (Steps.trans harr (.one step_inLoop)) harr2⟩
   | exit id => exact ⟨.exit id,a1,w1,hq,.pass (x:=.inLoop c) rfl (fun _ _ => .inl (by simp)) harr⟩
   | goto l => exact ⟨.goto l,a1,w1,hq,.pass (x:=.inLoop c) rfl (fun _ _ => .inl (by simp)) harr⟩
   | ret => exact ⟨.ret,a1,w1,hq,.pass (x:=.inLoop c) rfl (fun _ _ => .inl (by simp)) harr⟩
   | panic ch => exact ⟨.panic ch,a1,w1,hq,.pass (x:=.inLoop c) rfl (fun _ _ => .inl (by simp)) harr⟩
   | outgrown => exact ⟨.outgrown,a1,w1,hq,.pass (x:=.inLoop c) rfl (fun _ _ => .inl (by simp)) harr⟩
 obtain ⟨e,a',w',hq,harr⟩:=key _ x0 a w rfl (ha.sub hs) h0
 exact ⟨e,a',w',hq,.of_steps (.one step_loop) harr⟩
end code
structure Op1 (P : Program) (o : Oper) (n : Nat) (s : Slots) (v : Value) (w : World) : Prop where
 out : ∀ ds a,Has n s ds a → (execOp a.eval o).run P w = .ok (.value v) w
structure RE (P : Program) (R : World → World → Prop) (n : Nat) (k : Ks) (ops : Array Oper) (m : List Nat) (l : List Oper) (C : World → Prop) (s : Slots) (ds : List Deferred) : Prop where
 out : ∀ a,Has n s ds a → RW P R (k.Q n) ops m l C a
structure Fn (P : Program) (f : FuncId) (args : List Value) (w : World) (Φ : Value → World → Prop) : Prop where
 out : Calls P f args.toArray w (fun e w' => ∃ v,e = .returned v ∧ Φ v w')
theorem Fn.mono {P : Program} {f : FuncId} {args : List Value} {w : World} {Φ Ψ : Value → World → Prop} (h : Fn P f args w Φ) (hk : ∀ v w',Φ v w' → Ψ v w') : Fn P f args w Ψ:=
 ⟨Calls.mono h.out fun _ _ ⟨v,he,hv⟩ => ⟨v,he,hk _ _ hv⟩⟩
def Enters (P : Program) (f : FuncId) : Prop:=∀ args w,(callFunc f args).run P w = .ok (.enter f args) w
theorem enters_of {P : Program} {f : FuncId} {fn : Func} (hf : P.funcs[f]? = some fn) (hb : fn.body.isNone = false) (hn : (fn.name == "runtime.NumGoroutine") = false) : Enters P f := by
 intro args w
 unfold callFunc
 simp only [Sem.run_bind,run_program,Result.andThen_ok,hf,hn,hb,Bool.false_eq_true,if_false]
 rfl
section region
variable {P : Program} {R : World → World → Prop} {n : Nat} {k : Ks} {ops : Array Oper} {m : List Nat} {l r : List Oper} {C : World → Prop} {s : Slots} {ds : List Deferred}
 {d : Nat} {op : Op} {ty : TypeId} {pos : String} {af : Array Edge} {v : Value} {w : World}
theorem RE.nil (h : ∀ w,C w → k.n s ds w) : RE P R n k ops m [] C s ds:=⟨fun a ha => by rw [RW_nil]; exact fun w hw => ⟨s,ds,ha,h w hw⟩⟩
theorem RE.nilx (h : k.n s ds w) : RE P R n k ops m [] (Eq w) s ds:=RE.nil fun _ hw => hw ▸ h
theorem wanted_none (o : Oper) (y : Nat → Option Bool) (h : o.guard = none) : Region.wanted o y = true:=by simp [Region.wanted,h]
theorem RE.dd (h : ∀ w,C w → Op1 P ⟨some d,op,ty,pos,af,none⟩ n s v w) (hd : Nat.blt d n = true) (hR : ∀ w,R w w)
  (h2 : RE P R n k ops m r C ((d,v) :: s) ds) : RE P R n k ops (0 :: m) (⟨some d,op,ty,pos,af,none⟩ :: r) C s ds:=by
 refine ⟨fun a ha => ?_⟩
 rw [RW_zero]
 refine ⟨v,⟨fun _ w hw => ?_,fun hf => ?_⟩,h2.out _ (ha.put hd v)⟩
 ·rw [(h w hw).out ds a ha]; exact ⟨hR w,rfl⟩
 ·simp [Region.wanted] at hf
theorem RE.d1 (h : Op1 P ⟨some d,op,ty,pos,af,none⟩ n s v w) (hd : Nat.blt d n = true)
  (h2 : RE P Eq n k ops m r (Eq w) ((d,v) :: s) ds) : RE P Eq n k ops (0 :: m) (⟨some d,op,ty,pos,af,none⟩ :: r) (Eq w) s ds:=
 RE.dd (by rintro _ rfl; exact h) hd (fun _ => rfl) h2
theorem RE.x (h : Op1 P ⟨some d,op,ty,pos,af,none⟩ n s v w) (hd : Nat.blt d n = true)
  (h2 : RE P Eq n k ops [] r (Eq w) ((d,v) :: s) ds) : RE P Eq n k ops [] (⟨some d,op,ty,pos,af,none⟩ :: r) (Eq w) s ds:=by
 refine ⟨fun a ha => ?_⟩
 rw [RW_none]
 rintro w1 rfl
 unfold opE
 rw [if_pos (by simp [Region.wanted])]
 unfold Oper.wp
 rw [h.out ds a ha]
 exact h2.out _ (ha.put hd v)
structure OpE (P : Program) (o : Oper) (n : Nat) (s : Slots) (w : World) (Φ : Value → World → Prop) : Prop where
 out : ∀ ds a,Has n s ds a → ∃ v w',((execOp a.eval o).run P w = .ok (.value v) w' ∨ ((execOp a.eval o).run P w = .ok .skip w' ∧ v = undef)) ∧ Φ v w'
theorem opE_of {Q : Exit → Act → World → Prop} {o : Oper} {a : Act} {Φ : Value → World → Prop} {K : Act → World → Prop} (hg : o.guard = none)
  (h : OpE P o n s w Φ) (ha : Has n s ds a) (hk : ∀ v w',Φ v w' → K (a.put o.dst v) w') : opE P ops Q o a w K:=by
 unfold opE
 rw [if_pos (wanted_none _ _ hg)]
 obtain ⟨v,w',hr,hφ⟩:=h.out ds a ha
 unfold Oper.wp
 rcases hr with hr | ⟨hr,rfl⟩ <;> rw [hr]
 ·exact hk v w' hφ
 ·exact hk undef w' hφ
theorem RE.xe {Φ : Value → World → Prop} (h : OpE P ⟨some d,op,ty,pos,af,none⟩ n s w Φ) (hd : Nat.blt d n = true)
  (h2 : ∀ v w',Φ v w' → RE P Eq n k ops [] r (Eq w') ((d,v) :: s) ds) : RE P Eq n k ops [] (⟨some d,op,ty,pos,af,none⟩ :: r) (Eq w) s ds:=by
 refine ⟨fun a ha => ?_⟩
 rw [RW_none]
 rintro w1 rfl
 exact opE_of rfl h ha fun v w' hφ => (h2 v w' hφ).out _ (ha.put hd v)
theorem RE.xs {Φ : Value → World → Prop} (h : OpE P ⟨none,op,ty,pos,af,none⟩ n s w Φ)
  (h2 : ∀ v w',Φ v w' → RE P Eq n k ops [] r (Eq w') s ds) : RE P Eq n k ops [] (⟨none,op,ty,pos,af,none⟩ :: r) (Eq w) s ds:=by
 refine ⟨fun a ha => ?_⟩
 rw [RW_none]
 rintro w1 rfl
 exact opE_of rfl h ha fun v w' hφ => (h2 v w' hφ).out _ ha
theorem RE.ee {c : Nat} {Φ : World → Value → World → Prop} (h : ∀ w,C w → OpE P ⟨some d,op,ty,pos,af,none⟩ n s w (Φ w)) (hd : Nat.blt d n = true)
  (h2 : ∀ w,C w → ∀ v w',Φ w v w' → RE P R n k ops m r (R w') ((d,v) :: s) ds) : RE P R n k ops ((c + 2) :: m) (⟨some d,op,ty,pos,af,none⟩ :: r) C s ds:=by
 refine ⟨fun a ha => ?_⟩
 rw [RW_any]
 intro w1 hw1
 exact opE_of rfl (h w1 hw1) ha fun v w' hφ => (h2 w1 hw1 v w' hφ).out _ (ha.put hd v)
theorem RE.es {c : Nat} {Φ : World → Value → World → Prop} (h : ∀ w,C w → OpE P ⟨none,op,ty,pos,af,none⟩ n s w (Φ w))
  (h2 : ∀ w,C w → ∀ v w',Φ w v w' → RE P R n k ops m r (R w') s ds) : RE P R n k ops ((c + 2) :: m) (⟨none,op,ty,pos,af,none⟩ :: r) C s ds:=by
 refine ⟨fun a ha => ?_⟩
 rw [RW_any]
 intro w1 hw1
 exact opE_of rfl (h w1 hw1) ha fun v w' hφ => (h2 w1 hw1 v w' hφ).out _ ha
theorem run_call {f : FuncId} {args : List Operand} {ats : Array TypeId} {g : Option (Nat × Bool)} {dst : Option Tmp} {vs : List Value} {a : Act} (hf : Enters P f) (ha : Has n s ds a) (hx : evs s args = some vs) (w : World) :
  (execOp a.eval ⟨dst,.call { callee:=.value (.func f),args:=args.toArray,argTypes:=ats },ty,pos,af,g⟩).run P w = .ok (.enter f vs.toArray) w:=by
 have h1:=ha.evs hx
 have h2:=hf vs.toArray w
 simp only [execOp,resolve,Sem.run_bind,Act.eval,Deferred.ofValue,List.map_toArray,Sem.run_pure,Result.andThen_ok,invoke,Array.append_empty,Array.empty_append]
 have h3 : List.map a.eval args = vs:=h1
 rw [show (List.map (fun x => a.eval x) args).toArray = vs.toArray by rw [← h3]]
 exact h2
theorem RE.xc {f : FuncId} {args : List Operand} {ats : Array TypeId} {vs : List Value} {Φ : Value → World → Prop} (hf : Enters P f) (hx : evs s args = some vs) (hd : Nat.blt d n = true)
  (h : Fn P f vs w Φ) (h2 : ∀ v w',Φ v w' → RE P Eq n k ops [] r (Eq w') ((d,v) :: s) ds) :
  RE P Eq n k ops [] (⟨some d,.call { callee:=.value (.func f),args:=args.toArray,argTypes:=ats },ty,pos,af,none⟩ :: r) (Eq w) s ds:=by
 refine ⟨fun a ha => ?_⟩
 rw [RW_none]
 rintro w1 rfl
 unfold opE
 rw [if_pos (by simp [Region.wanted])]
 unfold Oper.wp
 rw [run_call hf ha hx]
 refine Calls.mono h.out ?_
 rintro e w' ⟨v,rfl,hv⟩
 exact (h2 v w' hv).out _ (ha.put hd v)
theorem RE.ec {c : Nat} {f : FuncId} {args : List Operand} {ats : Array TypeId} {vs : List Value} {Φ : World → Value → World → Prop} (hf : Enters P f) (hx : evs s args = some vs) (hd : Nat.blt d n = true)
  (h : ∀ w,C w → Fn P f vs w (Φ w)) (h2 : ∀ w,C w → ∀ v w',Φ w v w' → RE P R n k ops m r (R w') ((d,v) :: s) ds) :
  RE P R n k ops ((c + 2) :: m) (⟨some d,.call { callee:=.value (.func f),args:=args.toArray,argTypes:=ats },ty,pos,af,none⟩ :: r) C s ds:=by
 refine ⟨fun a ha => ?_⟩
 rw [RW_any]
 intro w1 hw1
 unfold opE
 rw [if_pos (by simp [Region.wanted])]
 unfold Oper.wp
 rw [run_call hf ha hx]
 refine Calls.mono (h w1 hw1).out ?_
 rintro e w' ⟨v,rfl,hv⟩
 exact (h2 w1 hw1 v w' hv).out _ (ha.put hd v)
theorem RE.es1 {c : Nat} {Φ : Value → World → Prop} (h : OpE P ⟨none,op,ty,pos,af,none⟩ n s w Φ)
  (h2 : ∀ v w',Φ v w' → RE P Eq n k ops m r (Eq w') s ds) : RE P Eq n k ops ((c + 2) :: m) (⟨none,op,ty,pos,af,none⟩ :: r) (Eq w) s ds:=
 RE.es (Φ:=fun _ => Φ) (by rintro _ rfl; exact h) (by rintro _ rfl; exact h2)
theorem RE.ec1 {c : Nat} {f : FuncId} {args : List Operand} {ats : Array TypeId} {vs : List Value} {Φ : Value → World → Prop} (hf : Enters P f) (hx : evs s args = some vs) (hd : Nat.blt d n = true)
  (h : Fn P f vs w Φ) (h2 : ∀ v w',Φ v w' → RE P Eq n k ops m r (Eq w') ((d,v) :: s) ds) :
  RE P Eq n k ops ((c + 2) :: m) (⟨some d,.call { callee:=.value (.func f),args:=args.toArray,argTypes:=ats },ty,pos,af,none⟩ :: r) (Eq w) s ds:=
 RE.ec (Φ:=fun _ => Φ) hf hx hd (by rintro _ rfl; exact h) (by rintro _ rfl; exact h2)
theorem RE.dc {f : FuncId} {args : List Operand} {ats : Array TypeId} {vs : List Value} (hf : Enters P f) (hx : evs s args = some vs) (hd : Nat.blt d n = true)
  (h : ∀ w,C w → Fn P f vs w (fun u w' => u = v ∧ R w w')) (h2 : RE P R n k ops m r C ((d,v) :: s) ds) :
  RE P R n k ops (0 :: m) (⟨some d,.call { callee:=.value (.func f),args:=args.toArray,argTypes:=ats },ty,pos,af,none⟩ :: r) C s ds:=by
 refine ⟨fun a ha => ?_⟩
 rw [RW_zero]
 refine ⟨v,⟨fun _ w hw => ?_,fun hf => ?_⟩,h2.out _ (ha.put hd v)⟩
 ·rw [run_call hf ha hx]
  refine Calls.mono (h w hw).out ?_
  rintro e w' ⟨u,rfl,rfl,hR⟩
  exact ⟨_,rfl,hR,rfl⟩
 ·simp [Region.wanted] at hf
theorem RE.ge {φ : Value → World → Prop} (hd : Nat.blt d n = true)
  (hφ : ∀ v w w',φ v w → R w w' → φ v w')
  (h : ∀ w,C w → OpE P ⟨some d,op,ty,pos,af,none⟩ n s w (fun u w' => φ u w' ∧ R w w')) (h2 : ∀ v,RE P R n k ops m r (fun w => C w ∧ φ v w) ((d,v) :: s) ds) :
  RE P R n k ops (1 :: m) (⟨some d,op,ty,pos,af,none⟩ :: r) C s ds:=by
 refine ⟨fun a ha => ?_⟩
 rw [RW_one]
 refine ⟨φ,hφ,⟨fun _ w hw => ?_,fun hf => ?_⟩,fun v _ => (h2 v).out _ (ha.put hd v)⟩
 ·obtain ⟨v,w',hr,hv,hR⟩:=(h w hw).out ds a ha
  rcases hr with hr | ⟨hr,rfl⟩ <;> rw [hr]
  ·exact ⟨hR,hv⟩
  ·exact ⟨hR,hv⟩
 ·simp [Region.wanted] at hf
def gslot (ops : Array Oper) (g : Nat) : Option Tmp:=(ops[g]?).bind (·.dst)
theorem yielded_of {g : Nat} {t : Tmp} {b : Bool} {a : Act} (hg : gslot ops g = some t) (ht : look s t = some (.bool b)) (ha : Has n s ds a) : yielded ops a.tmps g = some b:=by
 have h1:=ha.val t _ ht
 unfold gslot at hg
 unfold yielded
 rw [hg]
 have h2 : a.tmps[t]? = some (.bool b):=by
  rw [Array.getD_eq_getD_getElem?] at h1
  cases hx : a.tmps[t]? with
  | none => rw [hx] at h1; exact absurd h1 (by simp [undef])
  | some v => rw [hx] at h1; exact congrArg some h1
 simp [h2]
theorem RW_guard {Q : Exit → Act → World → Prop} {o o' : Oper} {a : Act} (hdst : o.dst = o'.dst)
  (hw : Region.wanted o (yielded ops a.tmps) = Region.wanted o' (yielded ops a.tmps)) (hex : execOp a.eval o = execOp a.eval o')
  (h : RW P R Q ops m (o :: r) C a) : RW P R Q ops m (o' :: r) C a:=by
 have hyc : ∀ φ,YC P R ops C o φ a → YC P R ops C o' φ a:=fun φ hy => ⟨fun h1 => hex ▸ hy.yes (hw ▸ h1),fun h1 => hy.no (hw ▸ h1)⟩
 have hopE : ∀ w K,opE P ops Q o a w K → opE P ops Q o' a w K:=by
  intro w K hh
  unfold opE at *
  rw [← hw]
  split
  ·rename_i h1
   rw [if_pos h1] at hh
   unfold Oper.wp at *
   rw [← hex]
   revert hh
   generalize (execOp a.eval o).run P w = res
   intro hh
   cases res with
   | ok nx w' => cases nx <;> simp only [Oper.upon] at hh ⊢ <;> first | (rw [← hdst]; exact hh)|exact hh
   | halt x w' => cases x <;> simp only [Oper.upon] at hh ⊢ <;> exact hh
  ·rename_i h1
   rw [if_neg h1] at hh
   rw [← hdst]; exact hh
 match m with
 | 0 :: m =>
  rw [RW_zero] at *
  obtain ⟨v,hy,h2⟩:=h
  exact ⟨v,hyc _ hy,hdst ▸ h2⟩
 | 1 :: m =>
  rw [RW_one] at *
  obtain ⟨φ,hφ,hy,h2⟩:=h
  exact ⟨φ,hφ,hyc _ hy,fun v hv => hdst ▸ h2 v hv⟩
 | (x + 2) :: m =>
  rw [RW_any] at *
  exact fun w hw => hopE _ _ (h w hw)
 | [] =>
  rw [RW_none] at *
  exact fun w hw => hopE _ _ (h w hw)
theorem RE.want {g : Nat} {t : Tmp} {b : Bool} {dst : Option Tmp} (hg : gslot ops g = some t) (ht : look s t = some (.bool b))
  (h : RE P R n k ops m (⟨dst,op,ty,pos,af,none⟩ :: r) C s ds) : RE P R n k ops m (⟨dst,op,ty,pos,af,some (g,b)⟩ :: r) C s ds:=by
 refine ⟨fun a ha => RW_guard (o:=⟨dst,op,ty,pos,af,none⟩) rfl ?_ rfl (h.out a ha)⟩
 simp [Region.wanted,yielded_of hg ht ha]
theorem RE.no0 {g : Nat} {t : Tmp} {b b' : Bool} (hg : gslot ops g = some t) (ht : look s t = some (.bool b)) (hb : (b == b') = false) (hd : Nat.blt d n = true)
  (h : RE P R n k ops m r C ((d,undef) :: s) ds) : RE P R n k ops (0 :: m) (⟨some d,op,ty,pos,af,some (g,b')⟩ :: r) C s ds:=by
 refine ⟨fun a ha => ?_⟩
 have hw : Region.wanted ⟨some d,op,ty,pos,af,some (g,b')⟩ (yielded ops a.tmps) = false:=by
  simp only [Region.wanted,yielded_of hg ht ha]
  simpa using hb
 rw [RW_zero]
 exact ⟨undef,⟨fun h1 => (by rw [hw] at h1; cases h1),fun _ _ _ => rfl⟩,h.out _ (ha.put hd undef)⟩
theorem RE.nox {g : Nat} {t : Tmp} {b b' : Bool} (hg : gslot ops g = some t) (ht : look s t = some (.bool b)) (hb : (b == b') = false) (hd : Nat.blt d n = true)
  (h : RE P Eq n k ops [] r (Eq w) ((d,undef) :: s) ds) : RE P Eq n k ops [] (⟨some d,op,ty,pos,af,some (g,b')⟩ :: r) (Eq w) s ds:=by
 refine ⟨fun a ha => ?_⟩
 have hw : Region.wanted ⟨some d,op,ty,pos,af,some (g,b')⟩ (yielded ops a.tmps) = false:=by
  simp only [Region.wanted,yielded_of hg ht ha]
  simpa using hb
 rw [RW_none]
 rintro w1 rfl
 unfold opE
 rw [if_neg (by rw [hw]; simp)]
 exact h.out _ (ha.put hd undef)
theorem RE.nou {g : Nat} {t : Tmp} {b' : Bool} (hg : gslot ops g = some t) (ht : look s t = some undef) (hd : Nat.blt d n = true)
  (h : RE P Eq n k ops [] r (Eq w) ((d,undef) :: s) ds) : RE P Eq n k ops [] (⟨some d,op,ty,pos,af,some (g,b')⟩ :: r) (Eq w) s ds:=by
 refine ⟨fun a ha => ?_⟩
 have hw : Region.wanted ⟨some d,op,ty,pos,af,some (g,b')⟩ (yielded ops a.tmps) = false:=by
  have h1:=ha.val t _ ht
  unfold gslot at hg
  unfold Region.wanted yielded
  simp only [hg]
  rw [Array.getD_eq_getD_getElem?] at h1
  simp only [Option.bind_some]
  cases hx : a.tmps[t]? with
  | none => rfl
  | some v => rw [hx] at h1; have h3 : v = undef:=h1; subst h3; rfl
 rw [RW_none]
 rintro w1 rfl
 unfold opE
 rw [if_neg (by rw [hw]; simp)]
 exact h.out _ (ha.put hd undef)
theorem RE.split {t : Tmp} {b : Bool} (ht : look s t = some (.bool b)) (h1 : b = true → RE P R n k ops m l C ((t,.bool true) :: s) ds)
  (h2 : b = false → RE P R n k ops m l C ((t,.bool false) :: s) ds) : RE P R n k ops m l C s ds:=by
 refine ⟨fun a ha => ?_⟩
 have key : ∀ c,b = c → Has n ((t,.bool c) :: s) ds a:=by
  rintro c rfl
  refine ⟨ha.size,ha.ds,fun u v hv => ?_⟩
  simp only [look] at hv
  by_cases htu : t = u
  ·subst htu
   simp at hv
   subst hv
   exact ha.val _ _ ht
  ·have : Nat.beq t u = false:=beqF htu
   rw [this] at hv
   exact ha.val u v (by simpa using hv)
 cases b with
 | true => exact (h1 rfl).out a (key _ rfl)
 | false => exact (h2 rfl).out a (key _ rfl)
theorem RE.splitH {t : Tmp} {b : Bool} (h1 : b = true → RE P R n k ops m l C ((t,.bool true) :: s) ds)
  (h2 : b = false → RE P R n k ops m l C ((t,.bool false) :: s) ds) : RE P R n k ops m l C ((t,.bool b) :: s) ds:=by
 cases b with
 | true => exact h1 rfl
 | false => exact h2 rfl
theorem RE.splitD {t : Tmp} {p : Prop} [Decidable p] (h1 : p → RE P R n k ops m l C ((t,.bool true) :: s) ds)
  (h2 : ¬ p → RE P R n k ops m l C ((t,.bool false) :: s) ds) : RE P R n k ops m l C ((t,.bool (decide p)) :: s) ds:=
 RE.splitH (fun h => h1 (of_decide_eq_true h)) (fun h => h2 (of_decide_eq_false h))
theorem RE.sub {s' : Slots} (hs : SubL s' s) (h : RE P R n k ops m l C s' ds) : RE P R n k ops m l C s ds:=⟨fun a ha => h.out a (ha.sub hs)⟩
end region
section regions
variable {P : Program} {R : World → World → Prop} {n : Nat} {k : Ks} {l : List Oper} {s : Slots} {ds : List Deferred} {w : World} {id : Nat}
theorem CE.text (h : RE P Eq n k l.toArray [] l (Eq w) s ds) : CE P n (.region id l.toArray false) k s ds w:=
 ⟨fun a ha => region_text (R:=Eq) (fun _ => rfl) (h.out a ha)⟩
theorem CE.draw (m : List Nat) (hm : P.follows .mixedOrders = true) (hc : chkD l.toArray m = true) (h : RE P Eq n k l.toArray m l (Eq w.drew) s ds) :
  CE P n (.region id l.toArray true) k s ds w:=
 ⟨fun a ha => region_draw (R:=Eq) m hm (fun _ => rfl) (fun _ _ _ h1 h2 => h1.trans h2) hc (h.out a ha)⟩
theorem CE.drawR (R : World → World → Prop) (m : List Nat) (hm : P.follows .mixedOrders = true) (hr : ∀ w,R w w) (ht : ∀ a b c,R a b → R b c → R a c) (hc : chkD l.toArray m = true)
  (h : RE P R n k l.toArray m l (R w.drew) s ds) : CE P n (.region id l.toArray true) k s ds w:=
 ⟨fun a ha => region_draw (R:=R) m hm hr ht hc (h.out a ha)⟩
end regions
def ResOK (P : Program) (fn : Func) (n : Nat) (s : Slots) (ds : List Deferred) (w : World) (v : Value) : Prop:=
 ∀ a,Has n s ds a → (results fn a.tmps).run P w = .ok v w
def endK (P : Program) (fn : Func) (n : Nat) (Φ : Value → World → Prop) : Ks where
 n:=fun s ds w => ds = [] ∧ ∃ v,ResOK P fn n s ds w v ∧ Φ v w
 r:=fun s ds w => ds = [] ∧ ∃ v,ResOK P fn n s ds w v ∧ Φ v w
 x:=fun _ _ _ _ => False
section ends
variable {P : Program} {fn : Func} {n : Nat} {s : Slots} {w : World} {Φ : Value → World → Prop}
theorem end0 (hr : fn.results = #[]) (h : Φ (.tuple #[]) w) : (endK P fn n Φ).n s [] w:=
 ⟨rfl,_,fun _ _ => results_none hr _ _ _,h⟩
theorem ret0 (hr : fn.results = #[]) (h : Φ (.tuple #[]) w) : (endK P fn n Φ).r s [] w:=end0 (s:=s) hr h
theorem ret1 {t : Tmp} {v : Value} (hr : fn.results = #[.tmp t]) (ht : look s t = some v) (h : Φ v w) : (endK P fn n Φ).r s [] w:=
 ⟨rfl,v,fun _ ha => by rw [results_tmp hr,ha.val t v ht],h⟩
theorem ret2 {t u : Tmp} {v v' : Value} (hr : fn.results = #[.tmp t,.tmp u]) (ht : look s t = some v) (hu : look s u = some v') (h : Φ (.tuple #[v,v']) w) :
  (endK P fn n Φ).r s [] w:=
 ⟨rfl,_,fun _ ha => by rw [results_tmp2 hr,ha.val t v ht,ha.val u v' hu],h⟩
end ends
def argSlots : Nat → List Value → Slots
 | _,[] => []
 | i,v :: r => (i,v) :: argSlots (i + 1) r
theorem look_argSlots : ∀ (l : List Value) (i t : Nat) (v : Value),look (argSlots i l) t = some v → i ≤ t ∧ l[t - i]? = some v
 | [],_,_,_,h => by cases h
 | u :: r,i,t,v,h => by
  simp only [argSlots,look] at h
  by_cases hit : i = t
  ·subst hit; simp at h; subst h; simp
  ·have : Nat.beq i t = false:=beqF hit
   rw [this] at h
   obtain ⟨h1,h2⟩:=look_argSlots r (i + 1) t v (by simpa using h)
   refine ⟨by omega,?_⟩
   rw [show t - i = (t - (i + 1)) + 1 by omega]
   simpa using h2
theorem has_enter (l : List Value) (n : Nat) (hn : l.length ≤ n) : Has n (argSlots 0 l) [] { tmps:=l.toArray ++ Array.replicate (n - l.toArray.size) undef,defers:=[] }:=by
 refine ⟨by simp; omega,rfl,fun t v hv => ?_⟩
 obtain ⟨_,h2⟩:=look_argSlots l 0 t v hv
 have hlt : t < l.length:=by
  rcases Nat.lt_or_ge t l.length with h | h
  ·exact h
  ·simp [List.getElem?_eq_none h] at h2
 simp only [Nat.sub_zero] at h2
 simp [Array.getD_eq_getD_getElem?,Array.getElem?_append,hlt]
 simpa [List.getElem?_eq_getElem hlt] using h2
theorem fn_of {P : Program} {f : FuncId} {fn : Func} {c : Code} {args : List Value} {n : Nat} {w : World} {Φ : Value → World → Prop}
  (hf : P.funcs[f]? = some fn) (hb : fn.body = some c) (hn : fn.ntmps = n) (hl : Nat.ble args.length n = true)
  (h : CE P n c (endK P fn n Φ) (argSlots 0 args) [] w) : Fn P f args w Φ:=by
 refine ⟨calls_of_wp hf hb ?_⟩
 subst hn
 refine wp_mono (h.out _ (has_enter args fn.ntmps (by simpa [Nat.ble_eq] using hl))) fun e a' w' hq => ?_
 cases e with
 | normal =>
  obtain ⟨s,ds,ha,rfl,v,hr,hφ⟩:=hq
  exact ⟨ha.ds,v,hr a' ha,v,rfl,hφ⟩
 | ret =>
  obtain ⟨s,ds,ha,rfl,v,hr,hφ⟩:=hq
  exact ⟨ha.ds,v,hr a' ha,v,rfl,hφ⟩
 | exit i => obtain ⟨_,_,_,hq⟩:=hq; exact hq.elim
 | _ => exact hq.elim
end Go.Wk
namespace Go.Wk
open Go Go.RowKit Go.Proofs
noncomputable abbrev PT : Program:=Tryz.prog
theorem mixed : PT.follows .mixedOrders = true:=by kernel_rfl
def nonAgg : List Nat:=[1,2,3,4,5,6,9,10,11,12,15,16,17,20,21,22,23,24,25,26,27,28,29,32,33,34,35,36,37,38,39,40,41,42,43,44,45,46,49,50,51,52,53,55,58,59,60,61,64,65,66,67,68,69,70,72,73,74,75,80,81,82,83,84,85,86,87,88,89,90,91,92,95,96,97,99,100,101,102,103,106,107,108,109,113,114,115,119,120,122,123,124,125,126,127,128,129,130,131,132,134,135,136,137,138,142]
def okNon (P : Program) (t : Nat) : Bool:=
 match P.underlying t,P.info? t with
 | some (.struct _),_ => false
 | some (.array _ _),_ => false
 | some _,some i => i.size == 1
 | _,_ => false
theorem nonAgg_ok : nonAgg.all (okNon PT) = true:=by kernel_rfl
def foT : List (Nat × Nat × Nat):=[(31,0,0),(31,1,1),(31,2,2),(31,3,3),(31,4,4),(48,0,0),(48,1,1),(48,2,2),(48,3,3),(48,4,4),(48,5,5),(48,6,6),(48,7,7),(48,8,8),(57,0,0),(57,1,1),(63,0,0),(63,1,1),(63,2,2),(63,3,3),(63,4,4),(63,5,5),(63,6,6),(77,0,0),(77,1,1),(77,2,2),(77,3,3),(77,4,4),(77,5,5),(77,6,6),(77,7,7),(79,0,0),(79,1,1),(79,2,2),(79,3,3),(79,4,4),(79,5,5),(79,6,6),(79,7,7),(79,8,9),(79,9,10),(79,10,11),(79,11,19),(79,12,20),(94,0,0),(94,1,1),(105,0,0),(105,1,1),(105,2,2),(105,3,3),(111,0,0),(111,1,1),(111,2,2),(111,3,3),(117,0,0),(117,1,1),(117,2,2),(140,0,0),(140,1,1),(144,0,0),(153,0,0),(153,1,1),(153,2,2),(155,0,0),(155,1,1),(155,2,2),(158,0,0),(158,1,1),(158,2,2)]
def foLook : List (Nat × Nat × Nat) → Nat → Nat → Option Nat
 | [],_,_ => none
 | (s,k,o) :: r,s',k' => bif Nat.beq s s' && Nat.beq k k' then some o else foLook r s' k'
def okFo (P : Program) (x : Nat × Nat × Nat) : Bool:=
 match P.underlying x.1 with
 | some (.struct fs) => match fs[x.2.1]? with
  | some f => f.offset == x.2.2 && (match P.info? f.type with | some i => i.size != 0 | none => false)
  | none => false
 | _ => false
theorem foT_ok : foT.all (okFo PT) = true:=by kernel_rfl
def slT : List (Nat × Nat × Nat):=[(26,31,5),(42,5,1),(46,9,1),(50,63,7),(51,63,7),(61,94,2),(82,4,1),(102,106,1),(103,3,1),(124,20,1),(127,21,1)]
def slLook : List (Nat × Nat × Nat) → Nat → Option (Nat × Nat)
 | [],_ => none
 | (s,e,z) :: r,s' => bif Nat.beq s s' then some (e,z) else slLook r s'
def okSl (P : Program) (x : Nat × Nat × Nat) : Bool:=
 (match P.underlying x.1 with | some (.slice e) => e == x.2.1 | _ => false) && (match P.info? x.2.1 with | some i => i.size == x.2.2 | none => false)
theorem slT_ok : slT.all (okSl PT) = true:=by kernel_rfl
def agT : List (Nat × Nat):=[(7,4),(8,4),(13,2),(14,2),(18,1),(19,1),(30,5),(31,5),(47,9),(48,9),(56,2),(57,2),(62,7),(63,7),(76,8),(77,8),(78,21),(79,21),(93,2),(94,2),(104,4),(105,4),(110,4),(111,4),(116,3),(117,3),(139,2),(140,2),(143,1),(144,1)]
def agLook : List (Nat × Nat) → Nat → Option Nat
 | [],_ => none
 | (s,z) :: r,s' => bif Nat.beq s s' then some z else agLook r s'
def okAg (P : Program) (x : Nat × Nat) : Bool:=
 match P.underlying x.1,P.info? x.1 with
 | some (.struct _),some i => i.size == x.2
 | _,_ => false
theorem agT_ok : agT.all (okAg PT) = true:=by kernel_rfl
theorem memB {t : Nat} : ∀ {l : List Nat},l.elem t = true → t ∈ l:=fun h => by simpa using h
theorem non_spec {t : Nat} (h : nonAgg.elem t = true) (w : World) : (isAgg t).run PT w = .ok false w ∧ (sizeOf t).run PT w = .ok 1 w:=by
 have h1:=List.all_eq_true.1 nonAgg_ok t (memB h)
 unfold okNon at h1
 split at h1
 ·cases h1
 ·cases h1
 ·rename_i d i hn1 hn2 hd hi
  simp only [beq_iff_eq] at h1
  refine ⟨?_,?_⟩
  ·unfold isAgg
   simp only [Sem.run_bind,run_underlying hd,Result.andThen_ok]
   rfl
  ·simp [sizeOf,typeInfo,hi,h1]
 ·cases h1
theorem fo_mem : ∀ {l : List (Nat × Nat × Nat)} {s k o : Nat},foLook l s k = some o → (s,k,o) ∈ l
 | [],_,_,_,h => by cases h
 | (s0,k0,o0) :: r,s,k,o,h => by
  simp only [foLook] at h
  cases hb : (Nat.beq s0 s && Nat.beq k0 k) with
  | true =>
   rw [hb] at h
   simp only [Bool.and_eq_true] at hb
   have h1:=Nat.eq_of_beq_eq_true hb.1
   have h2:=Nat.eq_of_beq_eq_true hb.2
   simp only [cond_true,Option.some.injEq] at h
   subst h1 h2 h
   exact List.mem_cons_self
  | false =>
   rw [hb] at h
   exact List.mem_cons_of_mem _ (fo_mem (by simpa using h))
theorem sl_mem : ∀ {l : List (Nat × Nat × Nat)} {s e z : Nat},slLook l s = some (e,z) → (s,e,z) ∈ l
 | [],_,_,_,h => by cases h
 | (s0,k0,o0) :: r,s,k,o,h => by
  simp only [slLook] at h
  cases hb : Nat.beq s0 s with
  | true =>
   rw [hb] at h
   have h1:=Nat.eq_of_beq_eq_true hb
   simp only [cond_true,Option.some.injEq,Prod.mk.injEq] at h
   obtain ⟨rfl,rfl⟩:=h
   subst h1
   exact List.mem_cons_self
  | false =>
   rw [hb] at h
   exact List.mem_cons_of_mem _ (sl_mem (by simpa using h))
theorem ag_mem : ∀ {l : List (Nat × Nat)} {s z : Nat},agLook l s = some z → (s,z) ∈ l
 | [],_,_,h => by cases h
 | (s0,o0) :: r,s,o,h => by
  simp only [agLook] at h
  cases hb : Nat.beq s0 s with
  | true =>
   rw [hb] at h
   have h1:=Nat.eq_of_beq_eq_true hb
   simp only [cond_true,Option.some.injEq] at h
   subst h1 h
   exact List.mem_cons_self
  | false =>
   rw [hb] at h
   exact List.mem_cons_of_mem _ (ag_mem (by simpa using h))
theorem fo_spec {s k o : Nat} (h : foLook foT s k = some o) (b off : Nat) (w : World) :
  (Instr.fieldAt s (.pointer (some ⟨b,off,none⟩)) k).run PT w = .ok (.pointer (some ⟨b,off + o,none⟩)) w:=by
 have h1:=List.all_eq_true.1 foT_ok _ (fo_mem h)
 unfold okFo at h1
 split at h1
 ·rename_i fs hfs
  split at h1
  ·rename_i f hf
   simp only [Bool.and_eq_true,beq_iff_eq] at h1
   obtain ⟨h1,h2⟩:=h1
   split at h2
   ·rename_i i hi
    simp only at hfs hf h1
    have hz : ¬ (i.size = 0):=by simpa using h2
    simp [Instr.fieldAt,run_underlying hfs,hf,Instr.sureAddr,fieldPlace,sizeOf,typeInfo,hi,hz,Addr.add_lit,h1]
   ·cases h2
  ·cases h1
 ·cases h1
theorem sl_spec {s e z : Nat} (h : slLook slT s = some (e,z)) : PT.underlying s = some (.slice e) ∧ ∃ i,PT.info? e = some i ∧ i.size = z:=by
 have h1:=List.all_eq_true.1 slT_ok _ (sl_mem h)
 unfold okSl at h1
 simp only [Bool.and_eq_true] at h1
 obtain ⟨h1,h2⟩:=h1
 constructor
 ·split at h1
  ·rename_i d hd
   have : d = e:=by simpa using h1
   subst this
   exact hd
  ·cases h1
 ·split at h2
  ·rename_i i hi
   exact ⟨i,hi,by simpa using h2⟩
  ·cases h2
theorem ag_spec {s z : Nat} (h : agLook agT s = some z) (w : World) : (isAgg s).run PT w = .ok true w ∧ (sizeOf s).run PT w = .ok z w:=by
 have h1:=List.all_eq_true.1 agT_ok _ (ag_mem h)
 unfold okAg at h1
 split at h1
 ·rename_i fs i hfs hi
  simp only at hfs hi
  refine ⟨?_,?_⟩
  ·simp [isAgg,run_underlying hfs]
  ·have : i.size = z:=by simpa using h1
   simp [sizeOf,typeInfo,hi,this]
 ·cases h1
end Go.Wk
namespace Go.Wk
open Go Go.RowKit Go.Proofs
abbrev I (n : Int) : Value:=.int .i64 n
abbrev B (b : UInt8) : Value:=.int .u8 b.toNat
abbrev S (l : List UInt8) : Value:=.string ⟨⟨l⟩⟩
abbrev Ptr (b o : Nat) : Value:=.pointer (some ⟨b,o,none⟩)
abbrev Sl (b o n c : Nat) : Value:=.slice (some ⟨b,o,none⟩) n c
section
variable {n : Nat} {s : Slots} {w : World} {dst : Option Tmp} {ty : TypeId} {pos : String} {af : Array Edge} {g : Option (Nat × Bool)} {x y z : Operand} {v : Value}
theorem op_move (hx : ev s x = some v) : Op1 PT ⟨dst,.move x,ty,pos,af,g⟩ n s v w:=by
 refine ⟨fun ds a ha => ?_⟩
 simp only [execOp,ha.ev hx,Sem.run_pure]
theorem op_assign (hx : ev s x = some v) : Op1 PT ⟨dst,.assign x,ty,pos,af,g⟩ n s v w:=by
 refine ⟨fun ds a ha => ?_⟩
 simp only [execOp,ha.ev hx,Sem.run_pure]
theorem op_nil {a : Addr} (hx : ev s x = some (.pointer (some a))) : Op1 PT ⟨dst,.nilCheck x,ty,pos,af,g⟩ n s (.pointer (some a)) w:=by
 refine ⟨fun ds a' ha => ?_⟩
 simp only [execOp,ha.ev hx,Sem.run_pure]
theorem op_pick_t {v' : Value} (hx : ev s x = some (.bool true)) (hy : ev s y = some v) (_hz : ev s z = some v') : Op1 PT ⟨dst,.pick x y z,ty,pos,af,g⟩ n s v w:=by
 refine ⟨fun ds a ha => ?_⟩
 simp [execOp,ha.ev hx,ha.ev hy,asBool]
theorem op_pick_f (hx : ev s x = some (.bool false)) (hz : ev s z = some v) : Op1 PT ⟨dst,.pick x y z,ty,pos,af,g⟩ n s v w:=by
 refine ⟨fun ds a ha => ?_⟩
 simp [execOp,ha.ev hx,ha.ev hz,asBool]
theorem op_fieldAddr {t k b o off : Nat} (hx : ev s x = some (Ptr b o)) (hf : foLook foT t k = some off) : Op1 PT ⟨dst,.fieldAddr t x k,ty,pos,af,g⟩ n s (Ptr b (o + off)) w:=by
 refine ⟨fun ds a ha => ?_⟩
 simp [execOp,ha.ev hx,fo_spec hf]
theorem op_fieldAddr0 {t k b off : Nat} (hx : ev s x = some (Ptr b 0)) (hf : foLook foT t k = some off) : Op1 PT ⟨dst,.fieldAddr t x k,ty,pos,af,g⟩ n s (Ptr b off) w:=by
 refine ⟨fun ds a ha => ?_⟩
 have:=fo_spec hf b 0 w
 rw [Nat.zero_add] at this
 simp [execOp,ha.ev hx,this]
theorem run_load1 {t : Nat} {a : Addr} (ht : nonAgg.elem t = true) (hc : w.cell? a = some v) : (Instr.loadAt t (.pointer (some a))).run PT w = .ok v w:=by
 simp [Instr.loadAt,Instr.sureAddr,loadVar,(non_spec ht w).1,run_load,hc]
theorem op_load {t : Nat} {a : Addr} (hx : ev s x = some (.pointer (some a))) (ht : nonAgg.elem t = true) (hc : w.cell? a = some v) : Op1 PT ⟨dst,.load t x,ty,pos,af,g⟩ n s v w:=by
 refine ⟨fun ds a' ha => ?_⟩
 simp [execOp,ha.ev hx,run_load1 ht hc]
theorem cell_of {b o : Nat} {cs : Array Value} {t : TypeId} {fr : Nat × Nat} (hb : w.heap[b]? = some (.cells cs t fr)) (hv : cs[o]? = some v) : w.cell? ⟨b,o,none⟩ = some v:=by
 rw [cell_of_row w b o cs t fr hb,hv]
def nth : List Value → Nat → Option Value
 | [],_ => none
 | v :: _,0 => some v
 | _ :: r,i + 1 => nth r i
theorem nth_get : ∀ (l : List Value) (i : Nat),nth l i = l[i]?
 | [],_ => rfl
 | _ :: _,0 => rfl
 | _ :: r,i + 1 => nth_get r i
theorem op_loadB {t b o : Nat} {cs : Array Value} {T : TypeId} {fr : Nat × Nat} (hx : ev s x = some (Ptr b o)) (ht : nonAgg.elem t = true) (hb : w.heap[b]? = some (.cells cs T fr)) (hv : nth cs.toList o = some v) :
  Op1 PT ⟨dst,.load t x,ty,pos,af,g⟩ n s v w:=op_load hx ht (cell_of hb (by rw [nth_get] at hv; simpa using hv))
theorem run_loadA {t k b o : Nat} {cs : Array Value} {T : TypeId} {fr : Nat × Nat} {vs : List Value} (ht : agLook agT t = some k) (hb : w.heap[b]? = some (.cells cs T fr)) (hv : (cs.toList.drop o).take k = vs) (hk : vs.length = k) :
  (Instr.loadAt t (Ptr b o)).run PT w = .ok (.agg vs.toArray) w:=by
 have h1:=run_loadCells_list (P:=PT) (w:=w) ⟨b,o,none⟩ vs (fun j u hj => by
  rw [Addr.add_lit,cell_of_row w b (o + j) cs T fr hb]
  subst hv
  rw [List.getElem?_take] at hj
  split at hj
  ·simpa using hj
  ·cases hj)
 rw [hk] at h1
 simp [Instr.loadAt,Instr.sureAddr,loadVar,(ag_spec ht w).1,(ag_spec ht w).2,h1]
theorem op_loadA {t k b o : Nat} {cs : Array Value} {T : TypeId} {fr : Nat × Nat} {vs : List Value} (hx : ev s x = some (Ptr b o)) (ht : agLook agT t = some k) (hb : w.heap[b]? = some (.cells cs T fr)) (hv : (cs.toList.drop o).take k = vs) (hk : vs.length = k) :
  Op1 PT ⟨dst,.load t x,ty,pos,af,g⟩ n s (.agg vs.toArray) w:=by
 refine ⟨fun ds a ha => ?_⟩
 simp [execOp,ha.ev hx,run_loadA ht hb hv hk]
section ints
variable {k : IntKind} {a b c : Int} {t t' : TypeId}
theorem op_bin {op : BinOp} {va vb : Value} (hx : ev s x = some va) (hy : ev s y = some vb) (h1 : eqGuard op t x y va vb = pure ()) (h2 : (binOp op t va vb).run PT w = .ok v w) :
  Op1 PT ⟨dst,.binOp op t x y t',ty,pos,af,g⟩ n s v w:=by
 refine ⟨fun ds a ha => ?_⟩
 simp [execOp,ha.ev hx,ha.ev hy,h1,h2]
theorem op_eql (hx : ev s x = some (.int k a)) (hy : ev s y = some (.int k b)) : Op1 PT ⟨dst,.binOp .eql t x y t',ty,pos,af,g⟩ n s (.bool (decide (a = b))) w:=
 op_bin hx hy (eqGuard_at_int _ _ _ _ _ _ _) (by rw [binOp_eql]; rfl)
theorem op_neq (hx : ev s x = some (.int k a)) (hy : ev s y = some (.int k b)) : Op1 PT ⟨dst,.binOp .neq t x y t',ty,pos,af,g⟩ n s (.bool (decide (a ≠ b))) w:=
 op_bin hx hy (eqGuard_at_int _ _ _ _ _ _ _) (by
  rw [binOp_neq]
  have : (a != b) = decide (a ≠ b):=by by_cases h : a = b <;> simp [h,bne]
  rw [this]; rfl)
theorem op_lss (hx : ev s x = some (.int k a)) (hy : ev s y = some (.int k b)) : Op1 PT ⟨dst,.binOp .lss t x y t',ty,pos,af,g⟩ n s (.bool (decide (a < b))) w:=
 op_bin hx hy (eqGuard_at_int _ _ _ _ _ _ _) (by rw [binOp_lss]; rfl)
theorem op_leq (hx : ev s x = some (.int k a)) (hy : ev s y = some (.int k b)) : Op1 PT ⟨dst,.binOp .leq t x y t',ty,pos,af,g⟩ n s (.bool (decide (a ≤ b))) w:=
 op_bin hx hy (eqGuard_at_int _ _ _ _ _ _ _) (by rw [binOp_leq]; rfl)
theorem op_gtr (hx : ev s x = some (.int k a)) (hy : ev s y = some (.int k b)) : Op1 PT ⟨dst,.binOp .gtr t x y t',ty,pos,af,g⟩ n s (.bool (decide (b < a))) w:=
 op_bin hx hy (eqGuard_at_int _ _ _ _ _ _ _) (by rw [binOp_gtr]; rfl)
theorem op_geq (hx : ev s x = some (.int k a)) (hy : ev s y = some (.int k b)) : Op1 PT ⟨dst,.binOp .geq t x y t',ty,pos,af,g⟩ n s (.bool (decide (b ≤ a))) w:=
 op_bin hx hy (eqGuard_at_int _ _ _ _ _ _ _) (by rw [binOp_geq]; rfl)
theorem op_add (hx : ev s x = some (.int k a)) (hy : ev s y = some (.int k b)) (hw : k.wrap (a + b) = c) : Op1 PT ⟨dst,.binOp .add t x y t',ty,pos,af,g⟩ n s (.int k c) w:=
 op_bin hx hy (eqGuard_add _ _ _ _ _) (by rw [binOp_add]; subst hw; rfl)
theorem op_sub (hx : ev s x = some (.int k a)) (hy : ev s y = some (.int k b)) (hw : k.wrap (a - b) = c) : Op1 PT ⟨dst,.binOp .sub t x y t',ty,pos,af,g⟩ n s (.int k c) w:=
 op_bin hx hy (eqGuard_sub _ _ _ _ _) (by rw [binOp_sub]; subst hw; rfl)
theorem wrap_in {m : Int} (h1 : -9223372036854775808 ≤ m) (h2 : m ≤ 9223372036854775807) : IntKind.i64.wrap m = m:=by
 rw [IntKind.wrap_i64]; omega
theorem op_add64 (hx : ev s x = some (I a)) (hy : ev s y = some (I b)) (h1 : -9223372036854775808 ≤ a + b) (h2 : a + b ≤ 9223372036854775807) : Op1 PT ⟨dst,.binOp .add t x y t',ty,pos,af,g⟩ n s (I (a + b)) w:=
 op_add hx hy (wrap_in h1 h2)
theorem op_sub64 (hx : ev s x = some (I a)) (hy : ev s y = some (I b)) (h1 : -9223372036854775808 ≤ a - b) (h2 : a - b ≤ 9223372036854775807) : Op1 PT ⟨dst,.binOp .sub t x y t',ty,pos,af,g⟩ n s (I (a - b)) w:=
 op_sub hx hy (wrap_in h1 h2)
end ints
theorem op_not {b : Bool} {t : TypeId} (hx : ev s x = some (.bool b)) : Op1 PT ⟨dst,.unOp .not t x,ty,pos,af,g⟩ n s (.bool (!b)) w:=by
 refine ⟨fun ds a ha => ?_⟩
 simp [execOp,ha.ev hx,unary_not]
theorem op_not_d {p : Prop} [Decidable p] {t : TypeId} (hx : ev s x = some (.bool (decide p))) : Op1 PT ⟨dst,.unOp .not t x,ty,pos,af,g⟩ n s (.bool (decide (¬ p))) w:=by
 refine ⟨fun ds a ha => ?_⟩
 simp [execOp,ha.ev hx,unary_not]
theorem op_eql_b {a b : Bool} {t t' : TypeId} (hx : ev s x = some (.bool a)) (hy : ev s y = some (.bool b)) (ht : PT.underlying t = some .bool) : Op1 PT ⟨dst,.binOp .eql t x y t',ty,pos,af,g⟩ n s (.bool (a == b)) w:=
 op_bin hx hy (eqGuard_at_bool _ _ _ _ _ _) (run_eql_bool w t a b ht)
theorem op_neq_b {a b : Bool} {t t' : TypeId} (hx : ev s x = some (.bool a)) (hy : ev s y = some (.bool b)) (ht : PT.underlying t = some .bool) : Op1 PT ⟨dst,.binOp .neq t x y t',ty,pos,af,g⟩ n s (.bool (!(a == b))) w:=
 op_bin hx hy (eqGuard_at_bool _ _ _ _ _ _) (run_neq_bool w t a b ht)
theorem toList_S (l : List UInt8) : (ByteArray.mk ⟨l⟩).toList = l:=ByteArray.toList_mk l
theorem op_eql_s {a b : List UInt8} {t t' : TypeId} (hx : ev s x = some (S a)) (hy : ev s y = some (S b)) : Op1 PT ⟨dst,.binOp .eql t x y t',ty,pos,af,g⟩ n s (.bool (decide (a = b))) w:=
 op_bin hx hy (eqGuard_at_string _ _ _ _ _ _) (by
  rw [binOp_string_eql,toList_S,toList_S]
  have : (a == b) = decide (a = b):=by by_cases h : a = b <;> simp [h]
  rw [this]; rfl)
theorem op_neq_s {a b : List UInt8} {t t' : TypeId} (hx : ev s x = some (S a)) (hy : ev s y = some (S b)) : Op1 PT ⟨dst,.binOp .neq t x y t',ty,pos,af,g⟩ n s (.bool (decide (a ≠ b))) w:=
 op_bin hx hy (eqGuard_at_string _ _ _ _ _ _) (by
  rw [binOp_string_neq,toList_S,toList_S]
  have : (!(a == b)) = decide (a ≠ b):=by by_cases h : a = b <;> simp [h]
  rw [this]; rfl)
theorem op_add_s {a b : List UInt8} {t t' : TypeId} (hx : ev s x = some (S a)) (hy : ev s y = some (S b)) (h : a.length + b.length ≤ 9223372036854775807) : Op1 PT ⟨dst,.binOp .add t x y t',ty,pos,af,g⟩ n s (S (a ++ b)) w:=
 op_bin hx hy (eqGuard_add _ _ _ _ _) (by
  rw [binOp_string_add,run_string_add_sum _ _ _ (by simpa [ByteArray.size] using h)]
  have : (ByteArray.mk ⟨a⟩ ++ ByteArray.mk ⟨b⟩) = ByteArray.mk ⟨a ++ b⟩:=ByteArray.mk_append_mk a b
  rw [this])
theorem op_len_s {a : List UInt8} {t : TypeId} (hx : ev s x = some (S a)) (ht : PT.underlying t = some .string) : Op1 PT ⟨dst,.call { callee:=.builtin .len,args:=#[x],argTypes:=#[t] },ty,pos,af,g⟩ n s (I a.length) w:=by
 refine ⟨fun ds a' ha => ?_⟩
 have h1:=run_len_string (P:=PT) (w:=w) t ty ⟨⟨a⟩⟩ ht
 rw [BigFrame.execOp_builtin,BigFrame.builtin_len]
 simp [ha.ev hx,h1]
 simp [goInt,ByteArray.size]
theorem op_len_sl {t e z m c : Nat} {o : Option Addr} (hx : ev s x = some (.slice o m c)) (ht : slLook slT t = some (e,z)) : Op1 PT ⟨dst,.call { callee:=.builtin .len,args:=#[x],argTypes:=#[t] },ty,pos,af,g⟩ n s (I m) w:=by
 refine ⟨fun ds a' ha => ?_⟩
 have hu:=(sl_spec ht).1
 have h1:=run_len_slice (P:=PT) w t ty o m c (by rw [hu]; simp [Program.elem,hu])
 rw [BigFrame.execOp_builtin,BigFrame.builtin_len]
 simp [ha.ev hx,h1,goInt]
theorem op_index_s {l : List UInt8} {i : Int} {k : IntKind} {t : TypeId} {b : UInt8} (hx : ev s x = some (S l)) (hy : ev s y = some (.int k i)) (ht : PT.underlying t = some .string) (h0 : 0 ≤ i) (hi : l[i.toNat]? = some b) :
  Op1 PT ⟨dst,.index t x y,ty,pos,af,g⟩ n s (B b) w:=by
 refine ⟨fun ds a ha => ?_⟩
 have hb : (ByteArray.mk ⟨l⟩)[i.toNat]? = some b:=by
  have hlt : i.toNat < l.length:=(List.getElem?_eq_some_iff.1 hi).1
  rw [ByteArray.getElem?_lt' _ _ (by simpa [ByteArray.size] using hlt)]
  rw [List.getElem?_eq_getElem hlt] at hi
  exact hi
 simp only [execOp,ha.ev hx,ha.ev hy,Instr.index,asIntOf,Sem.run_bind,Sem.run_pure,Result.andThen_ok,run_underlying ht,if_pos h0,hb]
theorem op_indexAddr {t e z b o m c : Nat} {i : Int} {k : IntKind} (hx : ev s x = some (Sl b o m c)) (hy : ev s y = some (.int k i)) (ht : slLook slT t = some (e,z)) (h0 : 0 ≤ i) (h1 : i < m) :
  Op1 PT ⟨dst,.indexAddr t x y,ty,pos,af,g⟩ n s (Ptr b (o + i.toNat * z)) w:=by
 refine ⟨fun ds a ha => ?_⟩
 obtain ⟨hu,j,hj,hz⟩:=sl_spec ht
 have h2:=run_indexAt_slice (P:=PT) w t ⟨b,o,none⟩ m c k i (by rw [hu]; simp [Program.elem,hu])
 have he : PT.elem t = e:=by simp [Program.elem,hu]
 rw [if_pos ⟨h0,h1⟩,he] at h2
 have h3 : (sizeOf e).run PT w = .ok z w:=by simp [sizeOf,typeInfo,hj,hz]
 rw [h3] at h2
 simp only [Result.andThen_ok,Addr.add_lit] at h2
 simp [execOp,ha.ev hx,ha.ev hy,h2]
theorem op_extract {vs : Array Value} {i : Nat} (hx : ev s x = some (.tuple vs)) (hv : nth vs.toList i = some v) : Op1 PT ⟨dst,.extract x i,ty,pos,af,g⟩ n s v w:=by
 refine ⟨fun ds a ha => ?_⟩
 have hv' : vs[i]? = some v:=by rw [nth_get] at hv; simpa using hv
 simp [execOp,ha.ev hx,Instr.extract,hv']
section slices
variable {t e z b o m c : Nat} {lo hi : Int} {kl kh : IntKind}
theorem slice_any {x' : Value} {l' h' m' : Option Value} (ht : slLook slT t = some (e,z)) : (Instr.sliceAt t x' l' h' m').run PT w = (Instr.slice t x' l' h' m').run PT w:=by
 have hu:=(sl_spec ht).1
 exact run_sliceAt_slice (P:=PT) (w:=w) t x' l' h' m' (by rw [hu]; simp [Program.elem,hu])
end slices
end
end Go.Wk
namespace Go.Wk
open Go Go.RowKit Go.Proofs
def Ext (w w' : World) : Prop:=Below w.heap.size w w'
theorem Ext.refl (w : World) : Ext w w:=Below.refl _ _
theorem Ext.trans {a b c : World} (h : Ext a b) (k : Ext b c) : Ext a c:=Below.trans h (Below.mono k h.size)
theorem Ext.cell {w w' : World} (h : Ext w w') {a : Addr} {v : Value} (hc : w.cell? a = some v) : w'.cell? a = some v:=by
 rw [Below.cell h (World.block_lt_of_cell? w a hc)]; exact hc
theorem Ext.block {w w' : World} (h : Ext w w') {b : Nat} {o : Obj} (hb : w.heap[b]? = some o) : w'.heap[b]? = some o:=by
 rw [Below.block h b (Array.getElem?_eq_some_iff.1 hb).1]; exact hb
theorem Ext.drew (w : World) : Ext w w.drew:=(Below.refl _ _).drew
theorem Ext.alloc (w : World) (o : Obj) : Ext w (w.alloc o):=(Below.refl _ _).alloc (Nat.le_refl _) o
structure Upd (w : World) (b : Nat) (o : Obj) (w' : World) : Prop where
 os : w'.os = w.os
 tape : w'.tape = w.tape
 output : w'.output = w.output
 size : w'.heap.size = w.heap.size
 here : w'.heap[b]? = some o
 other : ∀ k,k ≠ b → w'.heap[k]? = w.heap[k]?
structure New (w : World) (g : Nat) (o : Obj) (w' : World) : Prop where
 os : w'.os = w.os
 tape : w'.tape = w.tape
 output : w'.output = w.output
 size : w'.heap.size = w.heap.size + 1
 num : g = w.heap.size
 here : w'.heap[g]? = some o
 other : ∀ k,k ≠ g → w'.heap[k]? = w.heap[k]?
theorem Upd.undrew {w w' : World} {b : Nat} {o : Obj} (h : Upd w.drew b o w') : Upd w b o w':=⟨h.os,h.tape,h.output,h.size,h.here,h.other⟩
theorem New.undrew {w w' : World} {b : Nat} {o : Obj} (h : New w.drew b o w') : New w b o w':=⟨h.os,h.tape,h.output,h.size,h.num,h.here,h.other⟩
theorem New.ext {w w' : World} {g : Nat} {o : Obj} (h : New w g o w') : Ext w w':=
 ⟨h.os,h.tape,h.output,by have:=h.size; omega,fun k hk => h.other k (by have:=h.num; omega)⟩
theorem new_alloc (w : World) (o : Obj) : New w w.heap.size o (w.alloc o):=
 ⟨rfl,rfl,rfl,by simp,rfl,heap_alloc_new w o,fun k hk => by
  rcases Nat.lt_or_ge k w.heap.size with h | h
  ·exact Below.heap_alloc w o k h
  ·have h2 : w.heap.size + 1 ≤ k:=by omega
   rw [Array.getElem?_eq_none (by simpa using h2),Array.getElem?_eq_none (by omega)]⟩
theorem upd_setCell {w : World} {b o : Nat} {cs : Array Value} {t : TypeId} (v : Value) (hb : w.heap[b]? = some (.cells cs t (0,0))) :
  Upd w b (.cells (cs.setIfInBounds o v) t (0,0)) (w.setCell ⟨b,o,none⟩ v):=
 ⟨rfl,rfl,rfl,by simp,heap_setCell_same w b o cs t v hb,fun k hk => heap_setCell_other w ⟨b,o,none⟩ k v hk⟩
theorem New.to {w w' : World} {g : Nat} {o : Obj} (h : New w g o w') {b : Nat} {o' : Obj} (hb : w.heap[b]? = some o') : w'.heap[b]? = some o':=h.ext.block hb
structure Fr (S : Nat → Prop) (w w' : World) : Prop where
 os : w'.os = w.os
 tape : w'.tape = w.tape
 output : w'.output = w.output
 size : w.heap.size ≤ w'.heap.size
 same : ∀ k,k < w.heap.size → ¬ S k → w'.heap[k]? = w.heap[k]?
theorem Fr.of_ext {S : Nat → Prop} {w w' : World} (h : Ext w w') : Fr S w w':=⟨h.os,h.tape,h.output,h.size,fun k hk _ => Below.block h k hk⟩
theorem Fr.refl (S : Nat → Prop) (w : World) : Fr S w w:=Fr.of_ext (Ext.refl w)
theorem Fr.of_upd {S : Nat → Prop} {w w' : World} {b : Nat} {o : Obj} (h : Upd w b o w') (hb : S b) : Fr S w w':=
 ⟨h.os,h.tape,h.output,by rw [h.size]; exact Nat.le_refl _,fun k _ hk => h.other k (fun e => hk (e ▸ hb))⟩
theorem Fr.trans {S : Nat → Prop} {a b c : World} (h : Fr S a b) (k : Fr S b c) : Fr S a c:=
 ⟨k.os.trans h.os,k.tape.trans h.tape,k.output.trans h.output,Nat.le_trans h.size k.size,fun i hi hs => (k.same i (Nat.lt_of_lt_of_le hi h.size) hs).trans (h.same i hi hs)⟩
theorem Fr.mono {S S' : Nat → Prop} {a b : World} (h : Fr S a b) (hs : ∀ k,k < a.heap.size → S k → S' k) : Fr S' a b:=
 ⟨h.os,h.tape,h.output,h.size,fun i hi hn => h.same i hi (fun e => hn (hs i hi e))⟩
theorem Fr.below {S : Nat → Prop} {B : Nat} {a b : World} (h : Fr S a b) (hB : B ≤ a.heap.size) (hs : ∀ k,S k → B ≤ k) : Below B a b:=
 ⟨h.os,h.tape,h.output,h.size,fun k hk => h.same k (by omega) (fun e => by have:=hs k e; omega)⟩
theorem Fr.ext {a b : World} (h : Fr (fun _ => False) a b) : Ext a b:=⟨h.os,h.tape,h.output,h.size,fun k hk => h.same k hk (fun e => e)⟩
theorem Fr.block {S : Nat → Prop} {w w' : World} (h : Fr S w w') {b : Nat} {o : Obj} (hb : w.heap[b]? = some o) (hs : ¬ S b) : w'.heap[b]? = some o:=by
 rw [h.same b (Array.getElem?_eq_some_iff.1 hb).1 hs]; exact hb
theorem Fr.cell {S : Nat → Prop} {w w' : World} (h : Fr S w w') {a : Addr} {v : Value} (hc : w.cell? a = some v) (hs : ¬ S a.block) : w'.cell? a = some v:=by
 rw [World.cell?_of_block (h.same a.block (World.block_lt_of_cell? w a hc) hs)]; exact hc
def HBk (b : Nat) (w : World) (v : Value) (l : List UInt8) : Prop:=
 ∃ a c,v = .slice a l.length c ∧ l.length ≤ c ∧ (l ≠ [] → ∃ o,a = some ⟨b,o,none⟩ ∧ ∀ i (h : i < l.length),w.cell? ⟨b,o + i,none⟩ = some (B l[i]))
def HB (w : World) (v : Value) (l : List UInt8) : Prop:=∃ b,HBk b w v l
theorem HBk.fr {S : Nat → Prop} {w w' : World} {b : Nat} {v : Value} {l : List UInt8} (h : HBk b w v l) (hf : Fr S w w') (hs : ¬ S b) : HBk b w' v l:=by
 obtain ⟨a,c,h1,h2,h3⟩:=h
 exact ⟨a,c,h1,h2,fun hl => let ⟨o,h4,h5⟩:=h3 hl; ⟨o,h4,fun i hi => hf.cell (h5 i hi) hs⟩⟩
theorem HBk.ext {w w' : World} {b : Nat} {v : Value} {l : List UInt8} (h : HBk b w v l) (he : Ext w w') : HBk b w' v l:=
 h.fr (Fr.of_ext (S:=fun _ => False) he) (fun e => e)
theorem HB.ext {w w' : World} {v : Value} {l : List UInt8} (h : HB w v l) (he : Ext w w') : HB w' v l:=let ⟨b,hb⟩:=h; ⟨b,hb.ext he⟩
theorem HBk.hb {w : World} {b : Nat} {v : Value} {l : List UInt8} (h : HBk b w v l) : HB w v l:=⟨b,h⟩
theorem HB.nil (w : World) (a : Option Addr) (c : Nat) : HB w (.slice a 0 c) []:=⟨0,a,c,rfl,Nat.zero_le _,fun h => absurd rfl h⟩
section
variable {n : Nat} {s : Slots} {w : World} {dst : Option Tmp} {ty : TypeId} {pos : String} {af : Array Edge} {g : Option (Nat × Bool)} {x y z : Operand} {v : Value}
section slices
variable {t e q m c : Nat} {a : Option Addr} {lo hi : Int} {kl kh : IntKind} {xl xh : Operand}
theorem elem_of (ht : slLook slT t = some (e,q)) : PT.underlying t = some (.slice (PT.elem t)) ∧ PT.elem t = e ∧ ∀ w,(sizeOf e).run PT w = .ok q w:=by
 obtain ⟨hu,j,hj,hz⟩:=sl_spec ht
 exact ⟨by rw [hu]; simp [Program.elem,hu],by simp [Program.elem,hu],fun w => by simp [sizeOf,typeInfo,hj,hz]⟩
theorem op_slice_l (hx : ev s x = some (.slice a m c)) (hl : ev s xl = some (.int kl lo)) (ht : slLook slT t = some (e,q)) (h0 : 0 ≤ lo) (h1 : lo ≤ m) :
  Op1 PT ⟨dst,.slice t x (some xl) none none,ty,pos,af,g⟩ n s (sliced a lo.toNat m c q) w:=by
 refine ⟨fun ds a' ha => ?_⟩
 obtain ⟨hu,he,hz⟩:=elem_of ht
 have h2:=run_slice_l w t a m c hu kl lo h0 h1
 rw [he,hz w] at h2
 simp only [execOp,ha.ev hx,ha.ev hl,Option.map_some,Option.map_none,slice_any ht,Sem.run_bind,h2,Result.andThen_ok,Sem.run_pure]
theorem op_slice_h (hx : ev s x = some (.slice a m c)) (hh : ev s xh = some (.int kh hi)) (ht : slLook slT t = some (e,q)) (h0 : 0 ≤ hi) (h1 : hi ≤ c) :
  Op1 PT ⟨dst,.slice t x none (some xh) none,ty,pos,af,g⟩ n s (sliced a 0 hi.toNat c q) w:=by
 refine ⟨fun ds a' ha => ?_⟩
 obtain ⟨hu,he,hz⟩:=elem_of ht
 have h2:=run_slice_h w t a m c hu kh hi h0 h1
 rw [he,hz w] at h2
 simp only [execOp,ha.ev hx,ha.ev hh,Option.map_some,Option.map_none,slice_any ht,Sem.run_bind,h2,Result.andThen_ok,Sem.run_pure]
theorem op_slice_lh (hx : ev s x = some (.slice a m c)) (hl : ev s xl = some (.int kl lo)) (hh : ev s xh = some (.int kh hi)) (ht : slLook slT t = some (e,q)) (h0 : 0 ≤ lo) (h1 : lo ≤ hi) (h2 : hi ≤ c) :
  Op1 PT ⟨dst,.slice t x (some xl) (some xh) none,ty,pos,af,g⟩ n s (sliced a lo.toNat hi.toNat c q) w:=by
 refine ⟨fun ds a' ha => ?_⟩
 obtain ⟨hu,he,hz⟩:=elem_of ht
 have h3:=run_slice_lh w t a m c hu kl kh lo hi h0 h1 h2
 rw [he,hz w] at h3
 simp only [execOp,ha.ev hx,ha.ev hl,ha.ev hh,Option.map_some,Option.map_none,slice_any ht,Sem.run_bind,h3,Result.andThen_ok,Sem.run_pure]
theorem HBk.slice {k : Nat} {l : List UInt8} {i j : Nat} (h : HBk k w (.slice a m c) l) (h1 : i ≤ j) (h2 : j ≤ l.length) : HBk k w (sliced a i j c 1) ((l.drop i).take (j - i)):=by
 obtain ⟨a',c',he,hc,hcell⟩:=h
 simp only [Value.slice.injEq] at he
 obtain ⟨rfl,rfl,rfl⟩:=he
 have hlen : ((l.drop i).take (j - i)).length = j - i:=by simp; omega
 unfold sliced
 refine ⟨_,_,by rw [hlen],by rw [hlen]; omega,fun hne => ?_⟩
 have hlt : i < j:=by
  rcases Nat.lt_or_ge i j with h | h
  ·exact h
  ·exact absurd (List.eq_nil_of_length_eq_zero (by rw [hlen]; omega)) hne
 have hl : l ≠ []:=by intro h; subst h; simp at h2; omega
 obtain ⟨o,rfl,hcells⟩:=hcell hl
 rw [if_neg (by omega)]
 refine ⟨o + i,by simp [Addr.add_lit],fun q hk => ?_⟩
 rw [hlen] at hk
 have:=hcells (i + q) (by omega)
 rw [Nat.add_assoc]
 simpa using this
end slices
theorem size_S (l : List UInt8) : (ByteArray.mk ⟨l⟩).size = l.length:=by simp [ByteArray.size]
theorem extract_S (l : List UInt8) (i j : Nat) : (ByteArray.mk ⟨l⟩).extract i j = ByteArray.mk ⟨(l.drop i).take (j - i)⟩:=by
 apply ByteArray.ext
 simp [List.extract_eq_take_drop]
section strs
variable {t : TypeId} {l : List UInt8} {lo hi : Int} {kl kh : IntKind} {xl xh : Operand}
theorem str_any (ht : PT.underlying t = some .string) (x' : Value) (l' h' m' : Option Value) : (Instr.sliceAt t x' l' h' m').run PT w = (Instr.slice t x' l' h' m').run PT w:=
 run_sliceAt_string (P:=PT) (w:=w) t x' l' h' m' ht
theorem op_str_h (hx : ev s x = some (S l)) (hh : ev s xh = some (.int kh hi)) (ht : PT.underlying t = some .string) (h0 : 0 ≤ hi) (h1 : hi ≤ l.length) :
  Op1 PT ⟨dst,.slice t x none (some xh) none,ty,pos,af,g⟩ n s (S (l.take hi.toNat)) w:=by
 refine ⟨fun ds a' ha => ?_⟩
 have h2:=run_slice_string_h (P:=PT) w t ⟨⟨l⟩⟩ ht kh hi h0 (by rw [size_S]; exact h1)
 rw [extract_S] at h2
 simp only [List.drop_zero,Nat.sub_zero] at h2
 simp only [execOp,ha.ev hx,ha.ev hh,Option.map_some,Option.map_none,str_any ht,Sem.run_bind,h2,Result.andThen_ok,Sem.run_pure]
theorem op_str_lh (hx : ev s x = some (S l)) (hl : ev s xl = some (.int kl lo)) (hh : ev s xh = some (.int kh hi)) (ht : PT.underlying t = some .string) (h0 : 0 ≤ lo) (h1 : lo ≤ hi) (h2 : hi ≤ l.length) :
  Op1 PT ⟨dst,.slice t x (some xl) (some xh) none,ty,pos,af,g⟩ n s (S ((l.drop lo.toNat).take (hi.toNat - lo.toNat))) w:=by
 refine ⟨fun ds a' ha => ?_⟩
 have h3 : (Instr.slice t (S l) (some (.int kl lo)) (some (.int kh hi)) none).run PT w = .ok (S ((l.drop lo.toNat).take (hi.toNat - lo.toNat))) w:=by
  have eh : (hi.toNat : Int) = hi:=Int.toNat_of_nonneg (by omega)
  have e1 : hi ≤ ((ByteArray.mk ⟨l⟩).size : Int):=by rw [size_S]; exact h2
  have e2 : 0 ≤ hi:=by omega
  simp [Instr.slice,run_underlying ht,Instr.sliceBounds,run_sliceBound,h0,h1,e1,e2,eh,extract_S]
 simp only [execOp,ha.ev hx,ha.ev hl,ha.ev hh,Option.map_some,Option.map_none,str_any ht,Sem.run_bind,h3,Result.andThen_ok,Sem.run_pure]
end strs
theorem foldl_push (l : List UInt8) : ∀ (acc : List UInt8),(l.map fun b => (b.toNat : Int)).foldl (fun r m => r.push (UInt8.ofNat m.toNat)) (ByteArray.mk ⟨acc⟩) = ByteArray.mk ⟨acc ++ l⟩:=by
 induction l with
 | nil => intro acc; simp
 | cons b l ih =>
  intro acc
  simp only [List.map_cons,List.foldl_cons]
  have : (ByteArray.mk ⟨acc⟩).push (UInt8.ofNat ((b.toNat : Int).toNat)) = ByteArray.mk ⟨acc ++ [b]⟩:=by
   simp [ByteArray.push]
  rw [this,ih]
  simp
theorem run_conv_bs {t t' : TypeId} {l : List UInt8} (h : HB w v l) (h1 : PT.underlying t = some (.slice 5)) (h2 : PT.underlying t' = some .string) : (convert t t' v).run PT w = .ok (S l) w:=by
 obtain ⟨kb,a,c,rfl,hc,hcell⟩:=h
 rw [run_convert_bytes_string w t t' 5 a l.length c h1 Tryz.underlying5 h2]
 cases a with
 | none =>
  have : l = []:=by
   cases l with
   | nil => rfl
   | cons b l => obtain ⟨o,h,_⟩:=hcell (by simp); cases h
  subst this
  rfl
 | some a =>
  have hl : (loadCells a l.length).run PT w = .ok ((l.map fun b => (b.toNat : Int)).map (Value.int .u8)).toArray w:=by
   have:=run_loadCells_list (P:=PT) (w:=w) a ((l.map fun b => (b.toNat : Int)).map (Value.int .u8)) (fun j u hj => by
    have hlt : j < l.length:=by have:=(List.getElem?_eq_some_iff.1 hj).1; simpa using this
    obtain ⟨o,he,hcells⟩:=hcell (by intro h; subst h; simp at hlt)
    cases he
    rw [Addr.add_lit,hcells j hlt]
    rw [← hj]
    simp [hlt])
   simpa using this
  rw [run_bytesToString w a l.length c _ hl]
  have:=foldl_push l []
  simp only [List.nil_append] at this
  exact congrArg (fun r => Result.ok (Value.string r) w) this
theorem op_conv_bs {t t' : TypeId} {l : List UInt8} (hx : ev s x = some v) (h : HB w v l) (h1 : PT.underlying t = some (.slice 5)) (h2 : PT.underlying t' = some .string) :
  Op1 PT ⟨dst,.convert t t' x,ty,pos,af,g⟩ n s (S l) w:=by
 refine ⟨fun ds a ha => ?_⟩
 simp only [execOp,ha.ev hx,Sem.run_bind,run_conv_bs h h1 h2,Result.andThen_ok,Sem.run_pure]
def evp (s : Slots) : List (Nat × Operand) → Option (List (Nat × Value))
 | [] => some []
 | (i,x) :: r => match ev s x with
  | none => none
  | some v => match evp s r with
   | none => none
   | some vs => some ((i,v) :: vs)
theorem Has.evp {n : Nat} {s : Slots} {ds : List Deferred} {a : Act} (h : Has n s ds a) : ∀ {xs : List (Nat × Operand)} {vs : List (Nat × Value)},evp s xs = some vs → xs.map (fun p => (p.1,a.eval p.2)) = vs
 | [],vs,hx => by simp only [Wk.evp,Option.some.injEq] at hx; subst hx; rfl
 | (i,x) :: r,vs,hx => by
  simp only [Wk.evp] at hx
  split at hx
  ·cases hx
  ·rename_i v hv
   split at hx
   ·cases hx
   ·rename_i us hu
    simp only [Option.some.injEq] at hx
    subst hx
    simp only [List.map_cons,h.ev hv,h.evp hu]
theorem op_build {t : TypeId} {ps : List (Nat × Operand)} {vs : List (Nat × Value)} {cells : Array Value} (hx : evp s ps = some vs) (hb : PT.built t vs = some cells) :
  Op1 PT ⟨dst,.build t ps.toArray,ty,pos,af,g⟩ n s (.agg cells) w:=by
 refine ⟨fun ds a ha => ?_⟩
 have h1:=ha.evp hx
 have h2:=run_build (P:=PT) w t vs.toArray cells hb
 have h3 : (ps.toArray.map fun (p : Nat × Operand) => match p with | (i,x) => (i,a.eval x)) = vs.toArray:=by
  rw [← h1]; simp
 simp only [execOp,Sem.run_bind]
 rw [h3,h2]
 simp only [Result.andThen_ok,Sem.run_pure]
theorem op_iface {t : TypeId} (hx : ev s x = some v) (h : PT.concrete t = true) : Op1 PT ⟨dst,.makeInterface t x,ty,pos,af,g⟩ n s (.iface t v) w:=by
 refine ⟨fun ds a ha => ?_⟩
 simp only [execOp,ha.ev hx,Sem.run_bind,run_makeInterface w t v h,Result.andThen_ok,Sem.run_pure]
theorem cells_one (hv : v.oneCell' = true) : v.cells = #[v]:=by cases v <;> first | rfl | (simp [Value.oneCell'] at hv)
theorem run_store1 {t b o : Nat} {cs : Array Value} {T : TypeId} (ht : nonAgg.elem t = true) (hb : w.heap[b]? = some (.cells cs T (0,0))) (ho : o < cs.size) (hv : v.oneCell' = true) :
  (Instr.storeAt t (Ptr b o) v).run PT w = .ok () (w.setCell ⟨b,o,none⟩ v):=by
 have h1:=(non_spec ht w).2
 have h2:=run_store PT w ⟨b,o,none⟩ v .plain hv
 rw [cell_of_row w b o cs T _ hb,frozen_of_row w b o cs T hb] at h2
 simp only [Array.getElem?_eq_getElem ho] at h2
 simp only [Instr.storeAt,Instr.sureAddr,Sem.run_bind,Sem.run_pure,Result.andThen_ok,storeVar,h1,cells_one hv]
 simp [storeCells,Addr.add_zero',h2]
theorem e_store {t b o : Nat} {cs : Array Value} {T : TypeId} (hx : ev s x = some (Ptr b o)) (hy : ev s y = some v) (ht : nonAgg.elem t = true) (hb : w.heap[b]? = some (.cells cs T (0,0))) {old : Value} (hold : nth cs.toList o = some old) (hv : v.oneCell' = true) :
  OpE PT ⟨dst,.store t x y,ty,pos,af,g⟩ n s w (fun _ w' => Upd w b (.cells (cs.setIfInBounds o v) T (0,0)) w'):=by
 refine ⟨fun ds a ha => ?_⟩
 have ho : o < cs.size:=by
  rw [nth_get] at hold
  have:=(List.getElem?_eq_some_iff.1 hold).1
  simpa using this
 exact ⟨undef,_,Or.inr ⟨by simp [execOp,ha.ev hx,ha.ev hy,run_store1 ht hb ho hv],rfl⟩,upd_setCell v hb⟩
theorem e_box {t : TypeId} {cells : Array Value} (hx : ev s x = some v) (hc : v.cells = cells) : OpE PT ⟨dst,.box t x,ty,pos,af,g⟩ n s w (fun u w' => ∃ b,u = Ptr b 0 ∧ New w b (.cells cells t) w'):=by
 refine ⟨fun ds a ha => ?_⟩
 exact ⟨Ptr w.heap.size 0,w.alloc (.cells cells t),Or.inl (by subst hc; simp [execOp,ha.ev hx,Instr.box,newVar,newRow]),_,rfl,new_alloc w _⟩
theorem e_alloc {t : TypeId} {cells : Array Value} {z0 : Value} (hz : ∀ w,(zeroValue t).run PT w = .ok z0 w) (hc : z0.cells = cells) : OpE PT ⟨dst,.alloc t,ty,pos,af,g⟩ n s w (fun u w' => ∃ b,u = Ptr b 0 ∧ New w b (.cells cells t) w'):=by
 refine ⟨fun ds a _ => ?_⟩
 exact ⟨Ptr w.heap.size 0,w.alloc (.cells cells t),Or.inl (by subst hc; simp [execOp,Instr.alloc,hz,newVar,newRow]),_,rfl,new_alloc w _⟩
def builtSl (P : Program) (t len : Nat) (parts : List (Nat × Value)) : Option (Array Value × Nat):=
 match P.underlying t with
 | some (.slice e) =>
  match P.info? e with
  | some i =>
   match i.zero with
   | some z => (Instr.fill (fun j => some (j * i.size,i.size)) ((Array.range (len * i.size)).map (fun j => z.cells[j % z.cells.size]!)) parts).map fun c => (c,e)
   | none => none
  | none => none
 | _ => none
def smallSl (P : Program) (t len : Nat) : Bool:=
 match P.underlying t with
 | some (.slice e) => match P.info? e with
  | some i => decide (len * i.size ≤ 2 ^ 24) && decide (len * i.size ≠ 0)
  | none => false
 | _ => false
theorem e_buildSlice {t len e : Nat} {ps : List (Nat × Operand)} {vs : List (Nat × Value)} {cells : Array Value} (hx : evp s ps = some vs) (hb : builtSl PT t len vs = some (cells,e)) (hs : smallSl PT t len = true) :
  OpE PT ⟨dst,.buildSlice t len ps.toArray,ty,pos,af,g⟩ n s w (fun u w' => ∃ b,u = Sl b 0 len len ∧ New w b (.cells cells e) w'):=by
 refine ⟨fun ds a ha => ?_⟩
 have h1:=ha.evp hx
 have h3 : (ps.toArray.map fun (p : Nat × Operand) => match p with | (i,x) => (i,a.eval x)) = vs.toArray:=by
  rw [← h1]; simp
 refine ⟨Sl w.heap.size 0 len len,w.alloc (.cells cells e),Or.inl ?_,_,rfl,new_alloc w _⟩
 unfold builtSl at hb
 unfold smallSl at hs
 split at hb
 ·rename_i e' hu
  split at hb
  ·rename_i i hi
   split at hb
   ·rename_i z hz
    rw [hu] at hs
    simp only [hi] at hs
    simp only [Option.map_eq_some_iff,Prod.mk.injEq] at hb
    obtain ⟨c,hc,rfl,rfl⟩:=hb
    simp only [Bool.and_eq_true,decide_eq_true_eq] at hs
    simp only [execOp,Sem.run_bind]
    rw [h3]
    have hs1 : ¬ (len * i.size > 2 ^ 24):=Nat.not_lt.2 hs.1
    simp only [Instr.buildSlice,Sem.run_bind,run_underlying hu,Result.andThen_ok,sizeOf,typeInfo,run_program,hi,Sem.run_pure,zeroValue,hz,if_neg hs1,if_neg hs.2,Sem.run_ite]
    rw [hc]
    simp [newRow]
   ·cases hb
  ·cases hb
 ·cases hb
theorem e_mark {b m c : Nat} {cs : Array Value} {T : TypeId} (hx : ev s x = some (Sl b 0 m c)) (hb : w.heap[b]? = some (.cells cs T (0,0))) :
  OpE PT ⟨dst,.convert 42 42 x,ty,pos,af,g⟩ n s w (fun u w' => u = Sl b 0 m c ∧ Upd w b (.cells cs T (cs.size,cs.size + 1)) w'):=by
 refine ⟨fun ds a ha => ⟨Sl b 0 m c,w.freeze ⟨b,cs.size,none⟩ 1,Or.inl ?_,rfl,?_⟩⟩
 ·have hsh : w.shape? b = some (T,cs.size):=by simp [World.shape?,hb]
  simp only [execOp,ha.ev hx,Sem.run_bind]
  simp [convert,run_underlying Tryz.underlying42,run_underlying Tryz.underlying5,markStringish,hsh]
 ·have hlt:=(Array.getElem?_eq_some_iff.1 hb).1
  have he:=(Array.getElem?_eq_some_iff.1 hb).2
  refine ⟨by simp [World.freeze],by simp [World.freeze],by simp [World.freeze],by simp [World.freeze],?_,fun k hk => ?_⟩
  ·simp [World.freeze,Array.getElem?_modify,hb]
  ·simp only [World.freeze,Nat.one_ne_zero,if_false,Array.getElem?_modify]
   rw [if_neg (fun e => hk e.symm)]
end
end Go.Wk
namespace Go.Wk
open Go Go.RowKit Go.Proofs
theorem en10 : Enters PT 10:=enters_of Tryz.func10 rfl (by kernel_rfl)
theorem en11 : Enters PT 11:=enters_of Tryz.func11 rfl (by kernel_rfl)
theorem en12 : Enters PT 12:=enters_of Tryz.func12 rfl (by kernel_rfl)
theorem en14 : Enters PT 14:=enters_of Tryz.func14 rfl (by kernel_rfl)
theorem en18 : Enters PT 18:=enters_of Tryz.func18 rfl (by kernel_rfl)
theorem en19 : Enters PT 19:=enters_of Tryz.func19 rfl (by kernel_rfl)
theorem en20 : Enters PT 20:=enters_of Tryz.func20 rfl (by kernel_rfl)
theorem en21 : Enters PT 21:=enters_of Tryz.func21 rfl (by kernel_rfl)
theorem en22 : Enters PT 22:=enters_of Tryz.func22 rfl (by kernel_rfl)
theorem en26 : Enters PT 26:=enters_of Tryz.func26 rfl (by kernel_rfl)
theorem en27 : Enters PT 27:=enters_of Tryz.func27 rfl (by kernel_rfl)
theorem en28 : Enters PT 28:=enters_of Tryz.func28 rfl (by kernel_rfl)
theorem en29 : Enters PT 29:=enters_of Tryz.func29 rfl (by kernel_rfl)
theorem en30 : Enters PT 30:=enters_of Tryz.func30 rfl (by kernel_rfl)
theorem en31 : Enters PT 31:=enters_of Tryz.func31 rfl (by kernel_rfl)
theorem en32 : Enters PT 32:=enters_of Tryz.func32 rfl (by kernel_rfl)
theorem en34 : Enters PT 34:=enters_of Tryz.func34 rfl (by kernel_rfl)
theorem en35 : Enters PT 35:=enters_of Tryz.func35 rfl (by kernel_rfl)
theorem en36 : Enters PT 36:=enters_of Tryz.func36 rfl (by kernel_rfl)
theorem en37 : Enters PT 37:=enters_of Tryz.func37 rfl (by kernel_rfl)
theorem en38 : Enters PT 38:=enters_of Tryz.func38 rfl (by kernel_rfl)
theorem en39 : Enters PT 39:=enters_of Tryz.func39 rfl (by kernel_rfl)
theorem en40 : Enters PT 40:=enters_of Tryz.func40 rfl (by kernel_rfl)
theorem en41 : Enters PT 41:=enters_of Tryz.func41 rfl (by kernel_rfl)
theorem en42 : Enters PT 42:=enters_of Tryz.func42 rfl (by kernel_rfl)
theorem en43 : Enters PT 43:=enters_of Tryz.func43 rfl (by kernel_rfl)
theorem en44 : Enters PT 44:=enters_of Tryz.func44 rfl (by kernel_rfl)
theorem en45 : Enters PT 45:=enters_of Tryz.func45 rfl (by kernel_rfl)
theorem en46 : Enters PT 46:=enters_of Tryz.func46 rfl (by kernel_rfl)
theorem en47 : Enters PT 47:=enters_of Tryz.func47 rfl (by kernel_rfl)
theorem en48 : Enters PT 48:=enters_of Tryz.func48 rfl (by kernel_rfl)
theorem en49 : Enters PT 49:=enters_of Tryz.func49 rfl (by kernel_rfl)
theorem en50 : Enters PT 50:=enters_of Tryz.func50 rfl (by kernel_rfl)
theorem en51 : Enters PT 51:=enters_of Tryz.func51 rfl (by kernel_rfl)
theorem en52 : Enters PT 52:=enters_of Tryz.func52 rfl (by kernel_rfl)
theorem en53 : Enters PT 53:=enters_of Tryz.func53 rfl (by kernel_rfl)
theorem en54 : Enters PT 54:=enters_of Tryz.func54 rfl (by kernel_rfl)
theorem en55 : Enters PT 55:=enters_of Tryz.func55 rfl (by kernel_rfl)
theorem en56 : Enters PT 56:=enters_of Tryz.func56 rfl (by kernel_rfl)
theorem en57 : Enters PT 57:=enters_of Tryz.func57 rfl (by kernel_rfl)
theorem en58 : Enters PT 58:=enters_of Tryz.func58 rfl (by kernel_rfl)
theorem en59 : Enters PT 59:=enters_of Tryz.func59 rfl (by kernel_rfl)
theorem en60 : Enters PT 60:=enters_of Tryz.func60 rfl (by kernel_rfl)
theorem en61 : Enters PT 61:=enters_of Tryz.func61 rfl (by kernel_rfl)
theorem en62 : Enters PT 62:=enters_of Tryz.func62 rfl (by kernel_rfl)
theorem en63 : Enters PT 63:=enters_of Tryz.func63 rfl (by kernel_rfl)
theorem en64 : Enters PT 64:=enters_of Tryz.func64 rfl (by kernel_rfl)
theorem en65 : Enters PT 65:=enters_of Tryz.func65 rfl (by kernel_rfl)
theorem en66 : Enters PT 66:=enters_of Tryz.func66 rfl (by kernel_rfl)
theorem en67 : Enters PT 67:=enters_of Tryz.func67 rfl (by kernel_rfl)
theorem en68 : Enters PT 68:=enters_of Tryz.func68 rfl (by kernel_rfl)
theorem en69 : Enters PT 69:=enters_of Tryz.func69 rfl (by kernel_rfl)
theorem en70 : Enters PT 70:=enters_of Tryz.func70 rfl (by kernel_rfl)
theorem en71 : Enters PT 71:=enters_of Tryz.func71 rfl (by kernel_rfl)
theorem en72 : Enters PT 72:=enters_of Tryz.func72 rfl (by kernel_rfl)
theorem en73 : Enters PT 73:=enters_of Tryz.func73 rfl (by kernel_rfl)
theorem en74 : Enters PT 74:=enters_of Tryz.func74 rfl (by kernel_rfl)
theorem en75 : Enters PT 75:=enters_of Tryz.func75 rfl (by kernel_rfl)
theorem en76 : Enters PT 76:=enters_of Tryz.func76 rfl (by kernel_rfl)
theorem en77 : Enters PT 77:=enters_of Tryz.func77 rfl (by kernel_rfl)
theorem en78 : Enters PT 78:=enters_of Tryz.func78 rfl (by kernel_rfl)
theorem en79 : Enters PT 79:=enters_of Tryz.func79 rfl (by kernel_rfl)
theorem en80 : Enters PT 80:=enters_of Tryz.func80 rfl (by kernel_rfl)
theorem en81 : Enters PT 81:=enters_of Tryz.func81 rfl (by kernel_rfl)
theorem en82 : Enters PT 82:=enters_of Tryz.func82 rfl (by kernel_rfl)
theorem en83 : Enters PT 83:=enters_of Tryz.func83 rfl (by kernel_rfl)
theorem en84 : Enters PT 84:=enters_of Tryz.func84 rfl (by kernel_rfl)
theorem en85 : Enters PT 85:=enters_of Tryz.func85 rfl (by kernel_rfl)
theorem en86 : Enters PT 86:=enters_of Tryz.func86 rfl (by kernel_rfl)
theorem en87 : Enters PT 87:=enters_of Tryz.func87 rfl (by kernel_rfl)
theorem en88 : Enters PT 88:=enters_of Tryz.func88 rfl (by kernel_rfl)
theorem en89 : Enters PT 89:=enters_of Tryz.func89 rfl (by kernel_rfl)
theorem en90 : Enters PT 90:=enters_of Tryz.func90 rfl (by kernel_rfl)
theorem en91 : Enters PT 91:=enters_of Tryz.func91 rfl (by kernel_rfl)
theorem en92 : Enters PT 92:=enters_of Tryz.func92 rfl (by kernel_rfl)
theorem en93 : Enters PT 93:=enters_of Tryz.func93 rfl (by kernel_rfl)
theorem en94 : Enters PT 94:=enters_of Tryz.func94 rfl (by kernel_rfl)
theorem en95 : Enters PT 95:=enters_of Tryz.func95 rfl (by kernel_rfl)
theorem en96 : Enters PT 96:=enters_of Tryz.func96 rfl (by kernel_rfl)
theorem en97 : Enters PT 97:=enters_of Tryz.func97 rfl (by kernel_rfl)
theorem en98 : Enters PT 98:=enters_of Tryz.func98 rfl (by kernel_rfl)
theorem en99 : Enters PT 99:=enters_of Tryz.func99 rfl (by kernel_rfl)
theorem en100 : Enters PT 100:=enters_of Tryz.func100 rfl (by kernel_rfl)
theorem en101 : Enters PT 101:=enters_of Tryz.func101 rfl (by kernel_rfl)
theorem en102 : Enters PT 102:=enters_of Tryz.func102 rfl (by kernel_rfl)
theorem en103 : Enters PT 103:=enters_of Tryz.func103 rfl (by kernel_rfl)
theorem en104 : Enters PT 104:=enters_of Tryz.func104 rfl (by kernel_rfl)
theorem en105 : Enters PT 105:=enters_of Tryz.func105 rfl (by kernel_rfl)
theorem en106 : Enters PT 106:=enters_of Tryz.func106 rfl (by kernel_rfl)
theorem en107 : Enters PT 107:=enters_of Tryz.func107 rfl (by kernel_rfl)
theorem en108 : Enters PT 108:=enters_of Tryz.func108 rfl (by kernel_rfl)
theorem en109 : Enters PT 109:=enters_of Tryz.func109 rfl (by kernel_rfl)
theorem en110 : Enters PT 110:=enters_of Tryz.func110 rfl (by kernel_rfl)
theorem en111 : Enters PT 111:=enters_of Tryz.func111 rfl (by kernel_rfl)
theorem en113 : Enters PT 113:=enters_of Tryz.func113 rfl (by kernel_rfl)
theorem en114 : Enters PT 114:=enters_of Tryz.func114 rfl (by kernel_rfl)
theorem en115 : Enters PT 115:=enters_of Tryz.func115 rfl (by kernel_rfl)
theorem en116 : Enters PT 116:=enters_of Tryz.func116 rfl (by kernel_rfl)
theorem en117 : Enters PT 117:=enters_of Tryz.func117 rfl (by kernel_rfl)
theorem en118 : Enters PT 118:=enters_of Tryz.func118 rfl (by kernel_rfl)
theorem en119 : Enters PT 119:=enters_of Tryz.func119 rfl (by kernel_rfl)
theorem en120 : Enters PT 120:=enters_of Tryz.func120 rfl (by kernel_rfl)
theorem en121 : Enters PT 121:=enters_of Tryz.func121 rfl (by kernel_rfl)
theorem en122 : Enters PT 122:=enters_of Tryz.func122 rfl (by kernel_rfl)
theorem en123 : Enters PT 123:=enters_of Tryz.func123 rfl (by kernel_rfl)
theorem en124 : Enters PT 124:=enters_of Tryz.func124 rfl (by kernel_rfl)
theorem en125 : Enters PT 125:=enters_of Tryz.func125 rfl (by kernel_rfl)
theorem en126 : Enters PT 126:=enters_of Tryz.func126 rfl (by kernel_rfl)
theorem en127 : Enters PT 127:=enters_of Tryz.func127 rfl (by kernel_rfl)
theorem en128 : Enters PT 128:=enters_of Tryz.func128 rfl (by kernel_rfl)
theorem en134 : Enters PT 134:=enters_of Tryz.func134 rfl (by kernel_rfl)
theorem en135 : Enters PT 135:=enters_of Tryz.func135 rfl (by kernel_rfl)
theorem en136 : Enters PT 136:=enters_of Tryz.func136 rfl (by kernel_rfl)
theorem en137 : Enters PT 137:=enters_of Tryz.func137 rfl (by kernel_rfl)
theorem en138 : Enters PT 138:=enters_of Tryz.func138 rfl (by kernel_rfl)
theorem en139 : Enters PT 139:=enters_of Tryz.func139 rfl (by kernel_rfl)
theorem en140 : Enters PT 140:=enters_of Tryz.func140 rfl (by kernel_rfl)
theorem en141 : Enters PT 141:=enters_of Tryz.func141 rfl (by kernel_rfl)
theorem en142 : Enters PT 142:=enters_of Tryz.func142 rfl (by kernel_rfl)
theorem en143 : Enters PT 143:=enters_of Tryz.func143 rfl (by kernel_rfl)
theorem en144 : Enters PT 144:=enters_of Tryz.func144 rfl (by kernel_rfl)
theorem en149 : Enters PT 149:=enters_of Tryz.func149 rfl (by kernel_rfl)
theorem en152 : Enters PT 152:=enters_of Tryz.func152 rfl (by kernel_rfl)
theorem en153 : Enters PT 153:=enters_of Tryz.func153 rfl (by kernel_rfl)
theorem en154 : Enters PT 154:=enters_of Tryz.func154 rfl (by kernel_rfl)
theorem en155 : Enters PT 155:=enters_of Tryz.func155 rfl (by kernel_rfl)
theorem en156 : Enters PT 156:=enters_of Tryz.func156 rfl (by kernel_rfl)
theorem en157 : Enters PT 157:=enters_of Tryz.func157 rfl (by kernel_rfl)
theorem en158 : Enters PT 158:=enters_of Tryz.func158 rfl (by kernel_rfl)
theorem en159 : Enters PT 159:=enters_of Tryz.func159 rfl (by kernel_rfl)
theorem en160 : Enters PT 160:=enters_of Tryz.func160 rfl (by kernel_rfl)
theorem en161 : Enters PT 161:=enters_of Tryz.func161 rfl (by kernel_rfl)
theorem en162 : Enters PT 162:=enters_of Tryz.func162 rfl (by kernel_rfl)
theorem en165 : Enters PT 165:=enters_of Tryz.func165 rfl (by kernel_rfl)
theorem en166 : Enters PT 166:=enters_of Tryz.func166 rfl (by kernel_rfl)
theorem en167 : Enters PT 167:=enters_of Tryz.func167 rfl (by kernel_rfl)
theorem en168 : Enters PT 168:=enters_of Tryz.func168 rfl (by kernel_rfl)
theorem en169 : Enters PT 169:=enters_of Tryz.func169 rfl (by kernel_rfl)
theorem en170 : Enters PT 170:=enters_of Tryz.func170 rfl (by kernel_rfl)
theorem en171 : Enters PT 171:=enters_of Tryz.func171 rfl (by kernel_rfl)
theorem en172 : Enters PT 172:=enters_of Tryz.func172 rfl (by kernel_rfl)
theorem en173 : Enters PT 173:=enters_of Tryz.func173 rfl (by kernel_rfl)
theorem en174 : Enters PT 174:=enters_of Tryz.func174 rfl (by kernel_rfl)
theorem en175 : Enters PT 175:=enters_of Tryz.func175 rfl (by kernel_rfl)
end Go.Wk
namespace Go.Wk
open Go Go.RowKit Go.Proofs
section
variable {n : Nat} {k : Ks} {ops : Array Oper} {s : Slots} {ds : List Deferred} {w : World} {m : List Nat} {r : List Oper} {C : World → Prop} {d : Nat} {ty : TypeId} {pos : String} {af : Array Edge} {x y z : Operand} {v : Value}
theorem X0 (hx : ev s x = some v) (hd : Nat.blt d n = true) (h : RE PT Eq n k ops [] r (Eq w) ((d,v) :: s) ds) : RE PT Eq n k ops [] (⟨some d,.assign x,ty,pos,af,none⟩ :: r) (Eq w) s ds:=
 RE.x (op_assign hx) hd h
theorem X1 (hx : ev s x = some v) (hd : Nat.blt d n = true) (h : RE PT Eq n k ops [] r (Eq w) ((d,v) :: s) ds) : RE PT Eq n k ops [] (⟨some d,.move x,ty,pos,af,none⟩ :: r) (Eq w) s ds:=
 RE.x (op_move hx) hd h
theorem X2 {a : Addr} (hx : ev s x = some (.pointer (some a))) (hd : Nat.blt d n = true) (h : RE PT Eq n k ops [] r (Eq w) ((d,.pointer (some a)) :: s) ds) : RE PT Eq n k ops [] (⟨some d,.nilCheck x,ty,pos,af,none⟩ :: r) (Eq w) s ds:=
 RE.x (op_nil hx) hd h
theorem X3 {t kk b off : Nat} (hx : ev s x = some (Ptr b 0)) (hf : foLook foT t kk = some off) (hd : Nat.blt d n = true) (h : RE PT Eq n k ops [] r (Eq w) ((d,Ptr b off) :: s) ds) : RE PT Eq n k ops [] (⟨some d,.fieldAddr t x kk,ty,pos,af,none⟩ :: r) (Eq w) s ds:=
 RE.x (op_fieldAddr0 hx hf) hd h
theorem X4 {t kk b o off : Nat} (hx : ev s x = some (Ptr b o)) (hf : foLook foT t kk = some off) (hd : Nat.blt d n = true) (h : RE PT Eq n k ops [] r (Eq w) ((d,Ptr b (o + off)) :: s) ds) : RE PT Eq n k ops [] (⟨some d,.fieldAddr t x kk,ty,pos,af,none⟩ :: r) (Eq w) s ds:=
 RE.x (op_fieldAddr hx hf) hd h
theorem X5 {kk : IntKind} {a b : Int} {t t2 : TypeId} (hx : ev s x = some (.int kk a)) (hy : ev s y = some (.int kk b)) (hd : Nat.blt d n = true) (h : RE PT Eq n k ops [] r (Eq w) ((d,.bool (decide (a = b))) :: s) ds) : RE PT Eq n k ops [] (⟨some d,.binOp .eql t x y t2,ty,pos,af,none⟩ :: r) (Eq w) s ds:=
 RE.x (op_eql hx hy) hd h
theorem X6 {kk : IntKind} {a b : Int} {t t2 : TypeId} (hx : ev s x = some (.int kk a)) (hy : ev s y = some (.int kk b)) (hd : Nat.blt d n = true) (h : RE PT Eq n k ops [] r (Eq w) ((d,.bool (decide (a ≠ b))) :: s) ds) : RE PT Eq n k ops [] (⟨some d,.binOp .neq t x y t2,ty,pos,af,none⟩ :: r) (Eq w) s ds:=
 RE.x (op_neq hx hy) hd h
theorem X7 {kk : IntKind} {a b : Int} {t t2 : TypeId} (hx : ev s x = some (.int kk a)) (hy : ev s y = some (.int kk b)) (hd : Nat.blt d n = true) (h : RE PT Eq n k ops [] r (Eq w) ((d,.bool (decide (a < b))) :: s) ds) : RE PT Eq n k ops [] (⟨some d,.binOp .lss t x y t2,ty,pos,af,none⟩ :: r) (Eq w) s ds:=
 RE.x (op_lss hx hy) hd h
theorem X8 {kk : IntKind} {a b : Int} {t t2 : TypeId} (hx : ev s x = some (.int kk a)) (hy : ev s y = some (.int kk b)) (hd : Nat.blt d n = true) (h : RE PT Eq n k ops [] r (Eq w) ((d,.bool (decide (a ≤ b))) :: s) ds) : RE PT Eq n k ops [] (⟨some d,.binOp .leq t x y t2,ty,pos,af,none⟩ :: r) (Eq w) s ds:=
 RE.x (op_leq hx hy) hd h
theorem X9 {kk : IntKind} {a b : Int} {t t2 : TypeId} (hx : ev s x = some (.int kk a)) (hy : ev s y = some (.int kk b)) (hd : Nat.blt d n = true) (h : RE PT Eq n k ops [] r (Eq w) ((d,.bool (decide (b < a))) :: s) ds) : RE PT Eq n k ops [] (⟨some d,.binOp .gtr t x y t2,ty,pos,af,none⟩ :: r) (Eq w) s ds:=
 RE.x (op_gtr hx hy) hd h
theorem X10 {kk : IntKind} {a b : Int} {t t2 : TypeId} (hx : ev s x = some (.int kk a)) (hy : ev s y = some (.int kk b)) (hd : Nat.blt d n = true) (h : RE PT Eq n k ops [] r (Eq w) ((d,.bool (decide (b ≤ a))) :: s) ds) : RE PT Eq n k ops [] (⟨some d,.binOp .geq t x y t2,ty,pos,af,none⟩ :: r) (Eq w) s ds:=
 RE.x (op_geq hx hy) hd h
theorem X11 {b : Bool} {t : TypeId} (hx : ev s x = some (.bool b)) (hd : Nat.blt d n = true) (h : RE PT Eq n k ops [] r (Eq w) ((d,.bool (!b)) :: s) ds) : RE PT Eq n k ops [] (⟨some d,.unOp .not t x,ty,pos,af,none⟩ :: r) (Eq w) s ds:=
 RE.x (op_not hx) hd h
theorem X12 {p : Prop} [Decidable p] {t : TypeId} (hx : ev s x = some (.bool (decide p))) (hd : Nat.blt d n = true) (h : RE PT Eq n k ops [] r (Eq w) ((d,.bool (decide (¬ p))) :: s) ds) : RE PT Eq n k ops [] (⟨some d,.unOp .not t x,ty,pos,af,none⟩ :: r) (Eq w) s ds:=
 RE.x (op_not_d hx) hd h
theorem X13 {t e z m2 c : Nat} {o : Option Addr} (hx : ev s x = some (.slice o m2 c)) (ht : slLook slT t = some (e,z)) (hd : Nat.blt d n = true) (h : RE PT Eq n k ops [] r (Eq w) ((d,I m2) :: s) ds) : RE PT Eq n k ops [] (⟨some d,.call { callee:=.builtin .len,args:=#[x],argTypes:=#[t] },ty,pos,af,none⟩ :: r) (Eq w) s ds:=
 RE.x (op_len_sl hx ht) hd h
theorem X14 {a : List UInt8} {t : TypeId} (hx : ev s x = some (S a)) (ht : PT.underlying t = some .string) (hd : Nat.blt d n = true) (h : RE PT Eq n k ops [] r (Eq w) ((d,I a.length) :: s) ds) : RE PT Eq n k ops [] (⟨some d,.call { callee:=.builtin .len,args:=#[x],argTypes:=#[t] },ty,pos,af,none⟩ :: r) (Eq w) s ds:=
 RE.x (op_len_s hx ht) hd h
theorem X15 {vs : Array Value} {i : Nat} (hx : ev s x = some (.tuple vs)) (hv : nth vs.toList i = some v) (hd : Nat.blt d n = true) (h : RE PT Eq n k ops [] r (Eq w) ((d,v) :: s) ds) : RE PT Eq n k ops [] (⟨some d,.extract x i,ty,pos,af,none⟩ :: r) (Eq w) s ds:=
 RE.x (op_extract hx hv) hd h
theorem X16 {v2 : Value} (hx : ev s x = some (.bool true)) (hy : ev s y = some v) (hz : ev s z = some v2) (hd : Nat.blt d n = true) (h : RE PT Eq n k ops [] r (Eq w) ((d,v) :: s) ds) : RE PT Eq n k ops [] (⟨some d,.pick x y z,ty,pos,af,none⟩ :: r) (Eq w) s ds:=
 RE.x (op_pick_t hx hy hz) hd h
theorem X17 (hx : ev s x = some (.bool false)) (hz : ev s z = some v) (hd : Nat.blt d n = true) (h : RE PT Eq n k ops [] r (Eq w) ((d,v) :: s) ds) : RE PT Eq n k ops [] (⟨some d,.pick x y z,ty,pos,af,none⟩ :: r) (Eq w) s ds:=
 RE.x (op_pick_f hx hz) hd h
theorem X18 {a b : Int} {t t2 : TypeId} (hx : ev s x = some (I a)) (hy : ev s y = some (I b)) (h3 : -9223372036854775808 ≤ a + b) (h4 : a + b ≤ 9223372036854775807) (hd : Nat.blt d n = true) (h : RE PT Eq n k ops [] r (Eq w) ((d,I (a + b)) :: s) ds) : RE PT Eq n k ops [] (⟨some d,.binOp .add t x y t2,ty,pos,af,none⟩ :: r) (Eq w) s ds:=
 RE.x (op_add64 hx hy h3 h4) hd h
theorem X19 {a b : Int} {t t2 : TypeId} (hx : ev s x = some (I a)) (hy : ev s y = some (I b)) (h3 : -9223372036854775808 ≤ a - b) (h4 : a - b ≤ 9223372036854775807) (hd : Nat.blt d n = true) (h : RE PT Eq n k ops [] r (Eq w) ((d,I (a - b)) :: s) ds) : RE PT Eq n k ops [] (⟨some d,.binOp .sub t x y t2,ty,pos,af,none⟩ :: r) (Eq w) s ds:=
 RE.x (op_sub64 hx hy h3 h4) hd h
theorem X20 {a b : List UInt8} {t t2 : TypeId} (hx : ev s x = some (S a)) (hy : ev s y = some (S b)) (hd : Nat.blt d n = true) (h : RE PT Eq n k ops [] r (Eq w) ((d,.bool (decide (a = b))) :: s) ds) : RE PT Eq n k ops [] (⟨some d,.binOp .eql t x y t2,ty,pos,af,none⟩ :: r) (Eq w) s ds:=
 RE.x (op_eql_s hx hy) hd h
theorem X21 {a b : List UInt8} {t t2 : TypeId} (hx : ev s x = some (S a)) (hy : ev s y = some (S b)) (hd : Nat.blt d n = true) (h : RE PT Eq n k ops [] r (Eq w) ((d,.bool (decide (a ≠ b))) :: s) ds) : RE PT Eq n k ops [] (⟨some d,.binOp .neq t x y t2,ty,pos,af,none⟩ :: r) (Eq w) s ds:=
 RE.x (op_neq_s hx hy) hd h
theorem X22 {t b o : Nat} {cs : Array Value} {T : TypeId} {fr : Nat × Nat} (hx : ev s x = some (Ptr b o)) (ht : nonAgg.elem t = true) (hb : w.heap[b]? = some (.cells cs T fr)) (hv : nth cs.toList o = some v) (hd : Nat.blt d n = true) (h : RE PT Eq n k ops [] r (Eq w) ((d,v) :: s) ds) : RE PT Eq n k ops [] (⟨some d,.load t x,ty,pos,af,none⟩ :: r) (Eq w) s ds:=
 RE.x (op_loadB hx ht hb hv) hd h
theorem X23 {t kk b o : Nat} {cs : Array Value} {T : TypeId} {fr : Nat × Nat} {vs : List Value} (hx : ev s x = some (Ptr b o)) (ht : agLook agT t = some kk) (hb : w.heap[b]? = some (.cells cs T fr)) (hv : (cs.toList.drop o).take kk = vs) (hk : vs.length = kk) (hd : Nat.blt d n = true) (h : RE PT Eq n k ops [] r (Eq w) ((d,.agg vs.toArray) :: s) ds) : RE PT Eq n k ops [] (⟨some d,.load t x,ty,pos,af,none⟩ :: r) (Eq w) s ds:=
 RE.x (op_loadA hx ht hb hv hk) hd h
theorem Y0 (hx : ev s x = some v) (hd : Nat.blt d n = true) (h : RE PT Eq n k ops m r (Eq w) ((d,v) :: s) ds) : RE PT Eq n k ops (0 :: m) (⟨some d,.assign x,ty,pos,af,none⟩ :: r) (Eq w) s ds:=
 RE.d1 (op_assign hx) hd h
theorem Y1 (hx : ev s x = some v) (hd : Nat.blt d n = true) (h : RE PT Eq n k ops m r (Eq w) ((d,v) :: s) ds) : RE PT Eq n k ops (0 :: m) (⟨some d,.move x,ty,pos,af,none⟩ :: r) (Eq w) s ds:=
 RE.d1 (op_move hx) hd h
theorem Y2 {a : Addr} (hx : ev s x = some (.pointer (some a))) (hd : Nat.blt d n = true) (h : RE PT Eq n k ops m r (Eq w) ((d,.pointer (some a)) :: s) ds) : RE PT Eq n k ops (0 :: m) (⟨some d,.nilCheck x,ty,pos,af,none⟩ :: r) (Eq w) s ds:=
 RE.d1 (op_nil hx) hd h
theorem Y3 {t kk b off : Nat} (hx : ev s x = some (Ptr b 0)) (hf : foLook foT t kk = some off) (hd : Nat.blt d n = true) (h : RE PT Eq n k ops m r (Eq w) ((d,Ptr b off) :: s) ds) : RE PT Eq n k ops (0 :: m) (⟨some d,.fieldAddr t x kk,ty,pos,af,none⟩ :: r) (Eq w) s ds:=
 RE.d1 (op_fieldAddr0 hx hf) hd h
theorem Y5 {kk : IntKind} {a b : Int} {t t2 : TypeId} (hx : ev s x = some (.int kk a)) (hy : ev s y = some (.int kk b)) (hd : Nat.blt d n = true) (h : RE PT Eq n k ops m r (Eq w) ((d,.bool (decide (a = b))) :: s) ds) : RE PT Eq n k ops (0 :: m) (⟨some d,.binOp .eql t x y t2,ty,pos,af,none⟩ :: r) (Eq w) s ds:=
 RE.d1 (op_eql hx hy) hd h
theorem Y7 {kk : IntKind} {a b : Int} {t t2 : TypeId} (hx : ev s x = some (.int kk a)) (hy : ev s y = some (.int kk b)) (hd : Nat.blt d n = true) (h : RE PT Eq n k ops m r (Eq w) ((d,.bool (decide (a < b))) :: s) ds) : RE PT Eq n k ops (0 :: m) (⟨some d,.binOp .lss t x y t2,ty,pos,af,none⟩ :: r) (Eq w) s ds:=
 RE.d1 (op_lss hx hy) hd h
theorem Y9 {kk : IntKind} {a b : Int} {t t2 : TypeId} (hx : ev s x = some (.int kk a)) (hy : ev s y = some (.int kk b)) (hd : Nat.blt d n = true) (h : RE PT Eq n k ops m r (Eq w) ((d,.bool (decide (b < a))) :: s) ds) : RE PT Eq n k ops (0 :: m) (⟨some d,.binOp .gtr t x y t2,ty,pos,af,none⟩ :: r) (Eq w) s ds:=
 RE.d1 (op_gtr hx hy) hd h
theorem Y10 {kk : IntKind} {a b : Int} {t t2 : TypeId} (hx : ev s x = some (.int kk a)) (hy : ev s y = some (.int kk b)) (hd : Nat.blt d n = true) (h : RE PT Eq n k ops m r (Eq w) ((d,.bool (decide (b ≤ a))) :: s) ds) : RE PT Eq n k ops (0 :: m) (⟨some d,.binOp .geq t x y t2,ty,pos,af,none⟩ :: r) (Eq w) s ds:=
 RE.d1 (op_geq hx hy) hd h
theorem Y11 {b : Bool} {t : TypeId} (hx : ev s x = some (.bool b)) (hd : Nat.blt d n = true) (h : RE PT Eq n k ops m r (Eq w) ((d,.bool (!b)) :: s) ds) : RE PT Eq n k ops (0 :: m) (⟨some d,.unOp .not t x,ty,pos,af,none⟩ :: r) (Eq w) s ds:=
 RE.d1 (op_not hx) hd h
theorem Y13 {t e z m2 c : Nat} {o : Option Addr} (hx : ev s x = some (.slice o m2 c)) (ht : slLook slT t = some (e,z)) (hd : Nat.blt d n = true) (h : RE PT Eq n k ops m r (Eq w) ((d,I m2) :: s) ds) : RE PT Eq n k ops (0 :: m) (⟨some d,.call { callee:=.builtin .len,args:=#[x],argTypes:=#[t] },ty,pos,af,none⟩ :: r) (Eq w) s ds:=
 RE.d1 (op_len_sl hx ht) hd h
theorem Y14 {a : List UInt8} {t : TypeId} (hx : ev s x = some (S a)) (ht : PT.underlying t = some .string) (hd : Nat.blt d n = true) (h : RE PT Eq n k ops m r (Eq w) ((d,I a.length) :: s) ds) : RE PT Eq n k ops (0 :: m) (⟨some d,.call { callee:=.builtin .len,args:=#[x],argTypes:=#[t] },ty,pos,af,none⟩ :: r) (Eq w) s ds:=
 RE.d1 (op_len_s hx ht) hd h
theorem Y15 {vs : Array Value} {i : Nat} (hx : ev s x = some (.tuple vs)) (hv : nth vs.toList i = some v) (hd : Nat.blt d n = true) (h : RE PT Eq n k ops m r (Eq w) ((d,v) :: s) ds) : RE PT Eq n k ops (0 :: m) (⟨some d,.extract x i,ty,pos,af,none⟩ :: r) (Eq w) s ds:=
 RE.d1 (op_extract hx hv) hd h
theorem Y16 {v2 : Value} (hx : ev s x = some (.bool true)) (hy : ev s y = some v) (hz : ev s z = some v2) (hd : Nat.blt d n = true) (h : RE PT Eq n k ops m r (Eq w) ((d,v) :: s) ds) : RE PT Eq n k ops (0 :: m) (⟨some d,.pick x y z,ty,pos,af,none⟩ :: r) (Eq w) s ds:=
 RE.d1 (op_pick_t hx hy hz) hd h
theorem Y17 (hx : ev s x = some (.bool false)) (hz : ev s z = some v) (hd : Nat.blt d n = true) (h : RE PT Eq n k ops m r (Eq w) ((d,v) :: s) ds) : RE PT Eq n k ops (0 :: m) (⟨some d,.pick x y z,ty,pos,af,none⟩ :: r) (Eq w) s ds:=
 RE.d1 (op_pick_f hx hz) hd h
theorem Y18 {a b : Int} {t t2 : TypeId} (hx : ev s x = some (I a)) (hy : ev s y = some (I b)) (h3 : -9223372036854775808 ≤ a + b) (h4 : a + b ≤ 9223372036854775807) (hd : Nat.blt d n = true) (h : RE PT Eq n k ops m r (Eq w) ((d,I (a + b)) :: s) ds) : RE PT Eq n k ops (0 :: m) (⟨some d,.binOp .add t x y t2,ty,pos,af,none⟩ :: r) (Eq w) s ds:=
 RE.d1 (op_add64 hx hy h3 h4) hd h
theorem Y19 {a b : Int} {t t2 : TypeId} (hx : ev s x = some (I a)) (hy : ev s y = some (I b)) (h3 : -9223372036854775808 ≤ a - b) (h4 : a - b ≤ 9223372036854775807) (hd : Nat.blt d n = true) (h : RE PT Eq n k ops m r (Eq w) ((d,I (a - b)) :: s) ds) : RE PT Eq n k ops (0 :: m) (⟨some d,.binOp .sub t x y t2,ty,pos,af,none⟩ :: r) (Eq w) s ds:=
 RE.d1 (op_sub64 hx hy h3 h4) hd h
theorem Y20 {a b : List UInt8} {t t2 : TypeId} (hx : ev s x = some (S a)) (hy : ev s y = some (S b)) (hd : Nat.blt d n = true) (h : RE PT Eq n k ops m r (Eq w) ((d,.bool (decide (a = b))) :: s) ds) : RE PT Eq n k ops (0 :: m) (⟨some d,.binOp .eql t x y t2,ty,pos,af,none⟩ :: r) (Eq w) s ds:=
 RE.d1 (op_eql_s hx hy) hd h
theorem Y21 {a b : List UInt8} {t t2 : TypeId} (hx : ev s x = some (S a)) (hy : ev s y = some (S b)) (hd : Nat.blt d n = true) (h : RE PT Eq n k ops m r (Eq w) ((d,.bool (decide (a ≠ b))) :: s) ds) : RE PT Eq n k ops (0 :: m) (⟨some d,.binOp .neq t x y t2,ty,pos,af,none⟩ :: r) (Eq w) s ds:=
 RE.d1 (op_neq_s hx hy) hd h
theorem Y22 {t b o : Nat} {cs : Array Value} {T : TypeId} {fr : Nat × Nat} (hx : ev s x = some (Ptr b o)) (ht : nonAgg.elem t = true) (hb : w.heap[b]? = some (.cells cs T fr)) (hv : nth cs.toList o = some v) (hd : Nat.blt d n = true) (h : RE PT Eq n k ops m r (Eq w) ((d,v) :: s) ds) : RE PT Eq n k ops (0 :: m) (⟨some d,.load t x,ty,pos,af,none⟩ :: r) (Eq w) s ds:=
 RE.d1 (op_loadB hx ht hb hv) hd h
theorem Z1 (hx : ev s x = some v) (hd : Nat.blt d n = true) (h : RE PT Ext n k ops m r C ((d,v) :: s) ds) : RE PT Ext n k ops (0 :: m) (⟨some d,.move x,ty,pos,af,none⟩ :: r) C s ds:=
 RE.dd (fun _ _ => op_move hx) hd Ext.refl h
theorem Z2 {a : Addr} (hx : ev s x = some (.pointer (some a))) (hd : Nat.blt d n = true) (h : RE PT Ext n k ops m r C ((d,.pointer (some a)) :: s) ds) : RE PT Ext n k ops (0 :: m) (⟨some d,.nilCheck x,ty,pos,af,none⟩ :: r) C s ds:=
 RE.dd (fun _ _ => op_nil hx) hd Ext.refl h
theorem Z3 {t kk b off : Nat} (hx : ev s x = some (Ptr b 0)) (hf : foLook foT t kk = some off) (hd : Nat.blt d n = true) (h : RE PT Ext n k ops m r C ((d,Ptr b off) :: s) ds) : RE PT Ext n k ops (0 :: m) (⟨some d,.fieldAddr t x kk,ty,pos,af,none⟩ :: r) C s ds:=
 RE.dd (fun _ _ => op_fieldAddr0 hx hf) hd Ext.refl h
theorem Z5 {kk : IntKind} {a b : Int} {t t2 : TypeId} (hx : ev s x = some (.int kk a)) (hy : ev s y = some (.int kk b)) (hd : Nat.blt d n = true) (h : RE PT Ext n k ops m r C ((d,.bool (decide (a = b))) :: s) ds) : RE PT Ext n k ops (0 :: m) (⟨some d,.binOp .eql t x y t2,ty,pos,af,none⟩ :: r) C s ds:=
 RE.dd (fun _ _ => op_eql hx hy) hd Ext.refl h
theorem Z6 {kk : IntKind} {a b : Int} {t t2 : TypeId} (hx : ev s x = some (.int kk a)) (hy : ev s y = some (.int kk b)) (hd : Nat.blt d n = true) (h : RE PT Ext n k ops m r C ((d,.bool (decide (a ≠ b))) :: s) ds) : RE PT Ext n k ops (0 :: m) (⟨some d,.binOp .neq t x y t2,ty,pos,af,none⟩ :: r) C s ds:=
 RE.dd (fun _ _ => op_neq hx hy) hd Ext.refl h
theorem Z7 {kk : IntKind} {a b : Int} {t t2 : TypeId} (hx : ev s x = some (.int kk a)) (hy : ev s y = some (.int kk b)) (hd : Nat.blt d n = true) (h : RE PT Ext n k ops m r C ((d,.bool (decide (a < b))) :: s) ds) : RE PT Ext n k ops (0 :: m) (⟨some d,.binOp .lss t x y t2,ty,pos,af,none⟩ :: r) C s ds:=
 RE.dd (fun _ _ => op_lss hx hy) hd Ext.refl h
theorem Z8 {kk : IntKind} {a b : Int} {t t2 : TypeId} (hx : ev s x = some (.int kk a)) (hy : ev s y = some (.int kk b)) (hd : Nat.blt d n = true) (h : RE PT Ext n k ops m r C ((d,.bool (decide (a ≤ b))) :: s) ds) : RE PT Ext n k ops (0 :: m) (⟨some d,.binOp .leq t x y t2,ty,pos,af,none⟩ :: r) C s ds:=
 RE.dd (fun _ _ => op_leq hx hy) hd Ext.refl h
theorem Z9 {kk : IntKind} {a b : Int} {t t2 : TypeId} (hx : ev s x = some (.int kk a)) (hy : ev s y = some (.int kk b)) (hd : Nat.blt d n = true) (h : RE PT Ext n k ops m r C ((d,.bool (decide (b < a))) :: s) ds) : RE PT Ext n k ops (0 :: m) (⟨some d,.binOp .gtr t x y t2,ty,pos,af,none⟩ :: r) C s ds:=
 RE.dd (fun _ _ => op_gtr hx hy) hd Ext.refl h
theorem Z10 {kk : IntKind} {a b : Int} {t t2 : TypeId} (hx : ev s x = some (.int kk a)) (hy : ev s y = some (.int kk b)) (hd : Nat.blt d n = true) (h : RE PT Ext n k ops m r C ((d,.bool (decide (b ≤ a))) :: s) ds) : RE PT Ext n k ops (0 :: m) (⟨some d,.binOp .geq t x y t2,ty,pos,af,none⟩ :: r) C s ds:=
 RE.dd (fun _ _ => op_geq hx hy) hd Ext.refl h
theorem Z11 {b : Bool} {t : TypeId} (hx : ev s x = some (.bool b)) (hd : Nat.blt d n = true) (h : RE PT Ext n k ops m r C ((d,.bool (!b)) :: s) ds) : RE PT Ext n k ops (0 :: m) (⟨some d,.unOp .not t x,ty,pos,af,none⟩ :: r) C s ds:=
 RE.dd (fun _ _ => op_not hx) hd Ext.refl h
theorem Z13 {t e z m2 c : Nat} {o : Option Addr} (hx : ev s x = some (.slice o m2 c)) (ht : slLook slT t = some (e,z)) (hd : Nat.blt d n = true) (h : RE PT Ext n k ops m r C ((d,I m2) :: s) ds) : RE PT Ext n k ops (0 :: m) (⟨some d,.call { callee:=.builtin .len,args:=#[x],argTypes:=#[t] },ty,pos,af,none⟩ :: r) C s ds:=
 RE.dd (fun _ _ => op_len_sl hx ht) hd Ext.refl h
theorem Z14 {a : List UInt8} {t : TypeId} (hx : ev s x = some (S a)) (ht : PT.underlying t = some .string) (hd : Nat.blt d n = true) (h : RE PT Ext n k ops m r C ((d,I a.length) :: s) ds) : RE PT Ext n k ops (0 :: m) (⟨some d,.call { callee:=.builtin .len,args:=#[x],argTypes:=#[t] },ty,pos,af,none⟩ :: r) C s ds:=
 RE.dd (fun _ _ => op_len_s hx ht) hd Ext.refl h
theorem Z16 {v2 : Value} (hx : ev s x = some (.bool true)) (hy : ev s y = some v) (hz : ev s z = some v2) (hd : Nat.blt d n = true) (h : RE PT Ext n k ops m r C ((d,v) :: s) ds) : RE PT Ext n k ops (0 :: m) (⟨some d,.pick x y z,ty,pos,af,none⟩ :: r) C s ds:=
 RE.dd (fun _ _ => op_pick_t hx hy hz) hd Ext.refl h
theorem Z17 (hx : ev s x = some (.bool false)) (hz : ev s z = some v) (hd : Nat.blt d n = true) (h : RE PT Ext n k ops m r C ((d,v) :: s) ds) : RE PT Ext n k ops (0 :: m) (⟨some d,.pick x y z,ty,pos,af,none⟩ :: r) C s ds:=
 RE.dd (fun _ _ => op_pick_f hx hz) hd Ext.refl h
theorem Z18 {a b : Int} {t t2 : TypeId} (hx : ev s x = some (I a)) (hy : ev s y = some (I b)) (h3 : -9223372036854775808 ≤ a + b) (h4 : a + b ≤ 9223372036854775807) (hd : Nat.blt d n = true) (h : RE PT Ext n k ops m r C ((d,I (a + b)) :: s) ds) : RE PT Ext n k ops (0 :: m) (⟨some d,.binOp .add t x y t2,ty,pos,af,none⟩ :: r) C s ds:=
 RE.dd (fun _ _ => op_add64 hx hy h3 h4) hd Ext.refl h
theorem Z19 {a b : Int} {t t2 : TypeId} (hx : ev s x = some (I a)) (hy : ev s y = some (I b)) (h3 : -9223372036854775808 ≤ a - b) (h4 : a - b ≤ 9223372036854775807) (hd : Nat.blt d n = true) (h : RE PT Ext n k ops m r C ((d,I (a - b)) :: s) ds) : RE PT Ext n k ops (0 :: m) (⟨some d,.binOp .sub t x y t2,ty,pos,af,none⟩ :: r) C s ds:=
 RE.dd (fun _ _ => op_sub64 hx hy h3 h4) hd Ext.refl h
theorem Z21 {a b : List UInt8} {t t2 : TypeId} (hx : ev s x = some (S a)) (hy : ev s y = some (S b)) (hd : Nat.blt d n = true) (h : RE PT Ext n k ops m r C ((d,.bool (decide (a ≠ b))) :: s) ds) : RE PT Ext n k ops (0 :: m) (⟨some d,.binOp .neq t x y t2,ty,pos,af,none⟩ :: r) C s ds:=
 RE.dd (fun _ _ => op_neq_s hx hy) hd Ext.refl h
theorem Z22 {t b o : Nat} {cs : Array Value} {T : TypeId} {fr : Nat × Nat} (hx : ev s x = some (Ptr b o)) (ht : nonAgg.elem t = true) (hb : w.heap[b]? = some (.cells cs T fr)) (hv : nth cs.toList o = some v) (hd : Nat.blt d n = true) (h : RE PT Ext n k ops m r (Ext w) ((d,v) :: s) ds) : RE PT Ext n k ops (0 :: m) (⟨some d,.load t x,ty,pos,af,none⟩ :: r) (Ext w) s ds:=
 RE.dd (fun _ hw => op_loadB hx ht (Ext.block hw hb) hv) hd Ext.refl h
theorem Z23 {t kk b o : Nat} {cs : Array Value} {T : TypeId} {fr : Nat × Nat} {vs : List Value} (hx : ev s x = some (Ptr b o)) (ht : agLook agT t = some kk) (hb : w.heap[b]? = some (.cells cs T fr)) (hv : (cs.toList.drop o).take kk = vs) (hk : vs.length = kk) (hd : Nat.blt d n = true) (h : RE PT Ext n k ops m r (Ext w) ((d,.agg vs.toArray) :: s) ds) : RE PT Ext n k ops (0 :: m) (⟨some d,.load t x,ty,pos,af,none⟩ :: r) (Ext w) s ds:=
 RE.dd (fun _ hw => op_loadA hx ht (Ext.block hw hb) hv hk) hd Ext.refl h
end
section
variable {P : Program} {R : World → World → Prop} {n : Nat} {k k2 : Ks} {ops : Array Oper} {l : List Oper} {m : List Nat} {s : Slots} {ds : List Deferred} {w : World} {id : Nat} {C : World → Prop} {x y : Code} {kr : Slots → List Deferred → World → Prop} {kx : Nat → Slots → List Deferred → World → Prop}
theorem C0 (h : CE P n x ⟨fun s ds w => CE P n y k s ds w,k.r,k.x⟩ s ds w) : CE P n (.seq x y) k s ds w:=CE.seq h
theorem C1 (h : RE P Eq n k l.toArray [] l (Eq w) s ds) : CE P n (.region id l.toArray false) k s ds w:=CE.text h
theorem C2 (h : CE P n y k2 s ds w) : RE P R n ⟨fun s ds w => CE P n y k2 s ds w,kr,kx⟩ ops m [] (Eq w) s ds:=RE.nilx h
theorem C4 (h : ∀ w,C w → CE P n y k2 s ds w) : RE P R n ⟨fun s ds w => CE P n y k2 s ds w,kr,kx⟩ ops m [] C s ds:=RE.nil h
theorem C3 (h : CE P n y k2 s ds w) : CE P n .skip ⟨fun s ds w => CE P n y k2 s ds w,kr,kx⟩ s ds w:=CE.skip h
end
end Go.Wk
