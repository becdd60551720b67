/- The walk layer: regions that draw their order are run in the text's order, under a plan that the kernel checks. -/
import Derived.WalkKit
import Derived.Orders
namespace Go.Wk
open Go Go.RowKit

section core
variable {P : Program} {R : World → World → Prop} {ops : Array Oper} {md : Region.Mode}

def UpC (P : Program) (R : World → World → Prop) (φ : Value → World → Prop) (w : World) : Result Next → Prop
  | .ok (.value u) w' => R w w' ∧ φ u w'
  | .ok .skip w' => R w w' ∧ φ undef w'
  | .ok (.enter f args) w' => Calls P f args w' (fun e w2 => ∃ u, e = .returned u ∧ R w w2 ∧ φ u w2)
  | _ => False

structure YC (P : Program) (R : World → World → Prop) (ops : Array Oper) (C : World → Prop) (o : Oper) (φ : Value → World → Prop) (a : Act) : Prop where
  yes : Region.wanted o (yielded ops a.tmps) = true → ∀ w, C w → UpC P R φ w ((execOp a.eval o).run P w)
  no : Region.wanted o (yielded ops a.tmps) = false → ∀ w, C w → φ undef w

theorem YC.wpOp {C : World → Prop} {o : Oper} {φ : Value → World → Prop} {a : Act} {i : Nat} {Q : Exit → Act → World → Prop} {K : Act → World → Prop} {w : World}
    (hrefl : ∀ w, R w w) (hi : ops[i]? = some o) (h : YC P R ops C o φ a) (hC : C w)
    (hk : ∀ v w', R w w' → φ v w' → K (a.put o.dst v) w') : Go.wpOp P ops Q i K a w := by
  unfold Go.wpOp
  simp only [hi]
  cases hw : Region.wanted o (yielded ops a.tmps) with
  | true =>
    simp only [if_true]
    refine Or.inl ?_
    have hu := h.yes hw w hC
    unfold Oper.wp
    generalize (execOp a.eval o).run P w = r at hu
    cases r with
    | halt x w' => exact hu.elim
    | ok n w' =>
      cases n <;> simp only [UpC] at hu <;> simp only [Oper.upon]
      case value u => exact hk _ _ hu.1 hu.2
      case skip => exact hk _ _ hu.1 hu.2
      case enter f args =>
        refine hu.mono ?_
        rintro e w2 ⟨u, rfl, h1, h2⟩
        exact hk _ _ h1 h2
  | false =>
    simp only [Bool.false_eq_true, if_false]
    exact hk _ _ (hrefl w) (h.no hw w hC)

theorem YC.ex {C : World → Prop} {o : Oper} {φ : Value → World → Prop} {a : Act} {w : World} (hrefl : ∀ w, R w w) (h : YC P R ops C o φ a) (hC : C w) :
    ∃ v w', R w w' ∧ φ v w' := by
  cases hw : Region.wanted o (yielded ops a.tmps) with
  | false => exact ⟨_, w, hrefl w, h.no hw w hC⟩
  | true =>
    have hu := h.yes hw w hC
    generalize (execOp a.eval o).run P w = r at hu
    cases r with
    | halt x w' => exact hu.elim
    | ok n w' =>
      cases n <;> simp only [UpC] at hu
      case value u => exact ⟨_, _, hu⟩
      case skip => exact ⟨_, _, hu⟩
      case enter f args =>
        obtain ⟨e, w2, fr, ⟨u, _, h1, h2⟩, _⟩ := hu []
        exact ⟨u, w2, h1, h2⟩

theorem YC.put {C : World → Prop} {o : Oper} {φ : Value → World → Prop} {a : Act} (h : YC P R ops C o φ a) (hs : ∀ cs b, o.op ≠ .select cs b)
    (dst : Option Tmp) (v : Value) (hd : ∀ d, dst = some d → d ∉ o.looksAt ops) : YC P R ops C o φ (a.put dst v) := by
  have he := execOp_put (ops := ops) o hs a dst v hd
  have hw := wanted_put (ops := ops) o a dst v hd
  exact ⟨fun h1 => he ▸ h.yes (hw ▸ h1), fun h1 => h.no (hw ▸ h1)⟩

theorem YC.unput {C : World → Prop} {o : Oper} {φ : Value → World → Prop} {a : Act} {dst : Option Tmp} {v : Value} (h : YC P R ops C o φ (a.put dst v)) (hs : ∀ cs b, o.op ≠ .select cs b)
    (hd : ∀ d, dst = some d → d ∉ o.looksAt ops) : YC P R ops C o φ a := by
  have he := execOp_put (ops := ops) o hs a dst v hd
  have hw := wanted_put (ops := ops) o a dst v hd
  exact ⟨fun h1 => he ▸ h.yes (hw.symm ▸ h1), fun h1 => h.no (hw.symm ▸ h1)⟩

theorem YC.mono {C C' : World → Prop} {o : Oper} {φ : Value → World → Prop} {a : Act} (h : YC P R ops C o φ a) (hC : ∀ w, C' w → C w) : YC P R ops C' o φ a :=
  ⟨fun h1 w hw => h.yes h1 w (hC w hw), fun h1 w hw => h.no h1 w (hC w hw)⟩

def Closed (md : Region.Mode) (ops : Array Oper) (listed : Array Bool) : Prop :=
  ∀ j oj, ops[j]? = some oj → listed.getD j false = true → ∀ e ∈ oj.after, Region.binds md e = true → listed.getD e.on false = true

theorem Closed.set {listed : Array Bool} {i : Nat} (h : Closed md ops listed) (hi : i ∈ Region.ready md ops listed) : Closed md ops (listed.setIfInBounds i true) := by
  obtain ⟨_, oi, hoi, hall⟩ := mem_ready.1 hi
  intro j oj hj hl e he hb
  by_cases hij : i = j
  · subst hij
    have : oj = oi := Option.some.inj (hj.symm.trans hoi)
    subst this
    exact getD_set_true (hall e he hb)
  · rw [getD_set_ne false hij] at hl
    exact getD_set_true (h j oj hj hl e he hb)

theorem Closed.init (n : Nat) : Closed md ops (Array.replicate n false) := by
  intro j oj _ hl
  exfalso
  rcases Nat.lt_or_ge j n with h | h
  · simp [h] at hl
  · simp [h] at hl

def wpS (P : Program) (R : World → World → Prop) (md : Region.Mode) (ops : Array Oper) (L : Array Bool → (World → Prop) → Act → Prop) :
    Nat → Array Bool → (World → Prop) → Act → Prop
  | 0, listed, C, a => L listed C a
  | f + 1, listed, C, a => Region.ready md ops listed ≠ [] ∧ ∀ i ∈ Region.ready md ops listed, ∃ o φ, ops[i]? = some o ∧
      (∀ v w w', φ v w → R w w' → φ v w') ∧ YC P R ops C o φ a ∧
      ∀ v, (∃ w, C w ∧ φ v w) → wpS P R md ops L f (listed.setIfInBounds i true) (fun w => C w ∧ φ v w) (a.put o.dst v)

theorem wpS_first {L : Array Bool → (World → Prop) → Act → Prop} {i : Nat} {oi : Oper} {v : Value} (hi : ops[i]? = some oi)
    (hsel : ∀ (j : Nat) (o : Oper) cs b, ops[j]? = some o → o.op ≠ .select cs b)
    (hL0 : ∀ listed C a, Closed md ops listed → i ∈ Region.ready md ops listed → L (listed.setIfInBounds i true) C a → ∀ j ∈ Region.ready md ops listed, j = i) :
    ∀ (f : Nat) (listed : Array Bool) (C : World → Prop) (a : Act), Closed md ops listed → (∃ w, C w) →
      (∀ j oj, ops[j]? = some oj → j ≠ i → listed.getD j true = false → (∀ e ∈ oj.after, Region.binds md e = true → e.on ≠ i) → oi.apart ops oj = true) →
      i ∈ Region.ready md ops listed → YC P R ops C oi (fun u _ => u = v) a →
      (∀ u, (∃ w, C w ∧ u = v) → wpS P R md ops L f (listed.setIfInBounds i true) (fun w => C w ∧ u = v) (a.put oi.dst u)) →
      wpS P R md ops L (f + 1) listed C a := by
  intro f
  induction f with
  | zero =>
    intro listed C a hcl hne _ hr hy H
    refine ⟨fun h => (by rw [h] at hr; cases hr), fun j hj => ?_⟩
    obtain ⟨w, hw⟩ := hne
    have hL := H v ⟨w, hw, rfl⟩
    have hji := hL0 listed _ _ hcl hr hL j hj
    subst hji
    exact ⟨oi, _, hi, fun _ _ _ h _ => h, hy, H⟩
  | succ f ih =>
    intro listed C a hcl hne hfree hr hy H
    refine ⟨fun h => (by rw [h] at hr; cases hr), fun j hj => ?_⟩
    by_cases hji : j = i
    · subst hji; exact ⟨oi, _, hi, fun _ _ _ h _ => h, hy, H⟩
    · obtain ⟨w0, hw0⟩ := hne
      have Hv := H v ⟨w0, hw0, rfl⟩
      obtain ⟨oj, φ, hoj, hup, hyj, hnext⟩ := Hv.2 j (ready_mono hj hji)
      obtain ⟨hjun, oj', hoj', hall⟩ := mem_ready.1 hj
      have hoo : oj' = oj := Option.some.inj (hoj'.symm.trans hoj)
      subst hoo
      have hnot : ∀ e ∈ oj'.after, Region.binds md e = true → e.on ≠ i := fun e he hb heq => by
        have h1 := hall e he hb
        have h0 := (mem_ready.1 hr).1
        rw [heq] at h1
        rcases Nat.lt_or_ge i listed.size with h' | h'
        · simp [h'] at h0 h1; rw [h0] at h1; cases h1
        · simp [Array.getElem?_eq_none h'] at h1
      have hap := hfree j oj' hoj hji hjun hnot
      obtain ⟨ha1, ha2, ha3⟩ := Oper.apart_spec hap
      have hsi : ∀ cs b, oi.op ≠ .select cs b := fun cs b => hsel i oi cs b hi
      have hsj : ∀ cs b, oj'.op ≠ .select cs b := fun cs b => hsel j oj' cs b hoj
      refine ⟨oj', φ, hoj, hup, (hyj.mono (fun w hw => ⟨hw, rfl⟩)).unput hsj ha1, fun u hu => ?_⟩
      obtain ⟨w1, hw1, hφ1⟩ := hu
      refine ih (listed.setIfInBounds j true) _ _ (hcl.set hj) ⟨w1, hw1, hφ1⟩ ?_ (ready_mono hr (Ne.symm hji))
        ((YC.mono (C' := fun w => C w ∧ φ u w) hy (fun w hw => hw.1)).put hsi oj'.dst u ha3) ?_
      · intro k ok hk hki hun hno
        refine hfree k ok hk hki ?_ hno
        by_cases hjk : j = k
        · subst hjk; exact hjun
        · rw [getD_set_ne true hjk] at hun; exact hun
      · rintro x ⟨w2, ⟨hw2, hφ2⟩, rfl⟩
        have h3 := hnext u ⟨w1, ⟨hw1, rfl⟩, hφ1⟩
        rw [Array.setIfInBounds_comm _ _ hji, ← Act.put_comm a x u ha2]
        have hcls : (fun w => (C w ∧ φ u w) ∧ x = x) = (fun w => (C w ∧ x = x) ∧ φ u w) := by
          funext w
          exact propext ⟨fun h => ⟨⟨h.1.1, rfl⟩, h.1.2⟩, fun h => ⟨⟨h.1.1, h.2⟩, rfl⟩⟩
        rw [hcls]
        exact h3

theorem wpS_sound {L : Array Bool → (World → Prop) → Act → Prop} {Q : Exit → Act → World → Prop} {g : Nat} (hrefl : ∀ w, R w w)
    (hL : ∀ listed C a w, (∀ w w', C w → R w w' → C w') → C w → L listed C a → wpAny P md ops Q g listed a w) :
    ∀ (f : Nat) (listed : Array Bool) (C : World → Prop) (a : Act) (w : World), (∀ w w', C w → R w w' → C w') → C w →
      wpS P R md ops L f listed C a → wpAny P md ops Q (f + g) listed a w
  | 0, listed, C, a, w, hup, hC, h => by rw [Nat.zero_add]; exact hL _ _ _ _ hup hC h
  | f + 1, listed, C, a, w, hup, hC, h => by
    rw [show f + 1 + g = (f + g) + 1 by omega]
    refine ⟨fun h0 => absurd h0 h.1, fun i hi => ?_⟩
    obtain ⟨o, φ, ho, hφ, hy, hn⟩ := h.2 i hi
    refine hy.wpOp hrefl ho hC fun v w' hR hv => ?_
    exact wpS_sound hrefl hL f _ _ _ w' (fun w1 w2 h1 h2 => ⟨hup _ _ h1.1 h2, hφ _ _ _ h1.2 h2⟩) ⟨hup _ _ hC hR, hv⟩ (hn v ⟨w', hup _ _ hC hR, hv⟩)

def opE (P : Program) (ops : Array Oper) (Q : Exit → Act → World → Prop) (o : Oper) (a : Act) (w : World) (K : Act → World → Prop) : Prop :=
  if Region.wanted o (yielded ops a.tmps) then o.wp P a w K Q else K (a.put o.dst undef) w

/-- The text's order: 0: a reading with a known value; 1: it makes memory, nothing else can be next; 2 and no plan: whatever, nothing else can be next. -/
def RW (P : Program) (R : World → World → Prop) (Q : Exit → Act → World → Prop) (ops : Array Oper) : List Nat → List Oper → (World → Prop) → Act → Prop
  | _, [], C, a => ∀ w, C w → Q .normal a w
  | 0 :: m, o :: r, C, a => ∃ v, YC P R ops C o (fun u _ => u = v) a ∧ RW P R Q ops m r C (a.put o.dst v)
  | 1 :: m, o :: r, C, a => ∃ φ : Value → World → Prop, (∀ v w w', φ v w → R w w' → φ v w') ∧ YC P R ops C o φ a ∧
      ∀ v, (∃ w, C w ∧ φ v w) → RW P R Q ops m r (fun w => C w ∧ φ v w) (a.put o.dst v)
  | m, o :: r, C, a => ∀ w, C w → opE P ops Q o a w (fun a' w' => RW P R Q ops m.tail r (R w') a')

theorem RW_nil {Q : Exit → Act → World → Prop} {m : List Nat} {C : World → Prop} {a : Act} : RW P R Q ops m [] C a = ∀ w, C w → Q .normal a w := by
  unfold RW; rfl
theorem RW_zero {Q : Exit → Act → World → Prop} {m : List Nat} {C : World → Prop} {a : Act} {o : Oper} {r : List Oper} :
    RW P R Q ops (0 :: m) (o :: r) C a = ∃ v, YC P R ops C o (fun u _ => u = v) a ∧ RW P R Q ops m r C (a.put o.dst v) := by
  rw [RW]
theorem RW_one {Q : Exit → Act → World → Prop} {m : List Nat} {C : World → Prop} {a : Act} {o : Oper} {r : List Oper} :
    RW P R Q ops (1 :: m) (o :: r) C a = ∃ φ : Value → World → Prop, (∀ v w w', φ v w → R w w' → φ v w') ∧ YC P R ops C o φ a ∧
      ∀ v, (∃ w, C w ∧ φ v w) → RW P R Q ops m r (fun w => C w ∧ φ v w) (a.put o.dst v) := by
  rw [RW]
theorem RW_any {Q : Exit → Act → World → Prop} {k : Nat} {m : List Nat} {C : World → Prop} {a : Act} {o : Oper} {r : List Oper} :
    RW P R Q ops ((k + 2) :: m) (o :: r) C a = ∀ w, C w → opE P ops Q o a w (fun a' w' => RW P R Q ops m r (R w') a') := by
  rw [RW]; rfl
  all_goals simp
theorem RW_none {Q : Exit → Act → World → Prop} {C : World → Prop} {a : Act} {o : Oper} {r : List Oper} :
    RW P R Q ops [] (o :: r) C a = ∀ w, C w → opE P ops Q o a w (fun a' w' => RW P R Q ops [] r (R w') a') := by
  rw [RW]; rfl
  all_goals simp

/-! ### The plan's check -/

def waits (md : Region.Mode) (ops : Array Oper) (j i : Nat) : Bool :=
  match ops[j]? with
  | some oj => oj.after.any fun e => Region.binds md e && e.on == i
  | none => false

def segT (md : Region.Mode) (ops : Array Oper) : List Nat → Nat → Array Bool → Nat × Array Bool
  | 0 :: m, k, listed => segT md ops m (k + 1) (listed.setIfInBounds k true)
  | 1 :: m, k, listed => segT md ops m (k + 1) (listed.setIfInBounds k true)
  | _, k, listed => (k, listed)

def sinkB (md : Region.Mode) (ops : Array Oper) (n : Nat) (listed : Array Bool) (i : Nat) : Bool :=
  (Region.ready md ops listed).isEmpty ||
  (decide (Region.ready md ops listed = [n]) && (List.range (n + 1)).any fun j => (j != i) && (j == n || listed.getD j false) && waits md ops j i)

def chk (md : Region.Mode) (ops : Array Oper) : List Nat → Nat → Array Bool → Bool
  | [], k, listed => (Region.ready md ops listed).isEmpty && decide (k = ops.size)
  | 0 :: m, k, listed => (Region.ready md ops listed).contains k && Region.free md ops listed k &&
      (let t := segT md ops m (k + 1) (listed.setIfInBounds k true); sinkB md ops t.1 t.2 k) && chk md ops m (k + 1) (listed.setIfInBounds k true)
  | 1 :: m, k, listed => decide (Region.ready md ops listed = [k]) && chk md ops m (k + 1) (listed.setIfInBounds k true)
  | _ :: m, k, listed => decide (Region.ready md ops listed = [k]) && chk md ops m (k + 1) (listed.setIfInBounds k true)

def chkD (ops : Array Oper) (m : List Nat) : Bool := Region.noSelect ops && chk .any ops m 0 (Array.replicate ops.size false)

theorem waits_spec {j i : Nat} (h : waits md ops j i = true) : ∃ oj, ops[j]? = some oj ∧ ∃ e ∈ oj.after, Region.binds md e = true ∧ e.on = i := by
  unfold waits at h
  split at h
  · rename_i oj hj
    obtain ⟨e, he, hb⟩ := Array.any_eq_true'.1 h
    simp only [Bool.and_eq_true, beq_iff_eq] at hb
    exact ⟨oj, hj, e, he, hb.1, hb.2⟩
  · cases h

theorem sink_only {n i : Nat} {listed tgt : Array Bool} (hcl : Closed md ops listed) (hi : i ∈ Region.ready md ops listed)
    (ht : listed.setIfInBounds i true = tgt) (hs : sinkB md ops n tgt i = true) : ∀ j ∈ Region.ready md ops listed, j = i := by
  intro j hj
  by_cases hji : j = i
  · exact hji
  · exfalso
    have hj2 := ready_mono hj hji
    rw [ht] at hj2
    have hiun := (mem_ready.1 hi).1
    have hif : listed.getD i false = false := by
      rcases Nat.lt_or_ge i listed.size with h' | h'
      · simp [h'] at hiun ⊢; exact hiun
      · simp [Array.getElem?_eq_none h']
    simp only [sinkB, Bool.or_eq_true, Bool.and_eq_true, decide_eq_true_eq, List.isEmpty_iff] at hs
    rcases hs with hs | ⟨hr, hs⟩
    · rw [hs] at hj2; cases hj2
    · rw [hr] at hj2
      have hjn : j = n := by simpa using hj2
      subst hjn
      obtain ⟨x, hx, hx2⟩ := List.any_eq_true.1 hs
      simp only [Bool.and_eq_true, bne_iff_ne, ne_eq, Bool.or_eq_true, beq_iff_eq] at hx2
      obtain ⟨⟨hxi, hxl⟩, hw⟩ := hx2
      obtain ⟨ox, hox, e, he, hb, hon⟩ := waits_spec hw
      have hlisted : listed.getD i false = true := by
        rcases hxl with rfl | hxl
        · obtain ⟨_, oj, hoj, hall⟩ := mem_ready.1 hj
          have : oj = ox := Option.some.inj (hoj.symm.trans hox)
          subst this
          have := hall e he hb
          rwa [hon] at this
        · rw [← ht, getD_set_ne false (Ne.symm hxi)] at hxl
          have := hcl x ox hox hxl e he hb
          rwa [hon] at this
      rw [hif] at hlisted
      cases hlisted

/-- What is left of a plan and of the operations behind a segment. -/
def segM : List Nat → List Nat
  | 0 :: m => segM m
  | 1 :: m => segM m
  | m => m
def segL {α : Type} : List Nat → List α → List α
  | 0 :: m, l => segL m l.tail
  | 1 :: m, l => segL m l.tail
  | _, l => l
def segN : List Nat → Nat
  | 0 :: m => segN m + 1
  | 1 :: m => segN m + 1
  | _ => 0

theorem chk_seg : ∀ (m : List Nat) (k : Nat) (listed : Array Bool), chk md ops m k listed = true → chk md ops (segM m) (segT md ops m k listed).1 (segT md ops m k listed).2 = true
  | [], k, listed, h => by simpa [segM, segT] using h
  | 0 :: m, k, listed, h => by
    simp only [chk, Bool.and_eq_true] at h
    simpa [segM, segT] using chk_seg m _ _ h.2
  | 1 :: m, k, listed, h => by
    simp only [chk, Bool.and_eq_true] at h
    simpa [segM, segT] using chk_seg m _ _ h.2
  | (x + 2) :: m, k, listed, h => by simpa [segM, segT] using h

theorem seg_of_RW {Q : Exit → Act → World → Prop} (hrefl : ∀ w, R w w) (hsel : ∀ (j : Nat) (o : Oper) cs b, ops[j]? = some o → o.op ≠ .select cs b) :
    ∀ (m : List Nat) (l : List Oper) (k : Nat) (listed : Array Bool) (C : World → Prop) (a : Act), (∀ j, l[j]? = ops[k + j]?) → chk md ops m k listed = true →
      Closed md ops listed → (∃ w, C w) → RW P R Q ops m l C a →
      wpS P R md ops (fun listed' C' a' => listed' = (segT md ops m k listed).2 ∧ RW P R Q ops (segM m) (segL m l) C' a') (segN m) listed C a
  | [], l, k, listed, C, a, hl, hc, hcl, hne, h => by exact ⟨rfl, h⟩
  | (x + 2) :: m, l, k, listed, C, a, hl, hc, hcl, hne, h => by exact ⟨rfl, h⟩
  | 0 :: m, [], k, listed, C, a, hl, hc, hcl, hne, h => by
    exfalso
    simp only [chk, Bool.and_eq_true] at hc
    have hk : k ∈ Region.ready md ops listed := by simpa using hc.1.1.1
    obtain ⟨_, o, ho, _⟩ := mem_ready.1 hk
    have := hl 0
    simp [ho] at this
  | 1 :: m, [], k, listed, C, a, hl, hc, hcl, hne, h => by
    exfalso
    simp only [chk, Bool.and_eq_true, decide_eq_true_eq] at hc
    have hk : k ∈ Region.ready md ops listed := by rw [hc.1]; simp
    obtain ⟨_, o, ho, _⟩ := mem_ready.1 hk
    have := hl 0
    simp [ho] at this
  | 0 :: m, o :: r, k, listed, C, a, hl, hc, hcl, hne, h => by
    simp only [chk, Bool.and_eq_true] at hc
    obtain ⟨⟨⟨hrd, hfr⟩, hsk⟩, hrest⟩ := hc
    have hk : k ∈ Region.ready md ops listed := by simpa using hrd
    have h0 : ops[k]? = some o := by simpa using (hl 0).symm
    rw [RW_zero] at h
    obtain ⟨v, hy, hrw⟩ := h
    have hl' : ∀ j, r[j]? = ops[k + 1 + j]? := fun j => by have := hl (j + 1); simpa [Nat.add_assoc, Nat.add_comm 1 j] using this
    refine wpS_first (i := k) (oi := o) (v := v) h0 hsel ?_ (segN m) listed C a hcl hne (Region.free_spec h0 hfr) hk hy ?_
    · intro listed' C' a' hcl' hi' hL
      exact sink_only hcl' hi' hL.1 hsk
    · rintro u ⟨w, hw, rfl⟩
      have hcls : (fun w => C w ∧ u = u) = C := by
        funext w; exact propext ⟨fun h => h.1, fun h => ⟨h, rfl⟩⟩
      rw [hcls]
      exact seg_of_RW hrefl hsel m r (k + 1) _ C _ hl' hrest (hcl.set hk) hne hrw
  | 1 :: m, o :: r, k, listed, C, a, hl, hc, hcl, hne, h => by
    simp only [chk, Bool.and_eq_true, decide_eq_true_eq] at hc
    obtain ⟨hrd, hrest⟩ := hc
    have hk : k ∈ Region.ready md ops listed := by rw [hrd]; simp
    have h0 : ops[k]? = some o := by simpa using (hl 0).symm
    rw [RW_one] at h
    obtain ⟨φ, hφ, hy, hrw⟩ := h
    have hl' : ∀ j, r[j]? = ops[k + 1 + j]? := fun j => by have := hl (j + 1); simpa [Nat.add_assoc, Nat.add_comm 1 j] using this
    refine ⟨by rw [hrd]; simp, fun i hi => ?_⟩
    rw [hrd] at hi
    have hik : i = k := by simpa using hi
    subst hik
    refine ⟨o, φ, h0, hφ, hy, fun v hv => ?_⟩
    exact seg_of_RW hrefl hsel m r (i + 1) _ _ _ hl' hrest (hcl.set hk) hv (hrw v hv)

theorem segT_closed {Q : Exit → Act → World → Prop} : ∀ (m : List Nat) (k : Nat) (listed : Array Bool), chk md ops m k listed = true → Closed md ops listed → Closed md ops (segT md ops m k listed).2
  | [], k, listed, h, hcl => by simpa [segT] using hcl
  | 0 :: m, k, listed, h, hcl => by
    simp only [chk, Bool.and_eq_true] at h
    simpa [segT] using segT_closed (Q := Q) m _ _ h.2 (hcl.set (by simpa using h.1.1.1))
  | 1 :: m, k, listed, h, hcl => by
    simp only [chk, Bool.and_eq_true, decide_eq_true_eq] at h
    simpa [segT] using segT_closed (Q := Q) m _ _ h.2 (hcl.set (by rw [h.1]; simp))
  | (x + 2) :: m, k, listed, h, hcl => by simpa [segT] using hcl

theorem segL_get {α : Type} (f : Nat → Option α) : ∀ (m : List Nat) (l : List α) (k : Nat) (listed : Array Bool), (∀ j, l[j]? = f (k + j)) →
    ∀ j, (segL m l)[j]? = f ((segT md ops m k listed).1 + j)
  | [], l, k, listed, h => by simpa [segL, segT] using h
  | (x + 2) :: m, l, k, listed, h => by simpa [segL, segT] using h
  | 0 :: m, l, k, listed, h => by
    simp only [segL, segT]
    refine segL_get f m l.tail (k + 1) _ fun j => ?_
    have := h (j + 1)
    cases l <;> simpa [Nat.add_assoc, Nat.add_comm 1 j] using this
  | 1 :: m, l, k, listed, h => by
    simp only [segL, segT]
    refine segL_get f m l.tail (k + 1) _ fun j => ?_
    have := h (j + 1)
    cases l <;> simpa [Nat.add_assoc, Nat.add_comm 1 j] using this

theorem segN_len : ∀ (m : List Nat), segN m + (segM m).length = m.length
  | [] => rfl
  | 0 :: m => by simp only [segN, segM, List.length_cons]; have := segN_len m; omega
  | 1 :: m => by simp only [segN, segM, List.length_cons]; have := segN_len m; omega
  | (x + 2) :: m => by simp [segN, segM]

theorem segM_form : ∀ (m : List Nat), segM m = [] ∨ ∃ x m', segM m = (x + 2) :: m'
  | [] => Or.inl rfl
  | 0 :: m => segM_form m
  | 1 :: m => segM_form m
  | (x + 2) :: m => Or.inr ⟨x, m, rfl⟩

theorem any_of_RW {Q : Exit → Act → World → Prop} (hrefl : ∀ w, R w w) (htrans : ∀ a b c, R a b → R b c → R a c)
    (hsel : ∀ (j : Nat) (o : Oper) cs b, ops[j]? = some o → o.op ≠ .select cs b) :
    ∀ (n : Nat) (m : List Nat) (l : List Oper) (k : Nat) (listed : Array Bool) (C : World → Prop) (a : Act) (w : World), m.length ≤ n → (∀ j, l[j]? = ops[k + j]?) →
      chk md ops m k listed = true → Closed md ops listed → (∀ w w', C w → R w w' → C w') → C w → RW P R Q ops m l C a → wpAny P md ops Q m.length listed a w := by
  intro n
  induction n with
  | zero =>
    intro m l k listed C a w hm hl hc hcl hup hC h
    have hm0 : m = [] := List.eq_nil_of_length_eq_zero (by omega)
    subst hm0
    simp only [chk, Bool.and_eq_true, decide_eq_true_eq, List.isEmpty_iff] at hc
    have hl0 : l = [] := by
      cases l with
      | nil => rfl
      | cons o r => have := hl 0; rw [hc.2] at this; simp at this
    subst hl0
    rw [RW_nil] at h
    exact ⟨hc.1, h w hC⟩
  | succ n ih =>
    intro m l k listed C a w hm hl hc hcl hup hC h
    have hs := seg_of_RW (Q := Q) hrefl hsel m l k listed C a hl hc hcl ⟨w, hC⟩ h
    have hc2 := chk_seg m k listed hc
    have hcl2 := segT_closed (Q := Q) m k listed hc hcl
    have hl2 := segL_get (md := md) (ops := ops) (fun j => ops[j]?) m l k listed hl
    have hlen := segN_len m
    have hL : ∀ (listed' : Array Bool) (C' : World → Prop) (a' : Act) (w' : World), (∀ w w', C' w → R w w' → C' w') → C' w' →
        (listed' = (segT md ops m k listed).2 ∧ RW P R Q ops (segM m) (segL m l) C' a') → wpAny P md ops Q (segM m).length listed' a' w' := by
      rintro listed' C' a' w' hup' hC' ⟨rfl, hrw⟩
      generalize (segT md ops m k listed).2 = tg at *
      generalize (segT md ops m k listed).1 = kk at *
      generalize segL m l = l2 at *
      have hform := segM_form m
      rcases hform with he | ⟨x, m', he⟩
      · rw [he] at hc2 hrw ⊢
        simp only [chk, Bool.and_eq_true, decide_eq_true_eq, List.isEmpty_iff] at hc2
        have hl0 : l2 = [] := by
          cases l2 with
          | nil => rfl
          | cons o r => have := hl2 0; rw [hc2.2] at this; simp at this
        subst hl0
        rw [RW_nil] at hrw
        exact ⟨hc2.1, hrw w' hC'⟩
      · rw [he] at hc2 hrw hlen ⊢
        simp only [chk, Bool.and_eq_true, decide_eq_true_eq] at hc2
        have hkk : kk ∈ Region.ready md ops tg := by rw [hc2.1]; simp
        obtain ⟨_, o, ho, _⟩ := mem_ready.1 hkk
        cases l2 with
        | nil => have := hl2 0; simp [ho] at this
        | cons o' r =>
          have hoo : o' = o := by have := hl2 0; simp [ho] at this; exact this
          subst hoo
          rw [RW_any] at hrw
          simp only [List.length_cons]
          refine ⟨fun h0 => (by rw [hc2.1] at h0; cases h0), fun i hi => ?_⟩
          rw [hc2.1] at hi
          have hik : i = kk := by simpa using hi
          subst hik
          have hop := hrw w' hC'
          unfold wpOp
          simp only [ho]
          unfold opE at hop
          have hstep : ∀ a2 w2, RW P R Q ops m' r (R w2) a2 → wpAny P md ops Q m'.length (tg.setIfInBounds i true) a2 w2 := fun a2 w2 h2 =>
            ih m' r (i + 1) _ (R w2) a2 w2 (by simp only [List.length_cons] at hlen; omega)
              (fun j => by have := hl2 (j + 1); simpa [Nat.add_assoc, Nat.add_comm 1 j] using this) hc2.2 (hcl2.set hkk)
              (fun w3 w4 h3 h4 => htrans _ _ _ h3 h4) (hrefl w2) h2
          split
          · rename_i hw
            rw [if_pos hw] at hop
            exact Or.inl (Oper.wp_mono hstep hop)
          · rename_i hw
            rw [if_neg hw] at hop
            exact hstep _ _ hop
    have main := wpS_sound (Q := Q) (g := (segM m).length) hrefl (L := fun listed' C' a' => listed' = (segT md ops m k listed).2 ∧ RW P R Q ops (segM m) (segL m l) C' a') hL
      (segN m) listed C a w hup hC hs
    rw [hlen] at main
    exact main

/-- A region that draws its order, in the text's order. -/
theorem region_draw {id : Nat} {Q : Exit → Act → World → Prop} {a : Act} {w : World} {l : List Oper} (m : List Nat) (hm : P.follows .mixedOrders = true)
    (hrefl : ∀ w, R w w) (htrans : ∀ a b c, R a b → R b c → R a c) (hc : chkD l.toArray m = true)
    (h : RW P R Q l.toArray m l (R w.drew) a) : (Code.region id l.toArray true).wp P Q a w := by
  simp only [chkD, Bool.and_eq_true] at hc
  refine wp_region_any hm ?_
  have hlen : m.length = l.toArray.size := by
    have key : ∀ (m : List Nat) (k : Nat) (listed : Array Bool), chk .any l.toArray m k listed = true → k + m.length = l.toArray.size := by
      intro m
      induction m with
      | nil => intro k listed h; simp only [chk, Bool.and_eq_true, decide_eq_true_eq] at h; simpa using h.2
      | cons x m ih =>
        intro k listed h
        match x with
        | 0 => simp only [chk, Bool.and_eq_true] at h; have := ih _ _ h.2; simp only [List.length_cons]; omega
        | 1 => simp only [chk, Bool.and_eq_true] at h; have := ih _ _ h.2; simp only [List.length_cons]; omega
        | x + 2 => simp only [chk, Bool.and_eq_true] at h; have := ih _ _ h.2; simp only [List.length_cons]; omega
    have := key m 0 _ hc.2
    omega
  have := any_of_RW (md := .any) (Q := Q) hrefl htrans (Region.noSelect_spec hc.1) m.length m l 0 _ (R w.drew) a w.drew (Nat.le_refl _) (by simp) hc.2 (Closed.init _)
    (fun w1 w2 h1 h2 => htrans _ _ _ h1 h2) (hrefl _) h
  rw [hlen] at this
  exact this

/-- A region in the text's order. -/
theorem region_text {id : Nat} {Q : Exit → Act → World → Prop} {a : Act} {w : World} {l : List Oper} (hrefl : ∀ w, R w w)
    (h : RW P R Q l.toArray [] l (R w) a) : (Code.region id l.toArray false).wp P Q a w := by
  refine wp_region_lit ?_
  suffices H : ∀ (l' : List Oper) (a : Act) (w : World), RW P R Q l.toArray [] l' (R w) a → wpList P l.toArray Q l' a w from H l a w h
  intro l'
  induction l' with
  | nil => intro a w h; rw [RW_nil] at h; exact h w (hrefl w)
  | cons o r ih =>
    intro a w h
    rw [RW_none] at h
    have hop := h w (hrefl w)
    unfold opE at hop
    refine wpList_step fun K hK => ?_
    split
    · rename_i hw
      rw [if_pos hw] at hop
      exact Oper.wp_mono (fun a2 w2 h2 => hK _ _ (ih a2 w2 h2)) hop
    · rename_i hw
      rw [if_neg hw] at hop
      exact hK _ _ (ih _ _ hop)

end core
end Go.Wk
