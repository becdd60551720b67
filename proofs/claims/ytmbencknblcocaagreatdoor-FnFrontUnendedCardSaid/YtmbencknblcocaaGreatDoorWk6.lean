/- The walk layer: regions that draw their order, run in another order than the text's; operations that look at no memory go first. -/
import Derived.Test.YtmbencknblcocaaGreatDoorWk5
namespace Go.Wk
open Go Go.RowKit

section core
variable {P : Program} {R : World → World → Prop} {ops : Array Oper} {md : Region.Mode}

def segQ : List Nat → List Nat → Array Bool → List Nat × Array Bool
  | 0 :: m, k :: π, listed => segQ m π (listed.setIfInBounds k true)
  | 1 :: m, k :: π, listed => segQ m π (listed.setIfInBounds k true)
  | _, π, listed => (π, listed)

def chkQ (md : Region.Mode) (ops : Array Oper) : List Nat → List Nat → Array Bool → Bool
  | [], π, listed => (Region.ready md ops listed).isEmpty && π.isEmpty
  | 0 :: m, k :: π, listed => (Region.ready md ops listed).contains k && Region.free md ops listed k &&
      (let t := segQ m π (listed.setIfInBounds k true); sinkB md ops (t.1.headD 0) t.2 k) && chkQ md ops m π (listed.setIfInBounds k true)
  | 1 :: m, k :: π, listed => decide (Region.ready md ops listed = [k]) && chkQ md ops m π (listed.setIfInBounds k true)
  | (_ + 2) :: m, k :: π, listed => decide (Region.ready md ops listed = [k]) && chkQ md ops m π (listed.setIfInBounds k true)
  | _ :: _, [], _ => false

theorem chkQ_seg : ∀ (m π : List Nat) (listed : Array Bool), chkQ md ops m π listed = true → chkQ md ops (segM m) (segQ m π listed).1 (segQ m π listed).2 = true
  | [], π, listed, h => by simpa [segM, segQ] using h
  | 0 :: m, k :: π, listed, h => by
    simp only [chkQ, Bool.and_eq_true] at h
    simpa [segM, segQ] using chkQ_seg m π _ h.2
  | 1 :: m, k :: π, listed, h => by
    simp only [chkQ, Bool.and_eq_true] at h
    simpa [segM, segQ] using chkQ_seg m π _ h.2
  | (x + 2) :: m, π, listed, h => by simpa [segM, segQ] using h
  | 0 :: m, [], listed, h => by simp [chkQ] at h
  | 1 :: m, [], listed, h => by simp [chkQ] at h

def OrdL (ops : Array Oper) (π : List Nat) (l : List Oper) : Prop := ∀ j : Nat, l[j]? = (π[j]?).bind fun i => ops[i]?

theorem OrdL.tail {k : Nat} {π : List Nat} {o : Oper} {r : List Oper} (h : OrdL ops (k :: π) (o :: r)) : OrdL ops π r := fun j => by simpa using h (j + 1)
theorem OrdL.head {k : Nat} {π : List Nat} {o : Oper} {r : List Oper} (h : OrdL ops (k :: π) (o :: r)) : ops[k]? = some o := by simpa using (h 0).symm
theorem OrdL.ne {k : Nat} {π : List Nat} (h : OrdL ops (k :: π) []) : ops[k]? = none := by simpa using (h 0).symm

theorem segQ_of_RW {Q : Exit → Act → World → Prop} (hrefl : ∀ w, R w w) (hsel : ∀ (j : Nat) (o : Oper) cs b, ops[j]? = some o → o.op ≠ .select cs b) :
    ∀ (m π : List Nat) (l : List Oper) (listed : Array Bool) (C : World → Prop) (a : Act), OrdL ops π l → chkQ md ops m π listed = true →
      Closed md ops listed → (∃ w, C w) → RW P R Q ops m l C a →
      wpS P R md ops (fun listed' C' a' => listed' = (segQ m π listed).2 ∧ RW P R Q ops (segM m) (segL m l) C' a') (segN m) listed C a
  | [], π, l, listed, C, a, hl, hc, hcl, hne, h => by exact ⟨by simp [segQ], h⟩
  | (x + 2) :: m, π, l, listed, C, a, hl, hc, hcl, hne, h => by exact ⟨by simp [segQ], h⟩
  | 0 :: m, [], l, listed, C, a, hl, hc, hcl, hne, h => by simp [chkQ] at hc
  | 1 :: m, [], l, listed, C, a, hl, hc, hcl, hne, h => by simp [chkQ] at hc
  | 0 :: m, k :: π, [], listed, C, a, hl, hc, hcl, hne, h => by
    exfalso
    simp only [chkQ, Bool.and_eq_true] at hc
    have hk : k ∈ Region.ready md ops listed := by simpa using hc.1.1.1
    obtain ⟨_, o, ho, _⟩ := mem_ready.1 hk
    rw [hl.ne] at ho
    cases ho
  | 1 :: m, k :: π, [], listed, C, a, hl, hc, hcl, hne, h => by
    exfalso
    simp only [chkQ, Bool.and_eq_true, decide_eq_true_eq] at hc
    have hk : k ∈ Region.ready md ops listed := by rw [hc.1]; simp
    obtain ⟨_, o, ho, _⟩ := mem_ready.1 hk
    rw [hl.ne] at ho
    cases ho
  | 0 :: m, k :: π, o :: r, listed, C, a, hl, hc, hcl, hne, h => by
    simp only [chkQ, Bool.and_eq_true] at hc
    obtain ⟨⟨⟨hrd, hfr⟩, hsk⟩, hrest⟩ := hc
    have hk : k ∈ Region.ready md ops listed := by simpa using hrd
    have h0 := hl.head
    rw [RW_zero] at h
    obtain ⟨v, hy, hrw⟩ := h
    have hl' := hl.tail
    refine wpS_first (i := k) (oi := o) (v := v) h0 hsel ?_ (segN m) listed C a hcl hne (Region.free_spec h0 hfr) hk hy ?_
    · intro listed' C' a' hcl' hi' hL
      exact sink_only hcl' hi' hL.1 hsk
    · rintro u ⟨w, hw, rfl⟩
      have hcls : (fun w => C w ∧ u = u) = C := by
        funext w; exact propext ⟨fun h => h.1, fun h => ⟨h, rfl⟩⟩
      rw [hcls]
      exact segQ_of_RW hrefl hsel m π r _ C _ hl' hrest (hcl.set hk) hne hrw
  | 1 :: m, k :: π, o :: r, listed, C, a, hl, hc, hcl, hne, h => by
    simp only [chkQ, Bool.and_eq_true, decide_eq_true_eq] at hc
    obtain ⟨hrd, hrest⟩ := hc
    have hk : k ∈ Region.ready md ops listed := by rw [hrd]; simp
    have h0 := hl.head
    rw [RW_one] at h
    obtain ⟨φ, hφ, hy, hrw⟩ := h
    refine ⟨by rw [hrd]; simp, fun i hi => ?_⟩
    rw [hrd] at hi
    have hik : i = k := by simpa using hi
    subst hik
    refine ⟨o, φ, h0, hφ, hy, fun v hv => ?_⟩
    exact segQ_of_RW hrefl hsel m π r _ _ _ hl.tail hrest (hcl.set hk) hv (hrw v hv)

theorem segQ_closed : ∀ (m π : List Nat) (listed : Array Bool), chkQ md ops m π listed = true → Closed md ops listed → Closed md ops (segQ m π listed).2
  | [], π, listed, h, hcl => by simpa [segQ] using hcl
  | 0 :: m, k :: π, listed, h, hcl => by
    simp only [chkQ, Bool.and_eq_true] at h
    simpa [segQ] using segQ_closed m π _ h.2 (hcl.set (by simpa using h.1.1.1))
  | 1 :: m, k :: π, listed, h, hcl => by
    simp only [chkQ, Bool.and_eq_true, decide_eq_true_eq] at h
    simpa [segQ] using segQ_closed m π _ h.2 (hcl.set (by rw [h.1]; simp))
  | (x + 2) :: m, π, listed, h, hcl => by simpa [segQ] using hcl
  | 0 :: m, [], listed, h, hcl => by simp [chkQ] at h
  | 1 :: m, [], listed, h, hcl => by simp [chkQ] at h

theorem segQ_ord : ∀ (m π : List Nat) (l : List Oper) (listed : Array Bool), chkQ md ops m π listed = true → OrdL ops π l → OrdL ops (segQ m π listed).1 (segL m l)
  | [], π, l, listed, hc, h => by simpa [segL, segQ] using h
  | (x + 2) :: m, π, l, listed, hc, h => by simpa [segL, segQ] using h
  | 0 :: m, [], l, listed, hc, h => by simp [chkQ] at hc
  | 1 :: m, [], l, listed, hc, h => by simp [chkQ] at hc
  | 0 :: m, k :: π, l, listed, hc, h => by
    simp only [chkQ, Bool.and_eq_true] at hc
    simp only [segL, segQ]
    refine segQ_ord m π l.tail _ hc.2 fun j => ?_
    have := h (j + 1)
    cases l <;> simpa using this
  | 1 :: m, k :: π, l, listed, hc, h => by
    simp only [chkQ, Bool.and_eq_true] at hc
    simp only [segL, segQ]
    refine segQ_ord m π l.tail _ hc.2 fun j => ?_
    have := h (j + 1)
    cases l <;> simpa using this

theorem any_of_RWQ {Q : Exit → Act → World → Prop} (hrefl : ∀ w, R w w) (htrans : ∀ a b c, R a b → R b c → R a c)
    (hsel : ∀ (j : Nat) (o : Oper) cs b, ops[j]? = some o → o.op ≠ .select cs b) :
    ∀ (n : Nat) (m π : List Nat) (l : List Oper) (listed : Array Bool) (C : World → Prop) (a : Act) (w : World), m.length ≤ n → OrdL ops π l →
      chkQ md ops m π listed = true → Closed md ops listed → (∀ w w', C w → R w w' → C w') → C w → RW P R Q ops m l C a → wpAny P md ops Q m.length listed a w := by
  intro n
  induction n with
  | zero =>
    intro m π l listed C a w hm hl hc hcl hup hC h
    have hm0 : m = [] := List.eq_nil_of_length_eq_zero (by omega)
    subst hm0
    simp only [chkQ, Bool.and_eq_true, List.isEmpty_iff] at hc
    have hl0 : l = [] := by
      cases l with
      | nil => rfl
      | cons o r => have := hl 0; rw [hc.2] at this; simp at this
    subst hl0
    rw [RW_nil] at h
    exact ⟨hc.1, h w hC⟩
  | succ n ih =>
    intro m π l listed C a w hm hl hc hcl hup hC h
    have hs := segQ_of_RW (Q := Q) hrefl hsel m π l listed C a hl hc hcl ⟨w, hC⟩ h
    have hc2 := chkQ_seg m π listed hc
    have hcl2 := segQ_closed m π listed hc hcl
    have hl2 := segQ_ord (md := md) (ops := ops) m π l listed hc hl
    have hlen := segN_len m
    have hL : ∀ (listed' : Array Bool) (C' : World → Prop) (a' : Act) (w' : World), (∀ w w', C' w → R w w' → C' w') → C' w' →
        (listed' = (segQ m π listed).2 ∧ RW P R Q ops (segM m) (segL m l) C' a') → wpAny P md ops Q (segM m).length listed' a' w' := by
      rintro listed' C' a' w' hup' hC' ⟨rfl, hrw⟩
      generalize (segQ m π listed).2 = tg at *
      generalize (segQ m π listed).1 = pk at *
      generalize segL m l = l2 at *
      have hform := segM_form m
      rcases hform with he | ⟨x, m', he⟩
      · rw [he] at hc2 hrw ⊢
        simp only [chkQ, Bool.and_eq_true, List.isEmpty_iff] at hc2
        have hl0 : l2 = [] := by
          cases l2 with
          | nil => rfl
          | cons o r => have := hl2 0; rw [hc2.2] at this; simp at this
        subst hl0
        rw [RW_nil] at hrw
        exact ⟨hc2.1, hrw w' hC'⟩
      · rw [he] at hc2 hrw hlen ⊢
        cases pk with
        | nil => simp [chkQ] at hc2
        | cons kk pk =>
        simp only [chkQ, Bool.and_eq_true, decide_eq_true_eq] at hc2
        have hkk : kk ∈ Region.ready md ops tg := by rw [hc2.1]; simp
        obtain ⟨_, o, ho, _⟩ := mem_ready.1 hkk
        cases l2 with
        | nil => rw [hl2.ne] at ho; cases ho
        | cons o' r =>
          have hoo : o' = o := by have := hl2.head; rw [ho] at this; exact (Option.some.inj this).symm
          subst hoo
          rw [RW_any] at hrw
          simp only [List.length_cons]
          refine ⟨fun h0 => (by rw [hc2.1] at h0; cases h0), fun i hi => ?_⟩
          rw [hc2.1] at hi
          have hik : i = kk := by simpa using hi
          subst hik
          have hop := hrw w' hC'
          unfold wpOp
          simp only [ho]
          unfold opE at hop
          have hstep : ∀ a2 w2, RW P R Q ops m' r (R w2) a2 → wpAny P md ops Q m'.length (tg.setIfInBounds i true) a2 w2 := fun a2 w2 h2 =>
            ih m' pk r _ (R w2) a2 w2 (by simp only [List.length_cons] at hlen; omega)
              hl2.tail hc2.2 (hcl2.set hkk)
              (fun w3 w4 h3 h4 => htrans _ _ _ h3 h4) (hrefl w2) h2
          split
          · rename_i hw
            rw [if_pos hw] at hop
            exact Or.inl (Oper.wp_mono hstep hop)
          · rename_i hw
            rw [if_neg hw] at hop
            exact hstep _ _ hop
    have main := wpS_sound (Q := Q) (g := (segM m).length) hrefl (L := fun listed' C' a' => listed' = (segQ m π listed).2 ∧ RW P R Q ops (segM m) (segL m l) C' a') hL
      (segN m) listed C a w hup hC hs
    rw [hlen] at main
    exact main

/-! ### What looks at no memory goes first -/
def nthO : List Oper → Nat → List Oper
  | [], _ => []
  | o :: _, 0 => [o]
  | _ :: r, i + 1 => nthO r i
def pick : List Oper → List Nat → List Oper
  | _, [] => []
  | l, i :: π => nthO l i ++ pick l π

theorem nthO_get : ∀ (l : List Oper) (i : Nat), nthO l i = (match l[i]? with | some o => [o] | none => [])
  | [], i => by simp [nthO]
  | o :: r, 0 => rfl
  | o :: r, i + 1 => by simpa [nthO] using nthO_get r i

theorem ordL_pick {l : List Oper} : ∀ (π : List Nat), (∀ i ∈ π, i < l.length) → OrdL l.toArray π (pick l π)
  | [], _, j => by simp [pick]
  | i :: π, h, j => by
    have hi : i < l.length := h i (by simp)
    have ih := ordL_pick π (fun k hk => h k (by simp [hk]))
    simp only [pick, nthO_get, List.getElem?_eq_getElem hi]
    cases j with
    | zero => simp [hi]
    | succ j => simpa using ih j

/-- The operations that go first: each ready, free of all that are still to come. -/
def chkF (md : Region.Mode) (ops : Array Oper) : List Nat → Array Bool → Option (Array Bool)
  | [], listed => some listed
  | k :: q, listed => if (Region.ready md ops listed).contains k && Region.free md ops listed k then chkF md ops q (listed.setIfInBounds k true) else none

def chkA (l : List Oper) (q m π : List Nat) : Bool :=
  Region.noSelect l.toArray && (q ++ π).all (fun i => Nat.blt i l.length) && Nat.beq m.length π.length && Nat.beq (q.length + π.length) l.length &&
  (match chkF .any l.toArray q (Array.replicate l.toArray.size false) with
   | some listed => chkQ .any l.toArray m π listed
   | none => false)


def PW (P : Program) (n : Nat) (ds : List Deferred) : List Oper → (Act → Prop) → Act → Prop
  | [], Z, a => Z a
  | o :: r, Z, a => o.guard = none ∧ ∃ v, (∀ w, (execOp a.eval o).run P w = .ok (.value v) w) ∧ PW P n ds r Z (a.put o.dst v)

theorem any_of_PW {Q : Exit → Act → World → Prop} (hp : ∀ c a w, ¬ Q (.panic c) a w) (hsel : Region.noSelect ops = true) (n : Nat) (ds : List Deferred) (fuel : Nat) (w : World) :
    ∀ (q : List Nat) (l : List Oper) (listed listed' : Array Bool) (a : Act), OrdL ops q l → chkF md ops q listed = some listed' → l.length = q.length → Closed md ops listed →
      PW P n ds l (fun a' => Closed md ops listed' → wpAny P md ops Q fuel listed' a' w) a → wpAny P md ops Q (q.length + fuel) listed a w
  | [], [], listed, listed', a, ho, hc, hl, hcl, h => by
    simp only [chkF, Option.some.injEq] at hc
    subst hc
    simpa using h hcl
  | [], _ :: _, _, _, _, _, _, hl, _, _ => by simp at hl
  | _ :: _, [], _, _, _, _, _, hl, _, _ => by simp at hl
  | k :: q, o :: r, listed, listed', a, ho, hc, hl, hcl, h => by
    simp only [chkF] at hc
    split at hc
    · rename_i hk
      simp only [Bool.and_eq_true] at hk
      obtain ⟨hg, v, hv, hr⟩ := h
      have hkr : k ∈ Region.ready md ops listed := by simpa using hk.1
      have := any_of_PW hp hsel n ds fuel w q r _ listed' (a.put o.dst v) ho.tail hc (by simpa using hl) (hcl.set hkr) hr
      rw [List.length_cons, show q.length + 1 + fuel = (q.length + fuel) + 1 by omega]
      exact wpAny_take ho.head hsel hk.2 hk.1 (fun c a w h => absurd h (hp c _ w)) (Or.inl ⟨by simp [Region.wanted, hg], hv⟩) this
    · cases hc

end core

/-- The operations that go first, in rules. -/
structure PR (P : Program) (n : Nat) (l : List Oper) (K : Slots → Prop) (s : Slots) (ds : List Deferred) : Prop where
  out : ∀ (Z : Act → Prop), (∀ s a, Has n s ds a → K s → Z a) → ∀ a, Has n s ds a → PW P n ds l Z a

section pr
variable {P : Program} {n : Nat} {r : List Oper} {K : Slots → Prop} {s : Slots} {ds : List Deferred} {d : Nat} {op : Op} {ty : TypeId} {pos : String} {af : Array Edge} {v : Value}
theorem PR.nil (h : K s) : PR P n [] K s ds := ⟨fun _ hZ a ha => hZ s a ha h⟩
theorem PR.p (h : ∀ w, Op1 P ⟨some d, op, ty, pos, af, none⟩ n s v w) (hd : Nat.blt d n = true) (h2 : PR P n r K ((d, v) :: s) ds) : PR P n (⟨some d, op, ty, pos, af, none⟩ :: r) K s ds :=
  ⟨fun Z hZ a ha => ⟨rfl, v, fun w => (h w).out ds a ha, h2.out Z hZ _ (ha.put hd v)⟩⟩
end pr

section gx
variable {P : Program} {R : World → World → Prop} {n : Nat} {k : Ks} {ops : Array Oper} {m : List Nat} {r : List Oper} {C : World → Prop} {s : Slots} {ds : List Deferred}
  {d : Nat} {op : Op} {ty : TypeId} {pos : String} {af : Array Edge}
/-- A call that only makes memory and nothing else can be next; what it yields is known to be such a value. -/
theorem RE.gcx {f : FuncId} {args : List Operand} {ats : Array TypeId} {vs : List Value} {φ : Value → World → Prop} (hf : Enters P f) (hx : evs s args = some vs) (hd : Nat.blt d n = true)
    (hφ : ∀ v w w', φ v w → R w w' → φ v w')
    (h : ∀ w, C w → Fn P f vs w (fun u w' => φ u w' ∧ R w w')) (h2 : ∀ v, (∃ w, C w ∧ φ v w) → RE P R n k ops m r (fun w => C w ∧ φ v w) ((d, v) :: s) ds) :
    RE P R n k ops (1 :: m) (⟨some d, .call { callee := .value (.func f), args := args.toArray, argTypes := ats }, ty, pos, af, none⟩ :: r) C s ds := by
  refine ⟨fun a ha => ?_⟩
  rw [RW_one]
  refine ⟨φ, hφ, ⟨fun _ w hw => ?_, fun hf => ?_⟩, fun v hv => (h2 v hv).out _ (ha.put hd v)⟩
  · rw [run_call hf ha hx]
    refine Calls.mono (h w hw).out ?_
    rintro e w' ⟨u, rfl, hu, hR⟩
    exact ⟨_, rfl, hR, hu⟩
  · simp [Region.wanted] at hf

theorem RE.gex {φ : Value → World → Prop} (hd : Nat.blt d n = true)
    (hφ : ∀ v w w', φ v w → R w w' → φ v w')
    (h : ∀ w, C w → OpE P ⟨some d, op, ty, pos, af, none⟩ n s w (fun u w' => φ u w' ∧ R w w')) (h2 : ∀ v, (∃ w, C w ∧ φ v w) → RE P R n k ops m r (fun w => C w ∧ φ v w) ((d, v) :: s) ds) :
    RE P R n k ops (1 :: m) (⟨some d, op, ty, pos, af, none⟩ :: r) C s ds := by
  refine ⟨fun a ha => ?_⟩
  rw [RW_one]
  refine ⟨φ, hφ, ⟨fun _ w hw => ?_, fun hf => ?_⟩, fun v hv => (h2 v hv).out _ (ha.put hd v)⟩
  · obtain ⟨v, w', hr, hv, hR⟩ := (h w hw).out ds a ha
    rcases hr with hr | ⟨hr, rfl⟩ <;> rw [hr]
    · exact ⟨hR, hv⟩
    · exact ⟨hR, hv⟩
  · simp [Region.wanted] at hf
end gx

/-- A region that draws its order, in the order q, then π. -/
theorem CE.drawA {P : Program} {n : Nat} {k : Ks} {l : List Oper} {s : Slots} {ds : List Deferred} {w : World} {id : Nat} (R : World → World → Prop) (q m π : List Nat)
    (hm : P.follows .mixedOrders = true) (hr : ∀ w, R w w) (ht : ∀ a b c, R a b → R b c → R a c) (hc : chkA l q m π = true)
    (h : PR P n (pick l q) (fun s' => RE P R n k l.toArray m (pick l π) (R w.drew) s' ds) s ds) :
    CE P n (.region id l.toArray true) k s ds w := by
  refine ⟨fun a ha => wp_region_any hm ?_⟩
  simp only [chkA, Bool.and_eq_true] at hc
  obtain ⟨⟨⟨⟨hsel, hall⟩, hml⟩, hqp⟩, hc⟩ := hc
  have hml := Nat.eq_of_beq_eq_true hml
  have hqp := Nat.eq_of_beq_eq_true hqp
  split at hc
  · rename_i listed hf
    have hb : ∀ i ∈ q ++ π, i < l.length := fun i hi => by
      have := List.all_eq_true.1 hall i hi
      simpa [Nat.blt_eq] using this
    have hlen : (pick l q).length = q.length := by
      have : ∀ (q : List Nat), (∀ i ∈ q, i < l.length) → (pick l q).length = q.length := by
        intro q
        induction q with
        | nil => intro _; rfl
        | cons i q ih =>
          intro h
          simp [pick, nthO_get, List.getElem?_eq_getElem (h i (by simp)), ih (fun j hj => h j (by simp [hj]))]
      exact this q (fun i hi => hb i (by simp [hi]))
    have key := any_of_PW (P := P) (md := .any) (ops := l.toArray) (Q := k.Q n) (fun c a w h => h) hsel n ds m.length w.drew q (pick l q) (Array.replicate l.toArray.size false) listed a
      (ordL_pick q (fun i hi => hb i (by simp [hi]))) hf hlen (Closed.init _)
      (h.out _ (fun s' a' ha' hre hcl => any_of_RWQ (R := R) hr ht (Region.noSelect_spec hsel) m.length m π (pick l π) listed (R w.drew) a' w.drew (Nat.le_refl _)
        (ordL_pick π (fun i hi => hb i (by simp [hi]))) hc hcl (fun w1 w2 h1 h2 => ht _ _ _ h1 h2) (hr _) (hre.out a' ha')) a ha)
    rw [show q.length + m.length = l.toArray.size by simp; omega] at key
    exact key
  · cases hc
end Go.Wk
