/- The walk layer: the operations of this program, each as what it yields. -/
import Derived.Test.YtmbencknblcocaaGreatDoorProg
import Derived.Test.YtmbencknblcocaaGreatDoorWk1
import Derived.KernelRfl
namespace Go.Wk
open Go Go.RowKit Go.Proofs

noncomputable abbrev PT : Program := Tryz.prog

theorem mixed : PT.follows .mixedOrders = true := by kernel_rfl

/-! ### Tables of types -/
def nonAgg : List Nat := [1, 2, 3, 4, 5, 6, 9, 10, 11, 12, 15, 16, 17, 20, 21, 22, 23, 24, 25, 26, 27, 28, 29, 32, 33, 34, 35, 36, 37, 38, 39, 40, 41, 42, 43, 44, 45, 46, 49, 50, 51, 52, 53, 55, 58, 59, 60, 61, 64, 65, 66, 67, 68, 69, 70, 72, 73, 74, 75, 80, 81, 82, 83, 84, 85, 86, 87, 88, 89, 90, 91, 92, 95, 96, 97, 99, 100, 101, 102, 103, 106, 107, 108, 109, 113, 114, 115, 119, 120, 122, 123, 124, 125, 126, 127, 128, 129, 130, 131, 132, 134, 135, 136, 137, 138, 142]
def okNon (P : Program) (t : Nat) : Bool :=
  match P.underlying t, P.info? t with
  | some (.struct _), _ => false
  | some (.array _ _), _ => false
  | some _, some i => i.size == 1
  | _, _ => false
theorem nonAgg_ok : nonAgg.all (okNon PT) = true := by kernel_rfl

def foT : List (Nat × Nat × Nat) := [(31, 0, 0), (31, 1, 1), (31, 2, 2), (31, 3, 3), (31, 4, 4), (48, 0, 0), (48, 1, 1), (48, 2, 2), (48, 3, 3), (48, 4, 4), (48, 5, 5), (48, 6, 6), (48, 7, 7), (48, 8, 8), (57, 0, 0), (57, 1, 1), (63, 0, 0), (63, 1, 1), (63, 2, 2), (63, 3, 3), (63, 4, 4), (63, 5, 5), (63, 6, 6), (77, 0, 0), (77, 1, 1), (77, 2, 2), (77, 3, 3), (77, 4, 4), (77, 5, 5), (77, 6, 6), (77, 7, 7), (79, 0, 0), (79, 1, 1), (79, 2, 2), (79, 3, 3), (79, 4, 4), (79, 5, 5), (79, 6, 6), (79, 7, 7), (79, 8, 9), (79, 9, 10), (79, 10, 11), (79, 11, 19), (79, 12, 20), (94, 0, 0), (94, 1, 1), (105, 0, 0), (105, 1, 1), (105, 2, 2), (105, 3, 3), (111, 0, 0), (111, 1, 1), (111, 2, 2), (111, 3, 3), (117, 0, 0), (117, 1, 1), (117, 2, 2), (140, 0, 0), (140, 1, 1), (144, 0, 0), (153, 0, 0), (153, 1, 1), (153, 2, 2), (155, 0, 0), (155, 1, 1), (155, 2, 2), (158, 0, 0), (158, 1, 1), (158, 2, 2)]
def foLook : List (Nat × Nat × Nat) → Nat → Nat → Option Nat
  | [], _, _ => none
  | (s, k, o) :: r, s', k' => bif Nat.beq s s' && Nat.beq k k' then some o else foLook r s' k'
def okFo (P : Program) (x : Nat × Nat × Nat) : Bool :=
  match P.underlying x.1 with
  | some (.struct fs) => match fs[x.2.1]? with
    | some f => f.offset == x.2.2 && (match P.info? f.type with | some i => i.size != 0 | none => false)
    | none => false
  | _ => false
theorem foT_ok : foT.all (okFo PT) = true := by kernel_rfl

def slT : List (Nat × Nat × Nat) := [(26, 31, 5), (42, 5, 1), (46, 9, 1), (50, 63, 7), (51, 63, 7), (61, 94, 2), (82, 4, 1), (102, 106, 1), (103, 3, 1), (124, 20, 1), (127, 21, 1)]
def slLook : List (Nat × Nat × Nat) → Nat → Option (Nat × Nat)
  | [], _ => none
  | (s, e, z) :: r, s' => bif Nat.beq s s' then some (e, z) else slLook r s'
def okSl (P : Program) (x : Nat × Nat × Nat) : Bool :=
  (match P.underlying x.1 with | some (.slice e) => e == x.2.1 | _ => false) && (match P.info? x.2.1 with | some i => i.size == x.2.2 | none => false)
theorem slT_ok : slT.all (okSl PT) = true := by kernel_rfl

def agT : List (Nat × Nat) := [(7, 4), (8, 4), (13, 2), (14, 2), (18, 1), (19, 1), (30, 5), (31, 5), (47, 9), (48, 9), (56, 2), (57, 2), (62, 7), (63, 7), (76, 8), (77, 8), (78, 21), (79, 21), (93, 2), (94, 2), (104, 4), (105, 4), (110, 4), (111, 4), (116, 3), (117, 3), (139, 2), (140, 2), (143, 1), (144, 1)]
def agLook : List (Nat × Nat) → Nat → Option Nat
  | [], _ => none
  | (s, z) :: r, s' => bif Nat.beq s s' then some z else agLook r s'
def okAg (P : Program) (x : Nat × Nat) : Bool :=
  match P.underlying x.1, P.info? x.1 with
  | some (.struct _), some i => i.size == x.2
  | _, _ => false
theorem agT_ok : agT.all (okAg PT) = true := by kernel_rfl

theorem memB {t : Nat} : ∀ {l : List Nat}, l.elem t = true → t ∈ l := fun h => by simpa using h

theorem non_spec {t : Nat} (h : nonAgg.elem t = true) (w : World) : (isAgg t).run PT w = .ok false w ∧ (sizeOf t).run PT w = .ok 1 w := by
  have h1 := List.all_eq_true.1 nonAgg_ok t (memB h)
  unfold okNon at h1
  split at h1
  · cases h1
  · cases h1
  · rename_i d i hn1 hn2 hd hi
    simp only [beq_iff_eq] at h1
    refine ⟨?_, ?_⟩
    · unfold isAgg
      simp only [Sem.run_bind, run_underlying hd, Result.andThen_ok]
      rfl
    · simp [sizeOf, typeInfo, hi, h1]
  · cases h1

theorem fo_mem : ∀ {l : List (Nat × Nat × Nat)} {s k o : Nat}, foLook l s k = some o → (s, k, o) ∈ l
  | [], _, _, _, h => by cases h
  | (s0, k0, o0) :: r, s, k, o, h => by
    simp only [foLook] at h
    cases hb : (Nat.beq s0 s && Nat.beq k0 k) with
    | true =>
      rw [hb] at h
      simp only [Bool.and_eq_true] at hb
      have h1 := Nat.eq_of_beq_eq_true hb.1
      have h2 := Nat.eq_of_beq_eq_true hb.2
      simp only [cond_true, Option.some.injEq] at h
      subst h1 h2 h
      exact List.mem_cons_self
    | false =>
      rw [hb] at h
      exact List.mem_cons_of_mem _ (fo_mem (by simpa using h))

theorem sl_mem : ∀ {l : List (Nat × Nat × Nat)} {s e z : Nat}, slLook l s = some (e, z) → (s, e, z) ∈ l
  | [], _, _, _, h => by cases h
  | (s0, k0, o0) :: r, s, k, o, h => by
    simp only [slLook] at h
    cases hb : Nat.beq s0 s with
    | true =>
      rw [hb] at h
      have h1 := Nat.eq_of_beq_eq_true hb
      simp only [cond_true, Option.some.injEq, Prod.mk.injEq] at h
      obtain ⟨rfl, rfl⟩ := h
      subst h1
      exact List.mem_cons_self
    | false =>
      rw [hb] at h
      exact List.mem_cons_of_mem _ (sl_mem (by simpa using h))

theorem ag_mem : ∀ {l : List (Nat × Nat)} {s z : Nat}, agLook l s = some z → (s, z) ∈ l
  | [], _, _, h => by cases h
  | (s0, o0) :: r, s, o, h => by
    simp only [agLook] at h
    cases hb : Nat.beq s0 s with
    | true =>
      rw [hb] at h
      have h1 := Nat.eq_of_beq_eq_true hb
      simp only [cond_true, Option.some.injEq] at h
      subst h1 h
      exact List.mem_cons_self
    | false =>
      rw [hb] at h
      exact List.mem_cons_of_mem _ (ag_mem (by simpa using h))

theorem fo_spec {s k o : Nat} (h : foLook foT s k = some o) (b off : Nat) (w : World) :
    (Instr.fieldAt s (.pointer (some ⟨b, off, none⟩)) k).run PT w = .ok (.pointer (some ⟨b, off + o, none⟩)) w := by
  have h1 := List.all_eq_true.1 foT_ok _ (fo_mem h)
  unfold okFo at h1
  split at h1
  · rename_i fs hfs
    split at h1
    · rename_i f hf
      simp only [Bool.and_eq_true, beq_iff_eq] at h1
      obtain ⟨h1, h2⟩ := h1
      split at h2
      · rename_i i hi
        simp only at hfs hf h1
        have hz : ¬ (i.size = 0) := by simpa using h2
        simp [Instr.fieldAt, run_underlying hfs, hf, Instr.sureAddr, fieldPlace, sizeOf, typeInfo, hi, hz, Addr.add_lit, h1]
      · cases h2
    · cases h1
  · cases h1

theorem sl_spec {s e z : Nat} (h : slLook slT s = some (e, z)) : PT.underlying s = some (.slice e) ∧ ∃ i, PT.info? e = some i ∧ i.size = z := by
  have h1 := List.all_eq_true.1 slT_ok _ (sl_mem h)
  unfold okSl at h1
  simp only [Bool.and_eq_true] at h1
  obtain ⟨h1, h2⟩ := h1
  constructor
  · split at h1
    · rename_i d hd
      have : d = e := by simpa using h1
      subst this
      exact hd
    · cases h1
  · split at h2
    · rename_i i hi
      exact ⟨i, hi, by simpa using h2⟩
    · cases h2

theorem ag_spec {s z : Nat} (h : agLook agT s = some z) (w : World) : (isAgg s).run PT w = .ok true w ∧ (sizeOf s).run PT w = .ok z w := by
  have h1 := List.all_eq_true.1 agT_ok _ (ag_mem h)
  unfold okAg at h1
  split at h1
  · rename_i fs i hfs hi
    simp only at hfs hi
    refine ⟨?_, ?_⟩
    · simp [isAgg, run_underlying hfs]
    · have : i.size = z := by simpa using h1
      simp [sizeOf, typeInfo, hi, this]
  · cases h1
end Go.Wk
