/- ASCII in the decoder; front matter without its end, in plain Lean. -/
import Derived.Test.YtmbencknblcocaaGreatDoorLx
namespace Go.Wk
open Go Go.RowKit Go.Proofs
set_option maxRecDepth 100000

theorem nx_ascii {t : List UInt8} {p : Nat} {b : UInt8} (h : t[p]? = some b) (hb : b.toNat < 128) : nx t p = ((b.toNat : Int), 1) := by
  have hp := (List.getElem?_eq_some_iff.1 h).1
  have h0 : (t.drop p).getD 0 0 = b := by simp [List.getD, List.getElem?_drop, h]
  rw [nx_in hp, Lib.decodeL_N, h0, Lib.decodeN_ascii _ _ _ _ _ hb]

theorem nx_small {t : List UInt8} {p : Nat} {r : Nat} (h : (nx t p).1 = (r : Int)) (hr : r < 128) : ∃ b, t[p]? = some b ∧ b.toNat = r := by
  rcases Nat.lt_or_ge p t.length with hp | hp
  · refine ⟨t[p], by simp [hp], ?_⟩
    have h0 : (t.drop p).getD 0 0 = t[p] := by simp [List.getD, List.getElem?_drop, hp]
    rw [nx_in hp, Lib.decodeL_N, h0] at h
    dsimp only at h
    rcases Lib.decodeN_shape (t.drop p).length (t[p]).toNat ((t.drop p).getD 1 0).toNat ((t.drop p).getD 2 0).toNat ((t.drop p).getD 3 0).toNat with ⟨c, e⟩ | ⟨c1, c2, c3, cv, e⟩ | ⟨c1, c2, c3, c4, cv, cs, e⟩ | ⟨c1, c2, c3, c4, c5, cv, cw, e⟩ | e
    all_goals (rw [e] at h; dsimp only at h; omega)
  · rw [nx_end hp] at h
    have : (-1 : Int) = (r : Int) := h
    omega

theorem fnd_none {x l : List UInt8} : ∀ (d i : Nat), l.length + 1 - i = d → fnd x l i = -1 → ∀ j, i ≤ j → j + x.length ≤ l.length → (l.drop j).take x.length ≠ x := by
  intro d
  induction d using Nat.strongRecOn with
  | _ d ih =>
    intro i hd h j hj hjl
    rw [fnd] at h
    split at h
    · split at h
      · omega
      · rename_i hne
        by_cases hij : i = j
        · subst hij; exact hne
        · exact ih (l.length + 1 - (i + 1)) (by omega) (i + 1) rfl h j (by omega) hjl
    · omega

theorem hasS_none {l x : List UInt8} (h : hasS l x = false) : ∀ j, j + x.length ≤ l.length → (l.drop j).take x.length ≠ x := fun j hj => by
  unfold hasS at h
  exact fnd_none _ 0 rfl (by simpa using h) j (Nat.zero_le _) hj

theorem pre_take {p l : List UInt8} (h : pre p l = true) : l.take p.length = p ∧ p.length ≤ l.length := by
  have h1 := of_decide_eq_true h
  refine ⟨h1, ?_⟩
  have := congrArg List.length h1
  simp at this
  omega

/-- No end of the front matter from here on. -/
theorem fmFind_none {t d : List UInt8} (hr : ∀ p : Nat, t[p]? ≠ some 13) (hn : ∀ p : Nat, t[p]? = some 10 → 4 ≤ p → pre d (t.drop (p + 1)) = false) :
    ∀ (n p : Nat), t.length - p = n → 4 ≤ p → fmFind t d false p = none := by
  intro n
  induction n using Nat.strongRecOn with
  | _ n ih =>
    intro p hpn hp4
    rw [fmFind]
    rw [if_neg (by decide)]
    by_cases hp : p < t.length
    · rw [dif_pos hp]
      have hw := nx_pos t hp
      rw [if_neg]
      · exact ih (t.length - (p + (nx t p).2)) (by omega) _ rfl (by omega)
      · intro h
        simp only [Bool.and_eq_true] at h
        obtain ⟨h1, h2⟩ := h
        unfold isEol at h1
        simp only [Bool.or_eq_true, decide_eq_true_eq] at h1
        rcases h1 with h1 | h1
        · obtain ⟨b, hb, hv⟩ := nx_small (r := 13) h1 (by decide)
          have : b = 13 := UInt8.toNat_inj.1 hv
          subst this
          exact hr p hb
        · obtain ⟨b, hb, hv⟩ := nx_small (r := 10) h1 (by decide)
          have : b = 10 := UInt8.toNat_inj.1 hv
          subst this
          have hw1 : (nx t p).2 = 1 := by rw [nx_ascii hb (by decide)]
          rw [hw1, hn p hb hp4] at h2
          cases h2
    · rw [dif_neg hp]

theorem unended (c : UInt8) (tp : Int) (m : List UInt8) (hc : c.toNat = 43 ∧ tp = 4 ∨ c.toNat = 45 ∧ tp = 3) (h1 : begS m 0 [c, c, c] = false) (h2 : hasS m [10, c, c, c] = false) (h3 : hasS m [13] = false) :
    ∃ lo hi, inOut (c :: c :: c :: 10 :: m) 0 0 = (.nilFunc, hi, lo, [PI.bad (c :: c :: c :: 10 :: m) lo hi]) ∧ lo ≤ hi ∧ hi ≤ (c :: c :: c :: 10 :: m).length := by
  generalize ht : (c :: c :: c :: 10 :: m) = t
  have hc128 : c.toNat < 128 := by omega
  have n0 : nx t 0 = ((c.toNat : Int), 1) := nx_ascii (by rw [← ht]; rfl) hc128
  have n1 : nx t 1 = ((c.toNat : Int), 1) := nx_ascii (by rw [← ht]; rfl) hc128
  have n2 : nx t 2 = ((c.toNat : Int), 1) := nx_ascii (by rw [← ht]; rfl) hc128
  have n3 : nx t 3 = (10, 1) := nx_ascii (b := 10) (by rw [← ht]; rfl) (by decide)
  have hdrop : ∀ k, t.drop (4 + k) = m.drop k := by intro k; rw [← ht]; rw [Nat.add_comm]; rfl
  have hcr : crE t 3 = (4, true) := by
    have e : (if (nx t 3).1 = 13 then 3 + (nx t 3).2 else 3) = 3 := by rw [n3]; rfl
    unfold crE
    dsimp only
    rw [e, n3]
    rfl
  have hpre : pre [c, c, c] m = false := by
    cases h : pre [c, c, c] m with
    | false => rfl
    | true =>
      obtain ⟨g1, g2⟩ := pre_take h
      have : begS m 0 [c, c, c] = true := by
        unfold begS
        simp only [List.drop_zero, g1, decide_true, Bool.and_true]
        simpa using g2
      rw [h1] at this; cases this
  have hfm : fmFind t [c, c, c] true 4 = none := by
    rw [fmFind, if_pos rfl, if_neg]
    · refine fmFind_none ?_ ?_ _ 4 rfl (Nat.le_refl _)
      · intro p hp
        have hlt := (List.getElem?_eq_some_iff.1 hp).1
        rcases Nat.lt_or_ge p 4 with h4 | h4
        · rw [← ht] at hp
          have : p = 0 ∨ p = 1 ∨ p = 2 ∨ p = 3 := by omega
          rcases this with rfl | rfl | rfl | rfl
          · have h13 : c = 13 := by simpa using hp
            have : c.toNat = 13 := by rw [h13]; rfl
            omega
          · have h13 : c = 13 := by simpa using hp
            have : c.toNat = 13 := by rw [h13]; rfl
            omega
          · have h13 : c = 13 := by simpa using hp
            have : c.toNat = 13 := by rw [h13]; rfl
            omega
          · simp at hp
        · obtain ⟨k, rfl⟩ : ∃ k, p = 4 + k := ⟨p - 4, by omega⟩
          have hk : m[k]? = some 13 := by
            have := hdrop k
            have h0 : (t.drop (4 + k))[0]? = some 13 := by rw [List.getElem?_drop]; exact hp
            rw [this, List.getElem?_drop] at h0
            simpa using h0
          have hkl := (List.getElem?_eq_some_iff.1 hk).1
          refine hasS_none h3 k (by simp; omega) ?_
          rw [List.drop_eq_getElem_cons hkl]
          have := (List.getElem?_eq_some_iff.1 hk).2
          simp [this]
      · intro p hp hp4
        obtain ⟨k, rfl⟩ : ∃ k, p = 4 + k := ⟨p - 4, by omega⟩
        have hk : m[k]? = some 10 := by
          have := hdrop k
          have h0 : (t.drop (4 + k))[0]? = some 10 := by rw [List.getElem?_drop]; exact hp
          rw [this, List.getElem?_drop] at h0
          simpa using h0
        have hkl := (List.getElem?_eq_some_iff.1 hk).1
        have hv := (List.getElem?_eq_some_iff.1 hk).2
        rw [show 4 + k + 1 = 4 + (k + 1) by omega, hdrop]
        cases h : pre [c, c, c] (m.drop (k + 1)) with
        | false => rfl
        | true =>
          exfalso
          obtain ⟨g1, g2⟩ := pre_take h
          simp at g2
          refine hasS_none h2 k (by simp; omega) ?_
          rw [List.drop_eq_getElem_cons hkl, hv]
          show 10 :: (m.drop (k + 1)).take 3 = _
          rw [show (m.drop (k + 1)).take 3 = [c, c, c] from g1]
    · rw [show t.drop 4 = m by rw [← ht]; rfl, hpre]
      decide
  have hsk : skipTo notSp t 0 = 0 := by
    refine skipTo_stop (Or.inr ?_)
    rw [n0]
    rcases hc with ⟨hc, _⟩ | ⟨hc, _⟩ <;> rw [hc] <;> rfl
  have hlen : 4 ≤ t.length := by rw [← ht]; simp
  refine ⟨4, t.length, ?_, hlen, Nat.le_refl _⟩
  have hout : fmOut t [c, c, c] tp (c.toNat : Int) 0 1 = (false, t.length, 4, [PI.bad t 4 t.length]) := by
    simp only [fmOut, n1, n2, hcr, hfm]
    simp
  unfold inOut
  rw [hsk]
  simp only [n0]
  rcases hc with ⟨hc, rfl⟩ | ⟨hc, rfl⟩
  · have hcc : c = 43 := UInt8.toNat_inj.1 hc
    subst hcc
    rw [if_neg (by decide), if_pos (by decide)]
    have hout' : fmOut t bs70 4 43 0 (0 + 1) = (false, t.length, 4, [PI.bad t 4 t.length]) := hout
    rw [hout']
    rfl
  · have hcc : c = 45 := UInt8.toNat_inj.1 hc
    subst hcc
    rw [if_neg (by decide), if_neg (by decide), if_pos (by decide)]
    have hout' : fmOut t bs71 3 45 0 (0 + 1) = (false, t.length, 4, [PI.bad t 4 t.length]) := hout
    rw [hout']
    rfl
end Go.Wk
