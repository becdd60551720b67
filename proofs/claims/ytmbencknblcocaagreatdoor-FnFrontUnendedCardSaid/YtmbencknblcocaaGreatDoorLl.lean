/- The section handlers; a new lexer. -/
import Derived.Test.YtmbencknblcocaaGreatDoorWk8
import Derived.Test.YtmbencknblcocaaGreatDoorLk
namespace Go.Wk
open Go Go.RowKit Go.Proofs
set_option maxRecDepth 100000

theorem Ext.fr {S : Nat → Prop} {w w1 w2 : World} (h : Ext w w1) (hf : Fr S w1 w2) (hS : ∀ q, S q → w.heap.size ≤ q) : Ext w w2 :=
  ⟨hf.os.trans h.os, hf.tape.trans h.tape, hf.output.trans h.output, Nat.le_trans h.size hf.size, fun k hk => by
    rw [hf.same k (Nat.lt_of_lt_of_le hk h.size) (fun e => by have := hS k e; omega)]
    exact Below.block h k hk⟩

/-- The handlers of the main section, in memory. -/
structure HF (L B : Nat) (nd all s1 s2 : Bool) (H : Value) (w : World) : Prop where
  out : ∃ hb hs ks h1 h2 n, H = Ptr hb 0 ∧ w.heap[hb]? = some (.cells #[Ptr L 0, .bool all, hs, ks] 105 (0, 0)) ∧
    w.ownsRow B 106 1 hs (if nd then 1 else 2) (if nd then [Ptr h1 0] else [Ptr h1 0, Ptr h2 0]) ∧ (∃ xs, w.ownsRow B 3 1 ks n xs) ∧
    w.heap[h1]? = some (.cells #[Ptr L 0, .bool s1, fnV 118, fnV 121] 111 (0, 0)) ∧
    (nd = false → w.heap[h2]? = some (.cells #[Ptr L 0, .bool s2, fnV 126, fnV 127] 111 (0, 0)) ∧ h1 ≠ h2) ∧ B ≤ hb ∧ B ≤ h1 ∧ (nd = false → B ≤ h2)

theorem ownsRow_fr {w w' : World} {base e size k : Nat} {v : Value} {xs : List Value} {S : Nat → Prop} (h : w.ownsRow base e size v k xs) (hf : Fr S w w') (hs : ∀ q, v.ownBlock = some q → ¬ S q) : w'.ownsRow base e size v k xs := by
  refine ⟨h.1, ?_⟩
  rcases h.2 with hn | ⟨g, cap, cur, rfl, hb, hgg, rest⟩
  · exact Or.inl hn
  · exact Or.inr ⟨g, cap, cur, rfl, hb, hf.block hgg (hs g rfl), rest⟩
theorem ownsRow_ext {w w' : World} {base e size k : Nat} {v : Value} {xs : List Value} (h : w.ownsRow base e size v k xs) (he : Ext w w') : w'.ownsRow base e size v k xs :=
  ownsRow_fr h (Fr.of_ext (S := fun _ => False) he) (fun _ _ h => h)

theorem handlers_fn {L B : Nat} {c : LC} {w : World} (h : AtL L c w) (hB : B ≤ w.heap.size) :
    Fn PT 104 [Ptr L 0] w (fun u w' => HF L B c.nd false false false u w' ∧ Ext w w') := by
  refine fn_of Tryz.func104 rfl Tryz.ntmps104 rfl ?_
  have hL := h
  unfold AtL at hL
  have hmax : maxLen = 9223372036854775807 := rfl
  repeat (first | refine CE.seq ?_ | refine CE.text ?_ | refine RE.x (op_move rfl) rfl ?_ | refine RE.x (op_assign rfl) rfl ?_ | refine RE.x (op_nil rfl) rfl ?_ | refine RE.x (op_fieldAddr0 rfl rfl) rfl ?_ | refine RE.x (op_fieldAddr rfl rfl) rfl ?_ | refine RE.x (op_eql rfl rfl) rfl ?_ | refine RE.x (op_neq rfl rfl) rfl ?_ | refine RE.x (op_lss rfl rfl) rfl ?_ | refine RE.x (op_leq rfl rfl) rfl ?_ | refine RE.x (op_gtr rfl rfl) rfl ?_ | refine RE.x (op_geq rfl rfl) rfl ?_ | refine RE.x (op_not_d rfl) rfl ?_ | refine RE.x (op_not rfl) rfl ?_ | refine RE.x (op_len_sl rfl rfl) rfl ?_ | refine RE.x (op_len_s rfl Tryz.underlying9) rfl ?_ | refine RE.x (op_extract rfl rfl) rfl ?_ | refine RE.x (op_pick_t rfl rfl rfl) rfl ?_ | refine RE.x (op_pick_f rfl rfl) rfl ?_ | refine RE.x (op_add64 rfl rfl (by omega) (by omega)) rfl ?_ | refine RE.x (op_sub64 rfl rfl (by omega) (by omega)) rfl ?_ | refine RE.x (op_eql_s rfl rfl) rfl ?_ | refine RE.x (op_neq_s rfl rfl) rfl ?_ | refine RE.want rfl rfl ?_ | refine RE.nox rfl rfl rfl rfl ?_ | refine RE.nou rfl rfl rfl ?_ | refine RE.nilx (show CE _ _ _ _ _ _ _ from ?_) | refine CE.scope ?_ | refine CE.label (show CE _ _ _ _ _ _ _ from ?_) | refine CE.skip (show CE _ _ _ _ _ _ _ from ?_) | refine CE.exit (show CE _ _ _ _ _ _ _ from ?_))
  refine RE.xe (e_make0 B (e := 106) (size := 1) (bytes := 8) (cp := 2) (z := .pointer none) rfl (by kernel_rfl) rfl rfl (by decide) (by decide) hB) rfl ?_
  rintro _ w1 ⟨b1, rfl, hb1, ho1, e1⟩
  repeat (first | refine CE.seq ?_ | refine CE.text ?_ | refine RE.x (op_move rfl) rfl ?_ | refine RE.x (op_assign rfl) rfl ?_ | refine RE.x (op_nil rfl) rfl ?_ | refine RE.x (op_fieldAddr0 rfl rfl) rfl ?_ | refine RE.x (op_fieldAddr rfl rfl) rfl ?_ | refine RE.x (op_eql rfl rfl) rfl ?_ | refine RE.x (op_neq rfl rfl) rfl ?_ | refine RE.x (op_lss rfl rfl) rfl ?_ | refine RE.x (op_leq rfl rfl) rfl ?_ | refine RE.x (op_gtr rfl rfl) rfl ?_ | refine RE.x (op_geq rfl rfl) rfl ?_ | refine RE.x (op_not_d rfl) rfl ?_ | refine RE.x (op_not rfl) rfl ?_ | refine RE.x (op_len_sl rfl rfl) rfl ?_ | refine RE.x (op_len_s rfl Tryz.underlying9) rfl ?_ | refine RE.x (op_extract rfl rfl) rfl ?_ | refine RE.x (op_pick_t rfl rfl rfl) rfl ?_ | refine RE.x (op_pick_f rfl rfl) rfl ?_ | refine RE.x (op_add64 rfl rfl (by omega) (by omega)) rfl ?_ | refine RE.x (op_sub64 rfl rfl (by omega) (by omega)) rfl ?_ | refine RE.x (op_eql_s rfl rfl) rfl ?_ | refine RE.x (op_neq_s rfl rfl) rfl ?_ | refine RE.want rfl rfl ?_ | refine RE.nox rfl rfl rfl rfl ?_ | refine RE.nou rfl rfl rfl ?_ | refine RE.nilx (show CE _ _ _ _ _ _ _ from ?_) | refine CE.scope ?_ | refine CE.label (show CE _ _ _ _ _ _ _ from ?_) | refine CE.skip (show CE _ _ _ _ _ _ _ from ?_) | refine CE.exit (show CE _ _ _ _ _ _ _ from ?_))
  refine RE.x (op_build (cells := #[Ptr L 0, .bool false, fnV 118, fnV 121]) rfl (by kernel_rfl)) rfl ?_
  refine RE.xe (e_box (cells := #[Ptr L 0, .bool false, fnV 118, fnV 121]) rfl rfl) rfl ?_
  rintro _ w2 ⟨h1, rfl, hn2⟩
  have e2 := e1.trans hn2.ext
  repeat (first | refine CE.seq ?_ | refine CE.text ?_ | refine RE.x (op_move rfl) rfl ?_ | refine RE.x (op_assign rfl) rfl ?_ | refine RE.x (op_nil rfl) rfl ?_ | refine RE.x (op_fieldAddr0 rfl rfl) rfl ?_ | refine RE.x (op_fieldAddr rfl rfl) rfl ?_ | refine RE.x (op_eql rfl rfl) rfl ?_ | refine RE.x (op_neq rfl rfl) rfl ?_ | refine RE.x (op_lss rfl rfl) rfl ?_ | refine RE.x (op_leq rfl rfl) rfl ?_ | refine RE.x (op_gtr rfl rfl) rfl ?_ | refine RE.x (op_geq rfl rfl) rfl ?_ | refine RE.x (op_not_d rfl) rfl ?_ | refine RE.x (op_not rfl) rfl ?_ | refine RE.x (op_len_sl rfl rfl) rfl ?_ | refine RE.x (op_len_s rfl Tryz.underlying9) rfl ?_ | refine RE.x (op_extract rfl rfl) rfl ?_ | refine RE.x (op_pick_t rfl rfl rfl) rfl ?_ | refine RE.x (op_pick_f rfl rfl) rfl ?_ | refine RE.x (op_add64 rfl rfl (by omega) (by omega)) rfl ?_ | refine RE.x (op_sub64 rfl rfl (by omega) (by omega)) rfl ?_ | refine RE.x (op_eql_s rfl rfl) rfl ?_ | refine RE.x (op_neq_s rfl rfl) rfl ?_ | refine RE.want rfl rfl ?_ | refine RE.nox rfl rfl rfl rfl ?_ | refine RE.nou rfl rfl rfl ?_ | refine RE.nilx (show CE _ _ _ _ _ _ _ from ?_) | refine CE.scope ?_ | refine CE.label (show CE _ _ _ _ _ _ _ from ?_) | refine CE.skip (show CE _ _ _ _ _ _ _ from ?_) | refine CE.exit (show CE _ _ _ _ _ _ _ from ?_))
  refine RE.xe (e_buildSlice (cells := #[Ptr h1 0]) (e := 106) rfl (by kernel_rfl) (by kernel_rfl)) rfl ?_
  rintro _ w3 ⟨nb, rfl, hn3⟩
  have e3 := e2.trans hn3.ext
  have hB3 : B ≤ w3.heap.size := by have := e3.size; omega
  refine RE.xe (e_append B (e := 106) (size := 1) (z := .pointer none) (bytes := 8) (m := 1) (c := 1) (ab := nb) (k := 0) (xs := []) (news := [Ptr h1 0]) rfl (by kernel_rfl) rfl (by decide) rfl
    (ownsRow_ext ho1 (hn2.ext.trans hn3.ext)) rfl (by decide) rfl (fun j u hj => cell_of hn3.here (by simpa using hj)) (by simp [Value.oneCell']) (by omega) (by omega) hB3) rfl ?_
  rintro v4 w4 ⟨ho4, hf4, hv4⟩
  have e4 : Ext w w4 := e3.fr hf4 (fun q hq => by simp [Value.ownBlock] at hq; omega)
  have hh1 : w4.heap[h1]? = some (.cells #[Ptr L 0, .bool false, fnV 118, fnV 121] 111 (0, 0)) :=
    hf4.block (hn3.ext.block hn2.here) (by simp [Value.ownBlock]; have := hn2.num; have := e1.size; have := (ho1.lt b1 rfl).2; omega)
  have hL4 := e4.block hL
  repeat (first | refine CE.seq ?_ | refine CE.text ?_ | refine RE.x (op_move rfl) rfl ?_ | refine RE.x (op_assign rfl) rfl ?_ | refine RE.x (op_nil rfl) rfl ?_ | refine RE.x (op_fieldAddr0 rfl rfl) rfl ?_ | refine RE.x (op_fieldAddr rfl rfl) rfl ?_ | refine RE.x (op_loadB rfl rfl hL4 rfl) rfl ?_ | refine RE.x (op_loadA rfl rfl hL4 rfl rfl) rfl ?_ | refine RE.x (op_eql rfl rfl) rfl ?_ | refine RE.x (op_neq rfl rfl) rfl ?_ | refine RE.x (op_lss rfl rfl) rfl ?_ | refine RE.x (op_leq rfl rfl) rfl ?_ | refine RE.x (op_gtr rfl rfl) rfl ?_ | refine RE.x (op_geq rfl rfl) rfl ?_ | refine RE.x (op_not_d rfl) rfl ?_ | refine RE.x (op_not rfl) rfl ?_ | refine RE.x (op_len_sl rfl rfl) rfl ?_ | refine RE.x (op_len_s rfl Tryz.underlying9) rfl ?_ | refine RE.x (op_extract rfl rfl) rfl ?_ | refine RE.x (op_pick_t rfl rfl rfl) rfl ?_ | refine RE.x (op_pick_f rfl rfl) rfl ?_ | refine RE.x (op_add64 rfl rfl (by omega) (by omega)) rfl ?_ | refine RE.x (op_sub64 rfl rfl (by omega) (by omega)) rfl ?_ | refine RE.x (op_eql_s rfl rfl) rfl ?_ | refine RE.x (op_neq_s rfl rfl) rfl ?_ | refine RE.want rfl rfl ?_ | refine RE.nox rfl rfl rfl rfl ?_ | refine RE.nou rfl rfl rfl ?_ | refine RE.nilx (show CE _ _ _ _ _ _ _ from ?_) | refine CE.scope ?_ | refine CE.label (show CE _ _ _ _ _ _ _ from ?_) | refine CE.skip (show CE _ _ _ _ _ _ _ from ?_) | refine CE.exit (show CE _ _ _ _ _ _ _ from ?_))
  refine CE.cut (fun s ds w' => ds = [] ∧ Ext w w' ∧ ∃ hs h2, SubL [(0, Ptr L 0), (3, hs)] s ∧ w'.ownsRow B 106 1 hs (if c.nd then 1 else 2) (if c.nd then [Ptr h1 0] else [Ptr h1 0, Ptr h2 0]) ∧
      w'.heap[h1]? = some (.cells #[Ptr L 0, .bool false, fnV 118, fnV 121] 111 (0, 0)) ∧
      (c.nd = false → w'.heap[h2]? = some (.cells #[Ptr L 0, .bool false, fnV 126, fnV 127] 111 (0, 0)) ∧ h1 ≠ h2) ∧ (c.nd = false → B ≤ h2)) ?_ ?_
  · refine CE.cond_s rfl (fun hnd => ?_) (fun hnd => ?_)
    · have hnd' : c.nd = false := by simpa using hnd
      repeat (first | refine CE.seq ?_ | refine CE.text ?_ | refine RE.x (op_move rfl) rfl ?_ | refine RE.x (op_assign rfl) rfl ?_ | refine RE.x (op_nil rfl) rfl ?_ | refine RE.x (op_fieldAddr0 rfl rfl) rfl ?_ | refine RE.x (op_fieldAddr rfl rfl) rfl ?_ | refine RE.x (op_eql rfl rfl) rfl ?_ | refine RE.x (op_neq rfl rfl) rfl ?_ | refine RE.x (op_lss rfl rfl) rfl ?_ | refine RE.x (op_leq rfl rfl) rfl ?_ | refine RE.x (op_gtr rfl rfl) rfl ?_ | refine RE.x (op_geq rfl rfl) rfl ?_ | refine RE.x (op_not_d rfl) rfl ?_ | refine RE.x (op_not rfl) rfl ?_ | refine RE.x (op_len_sl rfl rfl) rfl ?_ | refine RE.x (op_len_s rfl Tryz.underlying9) rfl ?_ | refine RE.x (op_extract rfl rfl) rfl ?_ | refine RE.x (op_pick_t rfl rfl rfl) rfl ?_ | refine RE.x (op_pick_f rfl rfl) rfl ?_ | refine RE.x (op_add64 rfl rfl (by omega) (by omega)) rfl ?_ | refine RE.x (op_sub64 rfl rfl (by omega) (by omega)) rfl ?_ | refine RE.x (op_eql_s rfl rfl) rfl ?_ | refine RE.x (op_neq_s rfl rfl) rfl ?_ | refine RE.want rfl rfl ?_ | refine RE.nox rfl rfl rfl rfl ?_ | refine RE.nou rfl rfl rfl ?_ | refine RE.nilx (show CE _ _ _ _ _ _ _ from ?_) | refine CE.scope ?_ | refine CE.label (show CE _ _ _ _ _ _ _ from ?_) | refine CE.skip (show CE _ _ _ _ _ _ _ from ?_) | refine CE.exit (show CE _ _ _ _ _ _ _ from ?_))
      refine RE.x (op_build (cells := #[Ptr L 0, .bool false, fnV 126, fnV 127]) rfl (by kernel_rfl)) rfl ?_
      refine RE.xe (e_box (cells := #[Ptr L 0, .bool false, fnV 126, fnV 127]) rfl rfl) rfl ?_
      rintro _ w5 ⟨h2, rfl, hn5⟩
      have e5 := e4.trans hn5.ext
      repeat (first | refine CE.seq ?_ | refine CE.text ?_ | refine RE.x (op_move rfl) rfl ?_ | refine RE.x (op_assign rfl) rfl ?_ | refine RE.x (op_nil rfl) rfl ?_ | refine RE.x (op_fieldAddr0 rfl rfl) rfl ?_ | refine RE.x (op_fieldAddr rfl rfl) rfl ?_ | refine RE.x (op_eql rfl rfl) rfl ?_ | refine RE.x (op_neq rfl rfl) rfl ?_ | refine RE.x (op_lss rfl rfl) rfl ?_ | refine RE.x (op_leq rfl rfl) rfl ?_ | refine RE.x (op_gtr rfl rfl) rfl ?_ | refine RE.x (op_geq rfl rfl) rfl ?_ | refine RE.x (op_not_d rfl) rfl ?_ | refine RE.x (op_not rfl) rfl ?_ | refine RE.x (op_len_sl rfl rfl) rfl ?_ | refine RE.x (op_len_s rfl Tryz.underlying9) rfl ?_ | refine RE.x (op_extract rfl rfl) rfl ?_ | refine RE.x (op_pick_t rfl rfl rfl) rfl ?_ | refine RE.x (op_pick_f rfl rfl) rfl ?_ | refine RE.x (op_add64 rfl rfl (by omega) (by omega)) rfl ?_ | refine RE.x (op_sub64 rfl rfl (by omega) (by omega)) rfl ?_ | refine RE.x (op_eql_s rfl rfl) rfl ?_ | refine RE.x (op_neq_s rfl rfl) rfl ?_ | refine RE.want rfl rfl ?_ | refine RE.nox rfl rfl rfl rfl ?_ | refine RE.nou rfl rfl rfl ?_ | refine RE.nilx (show CE _ _ _ _ _ _ _ from ?_) | refine CE.scope ?_ | refine CE.label (show CE _ _ _ _ _ _ _ from ?_) | refine CE.skip (show CE _ _ _ _ _ _ _ from ?_) | refine CE.exit (show CE _ _ _ _ _ _ _ from ?_))
      refine RE.xe (e_buildSlice (cells := #[Ptr h2 0]) (e := 106) rfl (by kernel_rfl) (by kernel_rfl)) rfl ?_
      rintro _ w6 ⟨nb6, rfl, hn6⟩
      have e6 := e5.trans hn6.ext
      have hB6 : B ≤ w6.heap.size := by have := e6.size; omega
      refine RE.xe (e_append B (e := 106) (size := 1) (z := .pointer none) (bytes := 8) (m := 1) (c := 1) (ab := nb6) (k := 0 + 1) (xs := [] ++ [Ptr h1 0]) (news := [Ptr h2 0]) rfl (by kernel_rfl) rfl (by decide) rfl
        (ownsRow_ext ho4 (hn5.ext.trans hn6.ext)) rfl (by decide) rfl (fun j u hj => cell_of hn6.here (by simpa using hj)) (by simp [Value.oneCell']) (by omega) (by omega) hB6) rfl ?_
      rintro v7 w7 ⟨ho7, hf7, hv7⟩
      have hown4 : ∀ q, v4.ownBlock = some q → w.heap.size ≤ q := by
        intro q hq
        rcases hv4 q hq with h | h
        · simp [Value.ownBlock] at h; omega
        · have := e3.size; omega
      have e7 : Ext w w7 := e6.fr hf7 hown4
      have htag : ∀ q, v4.ownBlock = some q → ∃ cs, w4.heap[q]? = some (.cells cs 106 (0, 0)) := by
        intro q hq
        rcases ho4.2 with ⟨rfl, _⟩ | ⟨g, cap, cur, rfl, _, hg, _⟩
        · cases hq
        · simp only [Value.ownBlock, Option.some.injEq] at hq; subst hq; exact ⟨_, hg⟩
      have hlt4 : ∀ q, v4.ownBlock = some q → q < w4.heap.size := by
        intro q hq
        obtain ⟨cs, hcs⟩ := htag q hq
        exact (Array.getElem?_eq_some_iff.1 hcs).1
      repeat (first | refine CE.seq ?_ | refine CE.text ?_ | refine RE.x (op_move rfl) rfl ?_ | refine RE.x (op_assign rfl) rfl ?_ | refine RE.x (op_nil rfl) rfl ?_ | refine RE.x (op_fieldAddr0 rfl rfl) rfl ?_ | refine RE.x (op_fieldAddr rfl rfl) rfl ?_ | refine RE.x (op_eql rfl rfl) rfl ?_ | refine RE.x (op_neq rfl rfl) rfl ?_ | refine RE.x (op_lss rfl rfl) rfl ?_ | refine RE.x (op_leq rfl rfl) rfl ?_ | refine RE.x (op_gtr rfl rfl) rfl ?_ | refine RE.x (op_geq rfl rfl) rfl ?_ | refine RE.x (op_not_d rfl) rfl ?_ | refine RE.x (op_not rfl) rfl ?_ | refine RE.x (op_len_sl rfl rfl) rfl ?_ | refine RE.x (op_len_s rfl Tryz.underlying9) rfl ?_ | refine RE.x (op_extract rfl rfl) rfl ?_ | refine RE.x (op_pick_t rfl rfl rfl) rfl ?_ | refine RE.x (op_pick_f rfl rfl) rfl ?_ | refine RE.x (op_add64 rfl rfl (by omega) (by omega)) rfl ?_ | refine RE.x (op_sub64 rfl rfl (by omega) (by omega)) rfl ?_ | refine RE.x (op_eql_s rfl rfl) rfl ?_ | refine RE.x (op_neq_s rfl rfl) rfl ?_ | refine RE.want rfl rfl ?_ | refine RE.nox rfl rfl rfl rfl ?_ | refine RE.nou rfl rfl rfl ?_ | refine RE.nilx (show CE _ _ _ _ _ _ _ from ?_) | refine CE.scope ?_ | refine CE.label (show CE _ _ _ _ _ _ _ from ?_) | refine CE.skip (show CE _ _ _ _ _ _ _ from ?_) | refine CE.exit (show CE _ _ _ _ _ _ _ from ?_))
      refine RE.nilx ?_
      refine ⟨rfl, e7, v7, h2, ⟨rfl, rfl, trivial⟩, ?_, ?_, fun _ => ⟨?_, ?_⟩, fun _ => by have := e4.size; have := hn5.num; omega⟩
      · rw [hnd']; exact ho7
      · refine hf7.block ((hn5.ext.trans hn6.ext).block hh1) fun e => ?_
        obtain ⟨cs, hcs⟩ := htag h1 e
        rw [hcs] at hh1
        cases hh1
      · refine hf7.block (hn6.ext.block hn5.here) fun e => ?_
        have := hlt4 h2 e
        have := hn5.num
        omega
      · intro e
        have := (Array.getElem?_eq_some_iff.1 hh1).1
        have := hn5.num
        omega
    · have hnd' : c.nd = true := by simpa using hnd
      refine CE.skip ?_
      refine ⟨rfl, e4, v4, h1, ⟨rfl, rfl, trivial⟩, ?_, hh1, fun h => (by rw [hnd'] at h; cases h), fun h => (by rw [hnd'] at h; cases h)⟩
      rw [hnd']; exact ho4
  · rintro s _ w5 ⟨rfl, e5, hs, h2, hsub, ho5, hh5, hh25, hh26⟩
    refine CE.sub hsub ?_
    obtain ⟨g, cap, hsv⟩ : ∃ g cap, hs = Sl g 0 (if c.nd then 1 else 2) cap := by
      rcases ho5.2 with ⟨_, h0⟩ | ⟨g, cap, cur, rfl, _⟩
      · exfalso
        cases hc : c.nd <;> simp [hc] at h0
      · exact ⟨g, cap, rfl⟩
    subst hsv
    have hB5 : B ≤ w5.heap.size := by have := e5.size; omega
    repeat (first | refine CE.seq ?_ | refine CE.text ?_ | refine RE.x (op_move rfl) rfl ?_ | refine RE.x (op_assign rfl) rfl ?_ | refine RE.x (op_nil rfl) rfl ?_ | refine RE.x (op_fieldAddr0 rfl rfl) rfl ?_ | refine RE.x (op_fieldAddr rfl rfl) rfl ?_ | refine RE.x (op_eql rfl rfl) rfl ?_ | refine RE.x (op_neq rfl rfl) rfl ?_ | refine RE.x (op_lss rfl rfl) rfl ?_ | refine RE.x (op_leq rfl rfl) rfl ?_ | refine RE.x (op_gtr rfl rfl) rfl ?_ | refine RE.x (op_geq rfl rfl) rfl ?_ | refine RE.x (op_not_d rfl) rfl ?_ | refine RE.x (op_not rfl) rfl ?_ | refine RE.x (op_len_sl rfl rfl) rfl ?_ | refine RE.x (op_len_s rfl Tryz.underlying9) rfl ?_ | refine RE.x (op_extract rfl rfl) rfl ?_ | refine RE.x (op_pick_t rfl rfl rfl) rfl ?_ | refine RE.x (op_pick_f rfl rfl) rfl ?_ | refine RE.x (op_add64 rfl rfl (by omega) (by omega)) rfl ?_ | refine RE.x (op_sub64 rfl rfl (by omega) (by omega)) rfl ?_ | refine RE.x (op_eql_s rfl rfl) rfl ?_ | refine RE.x (op_neq_s rfl rfl) rfl ?_ | refine RE.want rfl rfl ?_ | refine RE.nox rfl rfl rfl rfl ?_ | refine RE.nou rfl rfl rfl ?_ | refine RE.nilx (show CE _ _ _ _ _ _ _ from ?_) | refine CE.scope ?_ | refine CE.label (show CE _ _ _ _ _ _ _ from ?_) | refine CE.skip (show CE _ _ _ _ _ _ _ from ?_) | refine CE.exit (show CE _ _ _ _ _ _ _ from ?_))
    refine RE.xe (e_makeN B (e := 3) (size := 1) (bytes := 8) (cp := if c.nd then 1 else 2) (z := I 0) rfl (by kernel_rfl) rfl rfl (by split <;> decide) (by split <;> decide) (by split <;> decide) hB5) rfl ?_
    rintro _ w6 ⟨b6, rfl, hb6, ⟨xs6, ho6⟩, e6⟩
    refine RE.x (op_build (cells := #[Ptr L 0, .bool false, Sl g 0 (if c.nd then 1 else 2) cap, Sl b6 0 (if c.nd then 1 else 2) (if c.nd then 1 else 2)]) rfl (by kernel_rfl)) rfl ?_
    refine RE.xe (e_box (cells := #[Ptr L 0, .bool false, Sl g 0 (if c.nd then 1 else 2) cap, Sl b6 0 (if c.nd then 1 else 2) (if c.nd then 1 else 2)]) rfl rfl) rfl ?_
    rintro _ w7 ⟨hb, rfl, hn7⟩
    have e67 := e6.trans hn7.ext
    repeat (first | refine CE.seq ?_ | refine CE.text ?_ | refine RE.x (op_move rfl) rfl ?_ | refine RE.x (op_assign rfl) rfl ?_ | refine RE.x (op_nil rfl) rfl ?_ | refine RE.x (op_fieldAddr0 rfl rfl) rfl ?_ | refine RE.x (op_fieldAddr rfl rfl) rfl ?_ | refine RE.x (op_eql rfl rfl) rfl ?_ | refine RE.x (op_neq rfl rfl) rfl ?_ | refine RE.x (op_lss rfl rfl) rfl ?_ | refine RE.x (op_leq rfl rfl) rfl ?_ | refine RE.x (op_gtr rfl rfl) rfl ?_ | refine RE.x (op_geq rfl rfl) rfl ?_ | refine RE.x (op_not_d rfl) rfl ?_ | refine RE.x (op_not rfl) rfl ?_ | refine RE.x (op_len_sl rfl rfl) rfl ?_ | refine RE.x (op_len_s rfl Tryz.underlying9) rfl ?_ | refine RE.x (op_extract rfl rfl) rfl ?_ | refine RE.x (op_pick_t rfl rfl rfl) rfl ?_ | refine RE.x (op_pick_f rfl rfl) rfl ?_ | refine RE.x (op_add64 rfl rfl (by omega) (by omega)) rfl ?_ | refine RE.x (op_sub64 rfl rfl (by omega) (by omega)) rfl ?_ | refine RE.x (op_eql_s rfl rfl) rfl ?_ | refine RE.x (op_neq_s rfl rfl) rfl ?_ | refine RE.want rfl rfl ?_ | refine RE.nox rfl rfl rfl rfl ?_ | refine RE.nou rfl rfl rfl ?_ | refine RE.nilx (show CE _ _ _ _ _ _ _ from ?_) | refine CE.scope ?_ | refine CE.label (show CE _ _ _ _ _ _ _ from ?_) | refine CE.skip (show CE _ _ _ _ _ _ _ from ?_) | refine CE.exit (show CE _ _ _ _ _ _ _ from ?_))
    (refine CE.ret ?_; (try dsimp only); refine ret1 rfl rfl ?_)
    refine ⟨⟨hb, _, _, h1, h2, _, rfl, hn7.here, ownsRow_ext ho5 e67, ⟨_, ownsRow_ext ho6 hn7.ext⟩, e67.block hh5, fun hnd => ⟨e67.block (hh25 hnd).1, (hh25 hnd).2⟩, by have := hn7.num; have := e6.size; omega, by have := hn2.num; have := e1.size; omega, hh26⟩, e5.trans e67⟩
end Go.Wk
