/- The lexer's reading methods. -/
import Derived.Test.YtmbencknblcocaaGreatDoorLb
namespace Go.Wk
open Go Go.RowKit Go.Proofs
set_option maxRecDepth 100000

/-- The rune at a place and its width; at the end -1 and 0. -/
def nx (t : List UInt8) (p : Nat) : Int × Nat := if t.length ≤ p then (-1, 0) else (((Lib.decodeL (t.drop p)).1 : Int), (Lib.decodeL (t.drop p)).2)

theorem nx_end {t : List UInt8} {p : Nat} (h : t.length ≤ p) : nx t p = (-1, 0) := by simp [nx, h]
theorem nx_in {t : List UInt8} {p : Nat} (h : p < t.length) : nx t p = (((Lib.decodeL (t.drop p)).1 : Int), (Lib.decodeL (t.drop p)).2) := by simp [nx, Nat.not_le.2 h]
theorem nx_le (t : List UInt8) {p : Nat} (h : p ≤ t.length) : p + (nx t p).2 ≤ t.length := by
  rcases Nat.lt_or_ge p t.length with h1 | h1
  · rw [nx_in h1]
    have := Lib.decodeL_le (t.drop p) (by intro e; have := congrArg List.length e; simp at this; omega)
    simp at this
    show p + (Lib.decodeL (t.drop p)).2 ≤ t.length
    omega
  · rw [nx_end h1]; exact h
theorem nx_range (t : List UInt8) (p : Nat) : -1 ≤ (nx t p).1 ∧ (nx t p).1 ≤ 1114111 := by
  rcases Nat.lt_or_ge p t.length with h1 | h1
  · rw [nx_in h1]
    have := Lib.decodeL_rune (t.drop p)
    exact ⟨by show (-1 : Int) ≤ ((Lib.decodeL (t.drop p)).1 : Int); omega, by show ((Lib.decodeL (t.drop p)).1 : Int) ≤ 1114111; omega⟩
  · rw [nx_end h1]; exact ⟨by decide, by decide⟩
theorem decodeL_pos (l : List UInt8) : 1 ≤ (Lib.decodeL l).2 := by
  rw [Lib.decodeL_N]
  rcases Lib.decodeN_shape l.length (l.getD 0 0).toNat (l.getD 1 0).toNat (l.getD 2 0).toNat (l.getD 3 0).toNat with ⟨c, e⟩ | ⟨c1, c2, c3, cv, e⟩ | ⟨c1, c2, c3, c4, cv, cs, e⟩ | ⟨c1, c2, c3, c4, c5, cv, cw, e⟩ | e
  all_goals (rw [e]; dsimp only; omega)
theorem nx_pos (t : List UInt8) {p : Nat} (h : p < t.length) : 1 ≤ (nx t p).2 := by rw [nx_in h]; exact decodeL_pos _

theorem hb_drop {w : World} {ib p m c : Nat} {a : Option Addr} {t : List UInt8} (h : HBk ib w (.slice a m c) t) (hp : p ≤ t.length) : HBk ib w (sliced a p m c 1) (t.drop p) := by
  have hm : m = t.length := by
    obtain ⟨a', c', he, _, _⟩ := h
    simp only [Value.slice.injEq] at he
    exact he.2.1
  subst hm
  have := HBk.slice h hp (Nat.le_refl _)
  rwa [List.take_of_length_le (by simp)] at this

def LC.nxt (t : List UInt8) (c : LC) : LC := { c with width := (nx t c.pos).2, pos := c.pos + (nx t c.pos).2 }

theorem next_fn {L ib B : Nat} {t : List UInt8} {c : LC} {w : World} (h : Lx L ib B t c w) :
    Fn PT 68 [Ptr L 0] w (fun v w' => v = .int .i32 (nx t c.pos).1 ∧ LM L (c.nxt t) w w') := by
  refine fn_of Tryz.func68 rfl Tryz.ntmps68 rfl ?_
  have hB := h.at_
  unfold AtL at hB
  have hil := h.il
  have hsm := h.small
  have hps := h.pos
  repeat (first | refine CE.seq ?_ | refine CE.text ?_ | refine RE.x (op_move rfl) rfl ?_ | refine RE.x (op_assign rfl) rfl ?_ | refine RE.x (op_nil rfl) rfl ?_ | refine RE.x (op_fieldAddr0 rfl rfl) rfl ?_ | refine RE.x (op_fieldAddr rfl rfl) rfl ?_ | refine RE.x (op_loadB rfl rfl hB rfl) rfl ?_ | refine RE.x (op_loadA rfl rfl hB rfl rfl) rfl ?_ | refine RE.x (op_eql rfl rfl) rfl ?_ | refine RE.x (op_neq rfl rfl) rfl ?_ | refine RE.x (op_lss rfl rfl) rfl ?_ | refine RE.x (op_leq rfl rfl) rfl ?_ | refine RE.x (op_gtr rfl rfl) rfl ?_ | refine RE.x (op_geq rfl rfl) rfl ?_ | refine RE.x (op_not_d rfl) rfl ?_ | refine RE.x (op_not rfl) rfl ?_ | refine RE.x (op_len_sl rfl rfl) rfl ?_ | refine RE.x (op_len_s rfl Tryz.underlying9) rfl ?_ | refine RE.x (op_extract rfl rfl) rfl ?_ | refine RE.x (op_pick_t rfl rfl rfl) rfl ?_ | refine RE.x (op_pick_f rfl rfl) rfl ?_ | refine RE.x (op_add64 rfl rfl (by omega) (by omega)) rfl ?_ | refine RE.x (op_sub64 rfl rfl (by omega) (by omega)) rfl ?_ | refine RE.x (op_eql_s rfl rfl) rfl ?_ | refine RE.x (op_neq_s rfl rfl) rfl ?_ | refine RE.want rfl rfl ?_ | refine RE.nox rfl rfl rfl rfl ?_ | refine RE.nou rfl rfl rfl ?_ | refine RE.nilx (show CE _ _ _ _ _ _ _ from ?_) | refine CE.block ?_ | refine CE.scope ?_ | refine CE.label (show CE _ _ _ _ _ _ _ from ?_) | refine CE.skip (show CE _ _ _ _ _ _ _ from ?_) | refine CE.exit (show CE _ _ _ _ _ _ _ from ?_) | refine CE.cond_t rfl ?_ | refine CE.cond_f rfl ?_)
  refine CE.draw [0, 0, 0, 0, 0, 0, 0, 0, 0, 0] mixed (by decide +kernel) ?_
  repeat (first | refine RE.d1 (op_move rfl) rfl ?_ | refine RE.d1 (op_assign rfl) rfl ?_ | refine RE.d1 (op_nil rfl) rfl ?_ | refine RE.d1 (op_fieldAddr0 rfl rfl) rfl ?_ | refine RE.d1 (op_fieldAddr rfl rfl) rfl ?_ | refine RE.d1 (op_loadB rfl rfl hB rfl) rfl ?_ | refine RE.d1 (op_loadA rfl rfl hB rfl rfl) rfl ?_ | refine RE.d1 (op_eql rfl rfl) rfl ?_ | refine RE.d1 (op_neq rfl rfl) rfl ?_ | refine RE.d1 (op_lss rfl rfl) rfl ?_ | refine RE.d1 (op_leq rfl rfl) rfl ?_ | refine RE.d1 (op_gtr rfl rfl) rfl ?_ | refine RE.d1 (op_geq rfl rfl) rfl ?_ | refine RE.d1 (op_not_d rfl) rfl ?_ | refine RE.d1 (op_not rfl) rfl ?_ | refine RE.d1 (op_len_sl rfl rfl) rfl ?_ | refine RE.d1 (op_len_s rfl Tryz.underlying9) rfl ?_ | refine RE.d1 (op_extract rfl rfl) rfl ?_ | refine RE.d1 (op_add64 rfl rfl (by omega) (by omega)) rfl ?_ | refine RE.d1 (op_sub64 rfl rfl (by omega) (by omega)) rfl ?_ | refine RE.d1 (op_eql_s rfl rfl) rfl ?_ | refine RE.d1 (op_neq_s rfl rfl) rfl ?_ | refine RE.want rfl rfl ?_ | refine RE.no0 rfl rfl rfl rfl ?_ | refine RE.nilx (show CE _ _ _ _ _ _ _ from ?_))
  refine CE.cond_d rfl (fun hc => ?_) (fun hc => ?_)
  · have he : t.length ≤ c.pos := by omega
    repeat (first | refine CE.seq ?_ | refine CE.text ?_ | refine RE.x (op_move rfl) rfl ?_ | refine RE.x (op_assign rfl) rfl ?_ | refine RE.x (op_nil rfl) rfl ?_ | refine RE.x (op_fieldAddr0 rfl rfl) rfl ?_ | refine RE.x (op_fieldAddr rfl rfl) rfl ?_ | refine RE.x (op_loadB rfl rfl hB rfl) rfl ?_ | refine RE.x (op_loadA rfl rfl hB rfl rfl) rfl ?_ | refine RE.x (op_eql rfl rfl) rfl ?_ | refine RE.x (op_neq rfl rfl) rfl ?_ | refine RE.x (op_lss rfl rfl) rfl ?_ | refine RE.x (op_leq rfl rfl) rfl ?_ | refine RE.x (op_gtr rfl rfl) rfl ?_ | refine RE.x (op_geq rfl rfl) rfl ?_ | refine RE.x (op_not_d rfl) rfl ?_ | refine RE.x (op_not rfl) rfl ?_ | refine RE.x (op_len_sl rfl rfl) rfl ?_ | refine RE.x (op_len_s rfl Tryz.underlying9) rfl ?_ | refine RE.x (op_extract rfl rfl) rfl ?_ | refine RE.x (op_pick_t rfl rfl rfl) rfl ?_ | refine RE.x (op_pick_f rfl rfl) rfl ?_ | refine RE.x (op_add64 rfl rfl (by omega) (by omega)) rfl ?_ | refine RE.x (op_sub64 rfl rfl (by omega) (by omega)) rfl ?_ | refine RE.x (op_eql_s rfl rfl) rfl ?_ | refine RE.x (op_neq_s rfl rfl) rfl ?_ | refine RE.want rfl rfl ?_ | refine RE.nox rfl rfl rfl rfl ?_ | refine RE.nou rfl rfl rfl ?_ | refine RE.nilx (show CE _ _ _ _ _ _ _ from ?_) | refine CE.block ?_ | refine CE.scope ?_ | refine CE.label (show CE _ _ _ _ _ _ _ from ?_) | refine CE.skip (show CE _ _ _ _ _ _ _ from ?_) | refine CE.exit (show CE _ _ _ _ _ _ _ from ?_) | refine CE.cond_t rfl ?_ | refine CE.cond_f rfl ?_)
    refine RE.xs (e_store rfl rfl rfl hB rfl rfl) ?_
    rintro _ w1 hu
    repeat (first | refine CE.seq ?_ | refine CE.text ?_ | refine RE.x (op_move rfl) rfl ?_ | refine RE.x (op_assign rfl) rfl ?_ | refine RE.x (op_nil rfl) rfl ?_ | refine RE.x (op_fieldAddr0 rfl rfl) rfl ?_ | refine RE.x (op_fieldAddr rfl rfl) rfl ?_ | refine RE.x (op_loadB rfl rfl hB rfl) rfl ?_ | refine RE.x (op_loadA rfl rfl hB rfl rfl) rfl ?_ | refine RE.x (op_eql rfl rfl) rfl ?_ | refine RE.x (op_neq rfl rfl) rfl ?_ | refine RE.x (op_lss rfl rfl) rfl ?_ | refine RE.x (op_leq rfl rfl) rfl ?_ | refine RE.x (op_gtr rfl rfl) rfl ?_ | refine RE.x (op_geq rfl rfl) rfl ?_ | refine RE.x (op_not_d rfl) rfl ?_ | refine RE.x (op_not rfl) rfl ?_ | refine RE.x (op_len_sl rfl rfl) rfl ?_ | refine RE.x (op_len_s rfl Tryz.underlying9) rfl ?_ | refine RE.x (op_extract rfl rfl) rfl ?_ | refine RE.x (op_pick_t rfl rfl rfl) rfl ?_ | refine RE.x (op_pick_f rfl rfl) rfl ?_ | refine RE.x (op_add64 rfl rfl (by omega) (by omega)) rfl ?_ | refine RE.x (op_sub64 rfl rfl (by omega) (by omega)) rfl ?_ | refine RE.x (op_eql_s rfl rfl) rfl ?_ | refine RE.x (op_neq_s rfl rfl) rfl ?_ | refine RE.want rfl rfl ?_ | refine RE.nox rfl rfl rfl rfl ?_ | refine RE.nou rfl rfl rfl ?_ | refine RE.nilx (show CE _ _ _ _ _ _ _ from ?_) | refine CE.block ?_ | refine CE.scope ?_ | refine CE.label (show CE _ _ _ _ _ _ _ from ?_) | refine CE.skip (show CE _ _ _ _ _ _ _ from ?_) | refine CE.exit (show CE _ _ _ _ _ _ _ from ?_) | refine CE.cond_t rfl ?_ | refine CE.cond_f rfl ?_)
    (refine CE.ret ?_; (try dsimp only); refine ret1 rfl rfl ?_)
    rw [nx_end he]
    refine ⟨rfl, LM.of_upd hu.undrew ?_⟩
    simp only [LC.arr, LC.nxt, nx_end he]
    rfl
  · have he : c.pos < t.length := by omega
    repeat (first | refine CE.seq ?_ | refine CE.text ?_ | refine RE.x (op_move rfl) rfl ?_ | refine RE.x (op_assign rfl) rfl ?_ | refine RE.x (op_nil rfl) rfl ?_ | refine RE.x (op_fieldAddr0 rfl rfl) rfl ?_ | refine RE.x (op_fieldAddr rfl rfl) rfl ?_ | refine RE.x (op_loadB rfl rfl hB rfl) rfl ?_ | refine RE.x (op_loadA rfl rfl hB rfl rfl) rfl ?_ | refine RE.x (op_eql rfl rfl) rfl ?_ | refine RE.x (op_neq rfl rfl) rfl ?_ | refine RE.x (op_lss rfl rfl) rfl ?_ | refine RE.x (op_leq rfl rfl) rfl ?_ | refine RE.x (op_gtr rfl rfl) rfl ?_ | refine RE.x (op_geq rfl rfl) rfl ?_ | refine RE.x (op_not_d rfl) rfl ?_ | refine RE.x (op_not rfl) rfl ?_ | refine RE.x (op_len_sl rfl rfl) rfl ?_ | refine RE.x (op_len_s rfl Tryz.underlying9) rfl ?_ | refine RE.x (op_extract rfl rfl) rfl ?_ | refine RE.x (op_pick_t rfl rfl rfl) rfl ?_ | refine RE.x (op_pick_f rfl rfl) rfl ?_ | refine RE.x (op_add64 rfl rfl (by omega) (by omega)) rfl ?_ | refine RE.x (op_sub64 rfl rfl (by omega) (by omega)) rfl ?_ | refine RE.x (op_eql_s rfl rfl) rfl ?_ | refine RE.x (op_neq_s rfl rfl) rfl ?_ | refine RE.want rfl rfl ?_ | refine RE.nox rfl rfl rfl rfl ?_ | refine RE.nou rfl rfl rfl ?_ | refine RE.nilx (show CE _ _ _ _ _ _ _ from ?_) | refine CE.block ?_ | refine CE.scope ?_ | refine CE.label (show CE _ _ _ _ _ _ _ from ?_) | refine CE.skip (show CE _ _ _ _ _ _ _ from ?_) | refine CE.exit (show CE _ _ _ _ _ _ _ from ?_) | refine CE.cond_t rfl ?_ | refine CE.cond_f rfl ?_)
    refine CE.draw [0, 0, 0, 0, 0, 0, 0, 0, 0, 2, 0, 0, 0, 0, 0] mixed (by decide +kernel) ?_
    repeat (first | refine RE.d1 (op_move rfl) rfl ?_ | refine RE.d1 (op_assign rfl) rfl ?_ | refine RE.d1 (op_nil rfl) rfl ?_ | refine RE.d1 (op_fieldAddr0 rfl rfl) rfl ?_ | refine RE.d1 (op_fieldAddr rfl rfl) rfl ?_ | refine RE.d1 (op_loadB rfl rfl hB rfl) rfl ?_ | refine RE.d1 (op_loadA rfl rfl hB rfl rfl) rfl ?_ | refine RE.d1 (op_eql rfl rfl) rfl ?_ | refine RE.d1 (op_neq rfl rfl) rfl ?_ | refine RE.d1 (op_lss rfl rfl) rfl ?_ | refine RE.d1 (op_leq rfl rfl) rfl ?_ | refine RE.d1 (op_gtr rfl rfl) rfl ?_ | refine RE.d1 (op_geq rfl rfl) rfl ?_ | refine RE.d1 (op_not_d rfl) rfl ?_ | refine RE.d1 (op_not rfl) rfl ?_ | refine RE.d1 (op_len_sl rfl rfl) rfl ?_ | refine RE.d1 (op_len_s rfl Tryz.underlying9) rfl ?_ | refine RE.d1 (op_extract rfl rfl) rfl ?_ | refine RE.d1 (op_add64 rfl rfl (by omega) (by omega)) rfl ?_ | refine RE.d1 (op_sub64 rfl rfl (by omega) (by omega)) rfl ?_ | refine RE.d1 (op_eql_s rfl rfl) rfl ?_ | refine RE.d1 (op_neq_s rfl rfl) rfl ?_ | refine RE.want rfl rfl ?_ | refine RE.no0 rfl rfl rfl rfl ?_ | refine RE.nilx (show CE _ _ _ _ _ _ _ from ?_))
    refine RE.d1 (op_slice_l rfl rfl rfl (by omega) (by omega)) rfl ?_
    have hdrop := hb_drop h.inp hps
    refine RE.ec1 en92 rfl rfl (decode_fn (l := t.drop c.pos) (v := sliced c.ia (c.pos : Int).toNat c.il c.ic 1) ⟨ib, hdrop.ext ((Ext.drew w).trans (Ext.drew _))⟩ (by intro e; have := congrArg List.length e; simp at this; omega) (h.tabs w.drew.drew (Below.refl _ _).drew.drew)) ?_
    rintro _ w1 ⟨rfl, e1⟩
    have hB1 := e1.block (show w.drew.drew.heap[L]? = _ from hB)
    repeat (first | refine RE.d1 (op_move rfl) rfl ?_ | refine RE.d1 (op_assign rfl) rfl ?_ | refine RE.d1 (op_nil rfl) rfl ?_ | refine RE.d1 (op_fieldAddr0 rfl rfl) rfl ?_ | refine RE.d1 (op_fieldAddr rfl rfl) rfl ?_ | refine RE.d1 (op_loadB rfl rfl hB1 rfl) rfl ?_ | refine RE.d1 (op_loadA rfl rfl hB1 rfl rfl) rfl ?_ | refine RE.d1 (op_eql rfl rfl) rfl ?_ | refine RE.d1 (op_neq rfl rfl) rfl ?_ | refine RE.d1 (op_lss rfl rfl) rfl ?_ | refine RE.d1 (op_leq rfl rfl) rfl ?_ | refine RE.d1 (op_gtr rfl rfl) rfl ?_ | refine RE.d1 (op_geq rfl rfl) rfl ?_ | refine RE.d1 (op_not_d rfl) rfl ?_ | refine RE.d1 (op_not rfl) rfl ?_ | refine RE.d1 (op_len_sl rfl rfl) rfl ?_ | refine RE.d1 (op_len_s rfl Tryz.underlying9) rfl ?_ | refine RE.d1 (op_extract rfl rfl) rfl ?_ | refine RE.d1 (op_add64 rfl rfl (by omega) (by omega)) rfl ?_ | refine RE.d1 (op_sub64 rfl rfl (by omega) (by omega)) rfl ?_ | refine RE.d1 (op_eql_s rfl rfl) rfl ?_ | refine RE.d1 (op_neq_s rfl rfl) rfl ?_ | refine RE.want rfl rfl ?_ | refine RE.no0 rfl rfl rfl rfl ?_ | refine RE.nilx (show CE _ _ _ _ _ _ _ from ?_))
    repeat (first | refine CE.seq ?_ | refine CE.text ?_ | refine RE.x (op_move rfl) rfl ?_ | refine RE.x (op_assign rfl) rfl ?_ | refine RE.x (op_nil rfl) rfl ?_ | refine RE.x (op_fieldAddr0 rfl rfl) rfl ?_ | refine RE.x (op_fieldAddr rfl rfl) rfl ?_ | refine RE.x (op_loadB rfl rfl hB1 rfl) rfl ?_ | refine RE.x (op_loadA rfl rfl hB1 rfl rfl) rfl ?_ | refine RE.x (op_eql rfl rfl) rfl ?_ | refine RE.x (op_neq rfl rfl) rfl ?_ | refine RE.x (op_lss rfl rfl) rfl ?_ | refine RE.x (op_leq rfl rfl) rfl ?_ | refine RE.x (op_gtr rfl rfl) rfl ?_ | refine RE.x (op_geq rfl rfl) rfl ?_ | refine RE.x (op_not_d rfl) rfl ?_ | refine RE.x (op_not rfl) rfl ?_ | refine RE.x (op_len_sl rfl rfl) rfl ?_ | refine RE.x (op_len_s rfl Tryz.underlying9) rfl ?_ | refine RE.x (op_extract rfl rfl) rfl ?_ | refine RE.x (op_pick_t rfl rfl rfl) rfl ?_ | refine RE.x (op_pick_f rfl rfl) rfl ?_ | refine RE.x (op_add64 rfl rfl (by omega) (by omega)) rfl ?_ | refine RE.x (op_sub64 rfl rfl (by omega) (by omega)) rfl ?_ | refine RE.x (op_eql_s rfl rfl) rfl ?_ | refine RE.x (op_neq_s rfl rfl) rfl ?_ | refine RE.want rfl rfl ?_ | refine RE.nox rfl rfl rfl rfl ?_ | refine RE.nou rfl rfl rfl ?_ | refine RE.nilx (show CE _ _ _ _ _ _ _ from ?_) | refine CE.block ?_ | refine CE.scope ?_ | refine CE.label (show CE _ _ _ _ _ _ _ from ?_) | refine CE.skip (show CE _ _ _ _ _ _ _ from ?_) | refine CE.exit (show CE _ _ _ _ _ _ _ from ?_) | refine CE.cond_t rfl ?_ | refine CE.cond_f rfl ?_)
    refine RE.xs (e_store rfl rfl rfl hB1 rfl rfl) ?_
    rintro _ w2 hu2
    have hB2 := hu2.here
    have hw := nx_le t hps
    rw [nx_in he] at hw
    have hw' : c.pos + (Lib.decodeL (t.drop c.pos)).2 ≤ t.length := hw
    repeat (first | refine CE.seq ?_ | refine CE.text ?_ | refine RE.x (op_move rfl) rfl ?_ | refine RE.x (op_assign rfl) rfl ?_ | refine RE.x (op_nil rfl) rfl ?_ | refine RE.x (op_fieldAddr0 rfl rfl) rfl ?_ | refine RE.x (op_fieldAddr rfl rfl) rfl ?_ | refine RE.x (op_loadB rfl rfl hB2 rfl) rfl ?_ | refine RE.x (op_loadA rfl rfl hB2 rfl rfl) rfl ?_ | refine RE.x (op_eql rfl rfl) rfl ?_ | refine RE.x (op_neq rfl rfl) rfl ?_ | refine RE.x (op_lss rfl rfl) rfl ?_ | refine RE.x (op_leq rfl rfl) rfl ?_ | refine RE.x (op_gtr rfl rfl) rfl ?_ | refine RE.x (op_geq rfl rfl) rfl ?_ | refine RE.x (op_not_d rfl) rfl ?_ | refine RE.x (op_not rfl) rfl ?_ | refine RE.x (op_len_sl rfl rfl) rfl ?_ | refine RE.x (op_len_s rfl Tryz.underlying9) rfl ?_ | refine RE.x (op_extract rfl rfl) rfl ?_ | refine RE.x (op_pick_t rfl rfl rfl) rfl ?_ | refine RE.x (op_pick_f rfl rfl) rfl ?_ | refine RE.x (op_add64 rfl rfl (by omega) (by omega)) rfl ?_ | refine RE.x (op_sub64 rfl rfl (by omega) (by omega)) rfl ?_ | refine RE.x (op_eql_s rfl rfl) rfl ?_ | refine RE.x (op_neq_s rfl rfl) rfl ?_ | refine RE.want rfl rfl ?_ | refine RE.nox rfl rfl rfl rfl ?_ | refine RE.nou rfl rfl rfl ?_ | refine RE.nilx (show CE _ _ _ _ _ _ _ from ?_) | refine CE.block ?_ | refine CE.scope ?_ | refine CE.label (show CE _ _ _ _ _ _ _ from ?_) | refine CE.skip (show CE _ _ _ _ _ _ _ from ?_) | refine CE.exit (show CE _ _ _ _ _ _ _ from ?_) | refine CE.cond_t rfl ?_ | refine CE.cond_f rfl ?_)
    refine CE.draw [0, 0, 0, 0, 0, 0, 0, 0, 0, 0, 0, 2] mixed (by decide +kernel) ?_
    repeat (first | refine RE.d1 (op_move rfl) rfl ?_ | refine RE.d1 (op_assign rfl) rfl ?_ | refine RE.d1 (op_nil rfl) rfl ?_ | refine RE.d1 (op_fieldAddr0 rfl rfl) rfl ?_ | refine RE.d1 (op_fieldAddr rfl rfl) rfl ?_ | refine RE.d1 (op_loadB rfl rfl hB2 rfl) rfl ?_ | refine RE.d1 (op_loadA rfl rfl hB2 rfl rfl) rfl ?_ | refine RE.d1 (op_eql rfl rfl) rfl ?_ | refine RE.d1 (op_neq rfl rfl) rfl ?_ | refine RE.d1 (op_lss rfl rfl) rfl ?_ | refine RE.d1 (op_leq rfl rfl) rfl ?_ | refine RE.d1 (op_gtr rfl rfl) rfl ?_ | refine RE.d1 (op_geq rfl rfl) rfl ?_ | refine RE.d1 (op_not_d rfl) rfl ?_ | refine RE.d1 (op_not rfl) rfl ?_ | refine RE.d1 (op_len_sl rfl rfl) rfl ?_ | refine RE.d1 (op_len_s rfl Tryz.underlying9) rfl ?_ | refine RE.d1 (op_extract rfl rfl) rfl ?_ | refine RE.d1 (op_add64 rfl rfl (by omega) (by omega)) rfl ?_ | refine RE.d1 (op_sub64 rfl rfl (by omega) (by omega)) rfl ?_ | refine RE.d1 (op_eql_s rfl rfl) rfl ?_ | refine RE.d1 (op_neq_s rfl rfl) rfl ?_ | refine RE.want rfl rfl ?_ | refine RE.no0 rfl rfl rfl rfl ?_ | refine RE.nilx (show CE _ _ _ _ _ _ _ from ?_))
    refine RE.es1 (e_store rfl rfl rfl hB2 rfl rfl) ?_
    rintro _ w3 hu3
    repeat (first | refine CE.seq ?_ | refine CE.text ?_ | refine RE.x (op_move rfl) rfl ?_ | refine RE.x (op_assign rfl) rfl ?_ | refine RE.x (op_nil rfl) rfl ?_ | refine RE.x (op_fieldAddr0 rfl rfl) rfl ?_ | refine RE.x (op_fieldAddr rfl rfl) rfl ?_ | refine RE.x (op_loadB rfl rfl hB2 rfl) rfl ?_ | refine RE.x (op_loadA rfl rfl hB2 rfl rfl) rfl ?_ | refine RE.x (op_eql rfl rfl) rfl ?_ | refine RE.x (op_neq rfl rfl) rfl ?_ | refine RE.x (op_lss rfl rfl) rfl ?_ | refine RE.x (op_leq rfl rfl) rfl ?_ | refine RE.x (op_gtr rfl rfl) rfl ?_ | refine RE.x (op_geq rfl rfl) rfl ?_ | refine RE.x (op_not_d rfl) rfl ?_ | refine RE.x (op_not rfl) rfl ?_ | refine RE.x (op_len_sl rfl rfl) rfl ?_ | refine RE.x (op_len_s rfl Tryz.underlying9) rfl ?_ | refine RE.x (op_extract rfl rfl) rfl ?_ | refine RE.x (op_pick_t rfl rfl rfl) rfl ?_ | refine RE.x (op_pick_f rfl rfl) rfl ?_ | refine RE.x (op_add64 rfl rfl (by omega) (by omega)) rfl ?_ | refine RE.x (op_sub64 rfl rfl (by omega) (by omega)) rfl ?_ | refine RE.x (op_eql_s rfl rfl) rfl ?_ | refine RE.x (op_neq_s rfl rfl) rfl ?_ | refine RE.want rfl rfl ?_ | refine RE.nox rfl rfl rfl rfl ?_ | refine RE.nou rfl rfl rfl ?_ | refine RE.nilx (show CE _ _ _ _ _ _ _ from ?_) | refine CE.block ?_ | refine CE.scope ?_ | refine CE.label (show CE _ _ _ _ _ _ _ from ?_) | refine CE.skip (show CE _ _ _ _ _ _ _ from ?_) | refine CE.exit (show CE _ _ _ _ _ _ _ from ?_) | refine CE.cond_t rfl ?_ | refine CE.cond_f rfl ?_)
    (refine CE.ret ?_; (try dsimp only); refine ret1 rfl rfl ?_)
    rw [nx_in he]
    refine ⟨rfl, ?_⟩
    refine LM.ext ((Ext.drew w).trans ((Ext.drew _).trans e1)) ⟨?_, (Fr.of_upd (S := (· = L)) hu2 rfl).trans (Fr.of_upd hu3.undrew rfl)⟩
    unfold AtL
    rw [hu3.here]
    simp only [LC.arr, LC.nxt, nx_in he]
    rfl
end Go.Wk
