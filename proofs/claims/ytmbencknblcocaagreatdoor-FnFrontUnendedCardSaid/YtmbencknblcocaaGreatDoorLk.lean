/- The front of a page. -/
import Derived.Test.YtmbencknblcocaaGreatDoorLj
namespace Go.Wk
open Go Go.RowKit Go.Proofs
set_option maxRecDepth 100000

/-- What lexIntroSection does: the next state, the place, the start, the items. -/
def inOut (t : List UInt8) (st p : Nat) : Value × Nat × Nat × List PI :=
  let p' := skipTo notSp t p
  let r := (nx t p').1
  let q := p' + (nx t p').2
  if r = -1 then (fnV 42, q, st, []) else
  if r = 43 then (nextV (fmOut t bs70 4 43 st q).1, (fmOut t bs70 4 43 st q).2) else
  if r = 45 then (nextV (fmOut t bs71 3 45 st q).1, (fmOut t bs71 3 45 st q).2) else
  if r = 123 then (fnV 72, q, st, []) else
  if r = 35 then (fnV 73, q, st, []) else (fnV 42, q, st, [])

theorem After.chain {L ib B : Nat} {t dv : List UInt8} {c x : LC} {ps : List PI} {p0 s0 wd0 : Nat} {pos start : Nat} {more : List PI} {w w0 w' : World} (hx : x = c.mk3 p0 s0 wd0) (hi : LI L c x w w0)
    (h : After L ib B t dv x ps pos start more w0 w') : After L ib B t dv c ps pos start more w w' := by
  subst hx
  obtain ⟨wd, it, h1, h2⟩ := h
  exact ⟨wd, it, hi.trans h1, h2⟩

theorem After.none {L ib B : Nat} {t dv : List UInt8} {c x : LC} {ps : List PI} {p0 s0 wd0 : Nat} {w w0 : World} (hx : x = c.mk3 p0 s0 wd0) (hi : LI L c x w w0) (h : LS L ib B t dv x ps w0) :
    After L ib B t dv c ps p0 s0 [] w w0 := by
  subst hx
  exact ⟨wd0, c.items, hi, by rw [List.append_nil]; exact h⟩

theorem intro_fn {L ib B : Nat} {t dv : List UInt8} {c : LC} {ps : List PI} {w : World} (h : LS L ib B t dv c ps w) (hn : ps.length + 2 < 100000000) :
    Fn PT 41 [Ptr L 0] w (fun u w' => u = (inOut t c.start c.pos).1 ∧ After L ib B t dv c ps (inOut t c.start c.pos).2.1 (inOut t c.start c.pos).2.2.1 (inOut t c.start c.pos).2.2.2 w w') := by
  refine fn_of Tryz.func41 rfl Tryz.ntmps41 rfl ?_
  repeat (first | refine CE.seq ?_ | refine CE.text ?_ | refine RE.x (op_move rfl) rfl ?_ | refine RE.x (op_assign rfl) rfl ?_ | refine RE.x (op_nil rfl) rfl ?_ | refine RE.x (op_fieldAddr0 rfl rfl) rfl ?_ | refine RE.x (op_fieldAddr rfl rfl) rfl ?_ | refine RE.x (op_eql rfl rfl) rfl ?_ | refine RE.x (op_neq rfl rfl) rfl ?_ | refine RE.x (op_lss rfl rfl) rfl ?_ | refine RE.x (op_leq rfl rfl) rfl ?_ | refine RE.x (op_gtr rfl rfl) rfl ?_ | refine RE.x (op_geq rfl rfl) rfl ?_ | refine RE.x (op_not_d rfl) rfl ?_ | refine RE.x (op_not rfl) rfl ?_ | refine RE.x (op_len_sl rfl rfl) rfl ?_ | refine RE.x (op_len_s rfl Tryz.underlying9) rfl ?_ | refine RE.x (op_extract rfl rfl) rfl ?_ | refine RE.x (op_pick_t rfl rfl rfl) rfl ?_ | refine RE.x (op_pick_f rfl rfl) rfl ?_ | refine RE.x (op_add64 rfl rfl (by omega) (by omega)) rfl ?_ | refine RE.x (op_sub64 rfl rfl (by omega) (by omega)) rfl ?_ | refine RE.x (op_eql_s rfl rfl) rfl ?_ | refine RE.x (op_neq_s rfl rfl) rfl ?_ | refine RE.want rfl rfl ?_ | refine RE.nox rfl rfl rfl rfl ?_ | refine RE.nou rfl rfl rfl ?_ | refine RE.nilx (show CE _ _ _ _ _ _ _ from ?_) | refine CE.scope ?_ | refine CE.label (show CE _ _ _ _ _ _ _ from ?_) | refine CE.skip (show CE _ _ _ _ _ _ _ from ?_) | refine CE.exit (show CE _ _ _ _ _ _ _ from ?_))
  generalize hA : inOut t c.start c.pos = A
  refine CE.cut (fun s ds w' => ds = [] ∧ A.1 = fnV 42 ∧ After L ib B t dv c ps A.2.1 A.2.2.1 A.2.2.2 w w') ?_ ?_
  · refine CE.block ?_
    refine CE.loop (α := LC) (fun x => [(0, Ptr L 0)]) (fun x w' => LS L ib B t dv x ps w' ∧ LI L c x w w' ∧ (∃ wd, x = c.mk3 x.pos c.start wd) ∧ skipTo notSp t x.pos = skipTo notSp t c.pos)
      (fun x => t.length - x.pos) c ⟨rfl, trivial⟩ ⟨h, LI.refl h.lx.at_, ⟨c.width, rfl⟩, rfl⟩ ?_
    rintro x w0 ⟨hx, hi, ⟨wd, hwd⟩, hsk⟩
    repeat (first | refine CE.seq ?_ | refine CE.text ?_ | refine RE.x (op_move rfl) rfl ?_ | refine RE.x (op_assign rfl) rfl ?_ | refine RE.x (op_nil rfl) rfl ?_ | refine RE.x (op_fieldAddr0 rfl rfl) rfl ?_ | refine RE.x (op_fieldAddr rfl rfl) rfl ?_ | refine RE.x (op_eql rfl rfl) rfl ?_ | refine RE.x (op_neq rfl rfl) rfl ?_ | refine RE.x (op_lss rfl rfl) rfl ?_ | refine RE.x (op_leq rfl rfl) rfl ?_ | refine RE.x (op_gtr rfl rfl) rfl ?_ | refine RE.x (op_geq rfl rfl) rfl ?_ | refine RE.x (op_not_d rfl) rfl ?_ | refine RE.x (op_not rfl) rfl ?_ | refine RE.x (op_len_sl rfl rfl) rfl ?_ | refine RE.x (op_len_s rfl Tryz.underlying9) rfl ?_ | refine RE.x (op_extract rfl rfl) rfl ?_ | refine RE.x (op_pick_t rfl rfl rfl) rfl ?_ | refine RE.x (op_pick_f rfl rfl) rfl ?_ | refine RE.x (op_add64 rfl rfl (by omega) (by omega)) rfl ?_ | refine RE.x (op_sub64 rfl rfl (by omega) (by omega)) rfl ?_ | refine RE.x (op_eql_s rfl rfl) rfl ?_ | refine RE.x (op_neq_s rfl rfl) rfl ?_ | refine RE.want rfl rfl ?_ | refine RE.nox rfl rfl rfl rfl ?_ | refine RE.nou rfl rfl rfl ?_ | refine RE.nilx (show CE _ _ _ _ _ _ _ from ?_) | refine CE.block ?_ | refine CE.scope ?_ | refine CE.label (show CE _ _ _ _ _ _ _ from ?_) | refine CE.skip (show CE _ _ _ _ _ _ _ from ?_) | refine CE.exit (show CE _ _ _ _ _ _ _ from ?_) | refine CE.cond_t rfl ?_ | refine CE.cond_f rfl ?_)
    refine RE.xc en68 rfl rfl (next_fn hx.lx) ?_
    rintro _ w1 ⟨rfl, h1⟩
    have hx1 := hx.nxt h1
    have hi1 := hi.trans (LI.of_lm h1 rfl)
    have hwd1 : x.nxt t = c.mk3 (x.pos + (nx t x.pos).2) c.start (nx t x.pos).2 := by rw [hwd]; rfl
    have hstop : ∀ r, (nx t x.pos).1 = r → isSp r = false → A = (let p' := x.pos
        let r := (nx t p').1
        let q := p' + (nx t p').2
        if r = -1 then (fnV 42, q, c.start, []) else
        if r = 43 then (nextV (fmOut t bs70 4 43 c.start q).1, (fmOut t bs70 4 43 c.start q).2) else
        if r = 45 then (nextV (fmOut t bs71 3 45 c.start q).1, (fmOut t bs71 3 45 c.start q).2) else
        if r = 123 then (fnV 72, q, c.start, []) else
        if r = 35 then (fnV 73, q, c.start, []) else (fnV 42, q, c.start, [])) := by
      intro r hr hsp
      have : skipTo notSp t c.pos = x.pos := by
        rw [← hsk]
        exact skipTo_stop (Or.inr (by rw [hr]; simp [notSp, hsp]))
      rw [← hA]
      unfold inOut
      rw [this]
    dsimp only at hstop
    repeat (first | refine CE.seq ?_ | refine CE.text ?_ | refine RE.x (op_move rfl) rfl ?_ | refine RE.x (op_assign rfl) rfl ?_ | refine RE.x (op_nil rfl) rfl ?_ | refine RE.x (op_fieldAddr0 rfl rfl) rfl ?_ | refine RE.x (op_fieldAddr rfl rfl) rfl ?_ | refine RE.x (op_eql rfl rfl) rfl ?_ | refine RE.x (op_neq rfl rfl) rfl ?_ | refine RE.x (op_lss rfl rfl) rfl ?_ | refine RE.x (op_leq rfl rfl) rfl ?_ | refine RE.x (op_gtr rfl rfl) rfl ?_ | refine RE.x (op_geq rfl rfl) rfl ?_ | refine RE.x (op_not_d rfl) rfl ?_ | refine RE.x (op_not rfl) rfl ?_ | refine RE.x (op_len_sl rfl rfl) rfl ?_ | refine RE.x (op_len_s rfl Tryz.underlying9) rfl ?_ | refine RE.x (op_extract rfl rfl) rfl ?_ | refine RE.x (op_pick_t rfl rfl rfl) rfl ?_ | refine RE.x (op_pick_f rfl rfl) rfl ?_ | refine RE.x (op_add64 rfl rfl (by omega) (by omega)) rfl ?_ | refine RE.x (op_sub64 rfl rfl (by omega) (by omega)) rfl ?_ | refine RE.x (op_eql_s rfl rfl) rfl ?_ | refine RE.x (op_neq_s rfl rfl) rfl ?_ | refine RE.want rfl rfl ?_ | refine RE.nox rfl rfl rfl rfl ?_ | refine RE.nou rfl rfl rfl ?_ | refine RE.nilx (show CE _ _ _ _ _ _ _ from ?_) | refine CE.block ?_ | refine CE.scope ?_ | refine CE.label (show CE _ _ _ _ _ _ _ from ?_) | refine CE.skip (show CE _ _ _ _ _ _ _ from ?_) | refine CE.exit (show CE _ _ _ _ _ _ _ from ?_))
    refine CE.cond_d rfl (fun he => ?_) (fun he => ?_)
    · refine CE.exit ?_
      have hA' := hstop (-1) he rfl
      rw [if_pos he] at hA'
      rw [hA']
      exact ⟨rfl, rfl, After.none hwd1 hi1 hx1⟩
    rw [if_neg he] at hstop
    have hin : x.pos < t.length := by
      rcases Nat.lt_or_ge x.pos t.length with h' | h'
      · exact h'
      · rw [nx_end h'] at he; exact absurd rfl he
    repeat (first | refine CE.seq ?_ | refine CE.text ?_ | refine RE.x (op_move rfl) rfl ?_ | refine RE.x (op_assign rfl) rfl ?_ | refine RE.x (op_nil rfl) rfl ?_ | refine RE.x (op_fieldAddr0 rfl rfl) rfl ?_ | refine RE.x (op_fieldAddr rfl rfl) rfl ?_ | refine RE.x (op_eql rfl rfl) rfl ?_ | refine RE.x (op_neq rfl rfl) rfl ?_ | refine RE.x (op_lss rfl rfl) rfl ?_ | refine RE.x (op_leq rfl rfl) rfl ?_ | refine RE.x (op_gtr rfl rfl) rfl ?_ | refine RE.x (op_geq rfl rfl) rfl ?_ | refine RE.x (op_not_d rfl) rfl ?_ | refine RE.x (op_not rfl) rfl ?_ | refine RE.x (op_len_sl rfl rfl) rfl ?_ | refine RE.x (op_len_s rfl Tryz.underlying9) rfl ?_ | refine RE.x (op_extract rfl rfl) rfl ?_ | refine RE.x (op_pick_t rfl rfl rfl) rfl ?_ | refine RE.x (op_pick_f rfl rfl) rfl ?_ | refine RE.x (op_add64 rfl rfl (by omega) (by omega)) rfl ?_ | refine RE.x (op_sub64 rfl rfl (by omega) (by omega)) rfl ?_ | refine RE.x (op_eql_s rfl rfl) rfl ?_ | refine RE.x (op_neq_s rfl rfl) rfl ?_ | refine RE.want rfl rfl ?_ | refine RE.nox rfl rfl rfl rfl ?_ | refine RE.nou rfl rfl rfl ?_ | refine RE.nilx (show CE _ _ _ _ _ _ _ from ?_) | refine CE.block ?_ | refine CE.scope ?_ | refine CE.label (show CE _ _ _ _ _ _ _ from ?_) | refine CE.skip (show CE _ _ _ _ _ _ _ from ?_) | refine CE.exit (show CE _ _ _ _ _ _ _ from ?_))
    refine CE.cond_d rfl (fun h43 => ?_) (fun h43 => ?_)
    · have hA' := hstop 43 h43 rfl
      rw [if_pos h43] at hA'
      repeat (first | refine CE.seq ?_ | refine CE.text ?_ | refine RE.x (op_move rfl) rfl ?_ | refine RE.x (op_assign rfl) rfl ?_ | refine RE.x (op_nil rfl) rfl ?_ | refine RE.x (op_fieldAddr0 rfl rfl) rfl ?_ | refine RE.x (op_fieldAddr rfl rfl) rfl ?_ | refine RE.x (op_eql rfl rfl) rfl ?_ | refine RE.x (op_neq rfl rfl) rfl ?_ | refine RE.x (op_lss rfl rfl) rfl ?_ | refine RE.x (op_leq rfl rfl) rfl ?_ | refine RE.x (op_gtr rfl rfl) rfl ?_ | refine RE.x (op_geq rfl rfl) rfl ?_ | refine RE.x (op_not_d rfl) rfl ?_ | refine RE.x (op_not rfl) rfl ?_ | refine RE.x (op_len_sl rfl rfl) rfl ?_ | refine RE.x (op_len_s rfl Tryz.underlying9) rfl ?_ | refine RE.x (op_extract rfl rfl) rfl ?_ | refine RE.x (op_pick_t rfl rfl rfl) rfl ?_ | refine RE.x (op_pick_f rfl rfl) rfl ?_ | refine RE.x (op_add64 rfl rfl (by omega) (by omega)) rfl ?_ | refine RE.x (op_sub64 rfl rfl (by omega) (by omega)) rfl ?_ | refine RE.x (op_eql_s rfl rfl) rfl ?_ | refine RE.x (op_neq_s rfl rfl) rfl ?_ | refine RE.want rfl rfl ?_ | refine RE.nox rfl rfl rfl rfl ?_ | refine RE.nou rfl rfl rfl ?_ | refine RE.nilx (show CE _ _ _ _ _ _ _ from ?_) | refine CE.block ?_ | refine CE.scope ?_ | refine CE.label (show CE _ _ _ _ _ _ _ from ?_) | refine CE.skip (show CE _ _ _ _ _ _ _ from ?_) | refine CE.exit (show CE _ _ _ _ _ _ _ from ?_) | refine CE.cond_t rfl ?_ | refine CE.cond_f rfl ?_)
      refine RE.xc en70 rfl rfl (delim70_fn _) ?_
      rintro v2 w2 ⟨b2, hb2, hlt2, e2⟩
      have hx2 := hx1.ext e2
      have hnb : (x.nxt t).items.ownBlock ≠ some b2 := by
        obtain ⟨xs, ho, _⟩ := hx1.own
        intro e
        have := (ho.lt b2 e).2
        omega
      refine RE.xc en69 rfl rfl (fm_fn (c := x.nxt t) (d := bs70) hx2 hn ⟨⟨b2, hb2, by have := hx1.lx.at_.lt; omega, hnb, ?_⟩⟩ rfl he) ?_
      · obtain ⟨a, cp, hv, hcp, hcl⟩ := hb2
        obtain ⟨o, _, hc0⟩ := hcl (by decide)
        exact World.block_lt_of_cell? w2 _ (hc0 0 (by decide))
      rintro _ w3 ⟨rfl, h3⟩
      repeat (first | refine CE.seq ?_ | refine CE.text ?_ | refine RE.x (op_move rfl) rfl ?_ | refine RE.x (op_assign rfl) rfl ?_ | refine RE.x (op_nil rfl) rfl ?_ | refine RE.x (op_fieldAddr0 rfl rfl) rfl ?_ | refine RE.x (op_fieldAddr rfl rfl) rfl ?_ | refine RE.x (op_eql rfl rfl) rfl ?_ | refine RE.x (op_neq rfl rfl) rfl ?_ | refine RE.x (op_lss rfl rfl) rfl ?_ | refine RE.x (op_leq rfl rfl) rfl ?_ | refine RE.x (op_gtr rfl rfl) rfl ?_ | refine RE.x (op_geq rfl rfl) rfl ?_ | refine RE.x (op_not_d rfl) rfl ?_ | refine RE.x (op_not rfl) rfl ?_ | refine RE.x (op_len_sl rfl rfl) rfl ?_ | refine RE.x (op_len_s rfl Tryz.underlying9) rfl ?_ | refine RE.x (op_extract rfl rfl) rfl ?_ | refine RE.x (op_pick_t rfl rfl rfl) rfl ?_ | refine RE.x (op_pick_f rfl rfl) rfl ?_ | refine RE.x (op_add64 rfl rfl (by omega) (by omega)) rfl ?_ | refine RE.x (op_sub64 rfl rfl (by omega) (by omega)) rfl ?_ | refine RE.x (op_eql_s rfl rfl) rfl ?_ | refine RE.x (op_neq_s rfl rfl) rfl ?_ | refine RE.want rfl rfl ?_ | refine RE.nox rfl rfl rfl rfl ?_ | refine RE.nou rfl rfl rfl ?_ | refine RE.nilx (show CE _ _ _ _ _ _ _ from ?_) | refine CE.block ?_ | refine CE.scope ?_ | refine CE.label (show CE _ _ _ _ _ _ _ from ?_) | refine CE.skip (show CE _ _ _ _ _ _ _ from ?_) | refine CE.exit (show CE _ _ _ _ _ _ _ from ?_) | refine CE.cond_t rfl ?_ | refine CE.cond_f rfl ?_)
      (refine CE.ret ?_; (try dsimp only); refine ret1 rfl rfl ?_)
      rw [h43] at h3 ⊢
      rw [hA']
      have hst : (x.nxt t).start = c.start := by rw [hwd1]; rfl
      have hps : (x.nxt t).pos = x.pos + (nx t x.pos).2 := rfl
      rw [hst, hps] at h3 ⊢
      exact ⟨rfl, h3.chain hwd1 (hi1.ext_r e2)⟩
    rw [if_neg h43] at hstop
    repeat (first | refine CE.seq ?_ | refine CE.text ?_ | refine RE.x (op_move rfl) rfl ?_ | refine RE.x (op_assign rfl) rfl ?_ | refine RE.x (op_nil rfl) rfl ?_ | refine RE.x (op_fieldAddr0 rfl rfl) rfl ?_ | refine RE.x (op_fieldAddr rfl rfl) rfl ?_ | refine RE.x (op_eql rfl rfl) rfl ?_ | refine RE.x (op_neq rfl rfl) rfl ?_ | refine RE.x (op_lss rfl rfl) rfl ?_ | refine RE.x (op_leq rfl rfl) rfl ?_ | refine RE.x (op_gtr rfl rfl) rfl ?_ | refine RE.x (op_geq rfl rfl) rfl ?_ | refine RE.x (op_not_d rfl) rfl ?_ | refine RE.x (op_not rfl) rfl ?_ | refine RE.x (op_len_sl rfl rfl) rfl ?_ | refine RE.x (op_len_s rfl Tryz.underlying9) rfl ?_ | refine RE.x (op_extract rfl rfl) rfl ?_ | refine RE.x (op_pick_t rfl rfl rfl) rfl ?_ | refine RE.x (op_pick_f rfl rfl) rfl ?_ | refine RE.x (op_add64 rfl rfl (by omega) (by omega)) rfl ?_ | refine RE.x (op_sub64 rfl rfl (by omega) (by omega)) rfl ?_ | refine RE.x (op_eql_s rfl rfl) rfl ?_ | refine RE.x (op_neq_s rfl rfl) rfl ?_ | refine RE.want rfl rfl ?_ | refine RE.nox rfl rfl rfl rfl ?_ | refine RE.nou rfl rfl rfl ?_ | refine RE.nilx (show CE _ _ _ _ _ _ _ from ?_) | refine CE.block ?_ | refine CE.scope ?_ | refine CE.label (show CE _ _ _ _ _ _ _ from ?_) | refine CE.skip (show CE _ _ _ _ _ _ _ from ?_) | refine CE.exit (show CE _ _ _ _ _ _ _ from ?_))
    refine CE.cond_d rfl (fun h45 => ?_) (fun h45 => ?_)
    · have hA' := hstop 45 h45 rfl
      rw [if_pos h45] at hA'
      repeat (first | refine CE.seq ?_ | refine CE.text ?_ | refine RE.x (op_move rfl) rfl ?_ | refine RE.x (op_assign rfl) rfl ?_ | refine RE.x (op_nil rfl) rfl ?_ | refine RE.x (op_fieldAddr0 rfl rfl) rfl ?_ | refine RE.x (op_fieldAddr rfl rfl) rfl ?_ | refine RE.x (op_eql rfl rfl) rfl ?_ | refine RE.x (op_neq rfl rfl) rfl ?_ | refine RE.x (op_lss rfl rfl) rfl ?_ | refine RE.x (op_leq rfl rfl) rfl ?_ | refine RE.x (op_gtr rfl rfl) rfl ?_ | refine RE.x (op_geq rfl rfl) rfl ?_ | refine RE.x (op_not_d rfl) rfl ?_ | refine RE.x (op_not rfl) rfl ?_ | refine RE.x (op_len_sl rfl rfl) rfl ?_ | refine RE.x (op_len_s rfl Tryz.underlying9) rfl ?_ | refine RE.x (op_extract rfl rfl) rfl ?_ | refine RE.x (op_pick_t rfl rfl rfl) rfl ?_ | refine RE.x (op_pick_f rfl rfl) rfl ?_ | refine RE.x (op_add64 rfl rfl (by omega) (by omega)) rfl ?_ | refine RE.x (op_sub64 rfl rfl (by omega) (by omega)) rfl ?_ | refine RE.x (op_eql_s rfl rfl) rfl ?_ | refine RE.x (op_neq_s rfl rfl) rfl ?_ | refine RE.want rfl rfl ?_ | refine RE.nox rfl rfl rfl rfl ?_ | refine RE.nou rfl rfl rfl ?_ | refine RE.nilx (show CE _ _ _ _ _ _ _ from ?_) | refine CE.block ?_ | refine CE.scope ?_ | refine CE.label (show CE _ _ _ _ _ _ _ from ?_) | refine CE.skip (show CE _ _ _ _ _ _ _ from ?_) | refine CE.exit (show CE _ _ _ _ _ _ _ from ?_) | refine CE.cond_t rfl ?_ | refine CE.cond_f rfl ?_)
      refine RE.xc en71 rfl rfl (delim71_fn _) ?_
      rintro v2 w2 ⟨b2, hb2, hlt2, e2⟩
      have hx2 := hx1.ext e2
      have hnb : (x.nxt t).items.ownBlock ≠ some b2 := by
        obtain ⟨xs, ho, _⟩ := hx1.own
        intro e
        have := (ho.lt b2 e).2
        omega
      refine RE.xc en69 rfl rfl (fm_fn (c := x.nxt t) (d := bs71) hx2 hn ⟨⟨b2, hb2, by have := hx1.lx.at_.lt; omega, hnb, ?_⟩⟩ rfl he) ?_
      · obtain ⟨a, cp, hv, hcp, hcl⟩ := hb2
        obtain ⟨o, _, hc0⟩ := hcl (by decide)
        exact World.block_lt_of_cell? w2 _ (hc0 0 (by decide))
      rintro _ w3 ⟨rfl, h3⟩
      repeat (first | refine CE.seq ?_ | refine CE.text ?_ | refine RE.x (op_move rfl) rfl ?_ | refine RE.x (op_assign rfl) rfl ?_ | refine RE.x (op_nil rfl) rfl ?_ | refine RE.x (op_fieldAddr0 rfl rfl) rfl ?_ | refine RE.x (op_fieldAddr rfl rfl) rfl ?_ | refine RE.x (op_eql rfl rfl) rfl ?_ | refine RE.x (op_neq rfl rfl) rfl ?_ | refine RE.x (op_lss rfl rfl) rfl ?_ | refine RE.x (op_leq rfl rfl) rfl ?_ | refine RE.x (op_gtr rfl rfl) rfl ?_ | refine RE.x (op_geq rfl rfl) rfl ?_ | refine RE.x (op_not_d rfl) rfl ?_ | refine RE.x (op_not rfl) rfl ?_ | refine RE.x (op_len_sl rfl rfl) rfl ?_ | refine RE.x (op_len_s rfl Tryz.underlying9) rfl ?_ | refine RE.x (op_extract rfl rfl) rfl ?_ | refine RE.x (op_pick_t rfl rfl rfl) rfl ?_ | refine RE.x (op_pick_f rfl rfl) rfl ?_ | refine RE.x (op_add64 rfl rfl (by omega) (by omega)) rfl ?_ | refine RE.x (op_sub64 rfl rfl (by omega) (by omega)) rfl ?_ | refine RE.x (op_eql_s rfl rfl) rfl ?_ | refine RE.x (op_neq_s rfl rfl) rfl ?_ | refine RE.want rfl rfl ?_ | refine RE.nox rfl rfl rfl rfl ?_ | refine RE.nou rfl rfl rfl ?_ | refine RE.nilx (show CE _ _ _ _ _ _ _ from ?_) | refine CE.block ?_ | refine CE.scope ?_ | refine CE.label (show CE _ _ _ _ _ _ _ from ?_) | refine CE.skip (show CE _ _ _ _ _ _ _ from ?_) | refine CE.exit (show CE _ _ _ _ _ _ _ from ?_) | refine CE.cond_t rfl ?_ | refine CE.cond_f rfl ?_)
      (refine CE.ret ?_; (try dsimp only); refine ret1 rfl rfl ?_)
      rw [h45] at h3 ⊢
      rw [hA']
      have hst : (x.nxt t).start = c.start := by rw [hwd1]; rfl
      have hps : (x.nxt t).pos = x.pos + (nx t x.pos).2 := rfl
      rw [hst, hps] at h3 ⊢
      exact ⟨rfl, h3.chain hwd1 (hi1.ext_r e2)⟩
    rw [if_neg h45] at hstop
    repeat (first | refine CE.seq ?_ | refine CE.text ?_ | refine RE.x (op_move rfl) rfl ?_ | refine RE.x (op_assign rfl) rfl ?_ | refine RE.x (op_nil rfl) rfl ?_ | refine RE.x (op_fieldAddr0 rfl rfl) rfl ?_ | refine RE.x (op_fieldAddr rfl rfl) rfl ?_ | refine RE.x (op_eql rfl rfl) rfl ?_ | refine RE.x (op_neq rfl rfl) rfl ?_ | refine RE.x (op_lss rfl rfl) rfl ?_ | refine RE.x (op_leq rfl rfl) rfl ?_ | refine RE.x (op_gtr rfl rfl) rfl ?_ | refine RE.x (op_geq rfl rfl) rfl ?_ | refine RE.x (op_not_d rfl) rfl ?_ | refine RE.x (op_not rfl) rfl ?_ | refine RE.x (op_len_sl rfl rfl) rfl ?_ | refine RE.x (op_len_s rfl Tryz.underlying9) rfl ?_ | refine RE.x (op_extract rfl rfl) rfl ?_ | refine RE.x (op_pick_t rfl rfl rfl) rfl ?_ | refine RE.x (op_pick_f rfl rfl) rfl ?_ | refine RE.x (op_add64 rfl rfl (by omega) (by omega)) rfl ?_ | refine RE.x (op_sub64 rfl rfl (by omega) (by omega)) rfl ?_ | refine RE.x (op_eql_s rfl rfl) rfl ?_ | refine RE.x (op_neq_s rfl rfl) rfl ?_ | refine RE.want rfl rfl ?_ | refine RE.nox rfl rfl rfl rfl ?_ | refine RE.nou rfl rfl rfl ?_ | refine RE.nilx (show CE _ _ _ _ _ _ _ from ?_) | refine CE.block ?_ | refine CE.scope ?_ | refine CE.label (show CE _ _ _ _ _ _ _ from ?_) | refine CE.skip (show CE _ _ _ _ _ _ _ from ?_) | refine CE.exit (show CE _ _ _ _ _ _ _ from ?_))
    refine CE.cond_d rfl (fun h123 => ?_) (fun h123 => ?_)
    · have hA' := hstop 123 h123 rfl
      rw [if_pos h123] at hA'
      repeat (first | refine CE.seq ?_ | refine CE.text ?_ | refine RE.x (op_move rfl) rfl ?_ | refine RE.x (op_assign rfl) rfl ?_ | refine RE.x (op_nil rfl) rfl ?_ | refine RE.x (op_fieldAddr0 rfl rfl) rfl ?_ | refine RE.x (op_fieldAddr rfl rfl) rfl ?_ | refine RE.x (op_eql rfl rfl) rfl ?_ | refine RE.x (op_neq rfl rfl) rfl ?_ | refine RE.x (op_lss rfl rfl) rfl ?_ | refine RE.x (op_leq rfl rfl) rfl ?_ | refine RE.x (op_gtr rfl rfl) rfl ?_ | refine RE.x (op_geq rfl rfl) rfl ?_ | refine RE.x (op_not_d rfl) rfl ?_ | refine RE.x (op_not rfl) rfl ?_ | refine RE.x (op_len_sl rfl rfl) rfl ?_ | refine RE.x (op_len_s rfl Tryz.underlying9) rfl ?_ | refine RE.x (op_extract rfl rfl) rfl ?_ | refine RE.x (op_pick_t rfl rfl rfl) rfl ?_ | refine RE.x (op_pick_f rfl rfl) rfl ?_ | refine RE.x (op_add64 rfl rfl (by omega) (by omega)) rfl ?_ | refine RE.x (op_sub64 rfl rfl (by omega) (by omega)) rfl ?_ | refine RE.x (op_eql_s rfl rfl) rfl ?_ | refine RE.x (op_neq_s rfl rfl) rfl ?_ | refine RE.want rfl rfl ?_ | refine RE.nox rfl rfl rfl rfl ?_ | refine RE.nou rfl rfl rfl ?_ | refine RE.nilx (show CE _ _ _ _ _ _ _ from ?_) | refine CE.block ?_ | refine CE.scope ?_ | refine CE.label (show CE _ _ _ _ _ _ _ from ?_) | refine CE.skip (show CE _ _ _ _ _ _ _ from ?_) | refine CE.exit (show CE _ _ _ _ _ _ _ from ?_) | refine CE.cond_t rfl ?_ | refine CE.cond_f rfl ?_)
      (refine CE.ret ?_; (try dsimp only); refine ret1 rfl rfl ?_)
      rw [hA']
      exact ⟨rfl, After.none hwd1 hi1 hx1⟩
    rw [if_neg h123] at hstop
    repeat (first | refine CE.seq ?_ | refine CE.text ?_ | refine RE.x (op_move rfl) rfl ?_ | refine RE.x (op_assign rfl) rfl ?_ | refine RE.x (op_nil rfl) rfl ?_ | refine RE.x (op_fieldAddr0 rfl rfl) rfl ?_ | refine RE.x (op_fieldAddr rfl rfl) rfl ?_ | refine RE.x (op_eql rfl rfl) rfl ?_ | refine RE.x (op_neq rfl rfl) rfl ?_ | refine RE.x (op_lss rfl rfl) rfl ?_ | refine RE.x (op_leq rfl rfl) rfl ?_ | refine RE.x (op_gtr rfl rfl) rfl ?_ | refine RE.x (op_geq rfl rfl) rfl ?_ | refine RE.x (op_not_d rfl) rfl ?_ | refine RE.x (op_not rfl) rfl ?_ | refine RE.x (op_len_sl rfl rfl) rfl ?_ | refine RE.x (op_len_s rfl Tryz.underlying9) rfl ?_ | refine RE.x (op_extract rfl rfl) rfl ?_ | refine RE.x (op_pick_t rfl rfl rfl) rfl ?_ | refine RE.x (op_pick_f rfl rfl) rfl ?_ | refine RE.x (op_add64 rfl rfl (by omega) (by omega)) rfl ?_ | refine RE.x (op_sub64 rfl rfl (by omega) (by omega)) rfl ?_ | refine RE.x (op_eql_s rfl rfl) rfl ?_ | refine RE.x (op_neq_s rfl rfl) rfl ?_ | refine RE.want rfl rfl ?_ | refine RE.nox rfl rfl rfl rfl ?_ | refine RE.nou rfl rfl rfl ?_ | refine RE.nilx (show CE _ _ _ _ _ _ _ from ?_) | refine CE.block ?_ | refine CE.scope ?_ | refine CE.label (show CE _ _ _ _ _ _ _ from ?_) | refine CE.skip (show CE _ _ _ _ _ _ _ from ?_) | refine CE.exit (show CE _ _ _ _ _ _ _ from ?_))
    refine CE.cond_d rfl (fun h35 => ?_) (fun h35 => ?_)
    · have hA' := hstop 35 h35 rfl
      rw [if_pos h35] at hA'
      repeat (first | refine CE.seq ?_ | refine CE.text ?_ | refine RE.x (op_move rfl) rfl ?_ | refine RE.x (op_assign rfl) rfl ?_ | refine RE.x (op_nil rfl) rfl ?_ | refine RE.x (op_fieldAddr0 rfl rfl) rfl ?_ | refine RE.x (op_fieldAddr rfl rfl) rfl ?_ | refine RE.x (op_eql rfl rfl) rfl ?_ | refine RE.x (op_neq rfl rfl) rfl ?_ | refine RE.x (op_lss rfl rfl) rfl ?_ | refine RE.x (op_leq rfl rfl) rfl ?_ | refine RE.x (op_gtr rfl rfl) rfl ?_ | refine RE.x (op_geq rfl rfl) rfl ?_ | refine RE.x (op_not_d rfl) rfl ?_ | refine RE.x (op_not rfl) rfl ?_ | refine RE.x (op_len_sl rfl rfl) rfl ?_ | refine RE.x (op_len_s rfl Tryz.underlying9) rfl ?_ | refine RE.x (op_extract rfl rfl) rfl ?_ | refine RE.x (op_pick_t rfl rfl rfl) rfl ?_ | refine RE.x (op_pick_f rfl rfl) rfl ?_ | refine RE.x (op_add64 rfl rfl (by omega) (by omega)) rfl ?_ | refine RE.x (op_sub64 rfl rfl (by omega) (by omega)) rfl ?_ | refine RE.x (op_eql_s rfl rfl) rfl ?_ | refine RE.x (op_neq_s rfl rfl) rfl ?_ | refine RE.want rfl rfl ?_ | refine RE.nox rfl rfl rfl rfl ?_ | refine RE.nou rfl rfl rfl ?_ | refine RE.nilx (show CE _ _ _ _ _ _ _ from ?_) | refine CE.block ?_ | refine CE.scope ?_ | refine CE.label (show CE _ _ _ _ _ _ _ from ?_) | refine CE.skip (show CE _ _ _ _ _ _ _ from ?_) | refine CE.exit (show CE _ _ _ _ _ _ _ from ?_) | refine CE.cond_t rfl ?_ | refine CE.cond_f rfl ?_)
      (refine CE.ret ?_; (try dsimp only); refine ret1 rfl rfl ?_)
      rw [hA']
      exact ⟨rfl, After.none hwd1 hi1 hx1⟩
    rw [if_neg h35] at hstop
    repeat (first | refine CE.seq ?_ | refine CE.text ?_ | refine RE.x (op_move rfl) rfl ?_ | refine RE.x (op_assign rfl) rfl ?_ | refine RE.x (op_nil rfl) rfl ?_ | refine RE.x (op_fieldAddr0 rfl rfl) rfl ?_ | refine RE.x (op_fieldAddr rfl rfl) rfl ?_ | refine RE.x (op_eql rfl rfl) rfl ?_ | refine RE.x (op_neq rfl rfl) rfl ?_ | refine RE.x (op_lss rfl rfl) rfl ?_ | refine RE.x (op_leq rfl rfl) rfl ?_ | refine RE.x (op_gtr rfl rfl) rfl ?_ | refine RE.x (op_geq rfl rfl) rfl ?_ | refine RE.x (op_not_d rfl) rfl ?_ | refine RE.x (op_not rfl) rfl ?_ | refine RE.x (op_len_sl rfl rfl) rfl ?_ | refine RE.x (op_len_s rfl Tryz.underlying9) rfl ?_ | refine RE.x (op_extract rfl rfl) rfl ?_ | refine RE.x (op_pick_t rfl rfl rfl) rfl ?_ | refine RE.x (op_pick_f rfl rfl) rfl ?_ | refine RE.x (op_add64 rfl rfl (by omega) (by omega)) rfl ?_ | refine RE.x (op_sub64 rfl rfl (by omega) (by omega)) rfl ?_ | refine RE.x (op_eql_s rfl rfl) rfl ?_ | refine RE.x (op_neq_s rfl rfl) rfl ?_ | refine RE.want rfl rfl ?_ | refine RE.nox rfl rfl rfl rfl ?_ | refine RE.nou rfl rfl rfl ?_ | refine RE.nilx (show CE _ _ _ _ _ _ _ from ?_) | refine CE.block ?_ | refine CE.scope ?_ | refine CE.label (show CE _ _ _ _ _ _ _ from ?_) | refine CE.skip (show CE _ _ _ _ _ _ _ from ?_) | refine CE.exit (show CE _ _ _ _ _ _ _ from ?_))
    refine RE.xc en74 rfl rfl (isSp_fn _ _) ?_
    rintro _ w2 ⟨rfl, rfl⟩
    repeat (first | refine CE.seq ?_ | refine CE.text ?_ | refine RE.x (op_move rfl) rfl ?_ | refine RE.x (op_assign rfl) rfl ?_ | refine RE.x (op_nil rfl) rfl ?_ | refine RE.x (op_fieldAddr0 rfl rfl) rfl ?_ | refine RE.x (op_fieldAddr rfl rfl) rfl ?_ | refine RE.x (op_eql rfl rfl) rfl ?_ | refine RE.x (op_neq rfl rfl) rfl ?_ | refine RE.x (op_lss rfl rfl) rfl ?_ | refine RE.x (op_leq rfl rfl) rfl ?_ | refine RE.x (op_gtr rfl rfl) rfl ?_ | refine RE.x (op_geq rfl rfl) rfl ?_ | refine RE.x (op_not_d rfl) rfl ?_ | refine RE.x (op_not rfl) rfl ?_ | refine RE.x (op_len_sl rfl rfl) rfl ?_ | refine RE.x (op_len_s rfl Tryz.underlying9) rfl ?_ | refine RE.x (op_extract rfl rfl) rfl ?_ | refine RE.x (op_pick_t rfl rfl rfl) rfl ?_ | refine RE.x (op_pick_f rfl rfl) rfl ?_ | refine RE.x (op_add64 rfl rfl (by omega) (by omega)) rfl ?_ | refine RE.x (op_sub64 rfl rfl (by omega) (by omega)) rfl ?_ | refine RE.x (op_eql_s rfl rfl) rfl ?_ | refine RE.x (op_neq_s rfl rfl) rfl ?_ | refine RE.want rfl rfl ?_ | refine RE.nox rfl rfl rfl rfl ?_ | refine RE.nou rfl rfl rfl ?_ | refine RE.nilx (show CE _ _ _ _ _ _ _ from ?_) | refine CE.block ?_ | refine CE.scope ?_ | refine CE.label (show CE _ _ _ _ _ _ _ from ?_) | refine CE.skip (show CE _ _ _ _ _ _ _ from ?_) | refine CE.exit (show CE _ _ _ _ _ _ _ from ?_) | refine CE.cond_t rfl ?_ | refine CE.cond_f rfl ?_)
    refine RE.splitH (fun hsp => ?_) (fun hsp => ?_)
    · repeat (first | refine CE.seq ?_ | refine CE.text ?_ | refine RE.x (op_move rfl) rfl ?_ | refine RE.x (op_assign rfl) rfl ?_ | refine RE.x (op_nil rfl) rfl ?_ | refine RE.x (op_fieldAddr0 rfl rfl) rfl ?_ | refine RE.x (op_fieldAddr rfl rfl) rfl ?_ | refine RE.x (op_eql rfl rfl) rfl ?_ | refine RE.x (op_neq rfl rfl) rfl ?_ | refine RE.x (op_lss rfl rfl) rfl ?_ | refine RE.x (op_leq rfl rfl) rfl ?_ | refine RE.x (op_gtr rfl rfl) rfl ?_ | refine RE.x (op_geq rfl rfl) rfl ?_ | refine RE.x (op_not_d rfl) rfl ?_ | refine RE.x (op_not rfl) rfl ?_ | refine RE.x (op_len_sl rfl rfl) rfl ?_ | refine RE.x (op_len_s rfl Tryz.underlying9) rfl ?_ | refine RE.x (op_extract rfl rfl) rfl ?_ | refine RE.x (op_pick_t rfl rfl rfl) rfl ?_ | refine RE.x (op_pick_f rfl rfl) rfl ?_ | refine RE.x (op_add64 rfl rfl (by omega) (by omega)) rfl ?_ | refine RE.x (op_sub64 rfl rfl (by omega) (by omega)) rfl ?_ | refine RE.x (op_eql_s rfl rfl) rfl ?_ | refine RE.x (op_neq_s rfl rfl) rfl ?_ | refine RE.want rfl rfl ?_ | refine RE.nox rfl rfl rfl rfl ?_ | refine RE.nou rfl rfl rfl ?_ | refine RE.nilx (show CE _ _ _ _ _ _ _ from ?_) | refine CE.block ?_ | refine CE.scope ?_ | refine CE.label (show CE _ _ _ _ _ _ _ from ?_) | refine CE.skip (show CE _ _ _ _ _ _ _ from ?_) | refine CE.exit (show CE _ _ _ _ _ _ _ from ?_) | refine CE.cond_t rfl ?_ | refine CE.cond_f rfl ?_)
      refine RE.xc en75 rfl rfl (isEol_fn _ _) ?_
      rintro _ w3 ⟨rfl, rfl⟩
      have hsp' : isSp (nx t x.pos).1 = false := by simpa using hsp
      have hne : isEol (nx t x.pos).1 = false := by
        simp only [isSp, Bool.or_eq_false_iff, decide_eq_false_iff_not] at hsp'
        simp [isEol]
        omega
      rw [hne]
      repeat (first | refine CE.seq ?_ | refine CE.text ?_ | refine RE.x (op_move rfl) rfl ?_ | refine RE.x (op_assign rfl) rfl ?_ | refine RE.x (op_nil rfl) rfl ?_ | refine RE.x (op_fieldAddr0 rfl rfl) rfl ?_ | refine RE.x (op_fieldAddr rfl rfl) rfl ?_ | refine RE.x (op_eql rfl rfl) rfl ?_ | refine RE.x (op_neq rfl rfl) rfl ?_ | refine RE.x (op_lss rfl rfl) rfl ?_ | refine RE.x (op_leq rfl rfl) rfl ?_ | refine RE.x (op_gtr rfl rfl) rfl ?_ | refine RE.x (op_geq rfl rfl) rfl ?_ | refine RE.x (op_not_d rfl) rfl ?_ | refine RE.x (op_not rfl) rfl ?_ | refine RE.x (op_len_sl rfl rfl) rfl ?_ | refine RE.x (op_len_s rfl Tryz.underlying9) rfl ?_ | refine RE.x (op_extract rfl rfl) rfl ?_ | refine RE.x (op_pick_t rfl rfl rfl) rfl ?_ | refine RE.x (op_pick_f rfl rfl) rfl ?_ | refine RE.x (op_add64 rfl rfl (by omega) (by omega)) rfl ?_ | refine RE.x (op_sub64 rfl rfl (by omega) (by omega)) rfl ?_ | refine RE.x (op_eql_s rfl rfl) rfl ?_ | refine RE.x (op_neq_s rfl rfl) rfl ?_ | refine RE.want rfl rfl ?_ | refine RE.nox rfl rfl rfl rfl ?_ | refine RE.nou rfl rfl rfl ?_ | refine RE.nilx (show CE _ _ _ _ _ _ _ from ?_) | refine CE.block ?_ | refine CE.scope ?_ | refine CE.label (show CE _ _ _ _ _ _ _ from ?_) | refine CE.skip (show CE _ _ _ _ _ _ _ from ?_) | refine CE.exit (show CE _ _ _ _ _ _ _ from ?_) | refine CE.cond_t rfl ?_ | refine CE.cond_f rfl ?_)
      refine CE.exit ?_
      have hA' := hstop _ rfl hsp'
      rw [hA']
      exact ⟨rfl, rfl, After.none hwd1 hi1 hx1⟩
    · have hsp' : isSp (nx t x.pos).1 = true := by simpa using hsp
      repeat (first | refine CE.seq ?_ | refine CE.text ?_ | refine RE.x (op_move rfl) rfl ?_ | refine RE.x (op_assign rfl) rfl ?_ | refine RE.x (op_nil rfl) rfl ?_ | refine RE.x (op_fieldAddr0 rfl rfl) rfl ?_ | refine RE.x (op_fieldAddr rfl rfl) rfl ?_ | refine RE.x (op_eql rfl rfl) rfl ?_ | refine RE.x (op_neq rfl rfl) rfl ?_ | refine RE.x (op_lss rfl rfl) rfl ?_ | refine RE.x (op_leq rfl rfl) rfl ?_ | refine RE.x (op_gtr rfl rfl) rfl ?_ | refine RE.x (op_geq rfl rfl) rfl ?_ | refine RE.x (op_not_d rfl) rfl ?_ | refine RE.x (op_not rfl) rfl ?_ | refine RE.x (op_len_sl rfl rfl) rfl ?_ | refine RE.x (op_len_s rfl Tryz.underlying9) rfl ?_ | refine RE.x (op_extract rfl rfl) rfl ?_ | refine RE.x (op_pick_t rfl rfl rfl) rfl ?_ | refine RE.x (op_pick_f rfl rfl) rfl ?_ | refine RE.x (op_add64 rfl rfl (by omega) (by omega)) rfl ?_ | refine RE.x (op_sub64 rfl rfl (by omega) (by omega)) rfl ?_ | refine RE.x (op_eql_s rfl rfl) rfl ?_ | refine RE.x (op_neq_s rfl rfl) rfl ?_ | refine RE.want rfl rfl ?_ | refine RE.nox rfl rfl rfl rfl ?_ | refine RE.nou rfl rfl rfl ?_ | refine RE.nilx (show CE _ _ _ _ _ _ _ from ?_) | refine CE.block ?_ | refine CE.scope ?_ | refine CE.label (show CE _ _ _ _ _ _ _ from ?_) | refine CE.skip (show CE _ _ _ _ _ _ _ from ?_) | refine CE.exit (show CE _ _ _ _ _ _ _ from ?_) | refine CE.cond_t rfl ?_ | refine CE.cond_f rfl ?_)
      refine CE.skip ?_
      refine ⟨x.nxt t, ?_, rfl, ⟨rfl, trivial⟩, hx1, hi1, ⟨_, hwd1⟩, ?_⟩
      · show t.length - (x.pos + (nx t x.pos).2) < t.length - x.pos
        have := nx_pos t hin
        omega
      · rw [← hsk, skipTo_go hin (by simp [notSp, hsp'])]
        rfl
  · rintro s _ w3 ⟨rfl, hA1, haf⟩
    repeat (first | refine CE.seq ?_ | refine CE.text ?_ | refine RE.x (op_move rfl) rfl ?_ | refine RE.x (op_assign rfl) rfl ?_ | refine RE.x (op_nil rfl) rfl ?_ | refine RE.x (op_fieldAddr0 rfl rfl) rfl ?_ | refine RE.x (op_fieldAddr rfl rfl) rfl ?_ | refine RE.x (op_eql rfl rfl) rfl ?_ | refine RE.x (op_neq rfl rfl) rfl ?_ | refine RE.x (op_lss rfl rfl) rfl ?_ | refine RE.x (op_leq rfl rfl) rfl ?_ | refine RE.x (op_gtr rfl rfl) rfl ?_ | refine RE.x (op_geq rfl rfl) rfl ?_ | refine RE.x (op_not_d rfl) rfl ?_ | refine RE.x (op_not rfl) rfl ?_ | refine RE.x (op_len_sl rfl rfl) rfl ?_ | refine RE.x (op_len_s rfl Tryz.underlying9) rfl ?_ | refine RE.x (op_extract rfl rfl) rfl ?_ | refine RE.x (op_pick_t rfl rfl rfl) rfl ?_ | refine RE.x (op_pick_f rfl rfl) rfl ?_ | refine RE.x (op_add64 rfl rfl (by omega) (by omega)) rfl ?_ | refine RE.x (op_sub64 rfl rfl (by omega) (by omega)) rfl ?_ | refine RE.x (op_eql_s rfl rfl) rfl ?_ | refine RE.x (op_neq_s rfl rfl) rfl ?_ | refine RE.want rfl rfl ?_ | refine RE.nox rfl rfl rfl rfl ?_ | refine RE.nou rfl rfl rfl ?_ | refine RE.nilx (show CE _ _ _ _ _ _ _ from ?_) | refine CE.block ?_ | refine CE.scope ?_ | refine CE.label (show CE _ _ _ _ _ _ _ from ?_) | refine CE.skip (show CE _ _ _ _ _ _ _ from ?_) | refine CE.exit (show CE _ _ _ _ _ _ _ from ?_) | refine CE.cond_t rfl ?_ | refine CE.cond_f rfl ?_)
    (refine CE.ret ?_; (try dsimp only); refine ret1 rfl rfl ?_)
    rw [hA1]
    exact ⟨rfl, haf⟩
end Go.Wk
