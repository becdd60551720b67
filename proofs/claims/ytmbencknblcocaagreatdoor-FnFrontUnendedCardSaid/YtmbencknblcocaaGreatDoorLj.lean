/- Front matter of YAML and TOML. -/
import Derived.Test.YtmbencknblcocaaGreatDoorLi
namespace Go.Wk
open Go Go.RowKit Go.Proofs
set_option maxRecDepth 100000

/-- Behind a line's end; whether there was one. -/
def crE (t : List UInt8) (p : Nat) : Nat × Bool :=
  let p1 := if (nx t p).1 = 13 then p + (nx t p).2 else p
  (if (nx t p1).1 = 10 then p1 + (nx t p1).2 else p1, decide ((nx t p).1 = 13) || decide ((nx t p1).1 = 10))

theorem crlf_eq (t : List UInt8) (c : LC) : (∃ wd, (crlf t c).1 = { c with pos := (crE t c.pos).1, width := wd }) ∧ (crlf t c).2 = (crE t c.pos).2 := by
  unfold crlf crE crStep
  by_cases h1 : (nx t c.pos).1 = 13
  · simp only [h1, if_true]
    by_cases h2 : (nx t (c.pos + (nx t c.pos).2)).1 = 10
    · have h2' : (nx t (LC.nxt t c).pos).1 = 10 := h2
      simp only [h2, h2', if_true]
      exact ⟨⟨_, rfl⟩, by simp⟩
    · have h2' : ¬ (nx t (LC.nxt t c).pos).1 = 10 := h2
      simp only [h2, h2', if_false]
      exact ⟨⟨_, rfl⟩, by simp⟩
  · simp only [h1, if_false]
    by_cases h2 : (nx t c.pos).1 = 10
    · have h2' : (nx t (LC.at t c c.pos).pos).1 = 10 := h2
      simp only [h2, h2', if_true]
      exact ⟨⟨_, rfl⟩, by simp⟩
    · have h2' : ¬ (nx t (LC.at t c c.pos).pos).1 = 10 := h2
      simp only [h2, h2', if_false]
      exact ⟨⟨_, rfl⟩, by simp⟩

theorem crE_le (t : List UInt8) {p : Nat} (h : p ≤ t.length) : (crE t p).1 ≤ t.length := by
  have h1 := nx_le t h
  simp only [crE]
  by_cases h2 : (nx t p).1 = 13
  · simp only [h2, if_true]
    have h3 := nx_le t h1
    split <;> omega
  · simp only [h2, if_false]
    split <;> omega

def fmFind (t d : List UInt8) (b : Bool) (p : Nat) : Option Nat :=
  if b then (if pre d (t.drop p) then some p else fmFind t d false p)
  else if _h : p < t.length then
    (if isEol (nx t p).1 && pre d (t.drop (p + (nx t p).2)) then some (p + (nx t p).2) else fmFind t d false (p + (nx t p).2))
  else none
termination_by 2 * (t.length - p) + (if b then 1 else 0)
decreasing_by
  · simp_all
  · have := nx_pos t _h
    simp_all
    omega

/-- What lexFrontMatterSection does: whether it goes on, the place, the start, the items. -/
def fmOut (t d : List UInt8) (tp dr : Int) (st p : Nat) : Bool × Nat × Nat × List PI :=
  let p1 := p + (nx t p).2
  let p2 := p1 + (nx t p1).2
  if (nx t p).1 ≠ dr then (false, p1, st, [PI.bad t st p1]) else
  if (nx t p1).1 ≠ dr then (false, p2, st, [PI.bad t st p2]) else
  match fmFind t d (crE t p2).2 (crE t p2).1 with
  | none => (false, t.length, (crE t p2).1, [PI.bad t (crE t p2).1 t.length])
  | some f => (true, (crE t (f + 3)).1, (crE t (f + 3)).1, emitI t tp (crE t p2).1 f)

/-- What a function of the lexer leaves: the lexer stands at pos, its item begins at start; it has these items more. -/
def After (L ib B : Nat) (t dv : List UInt8) (c : LC) (ps : List PI) (pos start : Nat) (more : List PI) (w w' : World) : Prop :=
  ∃ wd it, LI L c { c with pos := pos, start := start, width := wd, items := it } w w' ∧ LS L ib B t dv { c with pos := pos, start := start, width := wd, items := it } (ps ++ more) w'

/-- Bytes that stand apart from the lexer and its items. -/
structure Apart (L : Nat) (c : LC) (v : Value) (d : List UInt8) (w : World) : Prop where
  out : ∃ b, HBk b w v d ∧ b ≠ L ∧ c.items.ownBlock ≠ some b ∧ b < w.heap.size

theorem Apart.li {L : Nat} {c c' : LC} {v : Value} {d : List UInt8} {w w' : World} (h : Apart L c v d w) (hl : LI L c c' w w') : Apart L c' v d w' := by
  obtain ⟨b, h1, h2, h3, h4⟩ := h.out
  refine ⟨b, h1.fr hl.fr ?_, h2, fun e => ?_, Nat.lt_of_lt_of_le h4 hl.fr.size⟩
  · rintro (e | e)
    · exact h2 e
    · exact h3 e
  · rcases hl.nw b e with e | e
    · exact h3 e
    · omega
theorem Apart.hb {L : Nat} {c : LC} {v : Value} {d : List UInt8} {w : World} (h : Apart L c v d w) : HB w v d := let ⟨b, h1, _⟩ := h.out; ⟨b, h1⟩

def fnV (f : Nat) : Value := .func (.func f) #[] #[]
def nextV (ok : Bool) : Value := if ok then fnV 42 else .nilFunc

def LC.mk3 (c : LC) (p st wd : Nat) : LC := { c with pos := p, start := st, width := wd }

theorem LS.nxt {L ib B : Nat} {t dv : List UInt8} {c : LC} {ps : List PI} {w w' : World} (h : LS L ib B t dv c ps w) (hm : LM L (c.nxt t) w w') : LS L ib B t dv (c.nxt t) ps w' :=
  h.keep hm rfl rfl rfl (nx_le t h.lx.pos)

/-- errorf behind a lexer that has gone on. -/
theorem bad_after {L ib B : Nat} {t dv l : List UInt8} {c x : LC} {ps : List PI} {w w0 : World} {v : Value} {p st wd : Nat} (hx : x = c.mk3 p st wd) (hi : LI L c x w w0) (h : LS L ib B t dv x ps w0) (hn : ps.length < 100000000) :
    Fn PT 93 [Ptr L 0, S l, v] w0 (fun u w' => u = .nilFunc ∧ After L ib B t dv c ps p st [PI.bad t st p] w w') := by
  subst hx
  refine Fn.mono (errorf_fn h hn) ?_
  rintro u w' ⟨rfl, it, h1, h2⟩
  exact ⟨rfl, wd, it, hi.trans h1, h2⟩

theorem fm_fn {L ib B : Nat} {t dv d nm : List UInt8} {c : LC} {ps : List PI} {w : World} {tp dr : Int} {v : Value} (h : LS L ib B t dv c ps w) (hn : ps.length + 2 < 100000000) (hv : Apart L c v d w) (hd : d.length = 3) (_hdr : dr ≠ -1) :
    Fn PT 69 [Ptr L 0, I tp, .int .i32 dr, S nm, v] w (fun u w' => u = nextV (fmOut t d tp dr c.start c.pos).1 ∧
      After L ib B t dv c ps (fmOut t d tp dr c.start c.pos).2.1 (fmOut t d tp dr c.start c.pos).2.2.1 (fmOut t d tp dr c.start c.pos).2.2.2 w w') := by
  refine fn_of Tryz.func69 rfl Tryz.ntmps69 rfl ?_
  repeat (first | refine CE.seq ?_ | refine CE.text ?_ | refine RE.x (op_move rfl) rfl ?_ | refine RE.x (op_assign rfl) rfl ?_ | refine RE.x (op_nil rfl) rfl ?_ | refine RE.x (op_fieldAddr0 rfl rfl) rfl ?_ | refine RE.x (op_fieldAddr rfl rfl) rfl ?_ | refine RE.x (op_eql rfl rfl) rfl ?_ | refine RE.x (op_neq rfl rfl) rfl ?_ | refine RE.x (op_lss rfl rfl) rfl ?_ | refine RE.x (op_leq rfl rfl) rfl ?_ | refine RE.x (op_gtr rfl rfl) rfl ?_ | refine RE.x (op_geq rfl rfl) rfl ?_ | refine RE.x (op_not_d rfl) rfl ?_ | refine RE.x (op_not rfl) rfl ?_ | refine RE.x (op_len_sl rfl rfl) rfl ?_ | refine RE.x (op_len_s rfl Tryz.underlying9) rfl ?_ | refine RE.x (op_extract rfl rfl) rfl ?_ | refine RE.x (op_pick_t rfl rfl rfl) rfl ?_ | refine RE.x (op_pick_f rfl rfl) rfl ?_ | refine RE.x (op_add64 rfl rfl (by omega) (by omega)) rfl ?_ | refine RE.x (op_sub64 rfl rfl (by omega) (by omega)) rfl ?_ | refine RE.x (op_eql_s rfl rfl) rfl ?_ | refine RE.x (op_neq_s rfl rfl) rfl ?_ | refine RE.want rfl rfl ?_ | refine RE.nox rfl rfl rfl rfl ?_ | refine RE.nou rfl rfl rfl ?_ | refine RE.nilx (show CE _ _ _ _ _ _ _ from ?_) | refine CE.scope ?_ | refine CE.label (show CE _ _ _ _ _ _ _ from ?_) | refine CE.skip (show CE _ _ _ _ _ _ _ from ?_) | refine CE.exit (show CE _ _ _ _ _ _ _ from ?_))
  generalize hA : fmOut t d tp dr c.start c.pos = A
  refine CE.cut (fun s ds w' => ds = [] ∧ SubL [(0, Ptr L 0), (1, I tp), (2, .int .i32 dr), (3, S nm), (4, v)] s ∧ (nx t c.pos).1 = dr ∧ (nx t (c.pos + (nx t c.pos).2)).1 = dr ∧
      LS L ib B t dv ((c.nxt t).nxt t) ps w' ∧ LI L c ((c.nxt t).nxt t) w w' ∧ Apart L ((c.nxt t).nxt t) v d w') ?_ ?_
  · refine CE.block ?_
    refine CE.loop (α := Nat × LC) (fun x => [(14, I x.1), (0, Ptr L 0), (1, I tp), (2, .int .i32 dr), (3, S nm), (4, v)])
      (fun x w' => LS L ib B t dv x.2 ps w' ∧ LI L c x.2 w w' ∧ Apart L x.2 v d w' ∧ (x = (0, c) ∨ (x = (1, c.nxt t) ∧ (nx t c.pos).1 = dr) ∨ (x = (2, (c.nxt t).nxt t) ∧ (nx t c.pos).1 = dr ∧ (nx t (c.pos + (nx t c.pos).2)).1 = dr)))
      (fun x => 3 - x.1) (0, c) ⟨rfl, rfl, rfl, rfl, rfl, rfl, trivial⟩ ⟨h, LI.refl h.lx.at_, hv, Or.inl rfl⟩ ?_
    rintro ⟨k, x⟩ w0 ⟨hx, hi, hap, hk⟩
    have hk2 : (k < 2 ∧ ((k = 0 ∧ x = c) ∨ (k = 1 ∧ x = c.nxt t ∧ (nx t c.pos).1 = dr))) ∨ (k = 2 ∧ x = (c.nxt t).nxt t ∧ (nx t c.pos).1 = dr ∧ (nx t (c.pos + (nx t c.pos).2)).1 = dr) := by
      rcases hk with hk | ⟨hk, h1⟩ | ⟨hk, h1⟩
      · cases hk; exact Or.inl ⟨by omega, Or.inl ⟨rfl, rfl⟩⟩
      · cases hk; exact Or.inl ⟨by omega, Or.inr ⟨rfl, rfl, h1⟩⟩
      · cases hk; exact Or.inr ⟨rfl, rfl, h1⟩
    repeat (first | refine CE.seq ?_ | refine CE.text ?_ | refine RE.x (op_move rfl) rfl ?_ | refine RE.x (op_assign rfl) rfl ?_ | refine RE.x (op_nil rfl) rfl ?_ | refine RE.x (op_fieldAddr0 rfl rfl) rfl ?_ | refine RE.x (op_fieldAddr rfl rfl) rfl ?_ | refine RE.x (op_eql rfl rfl) rfl ?_ | refine RE.x (op_neq rfl rfl) rfl ?_ | refine RE.x (op_lss rfl rfl) rfl ?_ | refine RE.x (op_leq rfl rfl) rfl ?_ | refine RE.x (op_gtr rfl rfl) rfl ?_ | refine RE.x (op_geq rfl rfl) rfl ?_ | refine RE.x (op_not_d rfl) rfl ?_ | refine RE.x (op_not rfl) rfl ?_ | refine RE.x (op_len_sl rfl rfl) rfl ?_ | refine RE.x (op_len_s rfl Tryz.underlying9) rfl ?_ | refine RE.x (op_extract rfl rfl) rfl ?_ | refine RE.x (op_pick_t rfl rfl rfl) rfl ?_ | refine RE.x (op_pick_f rfl rfl) rfl ?_ | refine RE.x (op_add64 rfl rfl (by omega) (by omega)) rfl ?_ | refine RE.x (op_sub64 rfl rfl (by omega) (by omega)) rfl ?_ | refine RE.x (op_eql_s rfl rfl) rfl ?_ | refine RE.x (op_neq_s rfl rfl) rfl ?_ | refine RE.want rfl rfl ?_ | refine RE.nox rfl rfl rfl rfl ?_ | refine RE.nou rfl rfl rfl ?_ | refine RE.nilx (show CE _ _ _ _ _ _ _ from ?_) | refine CE.block ?_ | refine CE.scope ?_ | refine CE.label (show CE _ _ _ _ _ _ _ from ?_) | refine CE.skip (show CE _ _ _ _ _ _ _ from ?_) | refine CE.exit (show CE _ _ _ _ _ _ _ from ?_))
    refine CE.cond_d rfl (fun h2 => ?_) (fun h2 => ?_)
    · have hk3 : (k = 0 ∧ x = c) ∨ (k = 1 ∧ x = c.nxt t ∧ (nx t c.pos).1 = dr) := by
        rcases hk2 with ⟨_, h3⟩ | ⟨h3, _⟩
        · exact h3
        · omega
      have hxq : ∃ wd, x = c.mk3 x.pos c.start wd := by
        rcases hk3 with ⟨_, rfl⟩ | ⟨_, rfl, _⟩ <;> exact ⟨_, rfl⟩
      repeat (first | refine CE.seq ?_ | refine CE.text ?_ | refine RE.x (op_move rfl) rfl ?_ | refine RE.x (op_assign rfl) rfl ?_ | refine RE.x (op_nil rfl) rfl ?_ | refine RE.x (op_fieldAddr0 rfl rfl) rfl ?_ | refine RE.x (op_fieldAddr rfl rfl) rfl ?_ | refine RE.x (op_eql rfl rfl) rfl ?_ | refine RE.x (op_neq rfl rfl) rfl ?_ | refine RE.x (op_lss rfl rfl) rfl ?_ | refine RE.x (op_leq rfl rfl) rfl ?_ | refine RE.x (op_gtr rfl rfl) rfl ?_ | refine RE.x (op_geq rfl rfl) rfl ?_ | refine RE.x (op_not_d rfl) rfl ?_ | refine RE.x (op_not rfl) rfl ?_ | refine RE.x (op_len_sl rfl rfl) rfl ?_ | refine RE.x (op_len_s rfl Tryz.underlying9) rfl ?_ | refine RE.x (op_extract rfl rfl) rfl ?_ | refine RE.x (op_pick_t rfl rfl rfl) rfl ?_ | refine RE.x (op_pick_f rfl rfl) rfl ?_ | refine RE.x (op_add64 rfl rfl (by omega) (by omega)) rfl ?_ | refine RE.x (op_sub64 rfl rfl (by omega) (by omega)) rfl ?_ | refine RE.x (op_eql_s rfl rfl) rfl ?_ | refine RE.x (op_neq_s rfl rfl) rfl ?_ | refine RE.want rfl rfl ?_ | refine RE.nox rfl rfl rfl rfl ?_ | refine RE.nou rfl rfl rfl ?_ | refine RE.nilx (show CE _ _ _ _ _ _ _ from ?_) | refine CE.block ?_ | refine CE.scope ?_ | refine CE.label (show CE _ _ _ _ _ _ _ from ?_) | refine CE.skip (show CE _ _ _ _ _ _ _ from ?_) | refine CE.exit (show CE _ _ _ _ _ _ _ from ?_) | refine CE.cond_t rfl ?_ | refine CE.cond_f rfl ?_)
      refine RE.xc en68 rfl rfl (next_fn hx.lx) ?_
      rintro _ w1 ⟨rfl, h3⟩
      have hx1 := hx.nxt h3
      have hi1 := hi.trans (LI.of_lm h3 rfl)
      have hap1 := hap.li (LI.of_lm h3 rfl)
      repeat (first | refine CE.seq ?_ | refine CE.text ?_ | refine RE.x (op_move rfl) rfl ?_ | refine RE.x (op_assign rfl) rfl ?_ | refine RE.x (op_nil rfl) rfl ?_ | refine RE.x (op_fieldAddr0 rfl rfl) rfl ?_ | refine RE.x (op_fieldAddr rfl rfl) rfl ?_ | refine RE.x (op_eql rfl rfl) rfl ?_ | refine RE.x (op_neq rfl rfl) rfl ?_ | refine RE.x (op_lss rfl rfl) rfl ?_ | refine RE.x (op_leq rfl rfl) rfl ?_ | refine RE.x (op_gtr rfl rfl) rfl ?_ | refine RE.x (op_geq rfl rfl) rfl ?_ | refine RE.x (op_not_d rfl) rfl ?_ | refine RE.x (op_not rfl) rfl ?_ | refine RE.x (op_len_sl rfl rfl) rfl ?_ | refine RE.x (op_len_s rfl Tryz.underlying9) rfl ?_ | refine RE.x (op_extract rfl rfl) rfl ?_ | refine RE.x (op_pick_t rfl rfl rfl) rfl ?_ | refine RE.x (op_pick_f rfl rfl) rfl ?_ | refine RE.x (op_add64 rfl rfl (by omega) (by omega)) rfl ?_ | refine RE.x (op_sub64 rfl rfl (by omega) (by omega)) rfl ?_ | refine RE.x (op_eql_s rfl rfl) rfl ?_ | refine RE.x (op_neq_s rfl rfl) rfl ?_ | refine RE.want rfl rfl ?_ | refine RE.nox rfl rfl rfl rfl ?_ | refine RE.nou rfl rfl rfl ?_ | refine RE.nilx (show CE _ _ _ _ _ _ _ from ?_) | refine CE.block ?_ | refine CE.scope ?_ | refine CE.label (show CE _ _ _ _ _ _ _ from ?_) | refine CE.skip (show CE _ _ _ _ _ _ _ from ?_) | refine CE.exit (show CE _ _ _ _ _ _ _ from ?_))
      refine CE.cond_d rfl (fun h4 => ?_) (fun h4 => ?_)
      · repeat (first | refine CE.seq ?_ | refine CE.text ?_ | refine RE.x (op_move rfl) rfl ?_ | refine RE.x (op_assign rfl) rfl ?_ | refine RE.x (op_nil rfl) rfl ?_ | refine RE.x (op_fieldAddr0 rfl rfl) rfl ?_ | refine RE.x (op_fieldAddr rfl rfl) rfl ?_ | refine RE.x (op_eql rfl rfl) rfl ?_ | refine RE.x (op_neq rfl rfl) rfl ?_ | refine RE.x (op_lss rfl rfl) rfl ?_ | refine RE.x (op_leq rfl rfl) rfl ?_ | refine RE.x (op_gtr rfl rfl) rfl ?_ | refine RE.x (op_geq rfl rfl) rfl ?_ | refine RE.x (op_not_d rfl) rfl ?_ | refine RE.x (op_not rfl) rfl ?_ | refine RE.x (op_len_sl rfl rfl) rfl ?_ | refine RE.x (op_len_s rfl Tryz.underlying9) rfl ?_ | refine RE.x (op_extract rfl rfl) rfl ?_ | refine RE.x (op_pick_t rfl rfl rfl) rfl ?_ | refine RE.x (op_pick_f rfl rfl) rfl ?_ | refine RE.x (op_add64 rfl rfl (by omega) (by omega)) rfl ?_ | refine RE.x (op_sub64 rfl rfl (by omega) (by omega)) rfl ?_ | refine RE.x (op_eql_s rfl rfl) rfl ?_ | refine RE.x (op_neq_s rfl rfl) rfl ?_ | refine RE.want rfl rfl ?_ | refine RE.nox rfl rfl rfl rfl ?_ | refine RE.nou rfl rfl rfl ?_ | refine RE.nilx (show CE _ _ _ _ _ _ _ from ?_) | refine CE.block ?_ | refine CE.scope ?_ | refine CE.label (show CE _ _ _ _ _ _ _ from ?_) | refine CE.skip (show CE _ _ _ _ _ _ _ from ?_) | refine CE.exit (show CE _ _ _ _ _ _ _ from ?_) | refine CE.cond_t rfl ?_ | refine CE.cond_f rfl ?_)
        refine RE.x (op_iface rfl (by kernel_rfl)) rfl ?_
        refine RE.xe (e_buildSlice (cells := #[.iface 9 (S nm)]) (e := 20) rfl (by kernel_rfl) (by kernel_rfl)) rfl ?_
        rintro _ w2 ⟨nb, rfl, hn2⟩
        repeat (first | refine CE.seq ?_ | refine CE.text ?_ | refine RE.x (op_move rfl) rfl ?_ | refine RE.x (op_assign rfl) rfl ?_ | refine RE.x (op_nil rfl) rfl ?_ | refine RE.x (op_fieldAddr0 rfl rfl) rfl ?_ | refine RE.x (op_fieldAddr rfl rfl) rfl ?_ | refine RE.x (op_eql rfl rfl) rfl ?_ | refine RE.x (op_neq rfl rfl) rfl ?_ | refine RE.x (op_lss rfl rfl) rfl ?_ | refine RE.x (op_leq rfl rfl) rfl ?_ | refine RE.x (op_gtr rfl rfl) rfl ?_ | refine RE.x (op_geq rfl rfl) rfl ?_ | refine RE.x (op_not_d rfl) rfl ?_ | refine RE.x (op_not rfl) rfl ?_ | refine RE.x (op_len_sl rfl rfl) rfl ?_ | refine RE.x (op_len_s rfl Tryz.underlying9) rfl ?_ | refine RE.x (op_extract rfl rfl) rfl ?_ | refine RE.x (op_pick_t rfl rfl rfl) rfl ?_ | refine RE.x (op_pick_f rfl rfl) rfl ?_ | refine RE.x (op_add64 rfl rfl (by omega) (by omega)) rfl ?_ | refine RE.x (op_sub64 rfl rfl (by omega) (by omega)) rfl ?_ | refine RE.x (op_eql_s rfl rfl) rfl ?_ | refine RE.x (op_neq_s rfl rfl) rfl ?_ | refine RE.want rfl rfl ?_ | refine RE.nox rfl rfl rfl rfl ?_ | refine RE.nou rfl rfl rfl ?_ | refine RE.nilx (show CE _ _ _ _ _ _ _ from ?_) | refine CE.block ?_ | refine CE.scope ?_ | refine CE.label (show CE _ _ _ _ _ _ _ from ?_) | refine CE.skip (show CE _ _ _ _ _ _ _ from ?_) | refine CE.exit (show CE _ _ _ _ _ _ _ from ?_) | refine CE.cond_t rfl ?_ | refine CE.cond_f rfl ?_)
        obtain ⟨wd, hwd⟩ := hxq
        refine RE.xc en93 rfl rfl (bad_after (x := x.nxt t) (p := x.pos + (nx t x.pos).2) (st := c.start) (wd := (nx t x.pos).2) (by rw [hwd]; rfl) (hi1.ext_r hn2.ext) (hx1.ext hn2.ext) (by omega)) ?_
        rintro _ w3 ⟨rfl, h5⟩
        repeat (first | refine CE.seq ?_ | refine CE.text ?_ | refine RE.x (op_move rfl) rfl ?_ | refine RE.x (op_assign rfl) rfl ?_ | refine RE.x (op_nil rfl) rfl ?_ | refine RE.x (op_fieldAddr0 rfl rfl) rfl ?_ | refine RE.x (op_fieldAddr rfl rfl) rfl ?_ | refine RE.x (op_eql rfl rfl) rfl ?_ | refine RE.x (op_neq rfl rfl) rfl ?_ | refine RE.x (op_lss rfl rfl) rfl ?_ | refine RE.x (op_leq rfl rfl) rfl ?_ | refine RE.x (op_gtr rfl rfl) rfl ?_ | refine RE.x (op_geq rfl rfl) rfl ?_ | refine RE.x (op_not_d rfl) rfl ?_ | refine RE.x (op_not rfl) rfl ?_ | refine RE.x (op_len_sl rfl rfl) rfl ?_ | refine RE.x (op_len_s rfl Tryz.underlying9) rfl ?_ | refine RE.x (op_extract rfl rfl) rfl ?_ | refine RE.x (op_pick_t rfl rfl rfl) rfl ?_ | refine RE.x (op_pick_f rfl rfl) rfl ?_ | refine RE.x (op_add64 rfl rfl (by omega) (by omega)) rfl ?_ | refine RE.x (op_sub64 rfl rfl (by omega) (by omega)) rfl ?_ | refine RE.x (op_eql_s rfl rfl) rfl ?_ | refine RE.x (op_neq_s rfl rfl) rfl ?_ | refine RE.want rfl rfl ?_ | refine RE.nox rfl rfl rfl rfl ?_ | refine RE.nou rfl rfl rfl ?_ | refine RE.nilx (show CE _ _ _ _ _ _ _ from ?_) | refine CE.block ?_ | refine CE.scope ?_ | refine CE.label (show CE _ _ _ _ _ _ _ from ?_) | refine CE.skip (show CE _ _ _ _ _ _ _ from ?_) | refine CE.exit (show CE _ _ _ _ _ _ _ from ?_) | refine CE.cond_t rfl ?_ | refine CE.cond_f rfl ?_)
        (refine CE.ret ?_; (try dsimp only); refine ret1 rfl rfl ?_)
        have hA' : A = (false, x.pos + (nx t x.pos).2, c.start, [PI.bad t c.start (x.pos + (nx t x.pos).2)]) := by
          rw [← hA]
          rcases hk3 with ⟨_, rfl⟩ | ⟨_, rfl, h6⟩
          · simp only [fmOut]; rw [if_pos h4]
          · simp only [fmOut]; rw [if_neg (fun h => h h6)]; exact if_pos h4
        rw [hA']
        exact ⟨rfl, h5⟩
      · have h4' : (nx t x.pos).1 = dr := Classical.byContradiction h4
        repeat (first | refine CE.seq ?_ | refine CE.text ?_ | refine RE.x (op_move rfl) rfl ?_ | refine RE.x (op_assign rfl) rfl ?_ | refine RE.x (op_nil rfl) rfl ?_ | refine RE.x (op_fieldAddr0 rfl rfl) rfl ?_ | refine RE.x (op_fieldAddr rfl rfl) rfl ?_ | refine RE.x (op_eql rfl rfl) rfl ?_ | refine RE.x (op_neq rfl rfl) rfl ?_ | refine RE.x (op_lss rfl rfl) rfl ?_ | refine RE.x (op_leq rfl rfl) rfl ?_ | refine RE.x (op_gtr rfl rfl) rfl ?_ | refine RE.x (op_geq rfl rfl) rfl ?_ | refine RE.x (op_not_d rfl) rfl ?_ | refine RE.x (op_not rfl) rfl ?_ | refine RE.x (op_len_sl rfl rfl) rfl ?_ | refine RE.x (op_len_s rfl Tryz.underlying9) rfl ?_ | refine RE.x (op_extract rfl rfl) rfl ?_ | refine RE.x (op_pick_t rfl rfl rfl) rfl ?_ | refine RE.x (op_pick_f rfl rfl) rfl ?_ | refine RE.x (op_add64 rfl rfl (by omega) (by omega)) rfl ?_ | refine RE.x (op_sub64 rfl rfl (by omega) (by omega)) rfl ?_ | refine RE.x (op_eql_s rfl rfl) rfl ?_ | refine RE.x (op_neq_s rfl rfl) rfl ?_ | refine RE.want rfl rfl ?_ | refine RE.nox rfl rfl rfl rfl ?_ | refine RE.nou rfl rfl rfl ?_ | refine RE.nilx (show CE _ _ _ _ _ _ _ from ?_) | refine CE.block ?_ | refine CE.scope ?_ | refine CE.label (show CE _ _ _ _ _ _ _ from ?_) | refine CE.skip (show CE _ _ _ _ _ _ _ from ?_) | refine CE.exit (show CE _ _ _ _ _ _ _ from ?_) | refine CE.cond_t rfl ?_ | refine CE.cond_f rfl ?_)
        refine RE.nilx ?_
        refine ⟨(k + 1, x.nxt t), by show 3 - (k + 1) < 3 - k; omega, rfl, ⟨rfl, rfl, rfl, rfl, rfl, rfl, trivial⟩, hx1, hi1, hap1, ?_⟩
        rcases hk3 with ⟨rfl, rfl⟩ | ⟨rfl, rfl, h6⟩
        · exact Or.inr (Or.inl ⟨rfl, h4'⟩)
        · exact Or.inr (Or.inr ⟨rfl, h6, h4'⟩)
    · refine CE.exit ?_
      rcases hk2 with ⟨h3, _⟩ | ⟨rfl, rfl, h3, h4⟩
      · omega
      · exact ⟨rfl, ⟨rfl, rfl, rfl, rfl, rfl, trivial⟩, h3, h4, hx, hi, hap⟩
  · rintro s _ w0 ⟨rfl, hs, hd1, hd2, hx, hi, hap⟩
    refine CE.sub hs ?_
    obtain ⟨⟨wd2, hcr⟩, hcb⟩ := crlf_eq t ((c.nxt t).nxt t)
    have hp2 : ((c.nxt t).nxt t).pos = c.pos + (nx t c.pos).2 + (nx t (c.pos + (nx t c.pos).2)).2 := rfl
    rw [hp2] at hcr hcb
    generalize hP2 : c.pos + (nx t c.pos).2 + (nx t (c.pos + (nx t c.pos).2)).2 = p2 at hcr hcb hp2
    have hp2l : p2 ≤ t.length := by rw [← hp2]; exact hx.lx.pos
    have hql := crE_le t hp2l
    generalize hq0 : (crE t p2).1 = q at hcr hql
    generalize hb0 : (crE t p2).2 = b0 at hcb
    have hA2 : A = (match fmFind t d b0 q with
      | none => (false, t.length, q, [PI.bad t q t.length])
      | some f => (true, (crE t (f + 3)).1, (crE t (f + 3)).1, emitI t tp q f)) := by
      rw [← hA]
      simp only [fmOut]
      rw [if_neg (fun h => h hd1), if_neg (fun h => h hd2), hP2, hq0, hb0]
    repeat (first | refine CE.seq ?_ | refine CE.text ?_ | refine RE.x (op_move rfl) rfl ?_ | refine RE.x (op_assign rfl) rfl ?_ | refine RE.x (op_nil rfl) rfl ?_ | refine RE.x (op_fieldAddr0 rfl rfl) rfl ?_ | refine RE.x (op_fieldAddr rfl rfl) rfl ?_ | refine RE.x (op_eql rfl rfl) rfl ?_ | refine RE.x (op_neq rfl rfl) rfl ?_ | refine RE.x (op_lss rfl rfl) rfl ?_ | refine RE.x (op_leq rfl rfl) rfl ?_ | refine RE.x (op_gtr rfl rfl) rfl ?_ | refine RE.x (op_geq rfl rfl) rfl ?_ | refine RE.x (op_not_d rfl) rfl ?_ | refine RE.x (op_not rfl) rfl ?_ | refine RE.x (op_len_sl rfl rfl) rfl ?_ | refine RE.x (op_len_s rfl Tryz.underlying9) rfl ?_ | refine RE.x (op_extract rfl rfl) rfl ?_ | refine RE.x (op_pick_t rfl rfl rfl) rfl ?_ | refine RE.x (op_pick_f rfl rfl) rfl ?_ | refine RE.x (op_add64 rfl rfl (by omega) (by omega)) rfl ?_ | refine RE.x (op_sub64 rfl rfl (by omega) (by omega)) rfl ?_ | refine RE.x (op_eql_s rfl rfl) rfl ?_ | refine RE.x (op_neq_s rfl rfl) rfl ?_ | refine RE.want rfl rfl ?_ | refine RE.nox rfl rfl rfl rfl ?_ | refine RE.nou rfl rfl rfl ?_ | refine RE.nilx (show CE _ _ _ _ _ _ _ from ?_) | refine CE.scope ?_ | refine CE.label (show CE _ _ _ _ _ _ _ from ?_) | refine CE.skip (show CE _ _ _ _ _ _ _ from ?_) | refine CE.exit (show CE _ _ _ _ _ _ _ from ?_))
    refine RE.xc en94 rfl rfl (crlf_fn hx.lx) ?_
    rintro _ w1 ⟨rfl, h1⟩
    rw [hcr] at h1
    have hx1 := hx.keep h1 rfl rfl rfl hql
    have hi1 := hi.trans (LI.of_lm h1 rfl)
    have hap1 := hap.li (LI.of_lm h1 rfl)
    rw [hcb]
    repeat (first | refine CE.seq ?_ | refine CE.text ?_ | refine RE.x (op_move rfl) rfl ?_ | refine RE.x (op_assign rfl) rfl ?_ | refine RE.x (op_nil rfl) rfl ?_ | refine RE.x (op_fieldAddr0 rfl rfl) rfl ?_ | refine RE.x (op_fieldAddr rfl rfl) rfl ?_ | refine RE.x (op_eql rfl rfl) rfl ?_ | refine RE.x (op_neq rfl rfl) rfl ?_ | refine RE.x (op_lss rfl rfl) rfl ?_ | refine RE.x (op_leq rfl rfl) rfl ?_ | refine RE.x (op_gtr rfl rfl) rfl ?_ | refine RE.x (op_geq rfl rfl) rfl ?_ | refine RE.x (op_not_d rfl) rfl ?_ | refine RE.x (op_not rfl) rfl ?_ | refine RE.x (op_len_sl rfl rfl) rfl ?_ | refine RE.x (op_len_s rfl Tryz.underlying9) rfl ?_ | refine RE.x (op_extract rfl rfl) rfl ?_ | refine RE.x (op_pick_t rfl rfl rfl) rfl ?_ | refine RE.x (op_pick_f rfl rfl) rfl ?_ | refine RE.x (op_add64 rfl rfl (by omega) (by omega)) rfl ?_ | refine RE.x (op_sub64 rfl rfl (by omega) (by omega)) rfl ?_ | refine RE.x (op_eql_s rfl rfl) rfl ?_ | refine RE.x (op_neq_s rfl rfl) rfl ?_ | refine RE.want rfl rfl ?_ | refine RE.nox rfl rfl rfl rfl ?_ | refine RE.nou rfl rfl rfl ?_ | refine RE.nilx (show CE _ _ _ _ _ _ _ from ?_) | refine CE.scope ?_ | refine CE.label (show CE _ _ _ _ _ _ _ from ?_) | refine CE.skip (show CE _ _ _ _ _ _ _ from ?_) | refine CE.exit (show CE _ _ _ _ _ _ _ from ?_))
    refine RE.xc en95 rfl rfl (ignore_fn hx1.lx.at_) ?_
    rintro _ w2 ⟨rfl, h2⟩
    have hx2 := hx1.keep h2 rfl rfl rfl hql
    have hi2 := hi1.trans (LI.of_lm h2 rfl)
    have hap2 := hap1.li (LI.of_lm h2 rfl)
    repeat (first | refine CE.seq ?_ | refine CE.text ?_ | refine RE.x (op_move rfl) rfl ?_ | refine RE.x (op_assign rfl) rfl ?_ | refine RE.x (op_nil rfl) rfl ?_ | refine RE.x (op_fieldAddr0 rfl rfl) rfl ?_ | refine RE.x (op_fieldAddr rfl rfl) rfl ?_ | refine RE.x (op_eql rfl rfl) rfl ?_ | refine RE.x (op_neq rfl rfl) rfl ?_ | refine RE.x (op_lss rfl rfl) rfl ?_ | refine RE.x (op_leq rfl rfl) rfl ?_ | refine RE.x (op_gtr rfl rfl) rfl ?_ | refine RE.x (op_geq rfl rfl) rfl ?_ | refine RE.x (op_not_d rfl) rfl ?_ | refine RE.x (op_not rfl) rfl ?_ | refine RE.x (op_len_sl rfl rfl) rfl ?_ | refine RE.x (op_len_s rfl Tryz.underlying9) rfl ?_ | refine RE.x (op_extract rfl rfl) rfl ?_ | refine RE.x (op_pick_t rfl rfl rfl) rfl ?_ | refine RE.x (op_pick_f rfl rfl) rfl ?_ | refine RE.x (op_add64 rfl rfl (by omega) (by omega)) rfl ?_ | refine RE.x (op_sub64 rfl rfl (by omega) (by omega)) rfl ?_ | refine RE.x (op_eql_s rfl rfl) rfl ?_ | refine RE.x (op_neq_s rfl rfl) rfl ?_ | refine RE.want rfl rfl ?_ | refine RE.nox rfl rfl rfl rfl ?_ | refine RE.nou rfl rfl rfl ?_ | refine RE.nilx (show CE _ _ _ _ _ _ _ from ?_) | refine CE.scope ?_ | refine CE.label (show CE _ _ _ _ _ _ _ from ?_) | refine CE.skip (show CE _ _ _ _ _ _ _ from ?_) | refine CE.exit (show CE _ _ _ _ _ _ _ from ?_))
    refine CE.cut (fun s ds w' => ds = [] ∧ A.1 = true ∧ After L ib B t dv c ps A.2.1 A.2.2.1 A.2.2.2 w w') ?_ ?_
    · refine CE.block ?_
      refine CE.loop (α := Bool × Int × LC) (fun x => [(12, .bool x.1), (13, .int .i32 x.2.1), (0, Ptr L 0), (1, I tp), (3, S nm), (4, v)])
        (fun x w' => LS L ib B t dv x.2.2 ps w' ∧ LI L c x.2.2 w w' ∧ Apart L x.2.2 v d w' ∧ (∃ wd, x.2.2 = c.mk3 x.2.2.pos q wd) ∧ fmFind t d x.1 x.2.2.pos = fmFind t d b0 q)
        (fun x => 2 * (t.length - x.2.2.pos) + (if x.1 then 1 else 0)) (b0, 0, c.mk3 q q wd2) ⟨rfl, rfl, rfl, rfl, rfl, rfl, trivial⟩ ⟨hx2, hi2, hap2, ⟨wd2, rfl⟩, rfl⟩ ?_
      rintro ⟨b, r, x⟩ w3 ⟨hx3, hi3, hap3, ⟨wd3, hwd3⟩, hff⟩
      dsimp only at hx3 hi3 hap3 hwd3 hff ⊢
      refine CE.block ?_
      refine CE.seq ?_
      refine CE.cut (fun s ds w' => ds = [] ∧ ∃ x' r', SubL [(12, .bool b), (13, .int .i32 r'), (0, Ptr L 0), (1, I tp), (3, S nm), (4, v)] s ∧ LS L ib B t dv x' ps w' ∧ LI L c x' w w' ∧ Apart L x' v d w' ∧ (∃ wd, x' = c.mk3 x'.pos q wd) ∧
        ((b = true ∧ x' = x) ∨ (b = false ∧ x.pos < t.length ∧ x' = x.nxt t ∧ r' = (nx t x.pos).1))) ?_ ?_
      · cases b with
        | true =>
          repeat (first | refine CE.seq ?_ | refine CE.text ?_ | refine RE.x (op_move rfl) rfl ?_ | refine RE.x (op_assign rfl) rfl ?_ | refine RE.x (op_nil rfl) rfl ?_ | refine RE.x (op_fieldAddr0 rfl rfl) rfl ?_ | refine RE.x (op_fieldAddr rfl rfl) rfl ?_ | refine RE.x (op_eql rfl rfl) rfl ?_ | refine RE.x (op_neq rfl rfl) rfl ?_ | refine RE.x (op_lss rfl rfl) rfl ?_ | refine RE.x (op_leq rfl rfl) rfl ?_ | refine RE.x (op_gtr rfl rfl) rfl ?_ | refine RE.x (op_geq rfl rfl) rfl ?_ | refine RE.x (op_not_d rfl) rfl ?_ | refine RE.x (op_not rfl) rfl ?_ | refine RE.x (op_len_sl rfl rfl) rfl ?_ | refine RE.x (op_len_s rfl Tryz.underlying9) rfl ?_ | refine RE.x (op_extract rfl rfl) rfl ?_ | refine RE.x (op_pick_t rfl rfl rfl) rfl ?_ | refine RE.x (op_pick_f rfl rfl) rfl ?_ | refine RE.x (op_add64 rfl rfl (by omega) (by omega)) rfl ?_ | refine RE.x (op_sub64 rfl rfl (by omega) (by omega)) rfl ?_ | refine RE.x (op_eql_s rfl rfl) rfl ?_ | refine RE.x (op_neq_s rfl rfl) rfl ?_ | refine RE.want rfl rfl ?_ | refine RE.nox rfl rfl rfl rfl ?_ | refine RE.nou rfl rfl rfl ?_ | refine RE.nilx (show CE _ _ _ _ _ _ _ from ?_) | refine CE.block ?_ | refine CE.scope ?_ | refine CE.label (show CE _ _ _ _ _ _ _ from ?_) | refine CE.skip (show CE _ _ _ _ _ _ _ from ?_) | refine CE.exit (show CE _ _ _ _ _ _ _ from ?_) | refine CE.cond_t rfl ?_ | refine CE.cond_f rfl ?_)
          refine CE.skip ?_
          exact ⟨rfl, x, r, ⟨rfl, rfl, rfl, rfl, rfl, rfl, trivial⟩, hx3, hi3, hap3, ⟨wd3, hwd3⟩, Or.inl ⟨rfl, rfl⟩⟩
        | false =>
          repeat (first | refine CE.seq ?_ | refine CE.text ?_ | refine RE.x (op_move rfl) rfl ?_ | refine RE.x (op_assign rfl) rfl ?_ | refine RE.x (op_nil rfl) rfl ?_ | refine RE.x (op_fieldAddr0 rfl rfl) rfl ?_ | refine RE.x (op_fieldAddr rfl rfl) rfl ?_ | refine RE.x (op_eql rfl rfl) rfl ?_ | refine RE.x (op_neq rfl rfl) rfl ?_ | refine RE.x (op_lss rfl rfl) rfl ?_ | refine RE.x (op_leq rfl rfl) rfl ?_ | refine RE.x (op_gtr rfl rfl) rfl ?_ | refine RE.x (op_geq rfl rfl) rfl ?_ | refine RE.x (op_not_d rfl) rfl ?_ | refine RE.x (op_not rfl) rfl ?_ | refine RE.x (op_len_sl rfl rfl) rfl ?_ | refine RE.x (op_len_s rfl Tryz.underlying9) rfl ?_ | refine RE.x (op_extract rfl rfl) rfl ?_ | refine RE.x (op_pick_t rfl rfl rfl) rfl ?_ | refine RE.x (op_pick_f rfl rfl) rfl ?_ | refine RE.x (op_add64 rfl rfl (by omega) (by omega)) rfl ?_ | refine RE.x (op_sub64 rfl rfl (by omega) (by omega)) rfl ?_ | refine RE.x (op_eql_s rfl rfl) rfl ?_ | refine RE.x (op_neq_s rfl rfl) rfl ?_ | refine RE.want rfl rfl ?_ | refine RE.nox rfl rfl rfl rfl ?_ | refine RE.nou rfl rfl rfl ?_ | refine RE.nilx (show CE _ _ _ _ _ _ _ from ?_) | refine CE.block ?_ | refine CE.scope ?_ | refine CE.label (show CE _ _ _ _ _ _ _ from ?_) | refine CE.skip (show CE _ _ _ _ _ _ _ from ?_) | refine CE.exit (show CE _ _ _ _ _ _ _ from ?_) | refine CE.cond_t rfl ?_ | refine CE.cond_f rfl ?_)
          refine RE.xc en68 rfl rfl (next_fn hx3.lx) ?_
          rintro _ w4 ⟨rfl, h4⟩
          have hx4 := hx3.nxt h4
          have hi4 := hi3.trans (LI.of_lm h4 rfl)
          have hap4 := hap3.li (LI.of_lm h4 rfl)
          have hwd4 : x.nxt t = c.mk3 (x.nxt t).pos q (nx t x.pos).2 := by rw [hwd3]; rfl
          repeat (first | refine CE.seq ?_ | refine CE.text ?_ | refine RE.x (op_move rfl) rfl ?_ | refine RE.x (op_assign rfl) rfl ?_ | refine RE.x (op_nil rfl) rfl ?_ | refine RE.x (op_fieldAddr0 rfl rfl) rfl ?_ | refine RE.x (op_fieldAddr rfl rfl) rfl ?_ | refine RE.x (op_eql rfl rfl) rfl ?_ | refine RE.x (op_neq rfl rfl) rfl ?_ | refine RE.x (op_lss rfl rfl) rfl ?_ | refine RE.x (op_leq rfl rfl) rfl ?_ | refine RE.x (op_gtr rfl rfl) rfl ?_ | refine RE.x (op_geq rfl rfl) rfl ?_ | refine RE.x (op_not_d rfl) rfl ?_ | refine RE.x (op_not rfl) rfl ?_ | refine RE.x (op_len_sl rfl rfl) rfl ?_ | refine RE.x (op_len_s rfl Tryz.underlying9) rfl ?_ | refine RE.x (op_extract rfl rfl) rfl ?_ | refine RE.x (op_pick_t rfl rfl rfl) rfl ?_ | refine RE.x (op_pick_f rfl rfl) rfl ?_ | refine RE.x (op_add64 rfl rfl (by omega) (by omega)) rfl ?_ | refine RE.x (op_sub64 rfl rfl (by omega) (by omega)) rfl ?_ | refine RE.x (op_eql_s rfl rfl) rfl ?_ | refine RE.x (op_neq_s rfl rfl) rfl ?_ | refine RE.want rfl rfl ?_ | refine RE.nox rfl rfl rfl rfl ?_ | refine RE.nou rfl rfl rfl ?_ | refine RE.nilx (show CE _ _ _ _ _ _ _ from ?_) | refine CE.block ?_ | refine CE.scope ?_ | refine CE.label (show CE _ _ _ _ _ _ _ from ?_) | refine CE.skip (show CE _ _ _ _ _ _ _ from ?_) | refine CE.exit (show CE _ _ _ _ _ _ _ from ?_))
          refine CE.cond_d rfl (fun he => ?_) (fun he => ?_)
          · have hend : t.length ≤ x.pos := by
              rcases Nat.lt_or_ge x.pos t.length with h' | h'
              · rw [nx_in h'] at he
                have he' : ((Lib.decodeL (t.drop x.pos)).1 : Int) = -1 := he
                omega
              · exact h'
            have hxl := hx3.lx.pos
            repeat (first | refine CE.seq ?_ | refine CE.text ?_ | refine RE.x (op_move rfl) rfl ?_ | refine RE.x (op_assign rfl) rfl ?_ | refine RE.x (op_nil rfl) rfl ?_ | refine RE.x (op_fieldAddr0 rfl rfl) rfl ?_ | refine RE.x (op_fieldAddr rfl rfl) rfl ?_ | refine RE.x (op_eql rfl rfl) rfl ?_ | refine RE.x (op_neq rfl rfl) rfl ?_ | refine RE.x (op_lss rfl rfl) rfl ?_ | refine RE.x (op_leq rfl rfl) rfl ?_ | refine RE.x (op_gtr rfl rfl) rfl ?_ | refine RE.x (op_geq rfl rfl) rfl ?_ | refine RE.x (op_not_d rfl) rfl ?_ | refine RE.x (op_not rfl) rfl ?_ | refine RE.x (op_len_sl rfl rfl) rfl ?_ | refine RE.x (op_len_s rfl Tryz.underlying9) rfl ?_ | refine RE.x (op_extract rfl rfl) rfl ?_ | refine RE.x (op_pick_t rfl rfl rfl) rfl ?_ | refine RE.x (op_pick_f rfl rfl) rfl ?_ | refine RE.x (op_add64 rfl rfl (by omega) (by omega)) rfl ?_ | refine RE.x (op_sub64 rfl rfl (by omega) (by omega)) rfl ?_ | refine RE.x (op_eql_s rfl rfl) rfl ?_ | refine RE.x (op_neq_s rfl rfl) rfl ?_ | refine RE.want rfl rfl ?_ | refine RE.nox rfl rfl rfl rfl ?_ | refine RE.nou rfl rfl rfl ?_ | refine RE.nilx (show CE _ _ _ _ _ _ _ from ?_) | refine CE.block ?_ | refine CE.scope ?_ | refine CE.label (show CE _ _ _ _ _ _ _ from ?_) | refine CE.skip (show CE _ _ _ _ _ _ _ from ?_) | refine CE.exit (show CE _ _ _ _ _ _ _ from ?_) | refine CE.cond_t rfl ?_ | refine CE.cond_f rfl ?_)
            refine RE.x (op_iface rfl (by kernel_rfl)) rfl ?_
            refine RE.xe (e_buildSlice (cells := #[.iface 9 (S nm)]) (e := 20) rfl (by kernel_rfl) (by kernel_rfl)) rfl ?_
            rintro _ w5 ⟨nb, rfl, hn5⟩
            repeat (first | refine CE.seq ?_ | refine CE.text ?_ | refine RE.x (op_move rfl) rfl ?_ | refine RE.x (op_assign rfl) rfl ?_ | refine RE.x (op_nil rfl) rfl ?_ | refine RE.x (op_fieldAddr0 rfl rfl) rfl ?_ | refine RE.x (op_fieldAddr rfl rfl) rfl ?_ | refine RE.x (op_eql rfl rfl) rfl ?_ | refine RE.x (op_neq rfl rfl) rfl ?_ | refine RE.x (op_lss rfl rfl) rfl ?_ | refine RE.x (op_leq rfl rfl) rfl ?_ | refine RE.x (op_gtr rfl rfl) rfl ?_ | refine RE.x (op_geq rfl rfl) rfl ?_ | refine RE.x (op_not_d rfl) rfl ?_ | refine RE.x (op_not rfl) rfl ?_ | refine RE.x (op_len_sl rfl rfl) rfl ?_ | refine RE.x (op_len_s rfl Tryz.underlying9) rfl ?_ | refine RE.x (op_extract rfl rfl) rfl ?_ | refine RE.x (op_pick_t rfl rfl rfl) rfl ?_ | refine RE.x (op_pick_f rfl rfl) rfl ?_ | refine RE.x (op_add64 rfl rfl (by omega) (by omega)) rfl ?_ | refine RE.x (op_sub64 rfl rfl (by omega) (by omega)) rfl ?_ | refine RE.x (op_eql_s rfl rfl) rfl ?_ | refine RE.x (op_neq_s rfl rfl) rfl ?_ | refine RE.want rfl rfl ?_ | refine RE.nox rfl rfl rfl rfl ?_ | refine RE.nou rfl rfl rfl ?_ | refine RE.nilx (show CE _ _ _ _ _ _ _ from ?_) | refine CE.block ?_ | refine CE.scope ?_ | refine CE.label (show CE _ _ _ _ _ _ _ from ?_) | refine CE.skip (show CE _ _ _ _ _ _ _ from ?_) | refine CE.exit (show CE _ _ _ _ _ _ _ from ?_) | refine CE.cond_t rfl ?_ | refine CE.cond_f rfl ?_)
            refine RE.xc en93 rfl rfl (bad_after (x := x.nxt t) (p := (x.nxt t).pos) (st := q) (wd := (nx t x.pos).2) hwd4 (hi4.ext_r hn5.ext) (hx4.ext hn5.ext) (by omega)) ?_
            rintro _ w6 ⟨rfl, h6⟩
            repeat (first | refine CE.seq ?_ | refine CE.text ?_ | refine RE.x (op_move rfl) rfl ?_ | refine RE.x (op_assign rfl) rfl ?_ | refine RE.x (op_nil rfl) rfl ?_ | refine RE.x (op_fieldAddr0 rfl rfl) rfl ?_ | refine RE.x (op_fieldAddr rfl rfl) rfl ?_ | refine RE.x (op_eql rfl rfl) rfl ?_ | refine RE.x (op_neq rfl rfl) rfl ?_ | refine RE.x (op_lss rfl rfl) rfl ?_ | refine RE.x (op_leq rfl rfl) rfl ?_ | refine RE.x (op_gtr rfl rfl) rfl ?_ | refine RE.x (op_geq rfl rfl) rfl ?_ | refine RE.x (op_not_d rfl) rfl ?_ | refine RE.x (op_not rfl) rfl ?_ | refine RE.x (op_len_sl rfl rfl) rfl ?_ | refine RE.x (op_len_s rfl Tryz.underlying9) rfl ?_ | refine RE.x (op_extract rfl rfl) rfl ?_ | refine RE.x (op_pick_t rfl rfl rfl) rfl ?_ | refine RE.x (op_pick_f rfl rfl) rfl ?_ | refine RE.x (op_add64 rfl rfl (by omega) (by omega)) rfl ?_ | refine RE.x (op_sub64 rfl rfl (by omega) (by omega)) rfl ?_ | refine RE.x (op_eql_s rfl rfl) rfl ?_ | refine RE.x (op_neq_s rfl rfl) rfl ?_ | refine RE.want rfl rfl ?_ | refine RE.nox rfl rfl rfl rfl ?_ | refine RE.nou rfl rfl rfl ?_ | refine RE.nilx (show CE _ _ _ _ _ _ _ from ?_) | refine CE.block ?_ | refine CE.scope ?_ | refine CE.label (show CE _ _ _ _ _ _ _ from ?_) | refine CE.skip (show CE _ _ _ _ _ _ _ from ?_) | refine CE.exit (show CE _ _ _ _ _ _ _ from ?_) | refine CE.cond_t rfl ?_ | refine CE.cond_f rfl ?_)
            (refine CE.ret ?_; (try dsimp only); refine ret1 rfl rfl ?_)
            have hpe : (x.nxt t).pos = t.length := by
              show x.pos + (nx t x.pos).2 = t.length
              rw [nx_end hend]
              show x.pos + 0 = t.length
              omega
            have hnone : fmFind t d b0 q = none := by
              rw [← hff, fmFind]
              simp only [Bool.false_eq_true, if_false]
              rw [dif_neg (by omega)]
            rw [hnone] at hA2
            rw [hA2]
            rw [hpe] at h6
            exact ⟨rfl, h6⟩
          · have hin : x.pos < t.length := by
              rcases Nat.lt_or_ge x.pos t.length with h' | h'
              · exact h'
              · rw [nx_end h'] at he; exact absurd rfl he
            refine CE.skip ?_
            exact ⟨rfl, x.nxt t, _, ⟨rfl, rfl, rfl, rfl, rfl, rfl, trivial⟩, hx4, hi4, hap4, ⟨_, hwd4⟩, Or.inr ⟨rfl, hin, rfl, rfl⟩⟩
      · rintro s _ w4 ⟨rfl, x', r', hs, hx4, hi4, hap4, ⟨wd4, hwd4⟩, hcase⟩
        refine CE.sub hs ?_
        have hx4l := hx4.lx.pos
        refine CE.seq ?_
        refine CE.cut (fun s ds w' => ds = [] ∧ SubL [(0, Ptr L 0), (1, I tp), (3, S nm), (4, v), (13, .int .i32 r')] s ∧ LS L ib B t dv x' ps w' ∧ LI L c x' w w' ∧ Apart L x' v d w' ∧ fmFind t d b x.pos = fmFind t d false x'.pos ∧ 2 * (t.length - x'.pos) < 2 * (t.length - x.pos) + (if b then 1 else 0)) ?_ ?_
        · refine CE.seq ?_
          refine CE.cut (fun s ds w' => ds = [] ∧ w' = w4 ∧ SubL [(46, .bool (b || isEol r')), (0, Ptr L 0), (1, I tp), (3, S nm), (4, v), (13, .int .i32 r')] s) ?_ ?_
          · cases b with
            | true =>
              repeat (first | refine CE.seq ?_ | refine CE.text ?_ | refine RE.x (op_move rfl) rfl ?_ | refine RE.x (op_assign rfl) rfl ?_ | refine RE.x (op_nil rfl) rfl ?_ | refine RE.x (op_fieldAddr0 rfl rfl) rfl ?_ | refine RE.x (op_fieldAddr rfl rfl) rfl ?_ | refine RE.x (op_eql rfl rfl) rfl ?_ | refine RE.x (op_neq rfl rfl) rfl ?_ | refine RE.x (op_lss rfl rfl) rfl ?_ | refine RE.x (op_leq rfl rfl) rfl ?_ | refine RE.x (op_gtr rfl rfl) rfl ?_ | refine RE.x (op_geq rfl rfl) rfl ?_ | refine RE.x (op_not_d rfl) rfl ?_ | refine RE.x (op_not rfl) rfl ?_ | refine RE.x (op_len_sl rfl rfl) rfl ?_ | refine RE.x (op_len_s rfl Tryz.underlying9) rfl ?_ | refine RE.x (op_extract rfl rfl) rfl ?_ | refine RE.x (op_pick_t rfl rfl rfl) rfl ?_ | refine RE.x (op_pick_f rfl rfl) rfl ?_ | refine RE.x (op_add64 rfl rfl (by omega) (by omega)) rfl ?_ | refine RE.x (op_sub64 rfl rfl (by omega) (by omega)) rfl ?_ | refine RE.x (op_eql_s rfl rfl) rfl ?_ | refine RE.x (op_neq_s rfl rfl) rfl ?_ | refine RE.want rfl rfl ?_ | refine RE.nox rfl rfl rfl rfl ?_ | refine RE.nou rfl rfl rfl ?_ | refine RE.nilx (show CE _ _ _ _ _ _ _ from ?_) | refine CE.block ?_ | refine CE.scope ?_ | refine CE.label (show CE _ _ _ _ _ _ _ from ?_) | refine CE.skip (show CE _ _ _ _ _ _ _ from ?_) | refine CE.exit (show CE _ _ _ _ _ _ _ from ?_) | refine CE.cond_t rfl ?_ | refine CE.cond_f rfl ?_)
              refine RE.nilx ?_
              exact ⟨rfl, rfl, rfl, rfl, rfl, rfl, rfl, rfl, trivial⟩
            | false =>
              repeat (first | refine CE.seq ?_ | refine CE.text ?_ | refine RE.x (op_move rfl) rfl ?_ | refine RE.x (op_assign rfl) rfl ?_ | refine RE.x (op_nil rfl) rfl ?_ | refine RE.x (op_fieldAddr0 rfl rfl) rfl ?_ | refine RE.x (op_fieldAddr rfl rfl) rfl ?_ | refine RE.x (op_eql rfl rfl) rfl ?_ | refine RE.x (op_neq rfl rfl) rfl ?_ | refine RE.x (op_lss rfl rfl) rfl ?_ | refine RE.x (op_leq rfl rfl) rfl ?_ | refine RE.x (op_gtr rfl rfl) rfl ?_ | refine RE.x (op_geq rfl rfl) rfl ?_ | refine RE.x (op_not_d rfl) rfl ?_ | refine RE.x (op_not rfl) rfl ?_ | refine RE.x (op_len_sl rfl rfl) rfl ?_ | refine RE.x (op_len_s rfl Tryz.underlying9) rfl ?_ | refine RE.x (op_extract rfl rfl) rfl ?_ | refine RE.x (op_pick_t rfl rfl rfl) rfl ?_ | refine RE.x (op_pick_f rfl rfl) rfl ?_ | refine RE.x (op_add64 rfl rfl (by omega) (by omega)) rfl ?_ | refine RE.x (op_sub64 rfl rfl (by omega) (by omega)) rfl ?_ | refine RE.x (op_eql_s rfl rfl) rfl ?_ | refine RE.x (op_neq_s rfl rfl) rfl ?_ | refine RE.want rfl rfl ?_ | refine RE.nox rfl rfl rfl rfl ?_ | refine RE.nou rfl rfl rfl ?_ | refine RE.nilx (show CE _ _ _ _ _ _ _ from ?_) | refine CE.block ?_ | refine CE.scope ?_ | refine CE.label (show CE _ _ _ _ _ _ _ from ?_) | refine CE.skip (show CE _ _ _ _ _ _ _ from ?_) | refine CE.exit (show CE _ _ _ _ _ _ _ from ?_) | refine CE.cond_t rfl ?_ | refine CE.cond_f rfl ?_)
              refine RE.xc en75 rfl rfl (isEol_fn _ _) ?_
              rintro _ w5 ⟨rfl, rfl⟩
              repeat (first | refine CE.seq ?_ | refine CE.text ?_ | refine RE.x (op_move rfl) rfl ?_ | refine RE.x (op_assign rfl) rfl ?_ | refine RE.x (op_nil rfl) rfl ?_ | refine RE.x (op_fieldAddr0 rfl rfl) rfl ?_ | refine RE.x (op_fieldAddr rfl rfl) rfl ?_ | refine RE.x (op_eql rfl rfl) rfl ?_ | refine RE.x (op_neq rfl rfl) rfl ?_ | refine RE.x (op_lss rfl rfl) rfl ?_ | refine RE.x (op_leq rfl rfl) rfl ?_ | refine RE.x (op_gtr rfl rfl) rfl ?_ | refine RE.x (op_geq rfl rfl) rfl ?_ | refine RE.x (op_not_d rfl) rfl ?_ | refine RE.x (op_not rfl) rfl ?_ | refine RE.x (op_len_sl rfl rfl) rfl ?_ | refine RE.x (op_len_s rfl Tryz.underlying9) rfl ?_ | refine RE.x (op_extract rfl rfl) rfl ?_ | refine RE.x (op_pick_t rfl rfl rfl) rfl ?_ | refine RE.x (op_pick_f rfl rfl) rfl ?_ | refine RE.x (op_add64 rfl rfl (by omega) (by omega)) rfl ?_ | refine RE.x (op_sub64 rfl rfl (by omega) (by omega)) rfl ?_ | refine RE.x (op_eql_s rfl rfl) rfl ?_ | refine RE.x (op_neq_s rfl rfl) rfl ?_ | refine RE.want rfl rfl ?_ | refine RE.nox rfl rfl rfl rfl ?_ | refine RE.nou rfl rfl rfl ?_ | refine RE.nilx (show CE _ _ _ _ _ _ _ from ?_) | refine CE.block ?_ | refine CE.scope ?_ | refine CE.label (show CE _ _ _ _ _ _ _ from ?_) | refine CE.skip (show CE _ _ _ _ _ _ _ from ?_) | refine CE.exit (show CE _ _ _ _ _ _ _ from ?_) | refine CE.cond_t rfl ?_ | refine CE.cond_f rfl ?_)
              refine RE.nilx ?_
              exact ⟨rfl, rfl, rfl, rfl, rfl, rfl, rfl, rfl, trivial⟩
          · rintro s _ w5 ⟨rfl, hw5, hs5⟩
            have hw5' : w4 = w5 := hw5.symm
            subst hw5'
            refine CE.sub hs5 ?_
            have hmeas : 2 * (t.length - x'.pos) < 2 * (t.length - x.pos) + (if b then 1 else 0) := by
              rcases hcase with ⟨hb, hxx⟩ | ⟨hb, hin, hxx, hr⟩
              · subst hxx; subst hb; simp
              · subst hxx; subst hb
                have := nx_pos t hin
                show 2 * (t.length - (x.pos + (nx t x.pos).2)) < _
                simp
                omega
            refine CE.cond_s rfl (fun htt => ?_) (fun htt => ?_)
            · repeat (first | refine CE.seq ?_ | refine CE.text ?_ | refine RE.x (op_move rfl) rfl ?_ | refine RE.x (op_assign rfl) rfl ?_ | refine RE.x (op_nil rfl) rfl ?_ | refine RE.x (op_fieldAddr0 rfl rfl) rfl ?_ | refine RE.x (op_fieldAddr rfl rfl) rfl ?_ | refine RE.x (op_eql rfl rfl) rfl ?_ | refine RE.x (op_neq rfl rfl) rfl ?_ | refine RE.x (op_lss rfl rfl) rfl ?_ | refine RE.x (op_leq rfl rfl) rfl ?_ | refine RE.x (op_gtr rfl rfl) rfl ?_ | refine RE.x (op_geq rfl rfl) rfl ?_ | refine RE.x (op_not_d rfl) rfl ?_ | refine RE.x (op_not rfl) rfl ?_ | refine RE.x (op_len_sl rfl rfl) rfl ?_ | refine RE.x (op_len_s rfl Tryz.underlying9) rfl ?_ | refine RE.x (op_extract rfl rfl) rfl ?_ | refine RE.x (op_pick_t rfl rfl rfl) rfl ?_ | refine RE.x (op_pick_f rfl rfl) rfl ?_ | refine RE.x (op_add64 rfl rfl (by omega) (by omega)) rfl ?_ | refine RE.x (op_sub64 rfl rfl (by omega) (by omega)) rfl ?_ | refine RE.x (op_eql_s rfl rfl) rfl ?_ | refine RE.x (op_neq_s rfl rfl) rfl ?_ | refine RE.want rfl rfl ?_ | refine RE.nox rfl rfl rfl rfl ?_ | refine RE.nou rfl rfl rfl ?_ | refine RE.nilx (show CE _ _ _ _ _ _ _ from ?_) | refine CE.block ?_ | refine CE.scope ?_ | refine CE.label (show CE _ _ _ _ _ _ _ from ?_) | refine CE.skip (show CE _ _ _ _ _ _ _ from ?_) | refine CE.exit (show CE _ _ _ _ _ _ _ from ?_) | refine CE.cond_t rfl ?_ | refine CE.cond_f rfl ?_)
              refine RE.xc en96 rfl rfl (hasP_fn hx4.lx hap4.hb) ?_
              rintro _ w5 ⟨rfl, e5⟩
              repeat (first | refine CE.seq ?_ | refine CE.text ?_ | refine RE.x (op_move rfl) rfl ?_ | refine RE.x (op_assign rfl) rfl ?_ | refine RE.x (op_nil rfl) rfl ?_ | refine RE.x (op_fieldAddr0 rfl rfl) rfl ?_ | refine RE.x (op_fieldAddr rfl rfl) rfl ?_ | refine RE.x (op_eql rfl rfl) rfl ?_ | refine RE.x (op_neq rfl rfl) rfl ?_ | refine RE.x (op_lss rfl rfl) rfl ?_ | refine RE.x (op_leq rfl rfl) rfl ?_ | refine RE.x (op_gtr rfl rfl) rfl ?_ | refine RE.x (op_geq rfl rfl) rfl ?_ | refine RE.x (op_not_d rfl) rfl ?_ | refine RE.x (op_not rfl) rfl ?_ | refine RE.x (op_len_sl rfl rfl) rfl ?_ | refine RE.x (op_len_s rfl Tryz.underlying9) rfl ?_ | refine RE.x (op_extract rfl rfl) rfl ?_ | refine RE.x (op_pick_t rfl rfl rfl) rfl ?_ | refine RE.x (op_pick_f rfl rfl) rfl ?_ | refine RE.x (op_add64 rfl rfl (by omega) (by omega)) rfl ?_ | refine RE.x (op_sub64 rfl rfl (by omega) (by omega)) rfl ?_ | refine RE.x (op_eql_s rfl rfl) rfl ?_ | refine RE.x (op_neq_s rfl rfl) rfl ?_ | refine RE.want rfl rfl ?_ | refine RE.nox rfl rfl rfl rfl ?_ | refine RE.nou rfl rfl rfl ?_ | refine RE.nilx (show CE _ _ _ _ _ _ _ from ?_) | refine CE.block ?_ | refine CE.scope ?_ | refine CE.label (show CE _ _ _ _ _ _ _ from ?_) | refine CE.skip (show CE _ _ _ _ _ _ _ from ?_) | refine CE.exit (show CE _ _ _ _ _ _ _ from ?_) | refine CE.cond_t rfl ?_ | refine CE.cond_f rfl ?_)
              refine CE.cond_s rfl (fun hpre => ?_) (fun hpre => ?_)
              · have hfnd : fmFind t d b0 q = some x'.pos := by
                  rw [← hff, fmFind]
                  rcases hcase with ⟨hb, hxx⟩ | ⟨hb, hin, hxx, hr⟩
                  · subst hb; subst hxx
                    rw [if_pos rfl, if_pos hpre]
                  · subst hb; subst hxx
                    rw [if_neg (by simp), dif_pos hin, if_pos]
                    · rfl
                    · simp only [Bool.false_or, hr] at htt
                      simp only [htt, Bool.true_and]
                      exact hpre
                have h3l : x'.pos + 3 ≤ t.length := by
                  have := of_decide_eq_true hpre
                  have := congrArg List.length this
                  simp at this
                  omega
                rw [hfnd] at hA2
                dsimp only at hA2
                repeat (first | refine CE.seq ?_ | refine CE.text ?_ | refine RE.x (op_move rfl) rfl ?_ | refine RE.x (op_assign rfl) rfl ?_ | refine RE.x (op_nil rfl) rfl ?_ | refine RE.x (op_fieldAddr0 rfl rfl) rfl ?_ | refine RE.x (op_fieldAddr rfl rfl) rfl ?_ | refine RE.x (op_eql rfl rfl) rfl ?_ | refine RE.x (op_neq rfl rfl) rfl ?_ | refine RE.x (op_lss rfl rfl) rfl ?_ | refine RE.x (op_leq rfl rfl) rfl ?_ | refine RE.x (op_gtr rfl rfl) rfl ?_ | refine RE.x (op_geq rfl rfl) rfl ?_ | refine RE.x (op_not_d rfl) rfl ?_ | refine RE.x (op_not rfl) rfl ?_ | refine RE.x (op_len_sl rfl rfl) rfl ?_ | refine RE.x (op_len_s rfl Tryz.underlying9) rfl ?_ | refine RE.x (op_extract rfl rfl) rfl ?_ | refine RE.x (op_pick_t rfl rfl rfl) rfl ?_ | refine RE.x (op_pick_f rfl rfl) rfl ?_ | refine RE.x (op_add64 rfl rfl (by omega) (by omega)) rfl ?_ | refine RE.x (op_sub64 rfl rfl (by omega) (by omega)) rfl ?_ | refine RE.x (op_eql_s rfl rfl) rfl ?_ | refine RE.x (op_neq_s rfl rfl) rfl ?_ | refine RE.want rfl rfl ?_ | refine RE.nox rfl rfl rfl rfl ?_ | refine RE.nou rfl rfl rfl ?_ | refine RE.nilx (show CE _ _ _ _ _ _ _ from ?_) | refine CE.block ?_ | refine CE.scope ?_ | refine CE.label (show CE _ _ _ _ _ _ _ from ?_) | refine CE.skip (show CE _ _ _ _ _ _ _ from ?_) | refine CE.exit (show CE _ _ _ _ _ _ _ from ?_) | refine CE.cond_t rfl ?_ | refine CE.cond_f rfl ?_)
                refine RE.xc en97 rfl rfl (emit_fn (hx4.ext e5) (by omega)) ?_
                rintro _ w6 ⟨rfl, it, hi6, hx6⟩
                have hi6' := hi4.trans (LI.ext_l e5 hi6)
                have hB6 := hx6.lx.at_
                unfold AtL at hB6
                have hsm := hx6.lx.small
                have hps6 := hx6.lx.pos
                repeat (first | refine CE.seq ?_ | refine CE.text ?_ | refine RE.x (op_move rfl) rfl ?_ | refine RE.x (op_assign rfl) rfl ?_ | refine RE.x (op_nil rfl) rfl ?_ | refine RE.x (op_fieldAddr0 rfl rfl) rfl ?_ | refine RE.x (op_fieldAddr rfl rfl) rfl ?_ | refine RE.x (op_loadB rfl rfl hB6 rfl) rfl ?_ | refine RE.x (op_loadA rfl rfl hB6 rfl rfl) rfl ?_ | refine RE.x (op_eql rfl rfl) rfl ?_ | refine RE.x (op_neq rfl rfl) rfl ?_ | refine RE.x (op_lss rfl rfl) rfl ?_ | refine RE.x (op_leq rfl rfl) rfl ?_ | refine RE.x (op_gtr rfl rfl) rfl ?_ | refine RE.x (op_geq rfl rfl) rfl ?_ | refine RE.x (op_not_d rfl) rfl ?_ | refine RE.x (op_not rfl) rfl ?_ | refine RE.x (op_len_sl rfl rfl) rfl ?_ | refine RE.x (op_len_s rfl Tryz.underlying9) rfl ?_ | refine RE.x (op_extract rfl rfl) rfl ?_ | refine RE.x (op_pick_t rfl rfl rfl) rfl ?_ | refine RE.x (op_pick_f rfl rfl) rfl ?_ | refine RE.x (op_add64 rfl rfl (by omega) (by omega)) rfl ?_ | refine RE.x (op_sub64 rfl rfl (by omega) (by omega)) rfl ?_ | refine RE.x (op_eql_s rfl rfl) rfl ?_ | refine RE.x (op_neq_s rfl rfl) rfl ?_ | refine RE.want rfl rfl ?_ | refine RE.nox rfl rfl rfl rfl ?_ | refine RE.nou rfl rfl rfl ?_ | refine RE.nilx (show CE _ _ _ _ _ _ _ from ?_) | refine CE.block ?_ | refine CE.scope ?_ | refine CE.label (show CE _ _ _ _ _ _ _ from ?_) | refine CE.skip (show CE _ _ _ _ _ _ _ from ?_) | refine CE.exit (show CE _ _ _ _ _ _ _ from ?_) | refine CE.cond_t rfl ?_ | refine CE.cond_f rfl ?_)
                refine RE.xs (e_store rfl rfl rfl hB6 rfl rfl) ?_
                rintro _ w7 hu7
                have hm7 : LM L { x' with start := x'.pos, items := it, pos := x'.pos + 3 } w6 w7 := by
                  refine LM.of_upd hu7 ?_
                  have e : ((x'.pos + 3 : Nat) : Int) = (x'.pos : Int) + 3 := by omega
                  simp only [LC.arr, e]
                  rfl
                have hx7 := hx6.keep hm7 rfl rfl rfl h3l
                have hi7 := hi6'.trans (LI.of_lm hm7 rfl)
                obtain ⟨⟨wd8, hcr8⟩, _⟩ := crlf_eq t { x' with start := x'.pos, items := it, pos := x'.pos + 3 }
                have hq8 := crE_le t h3l
                dsimp only at hcr8
                repeat (first | refine CE.seq ?_ | refine CE.text ?_ | refine RE.x (op_move rfl) rfl ?_ | refine RE.x (op_assign rfl) rfl ?_ | refine RE.x (op_nil rfl) rfl ?_ | refine RE.x (op_fieldAddr0 rfl rfl) rfl ?_ | refine RE.x (op_fieldAddr rfl rfl) rfl ?_ | refine RE.x (op_eql rfl rfl) rfl ?_ | refine RE.x (op_neq rfl rfl) rfl ?_ | refine RE.x (op_lss rfl rfl) rfl ?_ | refine RE.x (op_leq rfl rfl) rfl ?_ | refine RE.x (op_gtr rfl rfl) rfl ?_ | refine RE.x (op_geq rfl rfl) rfl ?_ | refine RE.x (op_not_d rfl) rfl ?_ | refine RE.x (op_not rfl) rfl ?_ | refine RE.x (op_len_sl rfl rfl) rfl ?_ | refine RE.x (op_len_s rfl Tryz.underlying9) rfl ?_ | refine RE.x (op_extract rfl rfl) rfl ?_ | refine RE.x (op_pick_t rfl rfl rfl) rfl ?_ | refine RE.x (op_pick_f rfl rfl) rfl ?_ | refine RE.x (op_add64 rfl rfl (by omega) (by omega)) rfl ?_ | refine RE.x (op_sub64 rfl rfl (by omega) (by omega)) rfl ?_ | refine RE.x (op_eql_s rfl rfl) rfl ?_ | refine RE.x (op_neq_s rfl rfl) rfl ?_ | refine RE.want rfl rfl ?_ | refine RE.nox rfl rfl rfl rfl ?_ | refine RE.nou rfl rfl rfl ?_ | refine RE.nilx (show CE _ _ _ _ _ _ _ from ?_) | refine CE.block ?_ | refine CE.scope ?_ | refine CE.label (show CE _ _ _ _ _ _ _ from ?_) | refine CE.skip (show CE _ _ _ _ _ _ _ from ?_) | refine CE.exit (show CE _ _ _ _ _ _ _ from ?_) | refine CE.cond_t rfl ?_ | refine CE.cond_f rfl ?_)
                refine RE.xc en94 rfl rfl (crlf_fn hx7.lx) ?_
                rintro _ w8 ⟨rfl, h8⟩
                rw [hcr8] at h8
                have hx8 := hx7.keep h8 rfl rfl rfl hq8
                have hi8 := hi7.trans (LI.of_lm h8 rfl)
                repeat (first | refine CE.seq ?_ | refine CE.text ?_ | refine RE.x (op_move rfl) rfl ?_ | refine RE.x (op_assign rfl) rfl ?_ | refine RE.x (op_nil rfl) rfl ?_ | refine RE.x (op_fieldAddr0 rfl rfl) rfl ?_ | refine RE.x (op_fieldAddr rfl rfl) rfl ?_ | refine RE.x (op_eql rfl rfl) rfl ?_ | refine RE.x (op_neq rfl rfl) rfl ?_ | refine RE.x (op_lss rfl rfl) rfl ?_ | refine RE.x (op_leq rfl rfl) rfl ?_ | refine RE.x (op_gtr rfl rfl) rfl ?_ | refine RE.x (op_geq rfl rfl) rfl ?_ | refine RE.x (op_not_d rfl) rfl ?_ | refine RE.x (op_not rfl) rfl ?_ | refine RE.x (op_len_sl rfl rfl) rfl ?_ | refine RE.x (op_len_s rfl Tryz.underlying9) rfl ?_ | refine RE.x (op_extract rfl rfl) rfl ?_ | refine RE.x (op_pick_t rfl rfl rfl) rfl ?_ | refine RE.x (op_pick_f rfl rfl) rfl ?_ | refine RE.x (op_add64 rfl rfl (by omega) (by omega)) rfl ?_ | refine RE.x (op_sub64 rfl rfl (by omega) (by omega)) rfl ?_ | refine RE.x (op_eql_s rfl rfl) rfl ?_ | refine RE.x (op_neq_s rfl rfl) rfl ?_ | refine RE.want rfl rfl ?_ | refine RE.nox rfl rfl rfl rfl ?_ | refine RE.nou rfl rfl rfl ?_ | refine RE.nilx (show CE _ _ _ _ _ _ _ from ?_) | refine CE.block ?_ | refine CE.scope ?_ | refine CE.label (show CE _ _ _ _ _ _ _ from ?_) | refine CE.skip (show CE _ _ _ _ _ _ _ from ?_) | refine CE.exit (show CE _ _ _ _ _ _ _ from ?_) | refine CE.cond_t rfl ?_ | refine CE.cond_f rfl ?_)
                refine RE.xc en95 rfl rfl (ignore_fn hx8.lx.at_) ?_
                rintro _ w9 ⟨rfl, h9⟩
                have hx9 := hx8.keep h9 rfl rfl rfl hq8
                have hi9 := hi8.trans (LI.of_lm h9 rfl)
                repeat (first | refine CE.seq ?_ | refine CE.text ?_ | refine RE.x (op_move rfl) rfl ?_ | refine RE.x (op_assign rfl) rfl ?_ | refine RE.x (op_nil rfl) rfl ?_ | refine RE.x (op_fieldAddr0 rfl rfl) rfl ?_ | refine RE.x (op_fieldAddr rfl rfl) rfl ?_ | refine RE.x (op_eql rfl rfl) rfl ?_ | refine RE.x (op_neq rfl rfl) rfl ?_ | refine RE.x (op_lss rfl rfl) rfl ?_ | refine RE.x (op_leq rfl rfl) rfl ?_ | refine RE.x (op_gtr rfl rfl) rfl ?_ | refine RE.x (op_geq rfl rfl) rfl ?_ | refine RE.x (op_not_d rfl) rfl ?_ | refine RE.x (op_not rfl) rfl ?_ | refine RE.x (op_len_sl rfl rfl) rfl ?_ | refine RE.x (op_len_s rfl Tryz.underlying9) rfl ?_ | refine RE.x (op_extract rfl rfl) rfl ?_ | refine RE.x (op_pick_t rfl rfl rfl) rfl ?_ | refine RE.x (op_pick_f rfl rfl) rfl ?_ | refine RE.x (op_add64 rfl rfl (by omega) (by omega)) rfl ?_ | refine RE.x (op_sub64 rfl rfl (by omega) (by omega)) rfl ?_ | refine RE.x (op_eql_s rfl rfl) rfl ?_ | refine RE.x (op_neq_s rfl rfl) rfl ?_ | refine RE.want rfl rfl ?_ | refine RE.nox rfl rfl rfl rfl ?_ | refine RE.nou rfl rfl rfl ?_ | refine RE.nilx (show CE _ _ _ _ _ _ _ from ?_) | refine CE.block ?_ | refine CE.scope ?_ | refine CE.label (show CE _ _ _ _ _ _ _ from ?_) | refine CE.skip (show CE _ _ _ _ _ _ _ from ?_) | refine CE.exit (show CE _ _ _ _ _ _ _ from ?_) | refine CE.cond_t rfl ?_ | refine CE.cond_f rfl ?_)
                refine CE.exit ?_
                rw [hA2]
                refine ⟨rfl, rfl, wd8, it, ?_, ?_⟩
                · rw [hwd4] at hi9
                  exact hi9
                · have hst : x'.start = q := by rw [hwd4]; rfl
                  rw [hst] at hx9
                  rw [hwd4] at hx9
                  exact hx9
              · refine CE.skip ?_
                refine ⟨rfl, ⟨rfl, rfl, rfl, rfl, rfl, trivial⟩, hx4.ext e5, hi4.ext_r e5, hap4.li (LI.ext_l e5 (LI.refl (hx4.lx.at_.ext e5))), ?_, hmeas⟩
                rw [fmFind]
                rcases hcase with ⟨hb, hxx⟩ | ⟨hb, hin, hxx, hr⟩
                · subst hb; subst hxx
                  rw [if_pos rfl, if_neg (by rw [hpre]; simp)]
                · subst hb; subst hxx
                  rw [if_neg (by simp), dif_pos hin, if_neg]
                  · rfl
                  · have hpre' : pre d (List.drop (x.pos + (nx t x.pos).2) t) = false := hpre
                    rw [hpre']; simp
            · refine CE.skip ?_
              refine ⟨rfl, ⟨rfl, rfl, rfl, rfl, rfl, trivial⟩, hx4, hi4, hap4, ?_, hmeas⟩
              rw [fmFind]
              rcases hcase with ⟨hb, hxx⟩ | ⟨hb, hin, hxx, hr⟩
              · subst hb; simp at htt
              · subst hb; subst hxx
                rw [if_neg (by simp), dif_pos hin, if_neg]
                · rfl
                · simp only [Bool.false_or, hr] at htt
                  rw [htt]; simp
        · rintro s _ w5 ⟨rfl, hs5, hx5, hi5, hap5, hff5, hlt⟩
          refine CE.sub hs5 ?_
          repeat (first | refine CE.seq ?_ | refine CE.text ?_ | refine RE.x (op_move rfl) rfl ?_ | refine RE.x (op_assign rfl) rfl ?_ | refine RE.x (op_nil rfl) rfl ?_ | refine RE.x (op_fieldAddr0 rfl rfl) rfl ?_ | refine RE.x (op_fieldAddr rfl rfl) rfl ?_ | refine RE.x (op_eql rfl rfl) rfl ?_ | refine RE.x (op_neq rfl rfl) rfl ?_ | refine RE.x (op_lss rfl rfl) rfl ?_ | refine RE.x (op_leq rfl rfl) rfl ?_ | refine RE.x (op_gtr rfl rfl) rfl ?_ | refine RE.x (op_geq rfl rfl) rfl ?_ | refine RE.x (op_not_d rfl) rfl ?_ | refine RE.x (op_not rfl) rfl ?_ | refine RE.x (op_len_sl rfl rfl) rfl ?_ | refine RE.x (op_len_s rfl Tryz.underlying9) rfl ?_ | refine RE.x (op_extract rfl rfl) rfl ?_ | refine RE.x (op_pick_t rfl rfl rfl) rfl ?_ | refine RE.x (op_pick_f rfl rfl) rfl ?_ | refine RE.x (op_add64 rfl rfl (by omega) (by omega)) rfl ?_ | refine RE.x (op_sub64 rfl rfl (by omega) (by omega)) rfl ?_ | refine RE.x (op_eql_s rfl rfl) rfl ?_ | refine RE.x (op_neq_s rfl rfl) rfl ?_ | refine RE.want rfl rfl ?_ | refine RE.nox rfl rfl rfl rfl ?_ | refine RE.nou rfl rfl rfl ?_ | refine RE.nilx (show CE _ _ _ _ _ _ _ from ?_) | refine CE.block ?_ | refine CE.scope ?_ | refine CE.label (show CE _ _ _ _ _ _ _ from ?_) | refine CE.skip (show CE _ _ _ _ _ _ _ from ?_) | refine CE.exit (show CE _ _ _ _ _ _ _ from ?_) | refine CE.cond_t rfl ?_ | refine CE.cond_f rfl ?_)
          refine RE.nilx ?_
          exact ⟨(false, r', x'), by simpa using hlt, rfl, ⟨rfl, rfl, rfl, rfl, rfl, rfl, trivial⟩, hx5, hi5, hap5, ⟨wd4, hwd4⟩, by rw [← hff, hff5]⟩
    · rintro s _ w3 ⟨rfl, hA1, haf⟩
      repeat (first | refine CE.seq ?_ | refine CE.text ?_ | refine RE.x (op_move rfl) rfl ?_ | refine RE.x (op_assign rfl) rfl ?_ | refine RE.x (op_nil rfl) rfl ?_ | refine RE.x (op_fieldAddr0 rfl rfl) rfl ?_ | refine RE.x (op_fieldAddr rfl rfl) rfl ?_ | refine RE.x (op_eql rfl rfl) rfl ?_ | refine RE.x (op_neq rfl rfl) rfl ?_ | refine RE.x (op_lss rfl rfl) rfl ?_ | refine RE.x (op_leq rfl rfl) rfl ?_ | refine RE.x (op_gtr rfl rfl) rfl ?_ | refine RE.x (op_geq rfl rfl) rfl ?_ | refine RE.x (op_not_d rfl) rfl ?_ | refine RE.x (op_not rfl) rfl ?_ | refine RE.x (op_len_sl rfl rfl) rfl ?_ | refine RE.x (op_len_s rfl Tryz.underlying9) rfl ?_ | refine RE.x (op_extract rfl rfl) rfl ?_ | refine RE.x (op_pick_t rfl rfl rfl) rfl ?_ | refine RE.x (op_pick_f rfl rfl) rfl ?_ | refine RE.x (op_add64 rfl rfl (by omega) (by omega)) rfl ?_ | refine RE.x (op_sub64 rfl rfl (by omega) (by omega)) rfl ?_ | refine RE.x (op_eql_s rfl rfl) rfl ?_ | refine RE.x (op_neq_s rfl rfl) rfl ?_ | refine RE.want rfl rfl ?_ | refine RE.nox rfl rfl rfl rfl ?_ | refine RE.nou rfl rfl rfl ?_ | refine RE.nilx (show CE _ _ _ _ _ _ _ from ?_) | refine CE.block ?_ | refine CE.scope ?_ | refine CE.label (show CE _ _ _ _ _ _ _ from ?_) | refine CE.skip (show CE _ _ _ _ _ _ _ from ?_) | refine CE.exit (show CE _ _ _ _ _ _ _ from ?_) | refine CE.cond_t rfl ?_ | refine CE.cond_f rfl ?_)
      (refine CE.ret ?_; (try dsimp only); refine ret1 rfl rfl ?_)
      rw [hA1]
      exact ⟨rfl, haf⟩
end Go.Wk
