/- Front matter without its end: the law. -/
import Derived.Test.YtmbencknblcocaaGreatDoorLw
namespace Go.Wk
open Go Go.RowKit Go.Proofs
set_option maxRecDepth 100000

/-- A page whose front matter fails: one error item. -/
theorem runs_bad {t : List UInt8} {d : Bool} {lo hi : Nat} (h : inOut t 0 0 = (.nilFunc, hi, lo, [PI.bad t lo hi])) : Runs t false d [PI.bad t lo hi] := by
  intro B ib L mb ia da il ic dl dc items H w hls hhf hm hmb
  refine Fn.mono (run_fn (fun b : Bool => if b then some 41 else none)
    (fun b c w' => (b = true → LS L ib B t bs103 c [] w' ∧ c.start = 0 ∧ c.pos = 0) ∧ (b = false → LS L ib B t bs103 c [PI.bad t lo hi] w') ∧ c.err = .nilIface ∧ Below B w w')
    (fun b => if b then 1 else 0) true (c := LC.ini ia il ic (fnV 41) false d da dl dc (.map (some mb)) items H) ⟨fun _ => ⟨hls, rfl, rfl⟩, fun h => (by cases h), rfl, Below.refl _ _⟩ rfl ?_ ?_ ?_) ?_
  · intro b c w' ⟨h1, h2, _⟩
    cases b with
    | true => exact (h1 rfl).1.lx.at_
    | false => exact (h2 rfl).lx.at_
  · intro b c w1 w2 v ⟨h1, h2, h3, h4⟩ hlm
    refine ⟨fun hb => ?_, fun hb => ?_, h3, ?_⟩
    · obtain ⟨g1, g2, g3⟩ := h1 hb
      exact ⟨g1.keep hlm rfl rfl rfl g1.lx.pos, g2, g3⟩
    · exact (h2 hb).keep hlm rfl rfl rfl (h2 hb).lx.pos
    · have hB : B ≤ L := hls.lx.base
      have hlt := hls.lx.at_.lt
      exact h4.trans (hlm.below hB (by have := h4.size; omega))
  · intro b c w1 f ⟨h1, h2, h3, h4⟩ hf
    cases b with
    | false => cases hf
    | true =>
      cases hf
      obtain ⟨g1, g2, g3⟩ := h1 rfl
      refine ⟨en41, Fn.mono (intro_fn g1 (by decide)) ?_⟩
      rintro u w2 ⟨rfl, wd, it, hi1, hi2⟩
      rw [g2, g3, h] at *
      refine ⟨false, { c with pos := hi, start := lo, width := wd, items := it }, rfl, ⟨fun h => (by cases h), fun _ => ?_, h3, ?_⟩, by decide⟩
      · exact hi2
      · refine h4.trans (hi1.fr.below (by have := h4.size; have := hls.lx.at_.lt; have := hls.lx.base; omega) ?_)
        rintro k (e | e)
        · subst e; exact hls.lx.base
        · obtain ⟨xs, ho, _⟩ := g1.own
          exact (ho.lt k e).1
  · rintro u w' ⟨rfl, b, c, hb, h1, h2, h3, h4⟩
    cases b with
    | true => cases hb
    | false => exact ⟨rfl, c, bs103, h2 rfl, h3, h4⟩
end Go.Wk
