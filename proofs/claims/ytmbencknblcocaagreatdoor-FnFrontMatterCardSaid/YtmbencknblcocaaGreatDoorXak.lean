/- Front matter without its end: the law. -/
import Derived.Test.YtmbencknblcocaaGreatDoorXaj
namespace Go.Wk
open Go Go.RowKit Go.Proofs
set_option maxRecDepth 100000

/-- A page whose front matter fails: one error item. -/
theorem runs_bad {t : List UInt8} {d : Bool} {lo hi : Nat} (h : inOut t 0 0 = (.nilFunc, hi, lo, [PI.bad t lo hi])) : Runs t false d [PI.bad t lo hi] := by
  intro B ib L mb ia da il ic dl dc items H w hls hhf hm hmb _
  refine Fn.mono (run_fn (fun b : Bool => if b then some 41 else none)
    (fun b c w' => (b = true → LS L ib B t bs103 c [] w' ∧ c.start = 0 ∧ c.pos = 0) ∧ (b = false → LS L ib B t bs103 c [PI.bad t lo hi] w') ∧ c.err = .nilIface ∧ Below B w w')
    (fun b => if b then 1 else 0) true (c := LC.ini ia il ic (fnV 41) false d da dl dc (.map (some mb)) items H) ⟨fun _ => ⟨hls, rfl, rfl⟩, fun h => (by cases h), rfl, Below.refl _ _⟩ rfl ?_ ?_ ?_) ?_
  · intro b c w' ⟨h1, h2, _⟩
    cases b with
    | true => exact (h1 rfl).1.lx.at_
    | false => exact (h2 rfl).lx.at_
  · intro b c w1 w2 v ⟨h1, h2, h3, h4⟩ hlm
    refine ⟨fun hb => ?_, fun hb => ?_, h3, ?_⟩
    · obtain ⟨g1, g2, g3⟩ := h1 hb
      exact ⟨g1.keep hlm rfl rfl rfl g1.lx.pos, g2, g3⟩
    · exact (h2 hb).keep hlm rfl rfl rfl (h2 hb).lx.pos
    · have hB : B ≤ L := hls.lx.base
      have hlt := hls.lx.at_.lt
      exact h4.trans (hlm.below hB (by have := h4.size; omega))
  · intro b c w1 f ⟨h1, h2, h3, h4⟩ hf
    cases b with
    | false => cases hf
    | true =>
      cases hf
      obtain ⟨g1, g2, g3⟩ := h1 rfl
      refine ⟨en41, Fn.mono (intro_fn g1 (by decide)) ?_⟩
      rintro u w2 ⟨rfl, wd, it, hi1, hi2⟩
      rw [g2, g3, h] at *
      refine ⟨false, { c with pos := hi, start := lo, width := wd, items := it }, rfl, ⟨fun h => (by cases h), fun _ => ?_, h3, ?_⟩, by decide⟩
      · exact hi2
      · refine h4.trans (hi1.fr.below (by have := h4.size; have := hls.lx.at_.lt; have := hls.lx.base; omega) ?_)
        rintro k (e | e)
        · subst e; exact hls.lx.base
        · obtain ⟨xs, ho, _⟩ := g1.own
          exact (ho.lt k e).1
  · rintro u w' ⟨rfl, b, c, hb, h1, h2, h3, h4⟩
    cases b with
    | true => cases hb
    | false => exact ⟨rfl, c, bs103, h2 rfl, h3, h4⟩
end Go.Wk
namespace Go.Wk
open Go Go.RowKit Go.Proofs
set_option maxRecDepth 100000

theorem nx_ascii {t : List UInt8} {p : Nat} {b : UInt8} (h : t[p]? = some b) (hb : b.toNat < 128) : nx t p = ((b.toNat : Int), 1) := by
  have hp := (List.getElem?_eq_some_iff.1 h).1
  have h0 : (t.drop p).getD 0 0 = b := by simp [List.getD, List.getElem?_drop, h]
  rw [nx_in hp, Lib.decodeL_N, h0, Lib.decodeN_ascii _ _ _ _ _ hb]

theorem nx_small {t : List UInt8} {p : Nat} {r : Nat} (h : (nx t p).1 = (r : Int)) (hr : r < 128) : ∃ b, t[p]? = some b ∧ b.toNat = r := by
  rcases Nat.lt_or_ge p t.length with hp | hp
  · refine ⟨t[p], by simp [hp], ?_⟩
    have h0 : (t.drop p).getD 0 0 = t[p] := by simp [List.getD, List.getElem?_drop, hp]
    rw [nx_in hp, Lib.decodeL_N, h0] at h
    dsimp only at h
    rcases Lib.decodeN_shape (t.drop p).length (t[p]).toNat ((t.drop p).getD 1 0).toNat ((t.drop p).getD 2 0).toNat ((t.drop p).getD 3 0).toNat with ⟨c, e⟩ | ⟨c1, c2, c3, cv, e⟩ | ⟨c1, c2, c3, c4, cv, cs, e⟩ | ⟨c1, c2, c3, c4, c5, cv, cw, e⟩ | e
    all_goals (rw [e] at h; dsimp only at h; omega)
  · rw [nx_end hp] at h
    have : (-1 : Int) = (r : Int) := h
    omega

theorem fnd_none {x l : List UInt8} : ∀ (d i : Nat), l.length + 1 - i = d → fnd x l i = -1 → ∀ j, i ≤ j → j + x.length ≤ l.length → (l.drop j).take x.length ≠ x := by
  intro d
  induction d using Nat.strongRecOn with
  | _ d ih =>
    intro i hd h j hj hjl
    rw [fnd] at h
    split at h
    · split at h
      · omega
      · rename_i hne
        by_cases hij : i = j
        · subst hij; exact hne
        · exact ih (l.length + 1 - (i + 1)) (by omega) (i + 1) rfl h j (by omega) hjl
    · omega

theorem hasS_none {l x : List UInt8} (h : hasS l x = false) : ∀ j, j + x.length ≤ l.length → (l.drop j).take x.length ≠ x := fun j hj => by
  unfold hasS at h
  exact fnd_none _ 0 rfl (by simpa using h) j (Nat.zero_le _) hj

theorem pre_take {p l : List UInt8} (h : pre p l = true) : l.take p.length = p ∧ p.length ≤ l.length := by
  have h1 := of_decide_eq_true h
  refine ⟨h1, ?_⟩
  have := congrArg List.length h1
  simp at this
  omega

/-- No end of the front matter from here on. -/
theorem fmFind_none {t d : List UInt8} (hr : ∀ p : Nat, t[p]? ≠ some 13) (hn : ∀ p : Nat, t[p]? = some 10 → 4 ≤ p → pre d (t.drop (p + 1)) = false) :
    ∀ (n p : Nat), t.length - p = n → 4 ≤ p → fmFind t d false p = none := by
  intro n
  induction n using Nat.strongRecOn with
  | _ n ih =>
    intro p hpn hp4
    rw [fmFind]
    rw [if_neg (by decide)]
    by_cases hp : p < t.length
    · rw [dif_pos hp]
      have hw := nx_pos t hp
      rw [if_neg]
      · exact ih (t.length - (p + (nx t p).2)) (by omega) _ rfl (by omega)
      · intro h
        simp only [Bool.and_eq_true] at h
        obtain ⟨h1, h2⟩ := h
        unfold isEol at h1
        simp only [Bool.or_eq_true, decide_eq_true_eq] at h1
        rcases h1 with h1 | h1
        · obtain ⟨b, hb, hv⟩ := nx_small (r := 13) h1 (by decide)
          have : b = 13 := UInt8.toNat_inj.1 hv
          subst this
          exact hr p hb
        · obtain ⟨b, hb, hv⟩ := nx_small (r := 10) h1 (by decide)
          have : b = 10 := UInt8.toNat_inj.1 hv
          subst this
          have hw1 : (nx t p).2 = 1 := by rw [nx_ascii hb (by decide)]
          rw [hw1, hn p hb hp4] at h2
          cases h2
    · rw [dif_neg hp]

theorem unended (c : UInt8) (tp : Int) (m : List UInt8) (hc : c.toNat = 43 ∧ tp = 4 ∨ c.toNat = 45 ∧ tp = 3) (h1 : begS m 0 [c, c, c] = false) (h2 : hasS m [10, c, c, c] = false) (h3 : hasS m [13] = false) :
    ∃ lo hi, inOut (c :: c :: c :: 10 :: m) 0 0 = (.nilFunc, hi, lo, [PI.bad (c :: c :: c :: 10 :: m) lo hi]) ∧ lo ≤ hi ∧ hi ≤ (c :: c :: c :: 10 :: m).length := by
  generalize ht : (c :: c :: c :: 10 :: m) = t
  have hc128 : c.toNat < 128 := by omega
  have n0 : nx t 0 = ((c.toNat : Int), 1) := nx_ascii (by rw [← ht]; rfl) hc128
  have n1 : nx t 1 = ((c.toNat : Int), 1) := nx_ascii (by rw [← ht]; rfl) hc128
  have n2 : nx t 2 = ((c.toNat : Int), 1) := nx_ascii (by rw [← ht]; rfl) hc128
  have n3 : nx t 3 = (10, 1) := nx_ascii (b := 10) (by rw [← ht]; rfl) (by decide)
  have hdrop : ∀ k, t.drop (4 + k) = m.drop k := by intro k; rw [← ht]; rw [Nat.add_comm]; rfl
  have hcr : crE t 3 = (4, true) := by
    have e : (if (nx t 3).1 = 13 then 3 + (nx t 3).2 else 3) = 3 := by rw [n3]; rfl
    unfold crE
    dsimp only
    rw [e, n3]
    rfl
  have hpre : pre [c, c, c] m = false := by
    cases h : pre [c, c, c] m with
    | false => rfl
    | true =>
      obtain ⟨g1, g2⟩ := pre_take h
      have : begS m 0 [c, c, c] = true := by
        unfold begS
        simp only [List.drop_zero, g1, decide_true, Bool.and_true]
        simpa using g2
      rw [h1] at this; cases this
  have hfm : fmFind t [c, c, c] true 4 = none := by
    rw [fmFind, if_pos rfl, if_neg]
    · refine fmFind_none ?_ ?_ _ 4 rfl (Nat.le_refl _)
      · intro p hp
        have hlt := (List.getElem?_eq_some_iff.1 hp).1
        rcases Nat.lt_or_ge p 4 with h4 | h4
        · rw [← ht] at hp
          have : p = 0 ∨ p = 1 ∨ p = 2 ∨ p = 3 := by omega
          rcases this with rfl | rfl | rfl | rfl
          · have h13 : c = 13 := by simpa using hp
            have : c.toNat = 13 := by rw [h13]; rfl
            omega
          · have h13 : c = 13 := by simpa using hp
            have : c.toNat = 13 := by rw [h13]; rfl
            omega
          · have h13 : c = 13 := by simpa using hp
            have : c.toNat = 13 := by rw [h13]; rfl
            omega
          · simp at hp
        · obtain ⟨k, rfl⟩ : ∃ k, p = 4 + k := ⟨p - 4, by omega⟩
          have hk : m[k]? = some 13 := by
            have := hdrop k
            have h0 : (t.drop (4 + k))[0]? = some 13 := by rw [List.getElem?_drop]; exact hp
            rw [this, List.getElem?_drop] at h0
            simpa using h0
          have hkl := (List.getElem?_eq_some_iff.1 hk).1
          refine hasS_none h3 k (by simp; omega) ?_
          rw [List.drop_eq_getElem_cons hkl]
          have := (List.getElem?_eq_some_iff.1 hk).2
          simp [this]
      · intro p hp hp4
        obtain ⟨k, rfl⟩ : ∃ k, p = 4 + k := ⟨p - 4, by omega⟩
        have hk : m[k]? = some 10 := by
          have := hdrop k
          have h0 : (t.drop (4 + k))[0]? = some 10 := by rw [List.getElem?_drop]; exact hp
          rw [this, List.getElem?_drop] at h0
          simpa using h0
        have hkl := (List.getElem?_eq_some_iff.1 hk).1
        have hv := (List.getElem?_eq_some_iff.1 hk).2
        rw [show 4 + k + 1 = 4 + (k + 1) by omega, hdrop]
        cases h : pre [c, c, c] (m.drop (k + 1)) with
        | false => rfl
        | true =>
          exfalso
          obtain ⟨g1, g2⟩ := pre_take h
          simp at g2
          refine hasS_none h2 k (by simp; omega) ?_
          rw [List.drop_eq_getElem_cons hkl, hv]
          show 10 :: (m.drop (k + 1)).take 3 = _
          rw [show (m.drop (k + 1)).take 3 = [c, c, c] from g1]
    · rw [show t.drop 4 = m by rw [← ht]; rfl, hpre]
      decide
  have hsk : skipTo notSp t 0 = 0 := by
    refine skipTo_stop (Or.inr ?_)
    rw [n0]
    rcases hc with ⟨hc, _⟩ | ⟨hc, _⟩ <;> rw [hc] <;> rfl
  have hlen : 4 ≤ t.length := by rw [← ht]; simp
  refine ⟨4, t.length, ?_, hlen, Nat.le_refl _⟩
  have hout : fmOut t [c, c, c] tp (c.toNat : Int) 0 1 = (false, t.length, 4, [PI.bad t 4 t.length]) := by
    simp only [fmOut, n1, n2, hcr, hfm]
    simp
  unfold inOut
  rw [hsk]
  simp only [n0]
  rcases hc with ⟨hc, rfl⟩ | ⟨hc, rfl⟩
  · have hcc : c = 43 := UInt8.toNat_inj.1 hc
    subst hcc
    rw [if_neg (by decide), if_pos (by decide)]
    have hout' : fmOut t bs70 4 43 0 (0 + 1) = (false, t.length, 4, [PI.bad t 4 t.length]) := hout
    rw [hout']
    rfl
  · have hcc : c = 45 := UInt8.toNat_inj.1 hc
    subst hcc
    rw [if_neg (by decide), if_neg (by decide), if_pos (by decide)]
    have hout' : fmOut t bs71 3 45 0 (0 + 1) = (false, t.length, 4, [PI.bad t 4 t.length]) := hout
    rw [hout']
    rfl
end Go.Wk
namespace Go.Wk
open Go Go.RowKit Go.Proofs
set_option maxRecDepth 100000

theorem errs_fn {B : Nat} {t : List UInt8} {f d : Bool} {ps : List PI} {w : World} (hr : Runs t (!f) (!d) ps) (hT : TabsB B w) (hB : B ≤ w.heap.size) (ht : t.length ≤ 100000) (hn : ps.length ≤ 1000000) (hne : ps ≠ [])
    (hg : ∀ p ∈ ps, p.segs = [] ∧ p.lo ≤ p.hi ∧ p.hi ≤ t.length) (hz : ∀ p, ps.getLast? = some p → p.ty = 0) (hsh : shapeB t (ps.map (told t)) = true) :
    Fn PT 17 [S t, .bool f, .bool d] w (fun u w' => u = .bool true ∧ Ext w w') := by
  refine fn_of Tryz.func17 rfl Tryz.ntmps17 rfl ?_
  repeat (first | refine CE.seq ?_ | refine CE.text ?_ | refine RE.x (op_move rfl) rfl ?_ | refine RE.x (op_assign rfl) rfl ?_ | refine RE.x (op_gtr rfl rfl) rfl ?_ | refine RE.x (op_len_s rfl Tryz.underlying9) rfl ?_ | refine RE.nilx (show CE _ _ _ _ _ _ _ from ?_))
  refine CE.cond_d rfl (fun h1 => ?_) (fun h1 => ?_)
  · repeat (first | refine CE.seq ?_ | refine CE.text ?_ | refine RE.x (op_assign rfl) rfl ?_ | refine RE.nilx (show CE _ _ _ _ _ _ _ from ?_))
    (refine CE.ret ?_; (try dsimp only); refine ret1 rfl rfl ?_)
    exact ⟨rfl, Ext.refl _⟩
  refine CE.skip (show CE _ _ _ _ _ _ _ from ?_)
  repeat (first | refine CE.seq ?_ | refine CE.text ?_ | refine RE.x (op_move rfl) rfl ?_)
  refine RE.xc en12 rfl rfl (parse_fn hr hT hB (by omega) hn hg) ?_
  rintro v w1 ⟨hv, e1⟩
  obtain ⟨a0, cap0, hv0⟩ := hv.len0
  subst hv0
  have hlen : (ps.map (told t)).length = ps.length := by simp
  repeat (first | refine CE.seq ?_ | refine CE.text ?_ | refine RE.x (op_move rfl) rfl ?_ | refine RE.x (op_assign rfl) rfl ?_ | refine RE.nilx (show CE _ _ _ _ _ _ _ from ?_))
  have hxb : ∀ x ∈ ps.map (told t), x.pos ≤ 1000000 ∧ x.text.length ≤ 1000000 := by
    intro x hx
    obtain ⟨p, hp, rfl⟩ := List.mem_map.1 hx
    obtain ⟨g1, g2, g3⟩ := hg p hp
    have hpos : p.pos = p.lo := by unfold PI.pos; rw [g1]
    have htx : ptext t p = (t.drop p.lo).take (p.hi - p.lo) := by unfold ptext; rw [g1]
    constructor
    · show p.pos ≤ 1000000
      omega
    · show (ptext t p).length ≤ 1000000
      rw [htx]
      simp
      omega
  refine RE.xc en19 rfl rfl (shape_fn hv (by omega) (by omega) hxb) ?_
  rintro _ w2 ⟨rfl, e2⟩
  rw [hsh]
  have hpl : 0 < ps.length := by cases ps with | nil => exact absurd rfl hne | cons _ _ => simp
  obtain ⟨g, cap, cur, hv', hg', hcur⟩ := hv.item (k := ps.length - 1) (by omega)
  cases hv'
  have hg2 := e2.block hg'
  have hty : ((ps.map (told t))[ps.length - 1]'(by omega)).ty = 0 := by
    have h2 : ps.getLast? = some (ps[ps.length - 1]'(by omega)) := by rw [List.getLast?_eq_getElem?]; simp
    simp only [List.getElem_map]
    exact hz _ h2
  have hcell : w2.cell? ⟨g, 0 + (((ps.map (told t)).length : Int) - 1).toNat * 5, none⟩ = some (I 0) := by
    have e0 : 0 + (((ps.map (told t)).length : Int) - 1).toNat * 5 = (ps.length - 1) * 5 := by omega
    rw [e0]
    refine cell_of hg2 ?_
    have h3 : ((cur.toList.drop ((ps.length - 1) * 5)).take 5)[0]? = some (I 0) := by rw [hcur]; simp only [RI.lst]; rw [hty]; rfl
    rw [List.getElem?_take, if_pos (by decide), List.getElem?_drop] at h3
    simpa using h3
  repeat (first | refine RE.x (op_move rfl) rfl ?_ | refine RE.x (op_len_sl rfl rfl) rfl ?_ | refine RE.x (op_sub64 rfl rfl (by omega) (by omega)) rfl ?_ | refine RE.want rfl rfl ?_)
  refine RE.x (op_indexAddr rfl rfl rfl (by omega) (by omega)) rfl ?_
  repeat (first | refine RE.x (op_fieldAddr rfl rfl) rfl ?_ | refine RE.want rfl rfl ?_)
  refine RE.x (op_load rfl rfl hcell) rfl ?_
  repeat (first | refine RE.x (op_assign rfl) rfl ?_ | refine RE.x (op_eql rfl rfl) rfl ?_ | refine RE.x (op_pick_t rfl rfl rfl) rfl ?_ | refine RE.want rfl rfl ?_ | refine RE.nilx (show CE _ _ _ _ _ _ _ from ?_))
  (refine CE.ret ?_; (try dsimp only); refine ret1 rfl rfl ?_)
  exact ⟨rfl, e1.trans e2⟩

theorem unended_fn {B : Nat} {toml : Bool} {m : List UInt8} {w : World} (hT : TabsB B w) (hB : B ≤ w.heap.size) : Fn PT 4 [.bool toml, S m] w (fun u w' => u = .bool true ∧ Ext w w') := by
  refine fn_of Tryz.func4 rfl Tryz.ntmps4 rfl ?_
  repeat (first | refine CE.seq ?_ | refine CE.text ?_ | refine RE.x (op_move rfl) rfl ?_ | refine RE.x (op_assign rfl) rfl ?_ | refine RE.x (op_gtr rfl rfl) rfl ?_ | refine RE.x (op_len_s rfl Tryz.underlying9) rfl ?_ | refine RE.nilx (show CE _ _ _ _ _ _ _ from ?_))
  refine CE.cond_d rfl (fun h1 => ?_) (fun h1 => ?_)
  · repeat (first | refine CE.seq ?_ | refine CE.text ?_ | refine RE.x (op_assign rfl) rfl ?_ | refine RE.nilx (show CE _ _ _ _ _ _ _ from ?_))
    (refine CE.ret ?_; (try dsimp only); refine ret1 rfl rfl ?_)
    exact ⟨rfl, Ext.refl _⟩
  refine CE.skip (show CE _ _ _ _ _ _ _ from ?_)
  repeat (first | refine CE.seq ?_ | refine CE.text ?_ | refine RE.x (op_move rfl) rfl ?_)
  refine RE.xc en9 rfl rfl (fence_fn toml w) ?_
  rintro _ w1 ⟨rfl, hw⟩
  subst hw
  repeat (first | refine CE.seq ?_ | refine CE.text ?_ | refine RE.x (op_move rfl) rfl ?_ | refine RE.x (op_assign rfl) rfl ?_ | refine RE.x (op_gtr rfl rfl) rfl ?_ | refine RE.x (op_len_s rfl Tryz.underlying9) rfl ?_ | refine RE.nilx (show CE _ _ _ _ _ _ _ from ?_))
  refine RE.splitD (fun h2 => ?_) (fun h2 => ?_)
  · repeat (first | refine RE.x (op_move rfl) rfl ?_ | refine RE.x (op_pick_t rfl rfl rfl) rfl ?_ | refine RE.nox rfl rfl rfl rfl ?_ | refine RE.nilx (show CE _ _ _ _ _ _ _ from ?_))
    refine CE.cond_t rfl ?_
    repeat (first | refine CE.seq ?_ | refine CE.text ?_ | refine RE.x (op_assign rfl) rfl ?_ | refine RE.nilx (show CE _ _ _ _ _ _ _ from ?_))
    (refine CE.ret ?_; (try dsimp only); refine ret1 rfl rfl ?_)
    exact ⟨rfl, Ext.refl _⟩
  have hml : m.length ≤ 65536 := by omega
  obtain ⟨c, hcf, hcc⟩ : ∃ c : UInt8, (if toml then [43, 43, 43] else [45, 45, 45]) = [c, c, c] ∧ (toml = true ∧ c = 43 ∨ toml = false ∧ c = 45) := by
    cases toml
    · exact ⟨45, rfl, Or.inr ⟨rfl, rfl⟩⟩
    · exact ⟨43, rfl, Or.inl ⟨rfl, rfl⟩⟩
  rw [hcf]
  repeat (first | refine RE.x (op_move rfl) rfl ?_ | refine RE.want rfl rfl ?_)
  refine RE.xc en10 rfl rfl (begins_fn (i := 0) (by omega) (by simp) (by decide)) ?_
  rintro _ w2 ⟨rfl, hw⟩
  subst hw
  repeat (first | refine RE.x (op_move rfl) rfl ?_ | refine RE.x (op_pick_f rfl rfl) rfl ?_)
  refine RE.splitH (fun h3 => ?_) (fun h3 => ?_)
  · repeat (first | refine RE.x (op_move rfl) rfl ?_ | refine RE.x (op_pick_t rfl rfl rfl) rfl ?_ | refine RE.nox rfl rfl rfl rfl ?_ | refine RE.nilx (show CE _ _ _ _ _ _ _ from ?_))
    refine CE.cond_t rfl ?_
    repeat (first | refine CE.seq ?_ | refine CE.text ?_ | refine RE.x (op_assign rfl) rfl ?_ | refine RE.nilx (show CE _ _ _ _ _ _ _ from ?_))
    (refine CE.ret ?_; (try dsimp only); refine ret1 rfl rfl ?_)
    exact ⟨rfl, Ext.refl _⟩
  repeat (first | refine RE.x (op_move rfl) rfl ?_ | refine RE.want rfl rfl ?_)
  refine RE.x (op_add_s (a := [10]) rfl rfl (by simp)) rfl ?_
  repeat (refine RE.want rfl rfl ?_)
  refine RE.xc en11 rfl rfl (has_fn (x := [10] ++ [c, c, c]) (by omega) (by simp)) ?_
  rintro _ w3 ⟨rfl, hw⟩
  subst hw
  repeat (first | refine RE.x (op_move rfl) rfl ?_ | refine RE.x (op_pick_f rfl rfl) rfl ?_)
  refine RE.splitH (fun h4 => ?_) (fun h4 => ?_)
  · repeat (first | refine RE.x (op_pick_t rfl rfl rfl) rfl ?_ | refine RE.nox rfl rfl rfl rfl ?_ | refine RE.nilx (show CE _ _ _ _ _ _ _ from ?_))
    refine CE.cond_t rfl ?_
    repeat (first | refine CE.seq ?_ | refine CE.text ?_ | refine RE.x (op_assign rfl) rfl ?_ | refine RE.nilx (show CE _ _ _ _ _ _ _ from ?_))
    (refine CE.ret ?_; (try dsimp only); refine ret1 rfl rfl ?_)
    exact ⟨rfl, Ext.refl _⟩
  repeat (first | refine RE.x (op_move rfl) rfl ?_ | refine RE.want rfl rfl ?_)
  refine RE.xc en11 rfl rfl (has_fn (x := [13]) (by omega) (by decide)) ?_
  rintro _ w4 ⟨rfl, hw⟩
  subst hw
  repeat (first | refine RE.x (op_pick_f rfl rfl) rfl ?_ | refine RE.nilx (show CE _ _ _ _ _ _ _ from ?_))
  refine CE.cond_s rfl (fun h5 => ?_) (fun h5 => ?_)
  · repeat (first | refine CE.seq ?_ | refine CE.text ?_ | refine RE.x (op_assign rfl) rfl ?_ | refine RE.nilx (show CE _ _ _ _ _ _ _ from ?_))
    (refine CE.ret ?_; (try dsimp only); refine ret1 rfl rfl ?_)
    exact ⟨rfl, Ext.refl _⟩
  refine CE.skip (show CE _ _ _ _ _ _ _ from ?_)
  obtain ⟨lo, hi, hout, hlo, hhi⟩ := unended c (if toml then 4 else 3) m (by rcases hcc with ⟨rfl, rfl⟩ | ⟨rfl, rfl⟩; exact Or.inl ⟨rfl, rfl⟩; exact Or.inr ⟨rfl, rfl⟩) h3 h4 h5
  repeat (first | refine CE.seq ?_ | refine CE.text ?_ | refine RE.x (op_move rfl) rfl ?_)
  refine RE.x (op_add_s (b := [10]) rfl rfl (by simp)) rfl ?_
  repeat (refine RE.x (op_move rfl) rfl ?_)
  refine RE.x (op_add_s rfl rfl (by simp; omega)) rfl ?_
  skip
  have hbp : (PI.bad (c :: c :: c :: 10 :: m) lo hi).segs = [] ∧ (PI.bad (c :: c :: c :: 10 :: m) lo hi).lo = lo ∧ (PI.bad (c :: c :: c :: 10 :: m) lo hi).hi = hi ∧ (PI.bad (c :: c :: c :: 10 :: m) lo hi).ty = 0 ∧ (PI.bad (c :: c :: c :: 10 :: m) lo hi).err = true := by
    unfold PI.bad PI.fix
    split <;> exact ⟨rfl, rfl, rfl, rfl, rfl⟩
  obtain ⟨p1, p2, p3, p4, p5⟩ := hbp
  refine RE.xc en17 rfl rfl (errs_fn (t := c :: c :: c :: 10 :: m) (ps := [PI.bad (c :: c :: c :: 10 :: m) lo hi]) (runs_bad hout) hT hB (by simp; omega) (by simp) (by simp) ?_ ?_ ?_) ?_
  · intro p hp
    simp only [List.mem_singleton] at hp
    subst hp
    rw [p1, p2, p3]
    exact ⟨rfl, hlo, hhi⟩
  · intro p hp
    simp at hp
    subst hp
    exact p4
  · have hb : shBad (c :: c :: c :: 10 :: m) true 0 (told (c :: c :: c :: 10 :: m) (PI.bad (c :: c :: c :: 10 :: m) lo hi)) = false := by
      unfold shBad told tell
      simp only [p4, p5]
      simp
    have hz : (told (c :: c :: c :: 10 :: m) (PI.bad (c :: c :: c :: 10 :: m) lo hi)).ty = 0 := p4
    unfold shapeB
    simp only [List.map_cons, List.map_nil, shGo, List.isEmpty_nil, hb, hz]
    simp
  rintro _ w5 ⟨rfl, e5⟩
  repeat (first | refine RE.x (op_assign rfl) rfl ?_ | refine RE.nilx (show CE _ _ _ _ _ _ _ from ?_))
  (refine CE.ret ?_; (try dsimp only); refine ret1 rfl rfl ?_)
  exact ⟨rfl, e5⟩
end Go.Wk
