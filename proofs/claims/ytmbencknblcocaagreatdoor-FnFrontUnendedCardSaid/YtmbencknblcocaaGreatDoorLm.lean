/- A new lexer. -/
import Derived.Test.YtmbencknblcocaaGreatDoorLl
namespace Go.Wk
open Go Go.RowKit Go.Proofs
set_option maxRecDepth 100000

def LC.ini (ia : Option Addr) (il ic : Nat) (st0 : Value) (nf nd : Bool) (da : Option Addr) (dl dc : Nat) (mp items H : Value) : LC :=
  { ia := ia, il := il, ic := ic, st0 := st0, st := .nilFunc, pos := 0, start := 0, width := 0, H := H, nf := nf, nd := nd, da := da, dl := dl, dc := dc, chk := false, ld := 8, rd := 9, inl := false, name := [], clos := 0, step := 0, par := 0, mp := mp, items := items, err := .nilIface }

theorem delim103t_fn (w : World) : Fn PT 103 [] w (fun v w' => ∃ b, HBk b w' v bs103 ∧ w.heap.size ≤ b ∧ Ext w w' ∧ ∃ cs fr, w'.heap[b]? = some (.cells cs 5 fr)) := by
  refine fn_of Tryz.func103 rfl Tryz.ntmps103 rfl ?_
  repeat (first | refine CE.seq ?_ | refine CE.text ?_ | refine RE.x (op_move rfl) rfl ?_ | refine RE.x (op_assign rfl) rfl ?_ | refine RE.x (op_nil rfl) rfl ?_ | refine RE.x (op_fieldAddr0 rfl rfl) rfl ?_ | refine RE.x (op_fieldAddr rfl rfl) rfl ?_ | refine RE.x (op_eql rfl rfl) rfl ?_ | refine RE.x (op_neq rfl rfl) rfl ?_ | refine RE.x (op_lss rfl rfl) rfl ?_ | refine RE.x (op_leq rfl rfl) rfl ?_ | refine RE.x (op_gtr rfl rfl) rfl ?_ | refine RE.x (op_geq rfl rfl) rfl ?_ | refine RE.x (op_not_d rfl) rfl ?_ | refine RE.x (op_not rfl) rfl ?_ | refine RE.x (op_len_sl rfl rfl) rfl ?_ | refine RE.x (op_len_s rfl Tryz.underlying9) rfl ?_ | refine RE.x (op_extract rfl rfl) rfl ?_ | refine RE.x (op_pick_t rfl rfl rfl) rfl ?_ | refine RE.x (op_pick_f rfl rfl) rfl ?_ | refine RE.x (op_add64 rfl rfl (by omega) (by omega)) rfl ?_ | refine RE.x (op_sub64 rfl rfl (by omega) (by omega)) rfl ?_ | refine RE.x (op_eql_s rfl rfl) rfl ?_ | refine RE.x (op_neq_s rfl rfl) rfl ?_ | refine RE.want rfl rfl ?_ | refine RE.nox rfl rfl rfl rfl ?_ | refine RE.nou rfl rfl rfl ?_ | refine RE.nilx (show CE _ _ _ _ _ _ _ from ?_) | refine CE.block ?_ | refine CE.scope ?_ | refine CE.label (show CE _ _ _ _ _ _ _ from ?_) | refine CE.skip (show CE _ _ _ _ _ _ _ from ?_) | refine CE.exit (show CE _ _ _ _ _ _ _ from ?_) | refine CE.cond_t rfl ?_ | refine CE.cond_f rfl ?_)
  refine RE.xe (e_buildSlice (cells := #[.int .u8 60, .int .u8 33, .int .u8 45, .int .u8 45, .int .u8 109, .int .u8 111, .int .u8 114, .int .u8 101, .int .u8 45, .int .u8 45, .int .u8 62]) (e := 5) rfl (by kernel_rfl) (by kernel_rfl)) rfl ?_
  rintro _ w1 ⟨b, rfl, hn⟩
  refine RE.xe (e_mark rfl hn.here) rfl ?_
  rintro _ w2 ⟨rfl, hu⟩
  repeat (first | refine CE.seq ?_ | refine CE.text ?_ | refine RE.x (op_move rfl) rfl ?_ | refine RE.x (op_assign rfl) rfl ?_ | refine RE.x (op_nil rfl) rfl ?_ | refine RE.x (op_fieldAddr0 rfl rfl) rfl ?_ | refine RE.x (op_fieldAddr rfl rfl) rfl ?_ | refine RE.x (op_eql rfl rfl) rfl ?_ | refine RE.x (op_neq rfl rfl) rfl ?_ | refine RE.x (op_lss rfl rfl) rfl ?_ | refine RE.x (op_leq rfl rfl) rfl ?_ | refine RE.x (op_gtr rfl rfl) rfl ?_ | refine RE.x (op_geq rfl rfl) rfl ?_ | refine RE.x (op_not_d rfl) rfl ?_ | refine RE.x (op_not rfl) rfl ?_ | refine RE.x (op_len_sl rfl rfl) rfl ?_ | refine RE.x (op_len_s rfl Tryz.underlying9) rfl ?_ | refine RE.x (op_extract rfl rfl) rfl ?_ | refine RE.x (op_pick_t rfl rfl rfl) rfl ?_ | refine RE.x (op_pick_f rfl rfl) rfl ?_ | refine RE.x (op_add64 rfl rfl (by omega) (by omega)) rfl ?_ | refine RE.x (op_sub64 rfl rfl (by omega) (by omega)) rfl ?_ | refine RE.x (op_eql_s rfl rfl) rfl ?_ | refine RE.x (op_neq_s rfl rfl) rfl ?_ | refine RE.want rfl rfl ?_ | refine RE.nox rfl rfl rfl rfl ?_ | refine RE.nou rfl rfl rfl ?_ | refine RE.nilx (show CE _ _ _ _ _ _ _ from ?_) | refine CE.block ?_ | refine CE.scope ?_ | refine CE.label (show CE _ _ _ _ _ _ _ from ?_) | refine CE.skip (show CE _ _ _ _ _ _ _ from ?_) | refine CE.exit (show CE _ _ _ _ _ _ _ from ?_) | refine CE.cond_t rfl ?_ | refine CE.cond_f rfl ?_)
  (refine CE.ret ?_; (try dsimp only); refine ret1 rfl rfl ?_)
  have hnum := hn.num
  refine ⟨b, HBk_row hu.here rfl rfl, by omega, ?_, _, _, hu.here⟩
  exact ⟨hu.os.trans hn.os, hu.tape.trans hn.tape, hu.output.trans hn.output, by have := hu.size; have := hn.size; omega, fun k hk => by
    rw [hu.other k (by omega), hn.other k (by omega)]⟩

def nlIdx : Nat → List Nat
  | 0 => [8] | 1 => [9] | 2 => [10] | 3 => [11] | 4 => [12] | 5 => [13] | 6 => [14, 12] | 7 => [15, 8, 9, 10, 11, 14, 13] | 8 => [16, 15] | 9 => [7, 16] | _ => []

def nlΨ (B sz : Nat) (iv st0 : Value) (nf nd : Bool) : Nat → List Value → World → Prop
  | 0, [v], _ => v = iv
  | 1, [v], _ => v = st0
  | 2, [v], w => ∃ b, HBk b w v bs103 ∧ sz ≤ b ∧ ∃ cs fr, w.heap[b]? = some (.cells cs 5 fr)
  | 3, [v], _ => v = .agg #[.bool nf, .bool nd]
  | 4, [v], w => ∃ g, v = .map (some g) ∧ w.heap[g]? = some (.map #[] 0) ∧ sz ≤ g
  | 5, [v], w => ∃ b, v = Sl b 0 0 5 ∧ w.ownsRow B 63 7 v 0 [] ∧ sz ≤ b
  | 6, [v, m], _ => v = .agg #[I 8, I 9, .bool false, S [], I 0, I 0, I 0, m]
  | 7, [v, a, b, c, d, e, f], _ => ∃ m, e = .agg #[I 8, I 9, .bool false, S [], I 0, I 0, I 0, m] ∧ d = .agg #[.bool nf, .bool nd] ∧
      v = .agg #[a, b, .nilFunc, I 0, I 0, I 0, .pointer none, .bool nf, .bool nd, c, .bool false, I 8, I 9, .bool false, S [], I 0, I 0, I 0, m, f, .nilIface]
  | 8, [p, v], w => ∃ L, p = Ptr L 0 ∧ w.heap[L]? = some (.cells v.cells 79 (0, 0)) ∧ sz ≤ L
  | 9, [x, p], _ => x = p
  | _, _, _ => False

theorem nlΨ_ext (B sz : Nat) (iv st0 : Value) (nf nd : Bool) : ∀ j vs w w', nlΨ B sz iv st0 nf nd j vs w → Ext w w' → nlΨ B sz iv st0 nf nd j vs w' := by
  intro j vs w w' h he
  unfold nlΨ at *
  split at h
  · exact h
  · exact h
  · obtain ⟨b, h1, h2, cs, fr, h3⟩ := h; exact ⟨b, h1.ext he, h2, cs, fr, he.block h3⟩
  · exact h
  · obtain ⟨g, h1, h2, h3⟩ := h; exact ⟨g, h1, he.block h2, h3⟩
  · obtain ⟨b, h1, h2, h3⟩ := h; exact ⟨b, h1, ownsRow_ext h2 he, h3⟩
  · exact h
  · exact h
  · obtain ⟨L, h1, h2, h3⟩ := h; exact ⟨L, h1, he.block h2, h3⟩
  · exact h
  · exact h.elim

/-- A determined operation, for region_facts. -/
theorem OpF.det {P : Program} {R : World → World → Prop} {idx : Nat → List Nat} {Ψ : Nat → List Value → World → Prop} {i d n : Nat} {op : Op} {ty : TypeId} {pos : String} {af : Array Edge} {g : Option (Nat × Bool)} {a : Act} {w : World} {s : Slots} {ds : List Deferred} {v : Value}
    (ha : Has n s ds a) (h : Op1 P ⟨some d, op, ty, pos, af, g⟩ n s v w) (hr : R w w) (hψ : Ψ i (valsAt (a.put (some d) v) (idx i)) w) : OpF P R idx Ψ ⟨some d, op, ty, pos, af, g⟩ i a w := by
  refine ⟨?_⟩
  rw [h.out ds a ha]
  exact ⟨hr, hψ⟩
theorem OpF.eff {P : Program} {R : World → World → Prop} {idx : Nat → List Nat} {Ψ : Nat → List Value → World → Prop} {i d n : Nat} {op : Op} {ty : TypeId} {pos : String} {af : Array Edge} {g : Option (Nat × Bool)} {a : Act} {w : World} {s : Slots} {ds : List Deferred}
    (ha : Has n s ds a) (h : OpE P ⟨some d, op, ty, pos, af, g⟩ n s w (fun v w' => R w w' ∧ Ψ i (valsAt (a.put (some d) v) (idx i)) w')) : OpF P R idx Ψ ⟨some d, op, ty, pos, af, g⟩ i a w := by
  refine ⟨?_⟩
  obtain ⟨v, w', hr, h1, h2⟩ := h.out ds a ha
  rcases hr with hr | ⟨hr, rfl⟩ <;> rw [hr] <;> exact ⟨h1, h2⟩

theorem getD_put {a : Act} {d : Nat} {v : Value} (h : d < a.tmps.size) : (a.put (some d) v).tmps.getD d undef = v := by
  simp [Act.put, h]
theorem getD_put_ne {a : Act} {d k : Nat} {v : Value} (h : d ≠ k) : (a.put (some d) v).tmps.getD k undef = a.tmps.getD k undef := by
  simp [Act.put, Array.getD_eq_getD_getElem?, Array.getElem?_setIfInBounds_ne h]

theorem newLexer_fn {ib B : Nat} {t : List UInt8} {ia : Option Addr} {il ic : Nat} {st0 : Value} {nf nd : Bool} {w : World} (hf : ∃ f, st0 = fnV f) (hi : HBk ib w (.slice ia il ic) t) (hib : ib < w.heap.size) (hT : TabsB B w) (hB : B ≤ w.heap.size) (ht : t.length ≤ 1000000) :
    Fn PT 80 [.slice ia il ic, st0, .agg #[.bool nf, .bool nd]] w (fun u w' => ∃ L da dl dc mb items H, u = Ptr L 0 ∧ w.heap.size ≤ L ∧ LS L ib B t bs103 (LC.ini ia il ic st0 nf nd da dl dc (.map (some mb)) items H) [] w' ∧
      HF L B nd false false false H w' ∧ w'.heap[mb]? = some (.map #[] 0) ∧ w.heap.size ≤ mb ∧ Ext w w') := by
  obtain ⟨fi, rfl⟩ := hf
  refine fn_of Tryz.func80 rfl Tryz.ntmps80 rfl ?_
  repeat (first | refine CE.seq ?_ | refine CE.text ?_ | refine RE.x (op_move rfl) rfl ?_ | refine RE.x (op_assign rfl) rfl ?_ | refine RE.x (op_nil rfl) rfl ?_ | refine RE.x (op_fieldAddr0 rfl rfl) rfl ?_ | refine RE.x (op_fieldAddr rfl rfl) rfl ?_ | refine RE.x (op_eql rfl rfl) rfl ?_ | refine RE.x (op_neq rfl rfl) rfl ?_ | refine RE.x (op_lss rfl rfl) rfl ?_ | refine RE.x (op_leq rfl rfl) rfl ?_ | refine RE.x (op_gtr rfl rfl) rfl ?_ | refine RE.x (op_geq rfl rfl) rfl ?_ | refine RE.x (op_not_d rfl) rfl ?_ | refine RE.x (op_not rfl) rfl ?_ | refine RE.x (op_len_sl rfl rfl) rfl ?_ | refine RE.x (op_len_s rfl Tryz.underlying9) rfl ?_ | refine RE.x (op_extract rfl rfl) rfl ?_ | refine RE.x (op_pick_t rfl rfl rfl) rfl ?_ | refine RE.x (op_pick_f rfl rfl) rfl ?_ | refine RE.x (op_add64 rfl rfl (by omega) (by omega)) rfl ?_ | refine RE.x (op_sub64 rfl rfl (by omega) (by omega)) rfl ?_ | refine RE.x (op_eql_s rfl rfl) rfl ?_ | refine RE.x (op_neq_s rfl rfl) rfl ?_ | refine RE.want rfl rfl ?_ | refine RE.nox rfl rfl rfl rfl ?_ | refine RE.nou rfl rfl rfl ?_ | refine RE.nilx (show CE _ _ _ _ _ _ _ from ?_) | refine CE.scope ?_ | refine CE.label (show CE _ _ _ _ _ _ _ from ?_) | refine CE.skip (show CE _ _ _ _ _ _ _ from ?_) | refine CE.exit (show CE _ _ _ _ _ _ _ from ?_))
  refine RE.xe (e_box (cells := #[.bool nf, .bool nd]) rfl rfl) rfl ?_
  rintro _ w1 ⟨b1, rfl, hn1⟩
  repeat (first | refine CE.seq ?_ | refine CE.text ?_ | refine RE.x (op_move rfl) rfl ?_ | refine RE.x (op_assign rfl) rfl ?_ | refine RE.x (op_nil rfl) rfl ?_ | refine RE.x (op_fieldAddr0 rfl rfl) rfl ?_ | refine RE.x (op_fieldAddr rfl rfl) rfl ?_ | refine RE.x (op_eql rfl rfl) rfl ?_ | refine RE.x (op_neq rfl rfl) rfl ?_ | refine RE.x (op_lss rfl rfl) rfl ?_ | refine RE.x (op_leq rfl rfl) rfl ?_ | refine RE.x (op_gtr rfl rfl) rfl ?_ | refine RE.x (op_geq rfl rfl) rfl ?_ | refine RE.x (op_not_d rfl) rfl ?_ | refine RE.x (op_not rfl) rfl ?_ | refine RE.x (op_len_sl rfl rfl) rfl ?_ | refine RE.x (op_len_s rfl Tryz.underlying9) rfl ?_ | refine RE.x (op_extract rfl rfl) rfl ?_ | refine RE.x (op_pick_t rfl rfl rfl) rfl ?_ | refine RE.x (op_pick_f rfl rfl) rfl ?_ | refine RE.x (op_add64 rfl rfl (by omega) (by omega)) rfl ?_ | refine RE.x (op_sub64 rfl rfl (by omega) (by omega)) rfl ?_ | refine RE.x (op_eql_s rfl rfl) rfl ?_ | refine RE.x (op_neq_s rfl rfl) rfl ?_ | refine RE.want rfl rfl ?_ | refine RE.nox rfl rfl rfl rfl ?_ | refine RE.nou rfl rfl rfl ?_ | refine RE.nilx (show CE _ _ _ _ _ _ _ from ?_) | refine CE.scope ?_ | refine CE.label (show CE _ _ _ _ _ _ _ from ?_) | refine CE.skip (show CE _ _ _ _ _ _ _ from ?_) | refine CE.exit (show CE _ _ _ _ _ _ _ from ?_))
  have hb1 : w1.drew.heap[b1]? = _ := hn1.here
  have e1 := hn1.ext.trans (Ext.drew w1)
  refine CE.drawF Ext nlIdx (nlΨ B w.heap.size (.slice ia il ic) (fnV fi) nf nd) mixed Ext.refl (fun _ _ _ => Ext.trans) (by decide +kernel) rfl (nlΨ_ext _ _ _ _ _ _) ?_ ?_
  · intro i o ho b w2 hb he hd
    have hsz := hb.size
    have e2 := e1.trans he
    have hB2 : B ≤ w2.heap.size := by have := e2.size; omega
    match i with
    | 0 =>
      simp only [List.getElem?_cons_zero, Option.some.injEq] at ho
      subst ho
      refine OpF.det hb (op_move rfl) (Ext.refl _) ?_
      simp only [nlIdx, valsAt, List.map_cons, List.map_nil, getD_put (show 8 < b.tmps.size by omega), nlΨ]
    | 1 =>
      simp only [List.getElem?_cons_zero, List.getElem?_cons_succ, Option.some.injEq] at ho
      subst ho
      refine OpF.det hb (op_move rfl) (Ext.refl _) ?_
      simp only [nlIdx, valsAt, List.map_cons, List.map_nil, getD_put (show 9 < b.tmps.size by omega), nlΨ]
    | 2 =>
      simp only [List.getElem?_cons_zero, List.getElem?_cons_succ, Option.some.injEq] at ho
      subst ho
      refine ⟨?_⟩
      rw [run_call en103 (args := []) (vs := []) hb rfl w2]
      refine Calls.mono (delim103t_fn w2).out ?_
      rintro e w3 ⟨u, rfl, b3, h1, h2, h3, h4⟩
      refine ⟨u, rfl, h3, ?_⟩
      simp only [nlIdx, valsAt, List.map_cons, List.map_nil, getD_put (show 10 < b.tmps.size by omega), nlΨ]
      exact ⟨b3, h1, by have := e2.size; omega, h4⟩
    | 3 =>
      simp only [List.getElem?_cons_zero, List.getElem?_cons_succ, Option.some.injEq] at ho
      subst ho
      refine OpF.det hb (op_loadA (vs := [.bool nf, .bool nd]) rfl rfl (he.block hb1) rfl rfl) (Ext.refl _) ?_
      simp only [nlIdx, valsAt, List.map_cons, List.map_nil, getD_put (show 11 < b.tmps.size by omega), nlΨ]
    | 4 =>
      simp only [List.getElem?_cons_zero, List.getElem?_cons_succ, Option.some.injEq] at ho
      subst ho
      refine OpF.eff hb (OpE.mono e_makeMap ?_)
      rintro v w3 ⟨rfl, hn3⟩
      refine ⟨hn3.ext, ?_⟩
      simp only [nlIdx, valsAt, List.map_cons, List.map_nil, getD_put (show 12 < b.tmps.size by omega), nlΨ]
      exact ⟨_, rfl, hn3.here, e2.size⟩
    | 5 =>
      simp only [List.getElem?_cons_zero, List.getElem?_cons_succ, Option.some.injEq] at ho
      subst ho
      refine OpF.eff hb (OpE.mono (e_make0 B (e := 63) (size := 7) (bytes := 72) (cp := 5) (z := .agg #[I 0, .nilIface, I 0, I 0, .slice none 0 0, .int .u8 0, .bool false]) rfl (by kernel_rfl) rfl rfl (by decide) (by decide) hB2) ?_)
      rintro v w3 ⟨b3, rfl, hb3, ho3, e3⟩
      refine ⟨e3, ?_⟩
      simp only [nlIdx, valsAt, List.map_cons, List.map_nil, getD_put (show 13 < b.tmps.size by omega), nlΨ]
      exact ⟨b3, rfl, ho3, by have := e2.size; omega⟩
    | 6 =>
      simp only [List.getElem?_cons_zero, List.getElem?_cons_succ, Option.some.injEq] at ho
      subst ho
      obtain ⟨g, hg', _⟩ := hd 4 (by decide +kernel)
      have hg : b.tmps.getD 12 undef = .map (some g) := hg'
      refine OpF.det (hb.add hg) (op_build (cells := #[I 8, I 9, .bool false, S [], I 0, I 0, I 0, .map (some g)]) rfl (by kernel_rfl)) (Ext.refl _) ?_
      simp only [nlIdx, valsAt, List.map_cons, List.map_nil, getD_put (show 14 < b.tmps.size by omega), getD_put_ne (show 14 ≠ 12 by decide), nlΨ]
      rw [hg]
    | 7 =>
      simp only [List.getElem?_cons_zero, List.getElem?_cons_succ, Option.some.injEq] at ho
      subst ho
      have f0 : b.tmps.getD 8 undef = .slice ia il ic := hd 0 (by decide +kernel)
      have f1 : b.tmps.getD 9 undef = fnV fi := hd 1 (by decide +kernel)
      obtain ⟨b2, ⟨a2, c2, f2', _⟩, _⟩ := hd 2 (by decide +kernel)
      have f2 : b.tmps.getD 10 undef = .slice a2 11 c2 := f2'
      have f3 : b.tmps.getD 11 undef = .agg #[.bool nf, .bool nd] := hd 3 (by decide +kernel)
      obtain ⟨b5, f5', _⟩ := hd 5 (by decide +kernel)
      have f5 : b.tmps.getD 13 undef = Sl b5 0 0 5 := f5'
      have f6 : b.tmps.getD 14 undef = .agg #[I 8, I 9, .bool false, S [], I 0, I 0, I 0, b.tmps.getD 12 undef] := hd 6 (by decide +kernel)
      generalize hm : b.tmps.getD 12 undef = m at f6
      refine OpF.det ((((((hb.add f0).add f1).add f2).add f3).add f5).add f6)
        (op_build (cells := #[.slice ia il ic, fnV fi, .nilFunc, I 0, I 0, I 0, .pointer none, .bool nf, .bool nd, .slice a2 11 c2, .bool false, I 8, I 9, .bool false, S [], I 0, I 0, I 0, m, Sl b5 0 0 5, .nilIface]) rfl (by kernel_rfl)) (Ext.refl _) ?_
      simp only [nlIdx, valsAt, List.map_cons, List.map_nil, getD_put (show 15 < b.tmps.size by omega), getD_put_ne (show 15 ≠ 8 by decide), getD_put_ne (show 15 ≠ 9 by decide), getD_put_ne (show 15 ≠ 10 by decide), getD_put_ne (show 15 ≠ 11 by decide), getD_put_ne (show 15 ≠ 14 by decide), getD_put_ne (show 15 ≠ 13 by decide), nlΨ, f0, f1, f2, f3, f5, f6]
      refine ⟨m, ?_, ?_, ?_⟩ <;> first | trivial | rfl
    | 8 =>
      simp only [List.getElem?_cons_zero, List.getElem?_cons_succ, Option.some.injEq] at ho
      subst ho
      obtain ⟨m, g1, g2, g3⟩ := hd 7 (by decide +kernel)
      refine OpF.eff (hb.add g3) (OpE.mono (e_box rfl rfl) ?_)
      rintro v w3 ⟨b3, rfl, hn3⟩
      refine ⟨hn3.ext, ?_⟩
      simp only [nlIdx, valsAt, List.map_cons, List.map_nil, getD_put (show 16 < b.tmps.size by omega), getD_put_ne (show 16 ≠ 15 by decide), nlΨ]
      refine ⟨b3, rfl, ?_, by have := hn3.num; have := e2.size; omega⟩
      rw [hn3.here]
      exact congrArg (fun z => some (Obj.cells z 79 (0, 0))) (congrArg Value.cells g3).symm
    | 9 =>
      simp only [List.getElem?_cons_zero, List.getElem?_cons_succ, Option.some.injEq] at ho
      subst ho
      obtain ⟨L, g1, g2, g3⟩ := hd 8 (by decide +kernel)
      refine OpF.det (hb.add g1) (op_assign rfl) (Ext.refl _) ?_
      simp only [nlIdx, valsAt, List.map_cons, List.map_nil, getD_put (show 7 < b.tmps.size by omega), getD_put_ne (show 7 ≠ 16 by decide), nlΨ]
      exact g1.symm
    | i + 10 =>
      simp at ho
  · intro b w2 hb he hd
    have f0 : b.tmps.getD 8 undef = .slice ia il ic := hd 0 (by decide)
    have f1 : b.tmps.getD 9 undef = fnV fi := hd 1 (by decide)
    obtain ⟨b2, f2, f2a, tcs, tfr, f2b⟩ := hd 2 (by decide)
    obtain ⟨g, f4', f4a, f4b⟩ := hd 4 (by decide)
    have f4 : b.tmps.getD 12 undef = .map (some g) := f4'
    obtain ⟨b5, f5', f5a, f5b⟩ := hd 5 (by decide)
    have f5 : b.tmps.getD 13 undef = Sl b5 0 0 5 := f5'
    have f6 : b.tmps.getD 14 undef = .agg #[I 8, I 9, .bool false, S [], I 0, I 0, I 0, b.tmps.getD 12 undef] := hd 6 (by decide)
    obtain ⟨m, f7a, f7b, f7⟩ := hd 7 (by decide)
    obtain ⟨L, f8, f8a, f8b⟩ := hd 8 (by decide)
    have f9 : b.tmps.getD 7 undef = b.tmps.getD 16 undef := hd 9 (by decide)
    obtain ⟨a2, c2, f2v, f2w⟩ := f2
    have hm : m = .map (some g) := by
      have : Value.agg #[I 8, I 9, .bool false, S [], I 0, I 0, I 0, b.tmps.getD 12 undef] = .agg #[I 8, I 9, .bool false, S [], I 0, I 0, I 0, m] := f6.symm.trans f7a
      simp at this
      rw [← this]; simpa using f4
    subst hm
    have f15 : b.tmps.getD 15 undef = .agg (LC.ini ia il ic (fnV fi) nf nd a2 11 c2 (.map (some g)) (Sl b5 0 0 5) (.pointer none)).arr := by
      refine Eq.trans f7 ?_
      have e1 : (fun k => b.tmps.getD k undef) 10 = .slice a2 11 c2 := f2v
      have e2 : (fun k => b.tmps.getD k undef) 8 = .slice ia il ic := f0
      have e3 : (fun k => b.tmps.getD k undef) 9 = fnV fi := f1
      have e4 : (fun k => b.tmps.getD k undef) 13 = Sl b5 0 0 5 := f5
      rw [e1, e2, e3, e4]
      rfl
    have hcl : w2.heap[L]? = some (.cells (LC.ini ia il ic (fnV fi) nf nd a2 11 c2 (.map (some g)) (Sl b5 0 0 5) (.pointer none)).arr 79 (0, 0)) := by
      refine Eq.trans f8a ?_
      have : (fun k => b.tmps.getD k undef) 15 = .agg (LC.ini ia il ic (fnV fi) nf nd a2 11 c2 (.map (some g)) (Sl b5 0 0 5) (.pointer none)).arr := f15
      rw [this]
      rfl
    have e2 : Ext w w2 := e1.trans he
    have f7' : b.tmps.getD 7 undef = Ptr L 0 := f9.trans f8
    refine ⟨_, _, hb.add f7', ?_⟩
    have hB2 : B ≤ w2.heap.size := by have := e2.size; omega
    repeat (first | refine CE.seq ?_ | refine CE.text ?_ | refine RE.x (op_move rfl) rfl ?_ | refine RE.x (op_assign rfl) rfl ?_ | refine RE.x (op_nil rfl) rfl ?_ | refine RE.x (op_fieldAddr0 rfl rfl) rfl ?_ | refine RE.x (op_fieldAddr rfl rfl) rfl ?_ | refine RE.x (op_eql rfl rfl) rfl ?_ | refine RE.x (op_neq rfl rfl) rfl ?_ | refine RE.x (op_lss rfl rfl) rfl ?_ | refine RE.x (op_leq rfl rfl) rfl ?_ | refine RE.x (op_gtr rfl rfl) rfl ?_ | refine RE.x (op_geq rfl rfl) rfl ?_ | refine RE.x (op_not_d rfl) rfl ?_ | refine RE.x (op_not rfl) rfl ?_ | refine RE.x (op_len_sl rfl rfl) rfl ?_ | refine RE.x (op_len_s rfl Tryz.underlying9) rfl ?_ | refine RE.x (op_extract rfl rfl) rfl ?_ | refine RE.x (op_pick_t rfl rfl rfl) rfl ?_ | refine RE.x (op_pick_f rfl rfl) rfl ?_ | refine RE.x (op_add64 rfl rfl (by omega) (by omega)) rfl ?_ | refine RE.x (op_sub64 rfl rfl (by omega) (by omega)) rfl ?_ | refine RE.x (op_eql_s rfl rfl) rfl ?_ | refine RE.x (op_neq_s rfl rfl) rfl ?_ | refine RE.want rfl rfl ?_ | refine RE.nox rfl rfl rfl rfl ?_ | refine RE.nou rfl rfl rfl ?_ | refine RE.nilx (show CE _ _ _ _ _ _ _ from ?_) | refine CE.scope ?_ | refine CE.label (show CE _ _ _ _ _ _ _ from ?_) | refine CE.skip (show CE _ _ _ _ _ _ _ from ?_) | refine CE.exit (show CE _ _ _ _ _ _ _ from ?_))
    refine RE.xc en104 rfl rfl (handlers_fn (c := LC.ini ia il ic (fnV fi) nf nd a2 11 c2 (.map (some g)) (Sl b5 0 0 5) (.pointer none)) hcl hB2) ?_
    rintro H w3 ⟨hH, e3⟩
    have hc3 := e3.block hcl
    repeat (first | refine CE.seq ?_ | refine CE.text ?_ | refine RE.x (op_move rfl) rfl ?_ | refine RE.x (op_assign rfl) rfl ?_ | refine RE.x (op_nil rfl) rfl ?_ | refine RE.x (op_fieldAddr0 rfl rfl) rfl ?_ | refine RE.x (op_fieldAddr rfl rfl) rfl ?_ | refine RE.x (op_eql rfl rfl) rfl ?_ | refine RE.x (op_neq rfl rfl) rfl ?_ | refine RE.x (op_lss rfl rfl) rfl ?_ | refine RE.x (op_leq rfl rfl) rfl ?_ | refine RE.x (op_gtr rfl rfl) rfl ?_ | refine RE.x (op_geq rfl rfl) rfl ?_ | refine RE.x (op_not_d rfl) rfl ?_ | refine RE.x (op_not rfl) rfl ?_ | refine RE.x (op_len_sl rfl rfl) rfl ?_ | refine RE.x (op_len_s rfl Tryz.underlying9) rfl ?_ | refine RE.x (op_extract rfl rfl) rfl ?_ | refine RE.x (op_pick_t rfl rfl rfl) rfl ?_ | refine RE.x (op_pick_f rfl rfl) rfl ?_ | refine RE.x (op_add64 rfl rfl (by omega) (by omega)) rfl ?_ | refine RE.x (op_sub64 rfl rfl (by omega) (by omega)) rfl ?_ | refine RE.x (op_eql_s rfl rfl) rfl ?_ | refine RE.x (op_neq_s rfl rfl) rfl ?_ | refine RE.want rfl rfl ?_ | refine RE.nox rfl rfl rfl rfl ?_ | refine RE.nou rfl rfl rfl ?_ | refine RE.nilx (show CE _ _ _ _ _ _ _ from ?_) | refine CE.scope ?_ | refine CE.label (show CE _ _ _ _ _ _ _ from ?_) | refine CE.skip (show CE _ _ _ _ _ _ _ from ?_) | refine CE.exit (show CE _ _ _ _ _ _ _ from ?_))
    obtain ⟨hbn, hs, ks, h1, h2, nn, hHe, q1, q2, ⟨qx, q3⟩, q4, q5, q6⟩ := hH.out
    refine RE.xs (e_store rfl rfl rfl hc3 rfl (by rw [hHe]; rfl)) ?_
    rintro _ w4 hu
    repeat (first | refine CE.seq ?_ | refine CE.text ?_ | refine RE.x (op_move rfl) rfl ?_ | refine RE.x (op_assign rfl) rfl ?_ | refine RE.x (op_nil rfl) rfl ?_ | refine RE.x (op_fieldAddr0 rfl rfl) rfl ?_ | refine RE.x (op_fieldAddr rfl rfl) rfl ?_ | refine RE.x (op_eql rfl rfl) rfl ?_ | refine RE.x (op_neq rfl rfl) rfl ?_ | refine RE.x (op_lss rfl rfl) rfl ?_ | refine RE.x (op_leq rfl rfl) rfl ?_ | refine RE.x (op_gtr rfl rfl) rfl ?_ | refine RE.x (op_geq rfl rfl) rfl ?_ | refine RE.x (op_not_d rfl) rfl ?_ | refine RE.x (op_not rfl) rfl ?_ | refine RE.x (op_len_sl rfl rfl) rfl ?_ | refine RE.x (op_len_s rfl Tryz.underlying9) rfl ?_ | refine RE.x (op_extract rfl rfl) rfl ?_ | refine RE.x (op_pick_t rfl rfl rfl) rfl ?_ | refine RE.x (op_pick_f rfl rfl) rfl ?_ | refine RE.x (op_add64 rfl rfl (by omega) (by omega)) rfl ?_ | refine RE.x (op_sub64 rfl rfl (by omega) (by omega)) rfl ?_ | refine RE.x (op_eql_s rfl rfl) rfl ?_ | refine RE.x (op_neq_s rfl rfl) rfl ?_ | refine RE.want rfl rfl ?_ | refine RE.nox rfl rfl rfl rfl ?_ | refine RE.nou rfl rfl rfl ?_ | refine RE.nilx (show CE _ _ _ _ _ _ _ from ?_) | refine CE.scope ?_ | refine CE.label (show CE _ _ _ _ _ _ _ from ?_) | refine CE.skip (show CE _ _ _ _ _ _ _ from ?_) | refine CE.exit (show CE _ _ _ _ _ _ _ from ?_))
    (refine CE.ret ?_; (try dsimp only); refine ret1 rfl rfl ?_)
    have hfu := Fr.of_upd (S := (· = L)) hu rfl
    have hLs : w.heap.size ≤ L := f8b
    have hLlt := (Array.getElem?_eq_some_iff.1 hcl).1
    have e23 := e2.trans e3
    have e4 : Ext w w4 := e23.fr hfu (fun q hq => by subst hq; exact hLs)
    have ne : ∀ b' cs T fr, w3.heap[b']? = some (.cells cs T fr) → T ≠ 79 → b' ≠ L := by
      intro b' cs T fr h hT e
      subst e
      rw [hc3] at h
      cases h
      exact hT rfl
    have neo : ∀ T n v xs, w3.ownsRow B T 1 v n xs → T ≠ 79 → ∀ q, v.ownBlock = some q → ¬ q = L := by
      intro T n v xs ho hT q hq e
      rcases ho.2 with ⟨rfl, _⟩ | ⟨gg, cap, cur, rfl, _, hg, _⟩
      · cases hq
      · simp only [Value.ownBlock, Option.some.injEq] at hq
        exact ne gg _ _ _ hg hT (hq.trans e)
    have own2 : w3.ownsRow B 63 7 (Sl b5 0 0 5) 0 [] := ownsRow_ext (by have := f5a; rw [f5'] at this; exact this) e3
    have hb5L : b5 ≠ L := by
      rcases own2.2 with ⟨h, _⟩ | ⟨gg, cap, cur, hv, _, hg, _⟩
      · cases h
      · simp at hv
        obtain ⟨rfl, _⟩ := hv
        exact ne b5 _ _ _ hg (by decide)
    have hb5lt : b5 < w3.heap.size := by
      rcases own2.2 with ⟨h, _⟩ | ⟨gg, cap, cur, hv, _, hg, _⟩
      · cases h
      · simp at hv
        obtain ⟨rfl, _⟩ := hv
        exact (Array.getElem?_eq_some_iff.1 hg).1
    have hb2L : b2 ≠ L := ne b2 _ _ _ (e3.block f2b) (by decide)
    have hb25 : b5 ≠ b2 := by
      have h3 := e3.block f2b
      rcases own2.2 with ⟨h, _⟩ | ⟨gg, cap, cur, hv, _, hg, _⟩
      · cases h
      · simp at hv
        obtain ⟨rfl, _⟩ := hv
        intro e
        subst e
        rw [hg] at h3
        cases h3
    have hb2lt := (Array.getElem?_eq_some_iff.1 f2b).1
    refine ⟨L, a2, 11, c2, g, Sl b5 0 0 5, H, rfl, hLs, ?_, ?_, ?_, f4b, e4⟩
    · refine ⟨⟨hu.here, (hi.ext e23).fr hfu (by omega), by omega, hT.ext hB e4, by omega, ht, Nat.zero_le _⟩, Nat.lt_of_lt_of_le hib e4.size, ⟨[], ?_, .nil⟩, ?_, ?_, ⟨b2, ?_, hb2L, ?_, ?_⟩, by decide⟩
      · exact ownsRow_fr own2 hfu (fun q hq => by
          have hq' : b5 = q := by simpa [Value.ownBlock, LC.ini] using hq
          subst hq'; exact hb5L)
      · simp [LC.ini, Value.ownBlock]; exact hb5L
      · simp [LC.ini, Value.ownBlock]; have := f5b; omega
      · exact HBk.fr ((show HBk b2 w2 (.slice a2 11 c2) bs103 from ⟨a2, c2, rfl, f2w.1, f2w.2⟩).ext e3) hfu hb2L
      · simp [LC.ini, Value.ownBlock]; exact hb25
      · have := e3.size; have := hu.size; omega
    · refine ⟨hbn, hs, ks, h1, h2, nn, hHe, hfu.block q1 (ne _ _ _ _ q1 (by decide)), ownsRow_fr q2 hfu (neo _ _ _ _ q2 (by decide)), ⟨qx, ownsRow_fr q3 hfu (neo _ _ _ _ q3 (by decide))⟩, hfu.block q4 (ne _ _ _ _ q4 (by decide)), fun h => ⟨hfu.block (q5 h).1 (ne _ _ _ _ (q5 h).1 (by decide)), (q5 h).2⟩, q6⟩
    · have hg3 := e3.block f4a
      refine hfu.block hg3 fun e => ?_
      subst e
      rw [hc3] at hg3
      cases hg3
end Go.Wk
