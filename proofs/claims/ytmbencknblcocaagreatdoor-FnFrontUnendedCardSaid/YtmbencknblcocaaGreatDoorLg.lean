/- Items: their place; errors.New; the lexer's append. -/
import Derived.Test.YtmbencknblcocaaGreatDoorLf
import Derived.Test.YtmbencknblcocaaGreatDoorWk6
namespace Go.Wk
open Go Go.RowKit Go.Proofs
set_option maxRecDepth 100000

/-- An item as it lies in memory. -/
structure IC where
  ty : Int
  ev : Value
  lo : Nat
  hi : Nat
  sa : Option Addr
  sn : Nat
  sc : Nat
  fb : Nat
  str : Bool
def IC.lst (x : IC) : List Value := [I x.ty, x.ev, I x.lo, I x.hi, .slice x.sa x.sn x.sc, .int .u8 x.fb, .bool x.str]
def IC.val (x : IC) : Value := .agg #[I x.ty, x.ev, I x.lo, I x.hi, .slice x.sa x.sn x.sc, .int .u8 x.fb, .bool x.str]

/-- Where an item begins. -/
def IC.at (x : IC) (w : World) (p : Nat) : Prop := (x.sn = 0 ∧ p = x.lo) ∨ (0 < x.sn ∧ ∃ b, x.sa = some ⟨b, 0, none⟩ ∧ w.cell? ⟨b, 0, none⟩ = some (I p))
theorem IC.at.ext {x : IC} {w w' : World} {p : Nat} (h : x.at w p) (he : Ext w w') : x.at w' p := by
  rcases h with h | ⟨h1, b, h2, h3⟩
  · exact Or.inl h
  · exact Or.inr ⟨h1, b, h2, he.cell h3⟩

theorem pos_fn {x : IC} {w : World} {p : Nat} (h : x.at w p) : Fn PT 44 [x.val] w (fun u w' => u = I p ∧ Ext w w') := by
  refine fn_of Tryz.func44 rfl Tryz.ntmps44 rfl ?_
  repeat (first | refine CE.seq ?_ | refine CE.text ?_ | refine RE.x (op_move rfl) rfl ?_ | refine RE.x (op_assign rfl) rfl ?_ | refine RE.x (op_nil rfl) rfl ?_ | refine RE.x (op_fieldAddr0 rfl rfl) rfl ?_ | refine RE.x (op_fieldAddr rfl rfl) rfl ?_ | refine RE.x (op_eql rfl rfl) rfl ?_ | refine RE.x (op_neq rfl rfl) rfl ?_ | refine RE.x (op_lss rfl rfl) rfl ?_ | refine RE.x (op_leq rfl rfl) rfl ?_ | refine RE.x (op_gtr rfl rfl) rfl ?_ | refine RE.x (op_geq rfl rfl) rfl ?_ | refine RE.x (op_not_d rfl) rfl ?_ | refine RE.x (op_not rfl) rfl ?_ | refine RE.x (op_len_sl rfl rfl) rfl ?_ | refine RE.x (op_len_s rfl Tryz.underlying9) rfl ?_ | refine RE.x (op_extract rfl rfl) rfl ?_ | refine RE.x (op_pick_t rfl rfl rfl) rfl ?_ | refine RE.x (op_pick_f rfl rfl) rfl ?_ | refine RE.x (op_add64 rfl rfl (by omega) (by omega)) rfl ?_ | refine RE.x (op_sub64 rfl rfl (by omega) (by omega)) rfl ?_ | refine RE.x (op_eql_s rfl rfl) rfl ?_ | refine RE.x (op_neq_s rfl rfl) rfl ?_ | refine RE.want rfl rfl ?_ | refine RE.nox rfl rfl rfl rfl ?_ | refine RE.nou rfl rfl rfl ?_ | refine RE.nilx (show CE _ _ _ _ _ _ _ from ?_) | refine CE.block ?_ | refine CE.scope ?_ | refine CE.label (show CE _ _ _ _ _ _ _ from ?_) | refine CE.skip (show CE _ _ _ _ _ _ _ from ?_) | refine CE.exit (show CE _ _ _ _ _ _ _ from ?_) | refine CE.cond_t rfl ?_ | refine CE.cond_f rfl ?_)
  refine RE.xe (e_box (cells := #[I x.ty, x.ev, I x.lo, I x.hi, .slice x.sa x.sn x.sc, .int .u8 x.fb, .bool x.str]) rfl rfl) rfl ?_
  rintro _ w1 ⟨bx, rfl, hn⟩
  have hb := hn.here
  repeat (first | refine CE.seq ?_ | refine CE.text ?_ | refine RE.x (op_move rfl) rfl ?_ | refine RE.x (op_assign rfl) rfl ?_ | refine RE.x (op_nil rfl) rfl ?_ | refine RE.x (op_fieldAddr0 rfl rfl) rfl ?_ | refine RE.x (op_fieldAddr rfl rfl) rfl ?_ | refine RE.x (op_loadB rfl rfl hb rfl) rfl ?_ | refine RE.x (op_loadA rfl rfl hb rfl rfl) rfl ?_ | refine RE.x (op_eql rfl rfl) rfl ?_ | refine RE.x (op_neq rfl rfl) rfl ?_ | refine RE.x (op_lss rfl rfl) rfl ?_ | refine RE.x (op_leq rfl rfl) rfl ?_ | refine RE.x (op_gtr rfl rfl) rfl ?_ | refine RE.x (op_geq rfl rfl) rfl ?_ | refine RE.x (op_not_d rfl) rfl ?_ | refine RE.x (op_not rfl) rfl ?_ | refine RE.x (op_len_sl rfl rfl) rfl ?_ | refine RE.x (op_len_s rfl Tryz.underlying9) rfl ?_ | refine RE.x (op_extract rfl rfl) rfl ?_ | refine RE.x (op_pick_t rfl rfl rfl) rfl ?_ | refine RE.x (op_pick_f rfl rfl) rfl ?_ | refine RE.x (op_add64 rfl rfl (by omega) (by omega)) rfl ?_ | refine RE.x (op_sub64 rfl rfl (by omega) (by omega)) rfl ?_ | refine RE.x (op_eql_s rfl rfl) rfl ?_ | refine RE.x (op_neq_s rfl rfl) rfl ?_ | refine RE.want rfl rfl ?_ | refine RE.nox rfl rfl rfl rfl ?_ | refine RE.nou rfl rfl rfl ?_ | refine RE.nilx (show CE _ _ _ _ _ _ _ from ?_) | refine CE.block ?_ | refine CE.scope ?_ | refine CE.label (show CE _ _ _ _ _ _ _ from ?_) | refine CE.skip (show CE _ _ _ _ _ _ _ from ?_) | refine CE.exit (show CE _ _ _ _ _ _ _ from ?_) | refine CE.cond_t rfl ?_ | refine CE.cond_f rfl ?_)
  refine CE.cond_d rfl (fun h1 => ?_) (fun h1 => ?_)
  · rcases h with ⟨h0, _⟩ | ⟨h2, b, h3, h4⟩
    · omega
    · have hb' : w1.heap[bx]? = some (.cells #[I x.ty, x.ev, I x.lo, I x.hi, .slice (some ⟨b, 0, none⟩) x.sn x.sc, .int .u8 x.fb, .bool x.str] 63 (0, 0)) := by rw [← h3]; exact hb
      repeat (first | refine CE.seq ?_ | refine CE.text ?_ | refine RE.x (op_move rfl) rfl ?_ | refine RE.x (op_assign rfl) rfl ?_ | refine RE.x (op_nil rfl) rfl ?_ | refine RE.x (op_fieldAddr0 rfl rfl) rfl ?_ | refine RE.x (op_fieldAddr rfl rfl) rfl ?_ | refine RE.x (op_loadB rfl rfl hb' rfl) rfl ?_ | refine RE.x (op_loadA rfl rfl hb' rfl rfl) rfl ?_ | refine RE.x (op_eql rfl rfl) rfl ?_ | refine RE.x (op_neq rfl rfl) rfl ?_ | refine RE.x (op_lss rfl rfl) rfl ?_ | refine RE.x (op_leq rfl rfl) rfl ?_ | refine RE.x (op_gtr rfl rfl) rfl ?_ | refine RE.x (op_geq rfl rfl) rfl ?_ | refine RE.x (op_not_d rfl) rfl ?_ | refine RE.x (op_not rfl) rfl ?_ | refine RE.x (op_len_sl rfl rfl) rfl ?_ | refine RE.x (op_len_s rfl Tryz.underlying9) rfl ?_ | refine RE.x (op_extract rfl rfl) rfl ?_ | refine RE.x (op_pick_t rfl rfl rfl) rfl ?_ | refine RE.x (op_pick_f rfl rfl) rfl ?_ | refine RE.x (op_add64 rfl rfl (by omega) (by omega)) rfl ?_ | refine RE.x (op_sub64 rfl rfl (by omega) (by omega)) rfl ?_ | refine RE.x (op_eql_s rfl rfl) rfl ?_ | refine RE.x (op_neq_s rfl rfl) rfl ?_ | refine RE.want rfl rfl ?_ | refine RE.nox rfl rfl rfl rfl ?_ | refine RE.nou rfl rfl rfl ?_ | refine RE.nilx (show CE _ _ _ _ _ _ _ from ?_) | refine CE.block ?_ | refine CE.scope ?_ | refine CE.label (show CE _ _ _ _ _ _ _ from ?_) | refine CE.skip (show CE _ _ _ _ _ _ _ from ?_) | refine CE.exit (show CE _ _ _ _ _ _ _ from ?_) | refine CE.cond_t rfl ?_ | refine CE.cond_f rfl ?_)
      refine RE.x (op_indexAddr rfl rfl rfl (by decide) (by omega)) rfl ?_
      repeat (first | refine CE.seq ?_ | refine CE.text ?_ | refine RE.x (op_move rfl) rfl ?_ | refine RE.x (op_assign rfl) rfl ?_ | refine RE.x (op_nil rfl) rfl ?_ | refine RE.x (op_fieldAddr0 rfl rfl) rfl ?_ | refine RE.x (op_fieldAddr rfl rfl) rfl ?_ | refine RE.x (op_loadB rfl rfl hb' rfl) rfl ?_ | refine RE.x (op_loadA rfl rfl hb' rfl rfl) rfl ?_ | refine RE.x (op_eql rfl rfl) rfl ?_ | refine RE.x (op_neq rfl rfl) rfl ?_ | refine RE.x (op_lss rfl rfl) rfl ?_ | refine RE.x (op_leq rfl rfl) rfl ?_ | refine RE.x (op_gtr rfl rfl) rfl ?_ | refine RE.x (op_geq rfl rfl) rfl ?_ | refine RE.x (op_not_d rfl) rfl ?_ | refine RE.x (op_not rfl) rfl ?_ | refine RE.x (op_len_sl rfl rfl) rfl ?_ | refine RE.x (op_len_s rfl Tryz.underlying9) rfl ?_ | refine RE.x (op_extract rfl rfl) rfl ?_ | refine RE.x (op_pick_t rfl rfl rfl) rfl ?_ | refine RE.x (op_pick_f rfl rfl) rfl ?_ | refine RE.x (op_add64 rfl rfl (by omega) (by omega)) rfl ?_ | refine RE.x (op_sub64 rfl rfl (by omega) (by omega)) rfl ?_ | refine RE.x (op_eql_s rfl rfl) rfl ?_ | refine RE.x (op_neq_s rfl rfl) rfl ?_ | refine RE.want rfl rfl ?_ | refine RE.nox rfl rfl rfl rfl ?_ | refine RE.nou rfl rfl rfl ?_ | refine RE.nilx (show CE _ _ _ _ _ _ _ from ?_) | refine CE.block ?_ | refine CE.scope ?_ | refine CE.label (show CE _ _ _ _ _ _ _ from ?_) | refine CE.skip (show CE _ _ _ _ _ _ _ from ?_) | refine CE.exit (show CE _ _ _ _ _ _ _ from ?_) | refine CE.cond_t rfl ?_ | refine CE.cond_f rfl ?_)
      refine RE.x (op_load rfl rfl (hn.ext.cell h4)) rfl ?_
      repeat (first | refine CE.seq ?_ | refine CE.text ?_ | refine RE.x (op_move rfl) rfl ?_ | refine RE.x (op_assign rfl) rfl ?_ | refine RE.x (op_nil rfl) rfl ?_ | refine RE.x (op_fieldAddr0 rfl rfl) rfl ?_ | refine RE.x (op_fieldAddr rfl rfl) rfl ?_ | refine RE.x (op_loadB rfl rfl hb' rfl) rfl ?_ | refine RE.x (op_loadA rfl rfl hb' rfl rfl) rfl ?_ | refine RE.x (op_eql rfl rfl) rfl ?_ | refine RE.x (op_neq rfl rfl) rfl ?_ | refine RE.x (op_lss rfl rfl) rfl ?_ | refine RE.x (op_leq rfl rfl) rfl ?_ | refine RE.x (op_gtr rfl rfl) rfl ?_ | refine RE.x (op_geq rfl rfl) rfl ?_ | refine RE.x (op_not_d rfl) rfl ?_ | refine RE.x (op_not rfl) rfl ?_ | refine RE.x (op_len_sl rfl rfl) rfl ?_ | refine RE.x (op_len_s rfl Tryz.underlying9) rfl ?_ | refine RE.x (op_extract rfl rfl) rfl ?_ | refine RE.x (op_pick_t rfl rfl rfl) rfl ?_ | refine RE.x (op_pick_f rfl rfl) rfl ?_ | refine RE.x (op_add64 rfl rfl (by omega) (by omega)) rfl ?_ | refine RE.x (op_sub64 rfl rfl (by omega) (by omega)) rfl ?_ | refine RE.x (op_eql_s rfl rfl) rfl ?_ | refine RE.x (op_neq_s rfl rfl) rfl ?_ | refine RE.want rfl rfl ?_ | refine RE.nox rfl rfl rfl rfl ?_ | refine RE.nou rfl rfl rfl ?_ | refine RE.nilx (show CE _ _ _ _ _ _ _ from ?_) | refine CE.block ?_ | refine CE.scope ?_ | refine CE.label (show CE _ _ _ _ _ _ _ from ?_) | refine CE.skip (show CE _ _ _ _ _ _ _ from ?_) | refine CE.exit (show CE _ _ _ _ _ _ _ from ?_) | refine CE.cond_t rfl ?_ | refine CE.cond_f rfl ?_)
      (refine CE.ret ?_; (try dsimp only); refine ret1 rfl rfl ?_)
      exact ⟨rfl, hn.ext⟩
  · rcases h with ⟨h0, h5⟩ | ⟨h2, _⟩
    · repeat (first | refine CE.seq ?_ | refine CE.text ?_ | refine RE.x (op_move rfl) rfl ?_ | refine RE.x (op_assign rfl) rfl ?_ | refine RE.x (op_nil rfl) rfl ?_ | refine RE.x (op_fieldAddr0 rfl rfl) rfl ?_ | refine RE.x (op_fieldAddr rfl rfl) rfl ?_ | refine RE.x (op_loadB rfl rfl hb rfl) rfl ?_ | refine RE.x (op_loadA rfl rfl hb rfl rfl) rfl ?_ | refine RE.x (op_eql rfl rfl) rfl ?_ | refine RE.x (op_neq rfl rfl) rfl ?_ | refine RE.x (op_lss rfl rfl) rfl ?_ | refine RE.x (op_leq rfl rfl) rfl ?_ | refine RE.x (op_gtr rfl rfl) rfl ?_ | refine RE.x (op_geq rfl rfl) rfl ?_ | refine RE.x (op_not_d rfl) rfl ?_ | refine RE.x (op_not rfl) rfl ?_ | refine RE.x (op_len_sl rfl rfl) rfl ?_ | refine RE.x (op_len_s rfl Tryz.underlying9) rfl ?_ | refine RE.x (op_extract rfl rfl) rfl ?_ | refine RE.x (op_pick_t rfl rfl rfl) rfl ?_ | refine RE.x (op_pick_f rfl rfl) rfl ?_ | refine RE.x (op_add64 rfl rfl (by omega) (by omega)) rfl ?_ | refine RE.x (op_sub64 rfl rfl (by omega) (by omega)) rfl ?_ | refine RE.x (op_eql_s rfl rfl) rfl ?_ | refine RE.x (op_neq_s rfl rfl) rfl ?_ | refine RE.want rfl rfl ?_ | refine RE.nox rfl rfl rfl rfl ?_ | refine RE.nou rfl rfl rfl ?_ | refine RE.nilx (show CE _ _ _ _ _ _ _ from ?_) | refine CE.block ?_ | refine CE.scope ?_ | refine CE.label (show CE _ _ _ _ _ _ _ from ?_) | refine CE.skip (show CE _ _ _ _ _ _ _ from ?_) | refine CE.exit (show CE _ _ _ _ _ _ _ from ?_) | refine CE.cond_t rfl ?_ | refine CE.cond_f rfl ?_)
      (refine CE.ret ?_; (try dsimp only); refine ret1 rfl rfl ?_)
      subst h5
      exact ⟨rfl, hn.ext⟩
    · omega

theorem errNew_fn {l : List UInt8} {w : World} : Fn PT 114 [S l] w (fun u w' => (∃ b, u = .iface 142 (Ptr b 0)) ∧ Ext w w') := by
  refine fn_of Tryz.func114 rfl Tryz.ntmps114 rfl ?_
  repeat (first | refine CE.seq ?_ | refine CE.text ?_ | refine RE.x (op_move rfl) rfl ?_ | refine RE.x (op_assign rfl) rfl ?_ | refine RE.x (op_nil rfl) rfl ?_ | refine RE.x (op_fieldAddr0 rfl rfl) rfl ?_ | refine RE.x (op_fieldAddr rfl rfl) rfl ?_ | refine RE.x (op_eql rfl rfl) rfl ?_ | refine RE.x (op_neq rfl rfl) rfl ?_ | refine RE.x (op_lss rfl rfl) rfl ?_ | refine RE.x (op_leq rfl rfl) rfl ?_ | refine RE.x (op_gtr rfl rfl) rfl ?_ | refine RE.x (op_geq rfl rfl) rfl ?_ | refine RE.x (op_not_d rfl) rfl ?_ | refine RE.x (op_not rfl) rfl ?_ | refine RE.x (op_len_sl rfl rfl) rfl ?_ | refine RE.x (op_len_s rfl Tryz.underlying9) rfl ?_ | refine RE.x (op_extract rfl rfl) rfl ?_ | refine RE.x (op_pick_t rfl rfl rfl) rfl ?_ | refine RE.x (op_pick_f rfl rfl) rfl ?_ | refine RE.x (op_add64 rfl rfl (by omega) (by omega)) rfl ?_ | refine RE.x (op_sub64 rfl rfl (by omega) (by omega)) rfl ?_ | refine RE.x (op_eql_s rfl rfl) rfl ?_ | refine RE.x (op_neq_s rfl rfl) rfl ?_ | refine RE.want rfl rfl ?_ | refine RE.nox rfl rfl rfl rfl ?_ | refine RE.nou rfl rfl rfl ?_ | refine RE.nilx (show CE _ _ _ _ _ _ _ from ?_) | refine CE.block ?_ | refine CE.scope ?_ | refine CE.label (show CE _ _ _ _ _ _ _ from ?_) | refine CE.skip (show CE _ _ _ _ _ _ _ from ?_) | refine CE.exit (show CE _ _ _ _ _ _ _ from ?_) | refine CE.cond_t rfl ?_ | refine CE.cond_f rfl ?_)
  refine RE.x (op_build (cells := #[S l]) rfl (by kernel_rfl)) rfl ?_
  refine RE.xe (e_box (cells := #[S l]) rfl rfl) rfl ?_
  rintro _ w1 ⟨bx, rfl, hn⟩
  refine RE.x (op_iface rfl (by kernel_rfl)) rfl ?_
  repeat (first | refine CE.seq ?_ | refine CE.text ?_ | refine RE.x (op_move rfl) rfl ?_ | refine RE.x (op_assign rfl) rfl ?_ | refine RE.x (op_nil rfl) rfl ?_ | refine RE.x (op_fieldAddr0 rfl rfl) rfl ?_ | refine RE.x (op_fieldAddr rfl rfl) rfl ?_ | refine RE.x (op_eql rfl rfl) rfl ?_ | refine RE.x (op_neq rfl rfl) rfl ?_ | refine RE.x (op_lss rfl rfl) rfl ?_ | refine RE.x (op_leq rfl rfl) rfl ?_ | refine RE.x (op_gtr rfl rfl) rfl ?_ | refine RE.x (op_geq rfl rfl) rfl ?_ | refine RE.x (op_not_d rfl) rfl ?_ | refine RE.x (op_not rfl) rfl ?_ | refine RE.x (op_len_sl rfl rfl) rfl ?_ | refine RE.x (op_len_s rfl Tryz.underlying9) rfl ?_ | refine RE.x (op_extract rfl rfl) rfl ?_ | refine RE.x (op_pick_t rfl rfl rfl) rfl ?_ | refine RE.x (op_pick_f rfl rfl) rfl ?_ | refine RE.x (op_add64 rfl rfl (by omega) (by omega)) rfl ?_ | refine RE.x (op_sub64 rfl rfl (by omega) (by omega)) rfl ?_ | refine RE.x (op_eql_s rfl rfl) rfl ?_ | refine RE.x (op_neq_s rfl rfl) rfl ?_ | refine RE.want rfl rfl ?_ | refine RE.nox rfl rfl rfl rfl ?_ | refine RE.nou rfl rfl rfl ?_ | refine RE.nilx (show CE _ _ _ _ _ _ _ from ?_) | refine CE.block ?_ | refine CE.scope ?_ | refine CE.label (show CE _ _ _ _ _ _ _ from ?_) | refine CE.skip (show CE _ _ _ _ _ _ _ from ?_) | refine CE.exit (show CE _ _ _ _ _ _ _ from ?_) | refine CE.cond_t rfl ?_ | refine CE.cond_f rfl ?_)
  (refine CE.ret ?_; (try dsimp only); refine ret1 rfl rfl ?_)
  exact ⟨⟨bx, rfl⟩, hn.ext⟩

/-! ### append -/
section
variable {n : Nat} {s : Slots} {w : World} {dst : Option Tmp} {ty : TypeId} {pos : String} {af : Array Edge} {g : Option (Nat × Bool)} {x y : Operand} {v : Value}
theorem append_where {base t ty e size bytes : Nat} {z : Value} {i : TypeInfo} (hu : PT.underlying t = some (.slice e)) (hi : PT.info? e = some i) (hs : i.size = size) (hz1 : i.zero = some z) (hz2 : i.bytes = bytes)
    {k : Nat} {xs : List Value} (hown : w.ownsRow base e size v k xs) {ab m c : Nat} {news : List Value} (hm : 0 < m) (hl : news.length = m * size)
    (hnews : ∀ j u, news[j]? = some u → w.cell? ((⟨ab, 0, none⟩ : Addr).add j) = some u) (h1 : ∀ u ∈ news, u.oneCell' = true) (h63 : k + m ≤ maxLen) (hbytes : (k + m) * bytes ≤ 140737488355328)
    {v' : Value} {w' : World} (hr : (Builtin.append_ #[t, t] ty #[v, Sl ab 0 m c]).run PT w = .ok v' w') :
    ∀ q, v'.ownBlock = some q → v.ownBlock = some q ∨ w.heap.size ≤ q := by
  subst hs hz2
  have hsmall : k + m ≤ 9223372036854775807 := by simp only [maxLen] at h63; omega
  rcases hown.2 with ⟨rfl, rfl⟩ | ⟨g, cap, cur, rfl, hbg, hg, hnc, hcm, hcs, htake⟩
  · rw [run_append_nil (P := PT) w t ty e i z hu hi hz1 ⟨ab, 0, none⟩ m c news hl hnews hm (by omega) (by have hb := hbytes; simp only [Nat.zero_add] at hb; omega)] at hr
    simp only [Result.ok.injEq] at hr
    obtain ⟨rfl, _⟩ := hr
    intro q hq
    simp only [Value.ownBlock, Option.some.injEq] at hq
    exact Or.inr (by omega)
  · by_cases hroom : k + m ≤ cap
    · have hfit : k * i.size + news.length ≤ cur.size := by rw [hl, hcs, ← Nat.add_mul]; exact Nat.mul_le_mul_right _ hroom
      rw [run_append_room (P := PT) w t ty e i hu hi g k cap cur hg ⟨ab, 0, none⟩ m c news hl hnews h1 hroom hfit] at hr
      simp only [Result.ok.injEq] at hr
      obtain ⟨rfl, _⟩ := hr
      intro q hq
      exact Or.inl hq
    · have holds : ∀ j u, xs[j]? = some u → w.cell? ((⟨g, 0, none⟩ : Addr).add j) = some u := hown.cells (g := g) rfl
      rw [run_append_grow (P := PT) w t ty e i z hu hi hz1 ⟨g, 0, none⟩ k cap xs hown.1 holds ⟨ab, 0, none⟩ m c news hl hnews (by omega) (by omega) (growslice_fits (by omega) hbytes)] at hr
      simp only [Result.ok.injEq] at hr
      obtain ⟨rfl, _⟩ := hr
      intro q hq
      simp only [Value.ownBlock, Option.some.injEq] at hq
      exact Or.inr (by omega)

theorem e_append (base : Nat) {t e size bytes : Nat} {z : Value} (ht : slLook slT t = some (e, size)) (hz : (PT.info? e).map (fun i => (i.zero, i.bytes)) = some (some z, bytes)) (hzs : z.cells.size = size) (hsz : 0 < size)
    {k : Nat} {xs : List Value} (hx : ev s x = some v) (hown : w.ownsRow base e size v k xs) {ab m c : Nat} {news : List Value} (hy : ev s y = some (Sl ab 0 m c)) (hm : 0 < m) (hl : news.length = m * size)
    (hnews : ∀ j u, news[j]? = some u → w.cell? ⟨ab, j, none⟩ = some u) (h1 : ∀ u ∈ news, u.oneCell' = true) (h63 : k + m ≤ maxLen) (hbytes : (k + m) * bytes ≤ 140737488355328) (hbase : base ≤ w.heap.size) :
    OpE PT ⟨dst, .call { callee := .builtin .append, args := #[x, y], argTypes := #[t, t] }, ty, pos, af, g⟩ n s w
      (fun v' w' => w'.ownsRow base e size v' (k + m) (xs ++ news) ∧ Fr (fun q => v.ownBlock = some q) w w' ∧ ∀ q, v'.ownBlock = some q → v.ownBlock = some q ∨ w.heap.size ≤ q) := by
  refine ⟨fun ds a ha => ?_⟩
  obtain ⟨hu, i, hi, hs⟩ := sl_spec ht
  rw [hi] at hz
  simp only [Option.map_some, Option.some.injEq, Prod.mk.injEq] at hz
  obtain ⟨hz1, hz2⟩ := hz
  have hnews' : ∀ j u, news[j]? = some u → w.cell? ((⟨ab, 0, none⟩ : Addr).add j) = some u := fun j u hj => by rw [Addr.add_lit, Nat.zero_add]; exact hnews j u hj
  obtain ⟨v', w', hr, h2, h3, h4⟩ := run_append_own (P := PT) w base t ty e i z size bytes hu hi hz1 hs hz2 hzs hsz v k xs hown ⟨ab, 0, none⟩ m c news hl hnews' h1 h63 hbytes hbase
  refine ⟨v', w', Or.inl ?_, h2, ⟨h3.os, h3.tape, h3.output, h3.size, fun q hq hn => h3.block q hq (fun e => hn e.symm)⟩, append_where hu hi hs hz1 hz2 hown hm hl hnews' h1 h63 hbytes hr⟩
  rw [BigFrame.execOp_builtin, BigFrame.builtin_append]
  simp [ha.ev hx, ha.ev hy, hr]

theorem grownBy_fr {w w' : World} {row : Option Nat} {S : Nat → Prop} (h : w.grownBy w' row) (hs : ∀ k, row = some k → S k) : Fr S w w' :=
  ⟨h.os, h.tape, h.output, h.size, fun k hk hn => h.block k hk (fun e => hn (hs k e.symm))⟩
end

theorem ownsRow_one {w : World} {base e size k : Nat} {v : Value} {xs : List Value} (h : w.ownsRow base e size v k xs) : v.oneCell' = true := by
  rcases h.2 with ⟨rfl, _⟩ | ⟨g, cap, cur, rfl, _⟩ <;> rfl

/-- The lexer's items: k of them, their cells one behind the other. -/
def Own (B : Nat) (w : World) (v : Value) (xs : List IC) : Prop := w.ownsRow B 63 7 v xs.length (xs.flatMap IC.lst)

theorem Own.fr {B : Nat} {w w' : World} {v : Value} {xs : List IC} {S : Nat → Prop} (h : Own B w v xs) (hf : Fr S w w') (hs : ∀ q, v.ownBlock = some q → ¬ S q) : Own B w' v xs := by
  refine ⟨h.1, ?_⟩
  rcases h.2 with hn | ⟨g, cap, cur, rfl, hb, hgg, rest⟩
  · exact Or.inl hn
  · exact Or.inr ⟨g, cap, cur, rfl, hb, hf.block hgg (hs g rfl), rest⟩
theorem Own.lt {B : Nat} {w : World} {v : Value} {xs : List IC} (h : Own B w v xs) : ∀ q, v.ownBlock = some q → B ≤ q ∧ q < w.heap.size := World.ownsRow.lt h
theorem Own.one {B : Nat} {w : World} {v : Value} {xs : List IC} (h : Own B w v xs) : v.oneCell' = true := by
  rcases h.2 with ⟨rfl, _⟩ | ⟨g, cap, cur, rfl, _⟩ <;> rfl

/-- The item with the byte at its place. -/
def IC.fix (x : IC) (t : List UInt8) (p : Nat) : IC := if h : p < t.length then { x with fb := t[p].toNat } else x

theorem IC.fix_ev (x : IC) (t : List UInt8) (p : Nat) : (x.fix t p).ev = x.ev := by unfold IC.fix; split <;> rfl
theorem IC.lst_one {x : IC} (h : x.ev.oneCell' = true) : ∀ u ∈ x.lst, u.oneCell' = true := by
  intro u hu
  simp only [IC.lst, List.mem_cons, List.not_mem_nil, or_false] at hu
  rcases hu with rfl | rfl | rfl | rfl | rfl | rfl | rfl <;> first | rfl | exact h

theorem OpE.mono {P : Program} {o : Oper} {n : Nat} {s : Slots} {w : World} {Φ Ψ : Value → World → Prop} (h : OpE P o n s w Φ) (hk : ∀ v w', Φ v w' → Ψ v w') : OpE P o n s w Ψ :=
  ⟨fun ds a ha => let ⟨v, w', h1, h2⟩ := h.out ds a ha; ⟨v, w', h1, hk _ _ h2⟩⟩

/-- What the lexer's append leaves. -/
structure AM (L B : Nat) (c : LC) (xs : List IC) (x : IC) (w w' : World) : Prop where
  ex : ∃ v', AtL L { c with items := v' } w' ∧ Own B w' v' (xs ++ [x]) ∧ (∀ q, v'.ownBlock = some q → c.items.ownBlock = some q ∨ w.heap.size ≤ q)
  fr : Fr (fun q => q = L ∨ c.items.ownBlock = some q) w w'


theorem append_fn {L ib B : Nat} {t : List UInt8} {c : LC} {w : World} {x : IC} {xs : List IC} {p : Nat} (h : Lx L ib B t c w) (hx : x.at w p) (hown : Own B w c.items xs) (hev : x.ev.oneCell' = true)
    (hL : c.items.ownBlock ≠ some L) (hn : xs.length ≤ 100000000) :
    Fn PT 113 [Ptr L 0, x.val] w (fun u w' => u = .tuple #[] ∧ AM L B c xs (x.fix t p) w w') := by
  refine fn_of Tryz.func113 rfl Tryz.ntmps113 rfl ?_
  have hB := h.at_
  unfold AtL at hB
  have hil := h.il
  repeat (first | refine CE.seq ?_ | refine CE.text ?_ | refine RE.x (op_move rfl) rfl ?_ | refine RE.x (op_assign rfl) rfl ?_ | refine RE.x (op_nil rfl) rfl ?_ | refine RE.x (op_fieldAddr0 rfl rfl) rfl ?_ | refine RE.x (op_fieldAddr rfl rfl) rfl ?_ | refine RE.x (op_eql rfl rfl) rfl ?_ | refine RE.x (op_neq rfl rfl) rfl ?_ | refine RE.x (op_lss rfl rfl) rfl ?_ | refine RE.x (op_leq rfl rfl) rfl ?_ | refine RE.x (op_gtr rfl rfl) rfl ?_ | refine RE.x (op_geq rfl rfl) rfl ?_ | refine RE.x (op_not_d rfl) rfl ?_ | refine RE.x (op_not rfl) rfl ?_ | refine RE.x (op_len_sl rfl rfl) rfl ?_ | refine RE.x (op_len_s rfl Tryz.underlying9) rfl ?_ | refine RE.x (op_extract rfl rfl) rfl ?_ | refine RE.x (op_pick_t rfl rfl rfl) rfl ?_ | refine RE.x (op_pick_f rfl rfl) rfl ?_ | refine RE.x (op_add64 rfl rfl (by omega) (by omega)) rfl ?_ | refine RE.x (op_sub64 rfl rfl (by omega) (by omega)) rfl ?_ | refine RE.x (op_eql_s rfl rfl) rfl ?_ | refine RE.x (op_neq_s rfl rfl) rfl ?_ | refine RE.want rfl rfl ?_ | refine RE.nox rfl rfl rfl rfl ?_ | refine RE.nou rfl rfl rfl ?_ | refine RE.nilx (show CE _ _ _ _ _ _ _ from ?_) | refine CE.block ?_ | refine CE.scope ?_ | refine CE.label (show CE _ _ _ _ _ _ _ from ?_) | refine CE.skip (show CE _ _ _ _ _ _ _ from ?_) | refine CE.exit (show CE _ _ _ _ _ _ _ from ?_) | refine CE.cond_t rfl ?_ | refine CE.cond_f rfl ?_)
  refine RE.xe (e_box (cells := x.lst.toArray) rfl rfl) rfl ?_
  rintro _ w1 ⟨bx, rfl, hn1⟩
  have hb := hn1.here
  have e1 := hn1.ext
  have hB1 := e1.block hB
  have hbL : ¬ (bx = L) := by have := h.at_.lt; have := hn1.num; omega
  have hbd : w1.drew.heap[bx]? = _ := hb
  have hBd : w1.drew.heap[L]? = _ := hB1
  repeat (first | refine CE.seq ?_ | refine CE.text ?_ | refine RE.x (op_move rfl) rfl ?_ | refine RE.x (op_assign rfl) rfl ?_ | refine RE.x (op_nil rfl) rfl ?_ | refine RE.x (op_fieldAddr0 rfl rfl) rfl ?_ | refine RE.x (op_fieldAddr rfl rfl) rfl ?_ | refine RE.x (op_eql rfl rfl) rfl ?_ | refine RE.x (op_neq rfl rfl) rfl ?_ | refine RE.x (op_lss rfl rfl) rfl ?_ | refine RE.x (op_leq rfl rfl) rfl ?_ | refine RE.x (op_gtr rfl rfl) rfl ?_ | refine RE.x (op_geq rfl rfl) rfl ?_ | refine RE.x (op_not_d rfl) rfl ?_ | refine RE.x (op_not rfl) rfl ?_ | refine RE.x (op_len_sl rfl rfl) rfl ?_ | refine RE.x (op_len_s rfl Tryz.underlying9) rfl ?_ | refine RE.x (op_extract rfl rfl) rfl ?_ | refine RE.x (op_pick_t rfl rfl rfl) rfl ?_ | refine RE.x (op_pick_f rfl rfl) rfl ?_ | refine RE.x (op_add64 rfl rfl (by omega) (by omega)) rfl ?_ | refine RE.x (op_sub64 rfl rfl (by omega) (by omega)) rfl ?_ | refine RE.x (op_eql_s rfl rfl) rfl ?_ | refine RE.x (op_neq_s rfl rfl) rfl ?_ | refine RE.want rfl rfl ?_ | refine RE.nox rfl rfl rfl rfl ?_ | refine RE.nou rfl rfl rfl ?_ | refine RE.nilx (show CE _ _ _ _ _ _ _ from ?_) | refine CE.block ?_ | refine CE.scope ?_ | refine CE.label (show CE _ _ _ _ _ _ _ from ?_) | refine CE.skip (show CE _ _ _ _ _ _ _ from ?_) | refine CE.exit (show CE _ _ _ _ _ _ _ from ?_) | refine CE.cond_t rfl ?_ | refine CE.cond_f rfl ?_)
  refine CE.drawR Ext [0, 0, 0, 0, 0, 0, 0, 0] mixed Ext.refl (fun _ _ _ => Ext.trans) (by decide +kernel) ?_
  repeat (first | refine RE.dd (fun _ hw => op_move rfl) rfl Ext.refl ?_ | refine RE.dd (fun _ hw => op_assign rfl) rfl Ext.refl ?_ | refine RE.dd (fun _ hw => op_nil rfl) rfl Ext.refl ?_ | refine RE.dd (fun _ hw => op_fieldAddr0 rfl rfl) rfl Ext.refl ?_ | refine RE.dd (fun _ hw => op_fieldAddr rfl rfl) rfl Ext.refl ?_ | refine RE.dd (fun _ hw => op_loadB rfl rfl (Ext.block hw hbd) rfl) rfl Ext.refl ?_ | refine RE.dd (fun _ hw => op_loadB rfl rfl (Ext.block hw hBd) rfl) rfl Ext.refl ?_ | refine RE.dd (fun _ hw => op_loadA rfl rfl (Ext.block hw hbd) rfl rfl) rfl Ext.refl ?_ | refine RE.dd (fun _ hw => op_loadA rfl rfl (Ext.block hw hBd) rfl rfl) rfl Ext.refl ?_ | refine RE.dd (fun _ hw => op_loadB rfl rfl (Ext.block hw.1 hbd) rfl) rfl Ext.refl ?_ | refine RE.dd (fun _ hw => op_loadB rfl rfl (Ext.block hw.1 hBd) rfl) rfl Ext.refl ?_ | refine RE.dd (fun _ hw => op_loadA rfl rfl (Ext.block hw.1 hbd) rfl rfl) rfl Ext.refl ?_ | refine RE.dd (fun _ hw => op_loadA rfl rfl (Ext.block hw.1 hBd) rfl rfl) rfl Ext.refl ?_ | refine RE.dd (fun _ hw => op_loadB rfl rfl (Ext.block hw.1.1 hbd) rfl) rfl Ext.refl ?_ | refine RE.dd (fun _ hw => op_loadB rfl rfl (Ext.block hw.1.1 hBd) rfl) rfl Ext.refl ?_ | refine RE.dd (fun _ hw => op_loadA rfl rfl (Ext.block hw.1.1 hbd) rfl rfl) rfl Ext.refl ?_ | refine RE.dd (fun _ hw => op_loadA rfl rfl (Ext.block hw.1.1 hBd) rfl rfl) rfl Ext.refl ?_ | refine RE.dd (fun _ hw => op_eql rfl rfl) rfl Ext.refl ?_ | refine RE.dd (fun _ hw => op_neq rfl rfl) rfl Ext.refl ?_ | refine RE.dd (fun _ hw => op_lss rfl rfl) rfl Ext.refl ?_ | refine RE.dd (fun _ hw => op_leq rfl rfl) rfl Ext.refl ?_ | refine RE.dd (fun _ hw => op_gtr rfl rfl) rfl Ext.refl ?_ | refine RE.dd (fun _ hw => op_geq rfl rfl) rfl Ext.refl ?_ | refine RE.dd (fun _ hw => op_not_d rfl) rfl Ext.refl ?_ | refine RE.dd (fun _ hw => op_not rfl) rfl Ext.refl ?_ | refine RE.dd (fun _ hw => op_len_sl rfl rfl) rfl Ext.refl ?_ | refine RE.dd (fun _ hw => op_len_s rfl Tryz.underlying9) rfl Ext.refl ?_ | refine RE.dd (fun _ hw => op_extract rfl rfl) rfl Ext.refl ?_ | refine RE.dd (fun _ hw => op_add64 rfl rfl (by omega) (by omega)) rfl Ext.refl ?_ | refine RE.dd (fun _ hw => op_sub64 rfl rfl (by omega) (by omega)) rfl Ext.refl ?_ | refine RE.dd (fun _ hw => op_eql_s rfl rfl) rfl Ext.refl ?_ | refine RE.dd (fun _ hw => op_neq_s rfl rfl) rfl Ext.refl ?_ | refine RE.want rfl rfl ?_ | refine RE.no0 rfl rfl rfl rfl ?_)
  refine RE.dc en44 rfl rfl (fun w2 hw2 => pos_fn (x := x) ((hx.ext e1).ext ((Ext.drew _).trans hw2))) ?_
  repeat (first | refine RE.dd (fun _ hw => op_move rfl) rfl Ext.refl ?_ | refine RE.dd (fun _ hw => op_assign rfl) rfl Ext.refl ?_ | refine RE.dd (fun _ hw => op_nil rfl) rfl Ext.refl ?_ | refine RE.dd (fun _ hw => op_fieldAddr0 rfl rfl) rfl Ext.refl ?_ | refine RE.dd (fun _ hw => op_fieldAddr rfl rfl) rfl Ext.refl ?_ | refine RE.dd (fun _ hw => op_loadB rfl rfl (Ext.block hw hbd) rfl) rfl Ext.refl ?_ | refine RE.dd (fun _ hw => op_loadB rfl rfl (Ext.block hw hBd) rfl) rfl Ext.refl ?_ | refine RE.dd (fun _ hw => op_loadA rfl rfl (Ext.block hw hbd) rfl rfl) rfl Ext.refl ?_ | refine RE.dd (fun _ hw => op_loadA rfl rfl (Ext.block hw hBd) rfl rfl) rfl Ext.refl ?_ | refine RE.dd (fun _ hw => op_loadB rfl rfl (Ext.block hw.1 hbd) rfl) rfl Ext.refl ?_ | refine RE.dd (fun _ hw => op_loadB rfl rfl (Ext.block hw.1 hBd) rfl) rfl Ext.refl ?_ | refine RE.dd (fun _ hw => op_loadA rfl rfl (Ext.block hw.1 hbd) rfl rfl) rfl Ext.refl ?_ | refine RE.dd (fun _ hw => op_loadA rfl rfl (Ext.block hw.1 hBd) rfl rfl) rfl Ext.refl ?_ | refine RE.dd (fun _ hw => op_loadB rfl rfl (Ext.block hw.1.1 hbd) rfl) rfl Ext.refl ?_ | refine RE.dd (fun _ hw => op_loadB rfl rfl (Ext.block hw.1.1 hBd) rfl) rfl Ext.refl ?_ | refine RE.dd (fun _ hw => op_loadA rfl rfl (Ext.block hw.1.1 hbd) rfl rfl) rfl Ext.refl ?_ | refine RE.dd (fun _ hw => op_loadA rfl rfl (Ext.block hw.1.1 hBd) rfl rfl) rfl Ext.refl ?_ | refine RE.dd (fun _ hw => op_eql rfl rfl) rfl Ext.refl ?_ | refine RE.dd (fun _ hw => op_neq rfl rfl) rfl Ext.refl ?_ | refine RE.dd (fun _ hw => op_lss rfl rfl) rfl Ext.refl ?_ | refine RE.dd (fun _ hw => op_leq rfl rfl) rfl Ext.refl ?_ | refine RE.dd (fun _ hw => op_gtr rfl rfl) rfl Ext.refl ?_ | refine RE.dd (fun _ hw => op_geq rfl rfl) rfl Ext.refl ?_ | refine RE.dd (fun _ hw => op_not_d rfl) rfl Ext.refl ?_ | refine RE.dd (fun _ hw => op_not rfl) rfl Ext.refl ?_ | refine RE.dd (fun _ hw => op_len_sl rfl rfl) rfl Ext.refl ?_ | refine RE.dd (fun _ hw => op_len_s rfl Tryz.underlying9) rfl Ext.refl ?_ | refine RE.dd (fun _ hw => op_extract rfl rfl) rfl Ext.refl ?_ | refine RE.dd (fun _ hw => op_add64 rfl rfl (by omega) (by omega)) rfl Ext.refl ?_ | refine RE.dd (fun _ hw => op_sub64 rfl rfl (by omega) (by omega)) rfl Ext.refl ?_ | refine RE.dd (fun _ hw => op_eql_s rfl rfl) rfl Ext.refl ?_ | refine RE.dd (fun _ hw => op_neq_s rfl rfl) rfl Ext.refl ?_ | refine RE.want rfl rfl ?_ | refine RE.no0 rfl rfl rfl rfl ?_)
  refine RE.nil (fun w2 hw2 => ?_)
  have ew2 : Ext w w2 := e1.trans ((Ext.drew _).trans hw2)
  have hb2 := hw2.block hbd
  have hB2 := hw2.block hBd
  refine CE.cut (fun s ds w' => ds = [] ∧ SubL [(0, Ptr L 0), (3, Ptr bx 0)] s ∧ w'.heap[bx]? = some (.cells (x.fix t p).lst.toArray 63 (0, 0)) ∧ w'.heap[L]? = some (.cells c.arr 79 (0, 0)) ∧ Ext w w') ?_ ?_
  · refine CE.cond_d rfl (fun h1 => ?_) (fun h1 => ?_)
    · have hp : p < t.length := by omega
      have hb2d : w2.drew.heap[bx]? = _ := hb2
      have hB2d : w2.drew.heap[L]? = _ := hB2
      obtain ⟨ia', ic', hie, hicl, hic⟩ := h.inp
      obtain ⟨io, hio, hcells⟩ := hic (by intro e; subst e; simp at hp)
      simp only [Value.slice.injEq] at hie
      obtain ⟨hie1, hie2, hie3⟩ := hie
      have hB2s : w2.drew.heap[L]? = some (.cells { c with ia := some ⟨ib, io, none⟩ }.arr 79 (0, 0)) := by rw [hB2d, ← hio, ← hie1]
      refine CE.drawR Ext [0, 0, 0, 0, 0, 0, 0, 0, 0, 2] mixed Ext.refl (fun _ _ _ => Ext.trans) (by decide +kernel) ?_
      repeat (first | refine RE.dd (fun _ hw => op_move rfl) rfl Ext.refl ?_ | refine RE.dd (fun _ hw => op_assign rfl) rfl Ext.refl ?_ | refine RE.dd (fun _ hw => op_nil rfl) rfl Ext.refl ?_ | refine RE.dd (fun _ hw => op_fieldAddr0 rfl rfl) rfl Ext.refl ?_ | refine RE.dd (fun _ hw => op_fieldAddr rfl rfl) rfl Ext.refl ?_ | refine RE.dd (fun _ hw => op_loadB rfl rfl (Ext.block hw hb2d) rfl) rfl Ext.refl ?_ | refine RE.dd (fun _ hw => op_loadB rfl rfl (Ext.block hw hB2s) rfl) rfl Ext.refl ?_ | refine RE.dd (fun _ hw => op_loadA rfl rfl (Ext.block hw hb2d) rfl rfl) rfl Ext.refl ?_ | refine RE.dd (fun _ hw => op_loadA rfl rfl (Ext.block hw hB2s) rfl rfl) rfl Ext.refl ?_ | refine RE.dd (fun _ hw => op_loadB rfl rfl (Ext.block hw.1 hb2d) rfl) rfl Ext.refl ?_ | refine RE.dd (fun _ hw => op_loadB rfl rfl (Ext.block hw.1 hB2s) rfl) rfl Ext.refl ?_ | refine RE.dd (fun _ hw => op_loadA rfl rfl (Ext.block hw.1 hb2d) rfl rfl) rfl Ext.refl ?_ | refine RE.dd (fun _ hw => op_loadA rfl rfl (Ext.block hw.1 hB2s) rfl rfl) rfl Ext.refl ?_ | refine RE.dd (fun _ hw => op_loadB rfl rfl (Ext.block hw.1.1 hb2d) rfl) rfl Ext.refl ?_ | refine RE.dd (fun _ hw => op_loadB rfl rfl (Ext.block hw.1.1 hB2s) rfl) rfl Ext.refl ?_ | refine RE.dd (fun _ hw => op_loadA rfl rfl (Ext.block hw.1.1 hb2d) rfl rfl) rfl Ext.refl ?_ | refine RE.dd (fun _ hw => op_loadA rfl rfl (Ext.block hw.1.1 hB2s) rfl rfl) rfl Ext.refl ?_ | refine RE.dd (fun _ hw => op_eql rfl rfl) rfl Ext.refl ?_ | refine RE.dd (fun _ hw => op_neq rfl rfl) rfl Ext.refl ?_ | refine RE.dd (fun _ hw => op_lss rfl rfl) rfl Ext.refl ?_ | refine RE.dd (fun _ hw => op_leq rfl rfl) rfl Ext.refl ?_ | refine RE.dd (fun _ hw => op_gtr rfl rfl) rfl Ext.refl ?_ | refine RE.dd (fun _ hw => op_geq rfl rfl) rfl Ext.refl ?_ | refine RE.dd (fun _ hw => op_not_d rfl) rfl Ext.refl ?_ | refine RE.dd (fun _ hw => op_not rfl) rfl Ext.refl ?_ | refine RE.dd (fun _ hw => op_len_sl rfl rfl) rfl Ext.refl ?_ | refine RE.dd (fun _ hw => op_len_s rfl Tryz.underlying9) rfl Ext.refl ?_ | refine RE.dd (fun _ hw => op_extract rfl rfl) rfl Ext.refl ?_ | refine RE.dd (fun _ hw => op_add64 rfl rfl (by omega) (by omega)) rfl Ext.refl ?_ | refine RE.dd (fun _ hw => op_sub64 rfl rfl (by omega) (by omega)) rfl Ext.refl ?_ | refine RE.dd (fun _ hw => op_eql_s rfl rfl) rfl Ext.refl ?_ | refine RE.dd (fun _ hw => op_neq_s rfl rfl) rfl Ext.refl ?_ | refine RE.want rfl rfl ?_ | refine RE.no0 rfl rfl rfl rfl ?_)
      refine RE.dc en44 rfl rfl (fun w3 hw3 => pos_fn (x := x) ((hx.ext ew2).ext ((Ext.drew _).trans hw3))) ?_
      repeat (first | refine RE.dd (fun _ hw => op_move rfl) rfl Ext.refl ?_ | refine RE.dd (fun _ hw => op_assign rfl) rfl Ext.refl ?_ | refine RE.dd (fun _ hw => op_nil rfl) rfl Ext.refl ?_ | refine RE.dd (fun _ hw => op_fieldAddr0 rfl rfl) rfl Ext.refl ?_ | refine RE.dd (fun _ hw => op_fieldAddr rfl rfl) rfl Ext.refl ?_ | refine RE.dd (fun _ hw => op_loadB rfl rfl (Ext.block hw hb2d) rfl) rfl Ext.refl ?_ | refine RE.dd (fun _ hw => op_loadB rfl rfl (Ext.block hw hB2s) rfl) rfl Ext.refl ?_ | refine RE.dd (fun _ hw => op_loadA rfl rfl (Ext.block hw hb2d) rfl rfl) rfl Ext.refl ?_ | refine RE.dd (fun _ hw => op_loadA rfl rfl (Ext.block hw hB2s) rfl rfl) rfl Ext.refl ?_ | refine RE.dd (fun _ hw => op_loadB rfl rfl (Ext.block hw.1 hb2d) rfl) rfl Ext.refl ?_ | refine RE.dd (fun _ hw => op_loadB rfl rfl (Ext.block hw.1 hB2s) rfl) rfl Ext.refl ?_ | refine RE.dd (fun _ hw => op_loadA rfl rfl (Ext.block hw.1 hb2d) rfl rfl) rfl Ext.refl ?_ | refine RE.dd (fun _ hw => op_loadA rfl rfl (Ext.block hw.1 hB2s) rfl rfl) rfl Ext.refl ?_ | refine RE.dd (fun _ hw => op_loadB rfl rfl (Ext.block hw.1.1 hb2d) rfl) rfl Ext.refl ?_ | refine RE.dd (fun _ hw => op_loadB rfl rfl (Ext.block hw.1.1 hB2s) rfl) rfl Ext.refl ?_ | refine RE.dd (fun _ hw => op_loadA rfl rfl (Ext.block hw.1.1 hb2d) rfl rfl) rfl Ext.refl ?_ | refine RE.dd (fun _ hw => op_loadA rfl rfl (Ext.block hw.1.1 hB2s) rfl rfl) rfl Ext.refl ?_ | refine RE.dd (fun _ hw => op_eql rfl rfl) rfl Ext.refl ?_ | refine RE.dd (fun _ hw => op_neq rfl rfl) rfl Ext.refl ?_ | refine RE.dd (fun _ hw => op_lss rfl rfl) rfl Ext.refl ?_ | refine RE.dd (fun _ hw => op_leq rfl rfl) rfl Ext.refl ?_ | refine RE.dd (fun _ hw => op_gtr rfl rfl) rfl Ext.refl ?_ | refine RE.dd (fun _ hw => op_geq rfl rfl) rfl Ext.refl ?_ | refine RE.dd (fun _ hw => op_not_d rfl) rfl Ext.refl ?_ | refine RE.dd (fun _ hw => op_not rfl) rfl Ext.refl ?_ | refine RE.dd (fun _ hw => op_len_sl rfl rfl) rfl Ext.refl ?_ | refine RE.dd (fun _ hw => op_len_s rfl Tryz.underlying9) rfl Ext.refl ?_ | refine RE.dd (fun _ hw => op_extract rfl rfl) rfl Ext.refl ?_ | refine RE.dd (fun _ hw => op_add64 rfl rfl (by omega) (by omega)) rfl Ext.refl ?_ | refine RE.dd (fun _ hw => op_sub64 rfl rfl (by omega) (by omega)) rfl Ext.refl ?_ | refine RE.dd (fun _ hw => op_eql_s rfl rfl) rfl Ext.refl ?_ | refine RE.dd (fun _ hw => op_neq_s rfl rfl) rfl Ext.refl ?_ | refine RE.want rfl rfl ?_ | refine RE.no0 rfl rfl rfl rfl ?_)
      refine RE.dd (fun _ _ => op_indexAddr rfl rfl rfl (by omega) (by omega)) rfl Ext.refl ?_
      have hcp : w2.drew.cell? ⟨ib, io + (p : Int).toNat * 1, none⟩ = some (Wk.B t[p]) := by
        have e1 : io + (p : Int).toNat * 1 = io + p := by omega
        rw [e1]
        exact (ew2.trans (Ext.drew _)).cell (hcells p hp)
      refine RE.dd (fun _ hw => op_load rfl rfl (hw.cell hcp)) rfl Ext.refl ?_
      repeat (first | refine RE.dd (fun _ hw => op_move rfl) rfl Ext.refl ?_ | refine RE.dd (fun _ hw => op_assign rfl) rfl Ext.refl ?_ | refine RE.dd (fun _ hw => op_nil rfl) rfl Ext.refl ?_ | refine RE.dd (fun _ hw => op_fieldAddr0 rfl rfl) rfl Ext.refl ?_ | refine RE.dd (fun _ hw => op_fieldAddr rfl rfl) rfl Ext.refl ?_ | refine RE.dd (fun _ hw => op_loadB rfl rfl (Ext.block hw hb2d) rfl) rfl Ext.refl ?_ | refine RE.dd (fun _ hw => op_loadB rfl rfl (Ext.block hw hB2s) rfl) rfl Ext.refl ?_ | refine RE.dd (fun _ hw => op_loadA rfl rfl (Ext.block hw hb2d) rfl rfl) rfl Ext.refl ?_ | refine RE.dd (fun _ hw => op_loadA rfl rfl (Ext.block hw hB2s) rfl rfl) rfl Ext.refl ?_ | refine RE.dd (fun _ hw => op_loadB rfl rfl (Ext.block hw.1 hb2d) rfl) rfl Ext.refl ?_ | refine RE.dd (fun _ hw => op_loadB rfl rfl (Ext.block hw.1 hB2s) rfl) rfl Ext.refl ?_ | refine RE.dd (fun _ hw => op_loadA rfl rfl (Ext.block hw.1 hb2d) rfl rfl) rfl Ext.refl ?_ | refine RE.dd (fun _ hw => op_loadA rfl rfl (Ext.block hw.1 hB2s) rfl rfl) rfl Ext.refl ?_ | refine RE.dd (fun _ hw => op_loadB rfl rfl (Ext.block hw.1.1 hb2d) rfl) rfl Ext.refl ?_ | refine RE.dd (fun _ hw => op_loadB rfl rfl (Ext.block hw.1.1 hB2s) rfl) rfl Ext.refl ?_ | refine RE.dd (fun _ hw => op_loadA rfl rfl (Ext.block hw.1.1 hb2d) rfl rfl) rfl Ext.refl ?_ | refine RE.dd (fun _ hw => op_loadA rfl rfl (Ext.block hw.1.1 hB2s) rfl rfl) rfl Ext.refl ?_ | refine RE.dd (fun _ hw => op_eql rfl rfl) rfl Ext.refl ?_ | refine RE.dd (fun _ hw => op_neq rfl rfl) rfl Ext.refl ?_ | refine RE.dd (fun _ hw => op_lss rfl rfl) rfl Ext.refl ?_ | refine RE.dd (fun _ hw => op_leq rfl rfl) rfl Ext.refl ?_ | refine RE.dd (fun _ hw => op_gtr rfl rfl) rfl Ext.refl ?_ | refine RE.dd (fun _ hw => op_geq rfl rfl) rfl Ext.refl ?_ | refine RE.dd (fun _ hw => op_not_d rfl) rfl Ext.refl ?_ | refine RE.dd (fun _ hw => op_not rfl) rfl Ext.refl ?_ | refine RE.dd (fun _ hw => op_len_sl rfl rfl) rfl Ext.refl ?_ | refine RE.dd (fun _ hw => op_len_s rfl Tryz.underlying9) rfl Ext.refl ?_ | refine RE.dd (fun _ hw => op_extract rfl rfl) rfl Ext.refl ?_ | refine RE.dd (fun _ hw => op_add64 rfl rfl (by omega) (by omega)) rfl Ext.refl ?_ | refine RE.dd (fun _ hw => op_sub64 rfl rfl (by omega) (by omega)) rfl Ext.refl ?_ | refine RE.dd (fun _ hw => op_eql_s rfl rfl) rfl Ext.refl ?_ | refine RE.dd (fun _ hw => op_neq_s rfl rfl) rfl Ext.refl ?_ | refine RE.want rfl rfl ?_ | refine RE.no0 rfl rfl rfl rfl ?_)
      refine RE.es (fun _ hw => e_store rfl rfl rfl (hw.block hb2d) rfl rfl) ?_
      rintro w3 hw3 _ w4 hu
      refine RE.nil (fun w5 hw5 => ⟨rfl, ⟨rfl, rfl, trivial⟩, ?_, ?_, ?_⟩)
      · rw [hw5.block hu.here]
        simp only [IC.fix, dif_pos hp]
        rfl
      · exact hw5.block (by rw [hu.other L (fun e => hbL e.symm)]; exact hw3.block hB2d)
      · refine Ext.trans (b := w4) ?_ hw5
        have e3 : Ext w w3 := ew2.trans ((Ext.drew _).trans hw3)
        refine ⟨hu.os.trans e3.os, hu.tape.trans e3.tape, hu.output.trans e3.output, by rw [hu.size]; exact e3.size, fun k hk => ?_⟩
        rw [hu.other k (by have := hn1.num; omega)]
        exact Below.block e3 k hk
    · have hp : ¬ p < t.length := by omega
      refine CE.skip ⟨rfl, ⟨rfl, rfl, trivial⟩, ?_, hB2, ew2⟩
      rw [hb2]
      simp only [IC.fix, dif_neg hp]
  · rintro s _ w3 ⟨rfl, hs, hb3, hB3, ew3⟩
    refine CE.sub hs ?_
    have hb3d : w3.drew.heap[bx]? = _ := hb3
    have hB3d : w3.drew.heap[L]? = _ := hB3
    (refine CE.drawA Ext [0] [0, 0, 0, 0, 0, 1, 2, 0, 0, 2] [1, 2, 3, 4, 5, 6, 7, 8, 9, 10] mixed Ext.refl (fun _ _ _ => Ext.trans) (by decide +kernel) ?_); (simp only [pick, nthO, List.cons_append, List.nil_append]); (repeat (first | refine PR.p (fun _ => op_move rfl) rfl ?_ | refine PR.p (fun _ => op_fieldAddr0 rfl rfl) rfl ?_ | refine PR.p (fun _ => op_fieldAddr rfl rfl) rfl ?_)); refine PR.nil ?_
    repeat (first | refine RE.dd (fun _ hw => op_move rfl) rfl Ext.refl ?_ | refine RE.dd (fun _ hw => op_assign rfl) rfl Ext.refl ?_ | refine RE.dd (fun _ hw => op_nil rfl) rfl Ext.refl ?_ | refine RE.dd (fun _ hw => op_fieldAddr0 rfl rfl) rfl Ext.refl ?_ | refine RE.dd (fun _ hw => op_fieldAddr rfl rfl) rfl Ext.refl ?_ | refine RE.dd (fun _ hw => op_loadB rfl rfl (Ext.block hw hb3d) rfl) rfl Ext.refl ?_ | refine RE.dd (fun _ hw => op_loadB rfl rfl (Ext.block hw hB3d) rfl) rfl Ext.refl ?_ | refine RE.dd (fun _ hw => op_loadA rfl rfl (Ext.block hw hb3d) rfl rfl) rfl Ext.refl ?_ | refine RE.dd (fun _ hw => op_loadA rfl rfl (Ext.block hw hB3d) rfl rfl) rfl Ext.refl ?_ | refine RE.dd (fun _ hw => op_loadB rfl rfl (Ext.block hw.1 hb3d) rfl) rfl Ext.refl ?_ | refine RE.dd (fun _ hw => op_loadB rfl rfl (Ext.block hw.1 hB3d) rfl) rfl Ext.refl ?_ | refine RE.dd (fun _ hw => op_loadA rfl rfl (Ext.block hw.1 hb3d) rfl rfl) rfl Ext.refl ?_ | refine RE.dd (fun _ hw => op_loadA rfl rfl (Ext.block hw.1 hB3d) rfl rfl) rfl Ext.refl ?_ | refine RE.dd (fun _ hw => op_loadB rfl rfl (Ext.block hw.1.1 hb3d) rfl) rfl Ext.refl ?_ | refine RE.dd (fun _ hw => op_loadB rfl rfl (Ext.block hw.1.1 hB3d) rfl) rfl Ext.refl ?_ | refine RE.dd (fun _ hw => op_loadA rfl rfl (Ext.block hw.1.1 hb3d) rfl rfl) rfl Ext.refl ?_ | refine RE.dd (fun _ hw => op_loadA rfl rfl (Ext.block hw.1.1 hB3d) rfl rfl) rfl Ext.refl ?_ | refine RE.dd (fun _ hw => op_eql rfl rfl) rfl Ext.refl ?_ | refine RE.dd (fun _ hw => op_neq rfl rfl) rfl Ext.refl ?_ | refine RE.dd (fun _ hw => op_lss rfl rfl) rfl Ext.refl ?_ | refine RE.dd (fun _ hw => op_leq rfl rfl) rfl Ext.refl ?_ | refine RE.dd (fun _ hw => op_gtr rfl rfl) rfl Ext.refl ?_ | refine RE.dd (fun _ hw => op_geq rfl rfl) rfl Ext.refl ?_ | refine RE.dd (fun _ hw => op_not_d rfl) rfl Ext.refl ?_ | refine RE.dd (fun _ hw => op_not rfl) rfl Ext.refl ?_ | refine RE.dd (fun _ hw => op_len_sl rfl rfl) rfl Ext.refl ?_ | refine RE.dd (fun _ hw => op_len_s rfl Tryz.underlying9) rfl Ext.refl ?_ | refine RE.dd (fun _ hw => op_extract rfl rfl) rfl Ext.refl ?_ | refine RE.dd (fun _ hw => op_add64 rfl rfl (by omega) (by omega)) rfl Ext.refl ?_ | refine RE.dd (fun _ hw => op_sub64 rfl rfl (by omega) (by omega)) rfl Ext.refl ?_ | refine RE.dd (fun _ hw => op_eql_s rfl rfl) rfl Ext.refl ?_ | refine RE.dd (fun _ hw => op_neq_s rfl rfl) rfl Ext.refl ?_ | refine RE.want rfl rfl ?_ | refine RE.no0 rfl rfl rfl rfl ?_)
    refine RE.ge (φ := fun u w' => ∃ b, u = Sl b 0 1 1 ∧ w'.heap[b]? = some (.cells (x.fix t p).lst.toArray 63 (0, 0))) rfl (fun v w4 w5 ⟨b, h1, h2⟩ h3 => ⟨b, h1, h3.block h2⟩)
      (fun w4 hw4 => OpE.mono (e_buildSlice (vs := [(0, (x.fix t p).val)]) (cells := (x.fix t p).lst.toArray) (e := 63) rfl (by kernel_rfl) (by kernel_rfl)) fun v w' ⟨b, h2, h3⟩ => ⟨⟨b, h2, h3.here⟩, h3.ext⟩) ?_
    intro v
    refine RE.ee (Φ := fun w4 v' w' => w'.ownsRow B 63 7 v' (xs.length + 1) (xs.flatMap IC.lst ++ (x.fix t p).lst) ∧ Fr (fun q => c.items.ownBlock = some q) w4 w' ∧ ∀ q, v'.ownBlock = some q → c.items.ownBlock = some q ∨ w4.heap.size ≤ q)
      ?_ rfl ?_
    · rintro w4 ⟨hw4, b, rfl, hbb⟩
      have e4 : Ext w w4 := ew3.trans ((Ext.drew _).trans hw4)
      refine e_append B (z := .agg #[I 0, .nilIface, I 0, I 0, .slice none 0 0, .int .u8 0, .bool false]) (bytes := 72) (m := 1) (c := 1) (ab := b) (news := (x.fix t p).lst) rfl (by kernel_rfl) rfl (by decide) rfl
        (hown.fr (Fr.of_ext (S := fun _ => False) e4) (fun _ _ h => h)) rfl (by decide) rfl (fun j u hj => cell_of hbb (by simpa using hj)) (IC.lst_one (by rw [IC.fix_ev]; exact hev)) ?_ ?_ ?_
      · have : maxLen = 9223372036854775807 := rfl
        omega
      · omega
      · have := h.at_.lt; have := h.base; have := e4.size; omega
    · rintro w4 ⟨hw4, b, rfl, hbb⟩ v' w5 ⟨ho5, hf5, hn5⟩
      have e4 : Ext w w4 := ew3.trans ((Ext.drew _).trans hw4)
      have hB4 := hf5.block (hw4.block hB3d) hL
      have hbi : ∀ q, c.items.ownBlock = some q → q ≠ bx := by
        intro q hq
        have := (hown.lt q hq).2
        have := hn1.num
        omega
      have hLi : ∀ q, v'.ownBlock = some q → q ≠ L := by
        intro q hq
        rcases hn5 q hq with h1 | h1
        · intro e; subst e; exact hL h1
        · have := h.at_.lt; have := e4.size; omega
      repeat (first | refine RE.dd (fun _ hw => op_move rfl) rfl Ext.refl ?_ | refine RE.dd (fun _ hw => op_assign rfl) rfl Ext.refl ?_ | refine RE.dd (fun _ hw => op_nil rfl) rfl Ext.refl ?_ | refine RE.dd (fun _ hw => op_fieldAddr0 rfl rfl) rfl Ext.refl ?_ | refine RE.dd (fun _ hw => op_fieldAddr rfl rfl) rfl Ext.refl ?_ | refine RE.dd (fun _ hw => op_loadB rfl rfl (Ext.block hw hB4) rfl) rfl Ext.refl ?_ | refine RE.dd (fun _ hw => op_loadA rfl rfl (Ext.block hw hB4) rfl rfl) rfl Ext.refl ?_ | refine RE.dd (fun _ hw => op_loadB rfl rfl (Ext.block hw.1 hB4) rfl) rfl Ext.refl ?_ | refine RE.dd (fun _ hw => op_loadA rfl rfl (Ext.block hw.1 hB4) rfl rfl) rfl Ext.refl ?_ | refine RE.dd (fun _ hw => op_loadB rfl rfl (Ext.block hw.1.1 hB4) rfl) rfl Ext.refl ?_ | refine RE.dd (fun _ hw => op_loadA rfl rfl (Ext.block hw.1.1 hB4) rfl rfl) rfl Ext.refl ?_ | refine RE.dd (fun _ hw => op_eql rfl rfl) rfl Ext.refl ?_ | refine RE.dd (fun _ hw => op_neq rfl rfl) rfl Ext.refl ?_ | refine RE.dd (fun _ hw => op_lss rfl rfl) rfl Ext.refl ?_ | refine RE.dd (fun _ hw => op_leq rfl rfl) rfl Ext.refl ?_ | refine RE.dd (fun _ hw => op_gtr rfl rfl) rfl Ext.refl ?_ | refine RE.dd (fun _ hw => op_geq rfl rfl) rfl Ext.refl ?_ | refine RE.dd (fun _ hw => op_not_d rfl) rfl Ext.refl ?_ | refine RE.dd (fun _ hw => op_not rfl) rfl Ext.refl ?_ | refine RE.dd (fun _ hw => op_len_sl rfl rfl) rfl Ext.refl ?_ | refine RE.dd (fun _ hw => op_len_s rfl Tryz.underlying9) rfl Ext.refl ?_ | refine RE.dd (fun _ hw => op_extract rfl rfl) rfl Ext.refl ?_ | refine RE.dd (fun _ hw => op_add64 rfl rfl (by omega) (by omega)) rfl Ext.refl ?_ | refine RE.dd (fun _ hw => op_sub64 rfl rfl (by omega) (by omega)) rfl Ext.refl ?_ | refine RE.dd (fun _ hw => op_eql_s rfl rfl) rfl Ext.refl ?_ | refine RE.dd (fun _ hw => op_neq_s rfl rfl) rfl Ext.refl ?_ | refine RE.want rfl rfl ?_ | refine RE.no0 rfl rfl rfl rfl ?_)
      refine RE.es (fun _ hw => e_store rfl rfl rfl (hw.block hB4) rfl ?_) ?_
      · exact ownsRow_one ho5
      rintro w6 hw6 _ w7 hu7
      refine RE.nil (fun w8 hw8 => ?_)
      refine end0 rfl ⟨rfl, ⟨v', ?_, ?_, ?_⟩, ?_⟩
      · exact hw8.block hu7.here
      · have h6 : Own B w6 v' (xs ++ [x.fix t p]) := by
          have h5 : Own B w5 v' (xs ++ [x.fix t p]) := by
            unfold Own
            simpa using ho5
          exact h5.fr (Fr.of_ext (S := fun _ => False) hw6) (fun _ _ h => h)
        exact (h6.fr (Fr.of_upd (S := (· = L)) hu7 rfl) hLi).fr (Fr.of_ext (S := fun _ => False) hw8) (fun _ _ h => h)
      · intro q hq
        rcases hn5 q hq with h1 | h1
        · exact Or.inl h1
        · exact Or.inr (by have := e4.size; omega)
      · refine Fr.trans (b := w4) (Fr.of_ext e4) (Fr.trans (b := w5) (hf5.mono fun k _ hk => Or.inr hk) ?_)
        exact (Fr.of_ext hw6).trans ((Fr.of_upd hu7 (Or.inl rfl)).trans (Fr.of_ext hw8))
end Go.Wk
