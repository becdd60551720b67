/- All items as plain data. -/
import Derived.Test.YtmbencknblcocaaGreatDoorLq
namespace Go.Wk
open Go Go.RowKit Go.Proofs
set_option maxRecDepth 100000

theorem config_fn (f d : Bool) (w : World) : Fn PT 32 [.bool f, .bool d] w (fun u w' => u = .agg #[.bool (!f), .bool (!d)] ∧ Ext w w') := by
  refine fn_of Tryz.func32 rfl Tryz.ntmps32 rfl ?_
  repeat (first | refine CE.seq ?_ | refine CE.text ?_ | refine RE.x (op_move rfl) rfl ?_ | refine RE.x (op_assign rfl) rfl ?_ | refine RE.x (op_nil rfl) rfl ?_ | refine RE.x (op_fieldAddr0 rfl rfl) rfl ?_ | refine RE.x (op_fieldAddr rfl rfl) rfl ?_ | refine RE.x (op_eql rfl rfl) rfl ?_ | refine RE.x (op_neq rfl rfl) rfl ?_ | refine RE.x (op_lss rfl rfl) rfl ?_ | refine RE.x (op_leq rfl rfl) rfl ?_ | refine RE.x (op_gtr rfl rfl) rfl ?_ | refine RE.x (op_geq rfl rfl) rfl ?_ | refine RE.x (op_not_d rfl) rfl ?_ | refine RE.x (op_not rfl) rfl ?_ | refine RE.x (op_len_sl rfl rfl) rfl ?_ | refine RE.x (op_len_s rfl Tryz.underlying9) rfl ?_ | refine RE.x (op_extract rfl rfl) rfl ?_ | refine RE.x (op_pick_t rfl rfl rfl) rfl ?_ | refine RE.x (op_pick_f rfl rfl) rfl ?_ | refine RE.x (op_add64 rfl rfl (by omega) (by omega)) rfl ?_ | refine RE.x (op_sub64 rfl rfl (by omega) (by omega)) rfl ?_ | refine RE.x (op_eql_s rfl rfl) rfl ?_ | refine RE.x (op_neq_s rfl rfl) rfl ?_ | refine RE.want rfl rfl ?_ | refine RE.nox rfl rfl rfl rfl ?_ | refine RE.nou rfl rfl rfl ?_ | refine RE.nilx (show CE _ _ _ _ _ _ _ from ?_) | refine CE.scope ?_ | refine CE.label (show CE _ _ _ _ _ _ _ from ?_) | refine CE.skip (show CE _ _ _ _ _ _ _ from ?_) | refine CE.exit (show CE _ _ _ _ _ _ _ from ?_))
  refine RE.xe (e_alloc (cells := #[.bool false, .bool false]) Tryz.zeroValue57 rfl) rfl ?_
  rintro _ w1 ⟨b, rfl, hn⟩
  repeat (first | refine CE.seq ?_ | refine CE.text ?_ | refine RE.x (op_move rfl) rfl ?_ | refine RE.x (op_assign rfl) rfl ?_ | refine RE.x (op_nil rfl) rfl ?_ | refine RE.x (op_fieldAddr0 rfl rfl) rfl ?_ | refine RE.x (op_fieldAddr rfl rfl) rfl ?_ | refine RE.x (op_eql rfl rfl) rfl ?_ | refine RE.x (op_neq rfl rfl) rfl ?_ | refine RE.x (op_lss rfl rfl) rfl ?_ | refine RE.x (op_leq rfl rfl) rfl ?_ | refine RE.x (op_gtr rfl rfl) rfl ?_ | refine RE.x (op_geq rfl rfl) rfl ?_ | refine RE.x (op_not_d rfl) rfl ?_ | refine RE.x (op_not rfl) rfl ?_ | refine RE.x (op_len_sl rfl rfl) rfl ?_ | refine RE.x (op_len_s rfl Tryz.underlying9) rfl ?_ | refine RE.x (op_extract rfl rfl) rfl ?_ | refine RE.x (op_pick_t rfl rfl rfl) rfl ?_ | refine RE.x (op_pick_f rfl rfl) rfl ?_ | refine RE.x (op_add64 rfl rfl (by omega) (by omega)) rfl ?_ | refine RE.x (op_sub64 rfl rfl (by omega) (by omega)) rfl ?_ | refine RE.x (op_eql_s rfl rfl) rfl ?_ | refine RE.x (op_neq_s rfl rfl) rfl ?_ | refine RE.want rfl rfl ?_ | refine RE.nox rfl rfl rfl rfl ?_ | refine RE.nou rfl rfl rfl ?_ | refine RE.nilx (show CE _ _ _ _ _ _ _ from ?_) | refine CE.scope ?_ | refine CE.label (show CE _ _ _ _ _ _ _ from ?_) | refine CE.skip (show CE _ _ _ _ _ _ _ from ?_) | refine CE.exit (show CE _ _ _ _ _ _ _ from ?_))
  refine RE.x (op_build (cells := #[.bool (!f), .bool (!d)]) rfl (by kernel_rfl)) rfl ?_
  refine RE.xs (e_storeA (k := 2) rfl rfl rfl hn.here rfl rfl (by simp [Value.oneCell'])) ?_
  rintro _ w2 hu
  repeat (first | refine CE.seq ?_ | refine CE.text ?_ | refine RE.x (op_move rfl) rfl ?_ | refine RE.x (op_assign rfl) rfl ?_ | refine RE.x (op_nil rfl) rfl ?_ | refine RE.x (op_fieldAddr0 rfl rfl) rfl ?_ | refine RE.x (op_fieldAddr rfl rfl) rfl ?_ | refine RE.x (op_eql rfl rfl) rfl ?_ | refine RE.x (op_neq rfl rfl) rfl ?_ | refine RE.x (op_lss rfl rfl) rfl ?_ | refine RE.x (op_leq rfl rfl) rfl ?_ | refine RE.x (op_gtr rfl rfl) rfl ?_ | refine RE.x (op_geq rfl rfl) rfl ?_ | refine RE.x (op_not_d rfl) rfl ?_ | refine RE.x (op_not rfl) rfl ?_ | refine RE.x (op_len_sl rfl rfl) rfl ?_ | refine RE.x (op_len_s rfl Tryz.underlying9) rfl ?_ | refine RE.x (op_extract rfl rfl) rfl ?_ | refine RE.x (op_pick_t rfl rfl rfl) rfl ?_ | refine RE.x (op_pick_f rfl rfl) rfl ?_ | refine RE.x (op_add64 rfl rfl (by omega) (by omega)) rfl ?_ | refine RE.x (op_sub64 rfl rfl (by omega) (by omega)) rfl ?_ | refine RE.x (op_eql_s rfl rfl) rfl ?_ | refine RE.x (op_neq_s rfl rfl) rfl ?_ | refine RE.want rfl rfl ?_ | refine RE.nox rfl rfl rfl rfl ?_ | refine RE.nou rfl rfl rfl ?_ | refine RE.nilx (show CE _ _ _ _ _ _ _ from ?_) | refine CE.scope ?_ | refine CE.label (show CE _ _ _ _ _ _ _ from ?_) | refine CE.skip (show CE _ _ _ _ _ _ _ from ?_) | refine CE.exit (show CE _ _ _ _ _ _ _ from ?_))
  refine CE.ret ?_
  exact retC rfl rfl (loadVar_A (k := 2) rfl hu.here rfl) ⟨rfl, hn.ext.fr (Fr.of_upd (S := (· = b)) hu rfl) (fun q hq => by subst hq; have := hn.num; omega)⟩

/-- The text of an item. -/
def ptext (t : List UInt8) (p : PI) : List UInt8 := match p.segs with | [] => (t.drop p.lo).take (p.hi - p.lo) | ss => ss.flatMap fun s => (t.drop s.1).take (s.2 - s.1)
def told (t : List UInt8) (p : PI) : RI := tell p.ty p.pos (ptext t p) p.err

def OwnR (B : Nat) (w : World) (v : Value) (rs : List RI) : Prop := w.ownsRow B 31 5 v rs.length (rs.flatMap RI.lst)

theorem flat_len {α : Type} {f : α → List Value} {n : Nat} (h : ∀ a, (f a).length = n) : ∀ (l : List α), (l.flatMap f).length = n * l.length
  | [] => rfl
  | a :: l => by simp [h, flat_len h l, Nat.mul_succ]; omega
theorem flat_at {α : Type} {f : α → List Value} {n : Nat} (h : ∀ a, (f a).length = n) : ∀ (l : List α) (k : Nat) (hk : k < l.length), ((l.flatMap f).drop (k * n)).take n = f l[k]
  | a :: l, 0, _ => by simp [h]
  | a :: l, k + 1, hk => by
    rw [List.flatMap_cons, List.drop_append, h a, List.drop_of_length_le (by rw [h]; rw [Nat.succ_mul]; omega), List.nil_append, Nat.succ_mul, Nat.add_sub_cancel]
    exact flat_at h l k (by simpa using hk)

theorem Own.item {B : Nat} {w : World} {v : Value} {xs : List IC} (h : Own B w v xs) {k : Nat} (hk : k < xs.length) :
    ∃ g cap cur, v = Sl g 0 xs.length cap ∧ w.heap[g]? = some (.cells cur 63 (0, 0)) ∧ (cur.toList.drop (k * 7)).take 7 = xs[k].lst := by
  obtain ⟨_, h⟩ := h
  rcases h with ⟨_, h0⟩ | ⟨g, cap, cur, rfl, hb, hg, hnc, hcm, hcs, ht⟩
  · exfalso
    omega
  · refine ⟨g, cap, cur, rfl, hg, ?_⟩
    rw [← flat_at (f := IC.lst) (n := 7) (fun _ => rfl) xs k hk, ← ht]
    rw [List.drop_take, List.take_take]
    congr 1
    have : k + 1 ≤ xs.length := hk
    have := Nat.mul_le_mul_right 7 this
    omega
theorem Own.len0 {B : Nat} {w : World} {v : Value} {xs : List IC} (h : Own B w v xs) : ∃ a cap, v = .slice a xs.length cap := by
  obtain ⟨_, h⟩ := h
  rcases h with ⟨rfl, h0⟩ | ⟨g, cap, cur, rfl, _⟩
  · exact ⟨none, 0, by rw [h0]⟩
  · exact ⟨_, _, rfl⟩

theorem all2_at {α β : Type} {R : α → β → Prop} : ∀ {l : List α} {m : List β} (_ : All2 R l m) (k : Nat) (h1 : k < l.length) (h2 : k < m.length), R l[k] m[k]
  | _, _, .cons h _, 0, _, _ => h
  | _, _, .cons _ h, k + 1, h1, h2 => all2_at h k (by simpa using h1) (by simpa using h2)

theorem items_fn {B : Nat} {t : List UInt8} {v : Value} {f d : Bool} {ps : List PI} {w : World} (hB : B ≤ w.heap.size) (hn : ps.length ≤ 1000000)
    (hp : ∀ w1, Ext w w1 → Fn PT 31 [v, .agg #[.bool (!f), .bool (!d)]] w1 (fun u w' => ∃ it xs, u = .tuple #[it, .nilIface] ∧ Own B w' it xs ∧ All2 (IRep w') xs ps ∧ Ext w1 w' ∧
      ∀ w2, Ext w' w2 → ∀ x p, p ∈ ps → IRep w2 x p → ValIs B x v (ptext t p) w2)) :
    Fn PT 26 [v, .bool f, .bool d] w (fun u w' => OwnR B w' u (ps.map (told t)) ∧ Ext w w') := by
  refine fn_of Tryz.func26 rfl Tryz.ntmps26 rfl ?_
  repeat (first | refine CE.seq ?_ | refine CE.text ?_ | refine RE.x (op_move rfl) rfl ?_ | refine RE.x (op_assign rfl) rfl ?_ | refine RE.x (op_nil rfl) rfl ?_ | refine RE.x (op_fieldAddr0 rfl rfl) rfl ?_ | refine RE.x (op_fieldAddr rfl rfl) rfl ?_ | refine RE.x (op_eql rfl rfl) rfl ?_ | refine RE.x (op_neq rfl rfl) rfl ?_ | refine RE.x (op_lss rfl rfl) rfl ?_ | refine RE.x (op_leq rfl rfl) rfl ?_ | refine RE.x (op_gtr rfl rfl) rfl ?_ | refine RE.x (op_geq rfl rfl) rfl ?_ | refine RE.x (op_not_d rfl) rfl ?_ | refine RE.x (op_not rfl) rfl ?_ | refine RE.x (op_len_sl rfl rfl) rfl ?_ | refine RE.x (op_len_s rfl Tryz.underlying9) rfl ?_ | refine RE.x (op_extract rfl rfl) rfl ?_ | refine RE.x (op_pick_t rfl rfl rfl) rfl ?_ | refine RE.x (op_pick_f rfl rfl) rfl ?_ | refine RE.x (op_add64 rfl rfl (by omega) (by omega)) rfl ?_ | refine RE.x (op_sub64 rfl rfl (by omega) (by omega)) rfl ?_ | refine RE.x (op_eql_s rfl rfl) rfl ?_ | refine RE.x (op_neq_s rfl rfl) rfl ?_ | refine RE.want rfl rfl ?_ | refine RE.nox rfl rfl rfl rfl ?_ | refine RE.nou rfl rfl rfl ?_ | refine RE.nilx (show CE _ _ _ _ _ _ _ from ?_) | refine CE.scope ?_ | refine CE.label (show CE _ _ _ _ _ _ _ from ?_) | refine CE.skip (show CE _ _ _ _ _ _ _ from ?_) | refine CE.exit (show CE _ _ _ _ _ _ _ from ?_))
  refine RE.xc en32 rfl rfl (config_fn f d w) ?_
  rintro _ w1 ⟨rfl, e1⟩
  refine RE.xc en31 rfl rfl (hp w1 e1) ?_
  rintro _ w2 ⟨it, xs, rfl, hown, hall, e2, hval⟩
  have hxl := forall2_len hall
  obtain ⟨a0, cap0, hit⟩ := hown.len0
  have e12 := e1.trans e2
  subst hit
  have hB2 : B ≤ w2.heap.size := by have := e12.size; omega
  have hmax : maxLen = 9223372036854775807 := rfl
  repeat (first | refine CE.seq ?_ | refine CE.text ?_ | refine RE.x (op_move rfl) rfl ?_ | refine RE.x (op_assign rfl) rfl ?_ | refine RE.x (op_nil rfl) rfl ?_ | refine RE.x (op_fieldAddr0 rfl rfl) rfl ?_ | refine RE.x (op_fieldAddr rfl rfl) rfl ?_ | refine RE.x (op_eql rfl rfl) rfl ?_ | refine RE.x (op_neq rfl rfl) rfl ?_ | refine RE.x (op_lss rfl rfl) rfl ?_ | refine RE.x (op_leq rfl rfl) rfl ?_ | refine RE.x (op_gtr rfl rfl) rfl ?_ | refine RE.x (op_geq rfl rfl) rfl ?_ | refine RE.x (op_not_d rfl) rfl ?_ | refine RE.x (op_not rfl) rfl ?_ | refine RE.x (op_len_sl rfl rfl) rfl ?_ | refine RE.x (op_len_s rfl Tryz.underlying9) rfl ?_ | refine RE.x (op_extract rfl rfl) rfl ?_ | refine RE.x (op_pick_t rfl rfl rfl) rfl ?_ | refine RE.x (op_pick_f rfl rfl) rfl ?_ | refine RE.x (op_add64 rfl rfl (by omega) (by omega)) rfl ?_ | refine RE.x (op_sub64 rfl rfl (by omega) (by omega)) rfl ?_ | refine RE.x (op_eql_s rfl rfl) rfl ?_ | refine RE.x (op_neq_s rfl rfl) rfl ?_ | refine RE.want rfl rfl ?_ | refine RE.nox rfl rfl rfl rfl ?_ | refine RE.nou rfl rfl rfl ?_ | refine RE.nilx (show CE _ _ _ _ _ _ _ from ?_) | refine CE.scope ?_ | refine CE.label (show CE _ _ _ _ _ _ _ from ?_) | refine CE.skip (show CE _ _ _ _ _ _ _ from ?_) | refine CE.exit (show CE _ _ _ _ _ _ _ from ?_))
  refine CE.cut (fun s ds w' => ds = [] ∧ Ext w w' ∧ ∃ r, SubL [(9, r)] s ∧ OwnR B w' r (ps.map (told t))) ?_ ?_
  · refine CE.block ?_
    refine CE.loop (α := Nat × Value) (fun x => [(22, I x.1), (21, I xs.length), (20, .slice a0 xs.length cap0), (9, x.2), (0, v)])
      (fun x w' => Ext w2 w' ∧ x.1 ≤ xs.length ∧ OwnR B w' x.2 ((ps.map (told t)).take x.1) ∧ ∀ q, x.2.ownBlock = some q → w2.heap.size ≤ q) (fun x => xs.length - x.1)
      (0, .slice none 0 0) ⟨rfl, rfl, rfl, rfl, rfl, trivial⟩ ⟨Ext.refl _, Nat.zero_le _, ⟨by simp, Or.inl ⟨rfl, by simp⟩⟩, by simp [Value.ownBlock]⟩ ?_
    rintro ⟨k, r⟩ w3 ⟨e3, hk, hr, hrq⟩
    dsimp only at hk hr hrq
    repeat (first | refine CE.seq ?_ | refine CE.text ?_ | refine RE.x (op_move rfl) rfl ?_ | refine RE.x (op_assign rfl) rfl ?_ | refine RE.x (op_nil rfl) rfl ?_ | refine RE.x (op_fieldAddr0 rfl rfl) rfl ?_ | refine RE.x (op_fieldAddr rfl rfl) rfl ?_ | refine RE.x (op_eql rfl rfl) rfl ?_ | refine RE.x (op_neq rfl rfl) rfl ?_ | refine RE.x (op_lss rfl rfl) rfl ?_ | refine RE.x (op_leq rfl rfl) rfl ?_ | refine RE.x (op_gtr rfl rfl) rfl ?_ | refine RE.x (op_geq rfl rfl) rfl ?_ | refine RE.x (op_not_d rfl) rfl ?_ | refine RE.x (op_not rfl) rfl ?_ | refine RE.x (op_len_sl rfl rfl) rfl ?_ | refine RE.x (op_len_s rfl Tryz.underlying9) rfl ?_ | refine RE.x (op_extract rfl rfl) rfl ?_ | refine RE.x (op_pick_t rfl rfl rfl) rfl ?_ | refine RE.x (op_pick_f rfl rfl) rfl ?_ | refine RE.x (op_add64 rfl rfl (by omega) (by omega)) rfl ?_ | refine RE.x (op_sub64 rfl rfl (by omega) (by omega)) rfl ?_ | refine RE.x (op_eql_s rfl rfl) rfl ?_ | refine RE.x (op_neq_s rfl rfl) rfl ?_ | refine RE.want rfl rfl ?_ | refine RE.nox rfl rfl rfl rfl ?_ | refine RE.nou rfl rfl rfl ?_ | refine RE.nilx (show CE _ _ _ _ _ _ _ from ?_) | refine CE.block ?_ | refine CE.scope ?_ | refine CE.label (show CE _ _ _ _ _ _ _ from ?_) | refine CE.skip (show CE _ _ _ _ _ _ _ from ?_) | refine CE.exit (show CE _ _ _ _ _ _ _ from ?_))
    refine CE.cond_d rfl (fun hlt => ?_) (fun hlt => ?_)
    · have hkx : k < xs.length := by omega
      have hkp : k < ps.length := by omega
      obtain ⟨g, cap, cur, hv, hg, hcur⟩ := hown.item hkx
      cases hv
      have hg3 := e3.block hg
      have hxp := all2_at hall k hkx hkp
      generalize hx : xs[k] = x at hcur hxp
      generalize hpp : ps[k] = p at hxp
      have hpm : p ∈ ps := by rw [← hpp]; exact List.getElem_mem hkp
      repeat (first | refine CE.seq ?_ | refine CE.text ?_ | refine RE.x (op_move rfl) rfl ?_ | refine RE.x (op_assign rfl) rfl ?_ | refine RE.x (op_nil rfl) rfl ?_ | refine RE.x (op_fieldAddr0 rfl rfl) rfl ?_ | refine RE.x (op_fieldAddr rfl rfl) rfl ?_ | refine RE.x (op_eql rfl rfl) rfl ?_ | refine RE.x (op_neq rfl rfl) rfl ?_ | refine RE.x (op_lss rfl rfl) rfl ?_ | refine RE.x (op_leq rfl rfl) rfl ?_ | refine RE.x (op_gtr rfl rfl) rfl ?_ | refine RE.x (op_geq rfl rfl) rfl ?_ | refine RE.x (op_not_d rfl) rfl ?_ | refine RE.x (op_not rfl) rfl ?_ | refine RE.x (op_len_sl rfl rfl) rfl ?_ | refine RE.x (op_len_s rfl Tryz.underlying9) rfl ?_ | refine RE.x (op_extract rfl rfl) rfl ?_ | refine RE.x (op_pick_t rfl rfl rfl) rfl ?_ | refine RE.x (op_pick_f rfl rfl) rfl ?_ | refine RE.x (op_add64 rfl rfl (by omega) (by omega)) rfl ?_ | refine RE.x (op_sub64 rfl rfl (by omega) (by omega)) rfl ?_ | refine RE.x (op_eql_s rfl rfl) rfl ?_ | refine RE.x (op_neq_s rfl rfl) rfl ?_ | refine RE.want rfl rfl ?_ | refine RE.nox rfl rfl rfl rfl ?_ | refine RE.nou rfl rfl rfl ?_ | refine RE.nilx (show CE _ _ _ _ _ _ _ from ?_) | refine CE.block ?_ | refine CE.scope ?_ | refine CE.label (show CE _ _ _ _ _ _ _ from ?_) | refine CE.skip (show CE _ _ _ _ _ _ _ from ?_) | refine CE.exit (show CE _ _ _ _ _ _ _ from ?_))
      refine RE.x (op_indexAddr rfl rfl rfl (by omega) (by omega)) rfl ?_
      have e0 : 0 + (k : Int).toNat * 7 = k * 7 := by omega
      rw [e0]
      refine RE.x (op_loadA (k := 7) (vs := x.lst) rfl rfl hg3 hcur rfl) rfl ?_
      refine RE.xe (e_alloc (cells := #[I 0, .nilIface, I 0, I 0, .slice none 0 0, .int .u8 0, .bool false]) Tryz.zeroValue63 rfl) rfl ?_
      rintro _ w4 ⟨bx, rfl, hn4⟩
      refine RE.xs (e_storeA (k := 7) (cells := x.lst.toArray) rfl rfl rfl hn4.here rfl rfl (by simpa using IC.lst_one hxp.evOne)) ?_
      rintro _ w5 hu5
      have e4 : Ext w3 w5 := hn4.ext.fr (Fr.of_upd (S := (· = bx)) hu5 rfl) (fun q hq => by subst hq; have := hn4.num; omega)
      have hb5 := hu5.here
      have e25 := e3.trans e4
      have hv5 := hval w5 e25 x p hpm (hxp.ext e25)
      repeat (first | refine CE.seq ?_ | refine CE.text ?_ | refine RE.x (op_move rfl) rfl ?_ | refine RE.x (op_assign rfl) rfl ?_ | refine RE.x (op_nil rfl) rfl ?_ | refine RE.x (op_fieldAddr0 rfl rfl) rfl ?_ | refine RE.x (op_fieldAddr rfl rfl) rfl ?_ | refine RE.x (op_loadB rfl rfl hb5 rfl) rfl ?_ | refine RE.x (op_loadA rfl rfl hb5 rfl rfl) rfl ?_ | refine RE.x (op_eql rfl rfl) rfl ?_ | refine RE.x (op_neq rfl rfl) rfl ?_ | refine RE.x (op_lss rfl rfl) rfl ?_ | refine RE.x (op_leq rfl rfl) rfl ?_ | refine RE.x (op_gtr rfl rfl) rfl ?_ | refine RE.x (op_geq rfl rfl) rfl ?_ | refine RE.x (op_not_d rfl) rfl ?_ | refine RE.x (op_not rfl) rfl ?_ | refine RE.x (op_len_sl rfl rfl) rfl ?_ | refine RE.x (op_len_s rfl Tryz.underlying9) rfl ?_ | refine RE.x (op_extract rfl rfl) rfl ?_ | refine RE.x (op_pick_t rfl rfl rfl) rfl ?_ | refine RE.x (op_pick_f rfl rfl) rfl ?_ | refine RE.x (op_add64 rfl rfl (by omega) (by omega)) rfl ?_ | refine RE.x (op_sub64 rfl rfl (by omega) (by omega)) rfl ?_ | refine RE.x (op_eql_s rfl rfl) rfl ?_ | refine RE.x (op_neq_s rfl rfl) rfl ?_ | refine RE.want rfl rfl ?_ | refine RE.nox rfl rfl rfl rfl ?_ | refine RE.nou rfl rfl rfl ?_ | refine RE.nilx (show CE _ _ _ _ _ _ _ from ?_) | refine CE.block ?_ | refine CE.scope ?_ | refine CE.label (show CE _ _ _ _ _ _ _ from ?_) | refine CE.skip (show CE _ _ _ _ _ _ _ from ?_) | refine CE.exit (show CE _ _ _ _ _ _ _ from ?_))
      refine RE.xc en35 rfl rfl (plain_fn (l := ptext t p) hv5 (hxp.ext e25).at p.err (hxp.ext e25).ev) ?_
      rintro _ w6 ⟨rfl, e6⟩
      have htold : tell x.ty p.pos (ptext t p) p.err = told t p := by unfold told; rw [hxp.ty]
      rw [htold]
      refine RE.xe (e_buildSlice (vs := [(0, (told t p).val)]) (cells := (told t p).lst.toArray) (e := 31) rfl (by kernel_rfl) (by kernel_rfl)) rfl ?_
      rintro _ w7 ⟨nb, rfl, hn7⟩
      have e7 := (e25.trans e6).trans hn7.ext
      have hr7 : OwnR B w7 r ((ps.map (told t)).take k) := ownsRow_ext hr ((e4.trans e6).trans hn7.ext)
      have hlk : ((ps.map (told t)).take k).length = k := by simp; omega
      have hB7 : B ≤ w7.heap.size := by have := e7.size; omega
      refine RE.xe (e_append B (e := 31) (size := 5) (z := .agg #[I 0, I 0, S [], .bool false, .int .u16 0]) (bytes := 40) (m := 1) (c := 1) (ab := nb) (news := (told t p).lst) rfl (by kernel_rfl) rfl (by decide) rfl
        hr7 rfl (by decide) rfl (fun j u hj => cell_of hn7.here (by simpa using hj)) (by simp [RI.lst, Value.oneCell']) (by omega) (by omega) hB7) rfl ?_
      rintro r8 w8 ⟨ho8, hf8, hn8⟩
      have hq8 : ∀ q, r8.ownBlock = some q → w2.heap.size ≤ q := by
        intro q hq
        rcases hn8 q hq with h | h
        · exact hrq q h
        · have := e7.size; omega
      have htk : (ps.map (told t)).take (k + 1) = (ps.map (told t)).take k ++ [told t p] := by
        rw [List.take_succ_eq_append_getElem (by simpa using hkp)]
        simp [hpp]
      repeat (first | refine CE.seq ?_ | refine CE.text ?_ | refine RE.x (op_move rfl) rfl ?_ | refine RE.x (op_assign rfl) rfl ?_ | refine RE.x (op_nil rfl) rfl ?_ | refine RE.x (op_fieldAddr0 rfl rfl) rfl ?_ | refine RE.x (op_fieldAddr rfl rfl) rfl ?_ | refine RE.x (op_eql rfl rfl) rfl ?_ | refine RE.x (op_neq rfl rfl) rfl ?_ | refine RE.x (op_lss rfl rfl) rfl ?_ | refine RE.x (op_leq rfl rfl) rfl ?_ | refine RE.x (op_gtr rfl rfl) rfl ?_ | refine RE.x (op_geq rfl rfl) rfl ?_ | refine RE.x (op_not_d rfl) rfl ?_ | refine RE.x (op_not rfl) rfl ?_ | refine RE.x (op_len_sl rfl rfl) rfl ?_ | refine RE.x (op_len_s rfl Tryz.underlying9) rfl ?_ | refine RE.x (op_extract rfl rfl) rfl ?_ | refine RE.x (op_pick_t rfl rfl rfl) rfl ?_ | refine RE.x (op_pick_f rfl rfl) rfl ?_ | refine RE.x (op_add64 rfl rfl (by omega) (by omega)) rfl ?_ | refine RE.x (op_sub64 rfl rfl (by omega) (by omega)) rfl ?_ | refine RE.x (op_eql_s rfl rfl) rfl ?_ | refine RE.x (op_neq_s rfl rfl) rfl ?_ | refine RE.want rfl rfl ?_ | refine RE.nox rfl rfl rfl rfl ?_ | refine RE.nou rfl rfl rfl ?_ | refine RE.nilx (show CE _ _ _ _ _ _ _ from ?_) | refine CE.block ?_ | refine CE.scope ?_ | refine CE.label (show CE _ _ _ _ _ _ _ from ?_) | refine CE.skip (show CE _ _ _ _ _ _ _ from ?_) | refine CE.exit (show CE _ _ _ _ _ _ _ from ?_))
      refine RE.nilx ?_
      refine ⟨(k + 1, r8), by show xs.length - (k + 1) < xs.length - k; omega, rfl, ⟨rfl, rfl, rfl, rfl, rfl, trivial⟩, e7.fr hf8 hrq, hkx, ?_, hq8⟩
      show w8.ownsRow B 31 5 r8 ((ps.map (told t)).take (k + 1)).length (((ps.map (told t)).take (k + 1)).flatMap RI.lst)
      rw [htk, List.flatMap_append, List.length_append]
      simpa using ho8
    · refine CE.exit ?_
      have hk' : k = ps.length := by omega
      subst hk'
      refine ⟨rfl, e12.trans e3, r, ⟨rfl, trivial⟩, ?_⟩
      rw [List.take_of_length_le (by simp)] at hr
      exact hr
  · rintro s _ w3 ⟨rfl, e3, r, hs, hr⟩
    refine CE.sub hs ?_
    repeat (first | refine CE.seq ?_ | refine CE.text ?_ | refine RE.x (op_move rfl) rfl ?_ | refine RE.x (op_assign rfl) rfl ?_ | refine RE.x (op_nil rfl) rfl ?_ | refine RE.x (op_fieldAddr0 rfl rfl) rfl ?_ | refine RE.x (op_fieldAddr rfl rfl) rfl ?_ | refine RE.x (op_eql rfl rfl) rfl ?_ | refine RE.x (op_neq rfl rfl) rfl ?_ | refine RE.x (op_lss rfl rfl) rfl ?_ | refine RE.x (op_leq rfl rfl) rfl ?_ | refine RE.x (op_gtr rfl rfl) rfl ?_ | refine RE.x (op_geq rfl rfl) rfl ?_ | refine RE.x (op_not_d rfl) rfl ?_ | refine RE.x (op_not rfl) rfl ?_ | refine RE.x (op_len_sl rfl rfl) rfl ?_ | refine RE.x (op_len_s rfl Tryz.underlying9) rfl ?_ | refine RE.x (op_extract rfl rfl) rfl ?_ | refine RE.x (op_pick_t rfl rfl rfl) rfl ?_ | refine RE.x (op_pick_f rfl rfl) rfl ?_ | refine RE.x (op_add64 rfl rfl (by omega) (by omega)) rfl ?_ | refine RE.x (op_sub64 rfl rfl (by omega) (by omega)) rfl ?_ | refine RE.x (op_eql_s rfl rfl) rfl ?_ | refine RE.x (op_neq_s rfl rfl) rfl ?_ | refine RE.want rfl rfl ?_ | refine RE.nox rfl rfl rfl rfl ?_ | refine RE.nou rfl rfl rfl ?_ | refine RE.nilx (show CE _ _ _ _ _ _ _ from ?_) | refine CE.block ?_ | refine CE.scope ?_ | refine CE.label (show CE _ _ _ _ _ _ _ from ?_) | refine CE.skip (show CE _ _ _ _ _ _ _ from ?_) | refine CE.exit (show CE _ _ _ _ _ _ _ from ?_) | refine CE.cond_t rfl ?_ | refine CE.cond_f rfl ?_)
    (refine CE.ret ?_; (try dsimp only); refine ret1 rfl rfl ?_)
    exact ⟨hr, e3⟩
end Go.Wk
