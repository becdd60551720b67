/- Items compared; the walk of the laws' helpers. -/
import Derived.Test.YtmbencknblcocaaGreatDoorXay
import Derived.Test.YtmbencknblcocaaGreatDoorXba
import Derived.ChangeKeysEq
import Derived.Test.YtmbencknblcocaaGreatDoorXaw
namespace Go.Wk
open Go Go.RowKit Go.Proofs
set_option maxRecDepth 100000

theorem fields31 : (PT.fieldsOf 31).toList = [{ name := "Type", type := 3, offset := 0, embedded := false, tag := "", pkgPath := "", byteOffset := 0 },
        { name := "Pos", type := 3, offset := 1, embedded := false, tag := "", pkgPath := "", byteOffset := 8 },
        { name := "Text", type := 9, offset := 2, embedded := false, tag := "", pkgPath := "", byteOffset := 16 },
        { name := "Failed", type := 4, offset := 3, embedded := false, tag := "", pkgPath := "", byteOffset := 32 },
        { name := "Is", type := 29, offset := 4, embedded := false, tag := "", pkgPath := "", byteOffset := 34 }] := by
  unfold Program.fieldsOf
  rw [Tryz.underlying31]
theorem struct31 : PT.underlying 31 = some (.struct (PT.fieldsOf 31)) := by
  unfold Program.fieldsOf
  rw [Tryz.underlying31]

theorem eqF_step {d : Nat} {f : Field} {fs : List Field} {xs ys : Array Value} {a b : Value} {r k : Bool} {w : World} (hn : f.name ≠ "_") (hp : PT.plainKey f.type = true) (ha : xs[f.offset]? = some a) (hb : ys[f.offset]? = some b)
    (he : (Op.equalIn d f.type a b).run PT w = .ok r w) (hk : (Op.eqFields d xs ys fs).run PT w = .ok k w) : (Op.eqFields d xs ys (f :: fs)).run PT w = .ok (r && k) w := by
  unfold Op.eqFields
  rw [if_pos hn]
  simp only [Sem.run_bind, run_part_plain w hp ha, run_part_plain w hp hb, he, Result.andThen_ok]
  cases r with
  | true => simpa using hk
  | false => simp

theorem eq31 (x y : RI) (w : World) : (Op.equalIn 10000 31 (.agg x.lst.toArray) (.agg y.lst.toArray)).run PT w = .ok (decide (x = y)) w := by
  have p3 : PT.plainKey 3 = true := by kernel_rfl
  have p9 : PT.plainKey 9 = true := by kernel_rfl
  have p4 : PT.plainKey 4 = true := by kernel_rfl
  have p29 : PT.plainKey 29 = true := by kernel_rfl
  rw [run_equalIn_agg w 9999 31 _ _ struct31 Tryz.stoodInHeld31, fields31]
  have hx : decide (x = y) = ((x.ty == y.ty) && (((x.pos : Int) == (y.pos : Int)) && ((x.text == y.text) && ((x.failed == y.failed) && ((x.is == y.is) && true))))) := by
    obtain ⟨a1, a2, a3, a4, a5⟩ := x
    obtain ⟨b1, b2, b3, b4, b5⟩ := y
    rw [Bool.eq_iff_iff]
    simp only [RI.mk.injEq, Bool.and_eq_true, beq_iff_eq, decide_eq_true_eq, Int.natCast_inj, and_true]
  rw [hx]
  refine eqF_step (by decide) p3 rfl rfl (run_equalIn_int w 9998 3 _ .i64 _ _ (by kernel_rfl)) ?_
  refine eqF_step (by decide) p3 rfl rfl (run_equalIn_int w 9998 3 _ .i64 _ _ (by kernel_rfl)) ?_
  refine eqF_step (by decide) p9 rfl rfl (by
    have := run_equalIn_string w 9998 9 ⟨⟨x.text⟩⟩ ⟨⟨y.text⟩⟩ Tryz.underlying9
    rw [toList_S, toList_S] at this
    exact this) ?_
  refine eqF_step (by decide) p4 rfl rfl (run_equalIn_bool' w 9998 4 _ _ Tryz.underlying4) ?_
  refine eqF_step (by decide) p29 rfl rfl (run_equalIn_int w 9998 29 _ .u16 _ _ Tryz.underlying29) ?_
  rfl

section
variable {n : Nat} {s : Slots} {w : World} {dst : Option Tmp} {ty : TypeId} {pos : String} {af : Array Edge} {g : Option (Nat × Bool)} {x y : Operand}
theorem op_eql31 {a b : RI} {t' : TypeId} (hx : ev s x = some (.agg a.lst.toArray)) (hy : ev s y = some (.agg b.lst.toArray)) : Op1 PT ⟨dst, .binOp .eql 31 x y t', ty, pos, af, g⟩ n s (.bool (decide (a = b))) w := by
  refine ⟨fun ds a' ha => ?_⟩
  simp only [execOp, ha.ev hx, ha.ev hy, Sem.run_bind, run_eqGuard_agg w _ 31 x y _ _ Tryz.eqGuardType31, Result.andThen_ok, run_eql_struct, eq31, Sem.run_pure]
theorem op_neq31 {a b : RI} {t' : TypeId} (hx : ev s x = some (.agg a.lst.toArray)) (hy : ev s y = some (.agg b.lst.toArray)) : Op1 PT ⟨dst, .binOp .neq 31 x y t', ty, pos, af, g⟩ n s (.bool (!decide (a = b))) w := by
  refine ⟨fun ds a' ha => ?_⟩
  simp only [execOp, ha.ev hx, ha.ev hy, Sem.run_bind, run_eqGuard_agg w _ 31 x y _ _ Tryz.eqGuardType31, Result.andThen_ok, run_neq_struct, eq31, Sem.run_pure]
end
end Go.Wk
namespace Go.Wk
open Go Go.RowKit Go.Proofs
set_option maxRecDepth 100000

/-- Items one behind the other, from any place of a block on. -/
def RowR (w : World) (v : Value) (rs : List RI) : Prop :=
  ∃ a cap, v = .slice a rs.length cap ∧ ∀ k (hk : k < rs.length), ∃ g o cur, a = some ⟨g, o, none⟩ ∧ w.heap[g]? = some (.cells cur 31 (0, 0)) ∧ (cur.toList.drop (o + k * 5)).take 5 = rs[k].lst
theorem RowR.ext {w w' : World} {v : Value} {rs : List RI} (h : RowR w v rs) (he : Ext w w') : RowR w' v rs := by
  obtain ⟨a, cap, hv, h⟩ := h
  exact ⟨a, cap, hv, fun k hk => let ⟨g, o, cur, h1, h2, h3⟩ := h k hk; ⟨g, o, cur, h1, he.block h2, h3⟩⟩
theorem RowR.of {B : Nat} {w : World} {v : Value} {rs : List RI} (h : OwnR B w v rs) : RowR w v rs := by
  obtain ⟨a, cap, hv⟩ := h.len0
  refine ⟨a, cap, hv, fun k hk => ?_⟩
  obtain ⟨g, cap', cur, hv', hg, hcur⟩ := h.item hk
  rw [hv] at hv'
  cases hv'
  exact ⟨g, 0, cur, rfl, hg, by rw [Nat.zero_add]; exact hcur⟩
theorem RowR.tail {B : Nat} {w : World} {g cap : Nat} {x : RI} {rs : List RI} (h : OwnR B w (Sl g 0 (rs.length + 1) cap) (x :: rs)) (hne : rs ≠ []) : RowR w (sliced (some ⟨g, 0, none⟩) 1 (rs.length + 1) cap 5) rs := by
  have hpl : 0 < rs.length := by cases rs with | nil => exact absurd rfl hne | cons _ _ => simp
  have hcap : rs.length + 1 ≤ cap := by
    rcases h.2 with ⟨_, h0⟩ | ⟨g', cap', cur', he, hb, hg', hnc, _⟩
    · simp at h0
    · cases he; exact hnc
  refine ⟨some ⟨g, 5, none⟩, cap - 1, ?_, fun k hk => ?_⟩
  · unfold sliced
    rw [if_neg (by omega)]
    rfl
  · obtain ⟨g', cap', cur, hv', hg, hcur⟩ := h.item (k := k + 1) (by simp; omega)
    cases hv'
    refine ⟨g, 5, cur, rfl, hg, ?_⟩
    rw [show 5 + k * 5 = (k + 1) * 5 by omega]
    exact hcur

theorem same_fn {rs : List RI} {v v' : Value} {w : World} (h : RowR w v rs) (h' : RowR w v' rs) (hn : rs.length ≤ 20000000) :
    Fn PT 15 [v, v'] w (fun u w' => u = .bool true ∧ Ext w w') := by
  obtain ⟨a0, cap0, hv, h⟩ := h
  subst hv
  obtain ⟨a1, cap1, hv, h'⟩ := h'
  subst hv
  have hmax : maxLen = 9223372036854775807 := rfl
  refine fn_of Tryz.func15 rfl Tryz.ntmps15 rfl ?_
  repeat (first | refine CE.seq ?_ | refine CE.text ?_ | refine RE.x (op_move rfl) rfl ?_ | refine RE.x (op_assign rfl) rfl ?_ | refine RE.x (op_neq rfl rfl) rfl ?_ | refine RE.x (op_len_sl rfl rfl) rfl ?_ | refine RE.nilx (show CE _ _ _ _ _ _ _ from ?_))
  refine CE.cond_d rfl (fun h0 => ?_) (fun _ => ?_)
  · exact absurd rfl h0
  refine CE.skip (show CE _ _ _ _ _ _ _ from ?_)
  repeat (first | refine CE.seq ?_ | refine CE.text ?_ | refine RE.x (op_move rfl) rfl ?_ | refine RE.x (op_len_sl rfl rfl) rfl ?_ | refine RE.nilx (show CE _ _ _ _ _ _ _ from ?_))
  refine CE.block ?_
  refine CE.loop (α := Nat) (fun k => [(13, I k), (12, I rs.length), (1, .slice a1 rs.length cap1), (0, .slice a0 rs.length cap0)])
    (fun k w' => Ext w w' ∧ k ≤ rs.length) (fun k => rs.length - k) 0 ⟨rfl, rfl, rfl, rfl, trivial⟩ ⟨Ext.refl _, Nat.zero_le _⟩ ?_
  rintro k w2 ⟨e2, hk⟩
  repeat (first | refine CE.seq ?_ | refine CE.text ?_ | refine RE.x (op_lss rfl rfl) rfl ?_ | refine RE.nilx (show CE _ _ _ _ _ _ _ from ?_))
  refine CE.cond_d rfl (fun hlt => ?_) (fun hlt => ?_)
  · have hkx : k < rs.length := by omega
    obtain ⟨g, o, cur, rfl, hg, hcur⟩ := h k hkx
    obtain ⟨g', o', cur', rfl, hg', hcur'⟩ := h' k hkx
    have hg2 : w2.drew.heap[g]? = _ := e2.block hg
    have hg2' : w2.drew.heap[g']? = _ := e2.block hg'
    generalize rs[k] = x at hcur hcur'
    have e0 : o + (k : Int).toNat * 5 = o + k * 5 := by omega
    have e0' : o' + (k : Int).toNat * 5 = o' + k * 5 := by omega
    repeat (first | refine CE.seq ?_ | refine CE.text ?_ | refine RE.x (op_move rfl) rfl ?_ | refine RE.x (op_assign rfl) rfl ?_ | refine RE.nilx (show CE _ _ _ _ _ _ _ from ?_) | refine CE.block ?_ | refine CE.skip (show CE _ _ _ _ _ _ _ from ?_))
    repeat refine CE.seq ?_
    refine CE.drawR Ext [0, 0, 0, 0, 0, 0, 0, 0, 0] mixed Ext.refl (fun _ _ _ => Ext.trans) (by decide +kernel) ?_
    repeat (refine RE.dd (fun _ hw => op_move rfl) rfl Ext.refl ?_)
    refine RE.dd (fun _ _ => op_indexAddr rfl rfl rfl (by omega) (by omega)) rfl Ext.refl ?_
    rw [e0]
    refine RE.dd (fun _ hw => op_loadA (k := 5) (vs := x.lst) rfl rfl (hw.block hg2) hcur rfl) rfl Ext.refl ?_
    repeat (refine RE.dd (fun _ hw => op_move rfl) rfl Ext.refl ?_)
    refine RE.dd (fun _ _ => op_indexAddr rfl rfl rfl (by omega) (by omega)) rfl Ext.refl ?_
    rw [e0']
    refine RE.dd (fun _ hw => op_loadA (k := 5) (vs := x.lst) rfl rfl (hw.block hg2') hcur' rfl) rfl Ext.refl ?_
    refine RE.dd (fun _ _ => op_neq31 (a := x) (b := x) rfl rfl) rfl Ext.refl ?_
    rw [show (!decide (x = x)) = false by simp]
    refine RE.nil (fun w8 hw8 => show CE _ _ _ _ _ _ _ from ?_)
    refine CE.cond_f rfl ?_
    refine CE.skip (show CE _ _ _ _ _ _ _ from ?_)
    repeat (first | refine CE.text ?_ | refine RE.x (op_move rfl) rfl ?_ | refine RE.x (op_add64 rfl rfl (by omega) (by omega)) rfl ?_)
    refine RE.nilx ?_
    exact ⟨k + 1, by show rs.length - (k + 1) < rs.length - k; omega, rfl, ⟨rfl, rfl, rfl, rfl, trivial⟩, e2.trans ((Ext.drew _).trans hw8), hkx⟩
  · refine CE.exit ?_
    repeat (first | refine CE.seq ?_ | refine CE.text ?_ | refine RE.x (op_assign rfl) rfl ?_ | refine RE.nilx (show CE _ _ _ _ _ _ _ from ?_))
    (refine CE.ret ?_; (try dsimp only); refine ret1 rfl rfl ?_)
    exact ⟨rfl, e2⟩

theorem moved_fn {B k : Nat} {rs : List RI} {v : Value} {w : World} (h : OwnR B w v rs) (hB : B ≤ w.heap.size) (hn : rs.length ≤ 20000000) (hk : k ≤ 1000000) (hp : ∀ x ∈ rs, x.pos ≤ 1000000) :
    Fn PT 16 [v, I k] w (fun u w' => OwnR B w' u (rs.map (RI.mv k)) ∧ Ext w w') := by
  obtain ⟨a0, cap0, hv⟩ := h.len0
  subst hv
  have hmax : maxLen = 9223372036854775807 := rfl
  refine fn_of Tryz.func16 rfl Tryz.ntmps16 rfl ?_
  repeat (first | refine CE.seq ?_ | refine CE.text ?_ | refine RE.x (op_move rfl) rfl ?_ | refine RE.x (op_assign rfl) rfl ?_ | refine RE.x (op_len_sl rfl rfl) rfl ?_ | refine RE.nilx (show CE _ _ _ _ _ _ _ from ?_))
  refine CE.cut (fun s ds w' => ds = [] ∧ Ext w w' ∧ ∃ r, SubL [(5, r)] s ∧ OwnR B w' r (rs.map (RI.mv k))) ?_ ?_
  · refine CE.block ?_
    refine CE.loop (α := Nat × Value) (fun x => [(10, I x.1), (9, I rs.length), (8, .slice a0 rs.length cap0), (5, x.2), (1, I k)])
      (fun x w' => Ext w w' ∧ x.1 ≤ rs.length ∧ OwnR B w' x.2 ((rs.map (RI.mv k)).take x.1) ∧ ∀ q, x.2.ownBlock = some q → w.heap.size ≤ q) (fun x => rs.length - x.1)
      (0, .slice none 0 0) ⟨rfl, rfl, rfl, rfl, rfl, trivial⟩ ⟨Ext.refl _, Nat.zero_le _, ⟨by simp, Or.inl ⟨rfl, by simp⟩⟩, by simp [Value.ownBlock]⟩ ?_
    rintro ⟨j, r⟩ w3 ⟨e3, hj, hr, hrq⟩
    dsimp only at hj hr hrq
    repeat (first | refine CE.seq ?_ | refine CE.text ?_ | refine RE.x (op_lss rfl rfl) rfl ?_ | refine RE.nilx (show CE _ _ _ _ _ _ _ from ?_))
    refine CE.cond_d rfl (fun hlt => ?_) (fun hlt => ?_)
    · have hjx : j < rs.length := by omega
      obtain ⟨g, cap, cur, hv, hg, hcur⟩ := h.item hjx
      cases hv
      have hg3 := e3.block hg
      have hpx := hp rs[j] (List.getElem_mem hjx)
      have htk : (rs.map (RI.mv k)).take (j + 1) = (rs.map (RI.mv k)).take j ++ [rs[j].mv k] := by
        rw [List.take_succ_eq_append_getElem (by simpa using hjx)]
        simp
      generalize hx : rs[j] = x at hcur hpx htk
      repeat (first | refine CE.seq ?_ | refine CE.text ?_ | refine CE.block ?_ | refine CE.skip (show CE _ _ _ _ _ _ _ from ?_))
      refine RE.x (op_indexAddr rfl rfl rfl (by omega) (by omega)) rfl ?_
      have e0 : 0 + (j : Int).toNat * 5 = j * 5 := by omega
      rw [e0]
      refine RE.x (op_loadA (k := 5) (vs := x.lst) rfl rfl hg3 hcur rfl) rfl ?_
      refine RE.xe (e_alloc (cells := #[I 0, I 0, S [], .bool false, .int .u16 0]) Tryz.zeroValue31 rfl) rfl ?_
      rintro _ w4 ⟨bx, rfl, hn4⟩
      refine RE.xs (e_storeA (k := 5) (cells := x.lst.toArray) rfl rfl rfl hn4.here rfl rfl (by simp [RI.lst, Value.oneCell'])) ?_
      rintro _ w5 hu5
      have e4 : Ext w3 w5 := hn4.ext.fr (Fr.of_upd (S := (· = bx)) hu5 rfl) (fun q hq => by subst hq; have := hn4.num; omega)
      have hb5 : w5.heap[bx]? = some (.cells #[I x.ty, I x.pos, S x.text, .bool x.failed, .int .u16 x.is] 31 (0, 0)) := hu5.here
      repeat (first | refine CE.seq ?_ | refine CE.text ?_ | refine RE.x (op_move rfl) rfl ?_ | refine RE.x (op_fieldAddr0 rfl rfl) rfl ?_ | refine RE.x (op_loadB rfl rfl hb5 rfl) rfl ?_ | refine RE.x (op_add64 rfl rfl (by omega) (by omega)) rfl ?_ | refine RE.nilx (show CE _ _ _ _ _ _ _ from ?_))
      refine RE.xs (e_store rfl rfl rfl hb5 rfl rfl) ?_
      rintro _ w6 hu6
      have hb6 : w6.heap[bx]? = some (.cells (x.mv k).lst.toArray 31 (0, 0)) := hu6.here
      have e5 : Ext w3 w6 := hn4.ext.fr ((Fr.of_upd (S := (· = bx)) hu5 rfl).trans (Fr.of_upd (S := (· = bx)) hu6 rfl)) (fun q hq => by subst hq; have := hn4.num; omega)
      have e6 := e3.trans e5
      repeat (first | refine CE.text ?_ | refine RE.x (op_move rfl) rfl ?_ | refine RE.nilx (show CE _ _ _ _ _ _ _ from ?_))
      refine RE.x (op_loadA (k := 5) (vs := (x.mv k).lst) rfl rfl hb6 rfl rfl) rfl ?_
      refine RE.xe (e_buildSlice (vs := [(0, (x.mv k).val)]) (cells := (x.mv k).lst.toArray) (e := 31) rfl (by kernel_rfl) (by kernel_rfl)) rfl ?_
      rintro _ w7 ⟨nb, rfl, hn7⟩
      have e7 := e6.trans hn7.ext
      have hr7 : OwnR B w7 r ((rs.map (RI.mv k)).take j) := ownsRow_ext hr (e5.trans hn7.ext)
      have hlk : ((rs.map (RI.mv k)).take j).length = j := by simp; omega
      have hB7 : B ≤ w7.heap.size := by have := e7.size; omega
      refine RE.xe (e_append B (e := 31) (size := 5) (z := .agg #[I 0, I 0, S [], .bool false, .int .u16 0]) (bytes := 40) (m := 1) (c := 1) (ab := nb) (news := (x.mv k).lst) rfl (by kernel_rfl) rfl (by decide) rfl
        hr7 rfl (by decide) rfl (fun j u hj => cell_of hn7.here (by simpa using hj)) (by simp [RI.lst, Value.oneCell']) (by omega) (by omega) hB7) rfl ?_
      rintro r8 w8 ⟨ho8, hf8, hn8⟩
      have hq8 : ∀ q, r8.ownBlock = some q → w.heap.size ≤ q := by
        intro q hq
        rcases hn8 q hq with h | h
        · exact hrq q h
        · have := e7.size; omega
      repeat (first | refine CE.text ?_ | refine RE.x (op_move rfl) rfl ?_ | refine RE.x (op_assign rfl) rfl ?_ | refine RE.x (op_add64 rfl rfl (by omega) (by omega)) rfl ?_ | refine RE.nilx (show CE _ _ _ _ _ _ _ from ?_))
      refine RE.nilx ?_
      refine ⟨(j + 1, r8), by show rs.length - (j + 1) < rs.length - j; omega, rfl, ⟨rfl, rfl, rfl, rfl, rfl, trivial⟩, e7.fr hf8 hrq, hjx, ?_, hq8⟩
      show w8.ownsRow B 31 5 r8 ((rs.map (RI.mv k)).take (j + 1)).length (((rs.map (RI.mv k)).take (j + 1)).flatMap RI.lst)
      rw [htk, List.flatMap_append, List.length_append]
      simpa using ho8
    · refine CE.exit ?_
      have hk' : j = rs.length := by omega
      subst hk'
      refine ⟨rfl, e3, r, ⟨rfl, trivial⟩, ?_⟩
      rw [List.take_of_length_le (by simp)] at hr
      exact hr
  · rintro s _ w3 ⟨rfl, e3, r, hs, hr⟩
    refine CE.sub hs ?_
    repeat (first | refine CE.seq ?_ | refine CE.text ?_ | refine RE.x (op_move rfl) rfl ?_ | refine RE.x (op_assign rfl) rfl ?_ | refine RE.nilx (show CE _ _ _ _ _ _ _ from ?_))
    (refine CE.ret ?_; (try dsimp only); refine ret1 rfl rfl ?_)
    exact ⟨hr, e3⟩

/-! ### a page of one letter -/
def dA : D := { d0 with pos := 1 }
theorem lex_a : Lexes [97] true (some 42, d0) (outDone [97] dA).2 := by
  refine Lexes.step 42 _ _ ?_
  have h1 : scAt [97] d0 = -1 := by
    unfold scAt
    rw [fnd, if_neg (by decide)]
  have h2 : ixs [97] true d0 = [] := by
    unfold ixs idxs
    rw [h1]
    rfl
  have e1 : stp [97] true 42 d0 = (some 77, dA) := by
    show outMain [97] true d0 = _
    unfold outMain
    rw [if_neg (by decide), h2, if_pos rfl]
    rfl
  rw [e1]
  refine Lexes.step 77 _ _ ?_
  exact Lexes.done _
theorem ps_a : (outDone [97] dA).2.ps = [PI.of [97] 18 0 1 false, PI.of [97] 1 1 1 false] := by
  unfold outDone
  rw [if_pos (by decide)]
  rfl

theorem pages_fn {B : Nat} {w : World} (hT : TabsB B w) (hB : B ≤ w.heap.size) : Fn PT 8 [] w (fun u w' => u = .bool true ∧ Ext w w') := by
  obtain ⟨r, hr, hp⟩ := parseL_fn (t := [97]) (f := false) (d := false) hT hB (by decide)
  have hrr : r = (outDone [97] dA).2 := Lexes.fn hr lex_a
  subst hrr
  rw [ps_a] at hp
  generalize hrs : [PI.of [97] 18 0 1 false, PI.of [97] 1 1 1 false].map (told [97]) = rs at hp
  have hlen : rs.length = 2 := by rw [← hrs]; rfl
  have h0 : (rs[0]'(by omega)).text = [97] := by subst hrs; rfl
  have h1 : (rs[1]'(by omega)).ty = 1 := by subst hrs; rfl
  refine fn_of Tryz.func8 rfl Tryz.ntmps8 rfl ?_
  repeat (first | refine CE.seq ?_ | refine CE.text ?_ | refine RE.x (op_assign rfl) rfl ?_ | refine RE.nilx (show CE _ _ _ _ _ _ _ from ?_))
  refine RE.xc en12 rfl rfl hp ?_
  rintro v w1 ⟨hv, e1⟩
  obtain ⟨g, cap, cur, hv0, hg, hcur0⟩ := hv.item (k := 0) (by omega)
  obtain ⟨g', cap', cur', hv1, hg', hcur1⟩ := hv.item (k := 1) (by omega)
  subst hv0
  cases hv1
  rw [hg] at hg'
  cases hg'
  have c0 := item_cell hg hcur0 2 (by decide) (u := S [97]) (by rw [← h0]; rfl)
  have c1 := item_cell hg hcur1 0 (by decide) (u := I 1) (by rw [← h1]; rfl)
  repeat (first | refine CE.seq ?_ | refine CE.text ?_ | refine RE.x (op_move rfl) rfl ?_ | refine RE.x (op_assign rfl) rfl ?_ | refine RE.x (op_eql rfl rfl) rfl ?_ | refine RE.x (op_len_sl rfl rfl) rfl ?_ | refine RE.nilx (show CE _ _ _ _ _ _ _ from ?_))
  rw [show decide ((rs.length : Int) = 2) = true from decide_eq_true (by omega)]
  repeat (first | refine RE.x (op_move rfl) rfl ?_ | refine RE.want rfl rfl ?_)
  refine RE.x (op_indexAddr rfl rfl rfl (by decide) (by omega)) rfl ?_
  repeat (first | refine RE.x (op_fieldAddr0 rfl rfl) rfl ?_ | refine RE.want rfl rfl ?_)
  refine RE.x (op_load rfl rfl c0) rfl ?_
  repeat (first | refine RE.x (op_move rfl) rfl ?_ | refine RE.x (op_pick_t rfl rfl rfl) rfl ?_ | refine RE.x (op_eql_s rfl rfl) rfl ?_ | refine RE.want rfl rfl ?_)
  rw [show decide (([97] : List UInt8) = [97]) = true from rfl]
  skip
  refine RE.x (op_indexAddr rfl rfl rfl (by decide) (by omega)) rfl ?_
  repeat (first | refine RE.x (op_fieldAddr rfl rfl) rfl ?_ | refine RE.want rfl rfl ?_)
  refine RE.x (op_load rfl rfl c1) rfl ?_
  repeat (first | refine RE.x (op_assign rfl) rfl ?_ | refine RE.x (op_eql rfl rfl) rfl ?_ | refine RE.x (op_pick_t rfl rfl rfl) rfl ?_ | refine RE.want rfl rfl ?_ | refine RE.nilx (show CE _ _ _ _ _ _ _ from ?_))
  (refine CE.ret ?_; (try dsimp only); refine ret1 rfl rfl ?_)
  exact ⟨rfl, e1⟩
end Go.Wk
namespace Go.Wk
open Go Go.RowKit Go.Proofs
set_option maxRecDepth 100000

set_option maxHeartbeats 4000000 in
theorem law3_fn {B : Nat} {toml d : Bool} {m u : List UInt8} {w : World} (hT : TabsB B w) (hB : B ≤ w.heap.size) : Fn PT 3 [.bool toml, S m, S u, .bool d] w (fun v w' => v = .bool true ∧ Ext w w') := by
  obtain ⟨c, tp, hcf, htp, hcc⟩ : ∃ (c : UInt8) (tp : Int), (if toml then [43, 43, 43] else [45, 45, 45]) = [c, c, c] ∧ (tp = if toml then 4 else 3) ∧ (c.toNat = 43 ∧ tp = 4 ∨ c.toNat = 45 ∧ tp = 3) := by
    cases toml
    · exact ⟨45, 3, rfl, rfl, Or.inr ⟨rfl, rfl⟩⟩
    · exact ⟨43, 4, rfl, rfl, Or.inl ⟨rfl, rfl⟩⟩
  refine fn_of Tryz.func3 rfl Tryz.ntmps3 rfl ?_
  repeat (first | refine CE.seq ?_ | refine CE.text ?_ | refine RE.x (op_move rfl) rfl ?_ | refine RE.x (op_assign rfl) rfl ?_ | refine RE.x (op_gtr rfl rfl) rfl ?_ | refine RE.x (op_len_s rfl Tryz.underlying9) rfl ?_ | refine RE.nilx (show CE _ _ _ _ _ _ _ from ?_))
  refine RE.splitD (fun h1 => ?_) (fun h1 => ?_)
  · repeat (first | refine RE.x (op_pick_t rfl rfl rfl) rfl ?_ | refine RE.nox rfl rfl rfl rfl ?_ | refine RE.nilx (show CE _ _ _ _ _ _ _ from ?_))
    refine CE.cond_t rfl ?_
    repeat (first | refine CE.seq ?_ | refine CE.text ?_ | refine RE.x (op_assign rfl) rfl ?_ | refine RE.nilx (show CE _ _ _ _ _ _ _ from ?_))
    (refine CE.ret ?_; (try dsimp only); refine ret1 rfl rfl ?_)
    exact ⟨rfl, Ext.refl _⟩
  repeat (first | refine RE.x (op_move rfl) rfl ?_ | refine RE.x (op_gtr rfl rfl) rfl ?_ | refine RE.x (op_len_s rfl Tryz.underlying9) rfl ?_ | refine RE.x (op_pick_f rfl rfl) rfl ?_ | refine RE.want rfl rfl ?_ | refine RE.nilx (show CE _ _ _ _ _ _ _ from ?_))
  refine CE.cond_d rfl (fun h2 => ?_) (fun h2 => ?_)
  · repeat (first | refine CE.seq ?_ | refine CE.text ?_ | refine RE.x (op_assign rfl) rfl ?_ | refine RE.nilx (show CE _ _ _ _ _ _ _ from ?_))
    (refine CE.ret ?_; (try dsimp only); refine ret1 rfl rfl ?_)
    exact ⟨rfl, Ext.refl _⟩
  refine CE.skip (show CE _ _ _ _ _ _ _ from ?_)
  repeat (first | refine CE.seq ?_ | refine CE.text ?_)
  refine RE.xc en8 rfl rfl (pages_fn hT hB) ?_
  rintro _ w1 ⟨rfl, e1⟩
  repeat (first | refine RE.x (op_not rfl) rfl ?_ | refine RE.nilx (show CE _ _ _ _ _ _ _ from ?_))
  refine CE.cond_f rfl ?_
  refine CE.skip (show CE _ _ _ _ _ _ _ from ?_)
  repeat (first | refine CE.seq ?_ | refine CE.text ?_ | refine RE.x (op_move rfl) rfl ?_)
  refine RE.xc en9 rfl rfl (fence_fn toml w1) ?_
  rintro _ w2 ⟨rfl, hw⟩
  subst hw
  rw [hcf]
  repeat (first | refine CE.seq ?_ | refine CE.text ?_ | refine RE.x (op_move rfl) rfl ?_ | refine RE.x (op_assign rfl) rfl ?_ | refine RE.x (op_gtr rfl rfl) rfl ?_ | refine RE.x (op_len_s rfl Tryz.underlying9) rfl ?_ | refine RE.x (op_add64 rfl rfl (by omega) (by omega)) rfl ?_ | refine RE.nilx (show CE _ _ _ _ _ _ _ from ?_))
  refine RE.splitD (fun h3 => ?_) (fun h3 => ?_)
  · repeat (first | refine RE.x (op_move rfl) rfl ?_ | refine RE.x (op_pick_t rfl rfl rfl) rfl ?_ | refine RE.nox rfl rfl rfl rfl ?_ | refine RE.nilx (show CE _ _ _ _ _ _ _ from ?_))
    refine CE.cond_t rfl ?_
    repeat (first | refine CE.seq ?_ | refine CE.text ?_ | refine RE.x (op_assign rfl) rfl ?_ | refine RE.nilx (show CE _ _ _ _ _ _ _ from ?_))
    (refine CE.ret ?_; (try dsimp only); refine ret1 rfl rfl ?_)
    exact ⟨rfl, e1⟩
  have hsum : m.length + u.length ≤ 65536 := by omega
  repeat (first | refine RE.x (op_move rfl) rfl ?_ | refine RE.x (op_pick_f rfl rfl) rfl ?_ | refine RE.x (op_eql_s rfl rfl) rfl ?_ | refine RE.want rfl rfl ?_)
  refine RE.splitD (fun h4 => ?_) (fun h4 => ?_)
  · repeat (first | refine RE.x (op_move rfl) rfl ?_ | refine RE.x (op_pick_t rfl rfl rfl) rfl ?_ | refine RE.nox rfl rfl rfl rfl ?_ | refine RE.nilx (show CE _ _ _ _ _ _ _ from ?_))
    refine CE.cond_t rfl ?_
    repeat (first | refine CE.seq ?_ | refine CE.text ?_ | refine RE.x (op_assign rfl) rfl ?_ | refine RE.nilx (show CE _ _ _ _ _ _ _ from ?_))
    (refine CE.ret ?_; (try dsimp only); refine ret1 rfl rfl ?_)
    exact ⟨rfl, e1⟩
  have hml : 0 < m.length := by cases m with | nil => exact absurd rfl h4 | cons _ _ => simp
  obtain ⟨b, hb⟩ : ∃ b, m[m.length - 1]? = some b := ⟨m[m.length - 1]'(by omega), List.getElem?_eq_getElem _⟩
  have hgl : m.getLast? = some b := by rw [List.getLast?_eq_getElem?]; exact hb
  have hbi : m[((m.length : Int) - 1).toNat]? = some b := by rw [show ((m.length : Int) - 1).toNat = m.length - 1 by omega]; exact hb
  repeat (first | refine RE.x (op_move rfl) rfl ?_ | refine RE.x (op_len_s rfl Tryz.underlying9) rfl ?_ | refine RE.x (op_sub64 rfl rfl (by omega) (by omega)) rfl ?_ | refine RE.want rfl rfl ?_)
  refine RE.x (op_index_s (b := b) rfl rfl Tryz.underlying9 (by omega) hbi) rfl ?_
  repeat (first | refine RE.x (op_move rfl) rfl ?_ | refine RE.x (op_neq rfl rfl) rfl ?_ | refine RE.x (op_pick_f rfl rfl) rfl ?_ | refine RE.want rfl rfl ?_)
  refine RE.splitD (fun h5 => ?_) (fun h5 => ?_)
  · repeat (first | refine RE.x (op_move rfl) rfl ?_ | refine RE.x (op_pick_t rfl rfl rfl) rfl ?_ | refine RE.nox rfl rfl rfl rfl ?_ | refine RE.nilx (show CE _ _ _ _ _ _ _ from ?_))
    refine CE.cond_t rfl ?_
    repeat (first | refine CE.seq ?_ | refine CE.text ?_ | refine RE.x (op_assign rfl) rfl ?_ | refine RE.nilx (show CE _ _ _ _ _ _ _ from ?_))
    (refine CE.ret ?_; (try dsimp only); refine ret1 rfl rfl ?_)
    exact ⟨rfl, e1⟩
  have hb10 : b = 10 := UInt8.toNat_inj.1 (by show b.toNat = 10; omega)
  subst hb10
  repeat (first | refine RE.x (op_move rfl) rfl ?_ | refine RE.want rfl rfl ?_)
  refine RE.xc en10 rfl rfl (begins_fn (i := 0) (by omega) (by simp) (by decide)) ?_
  rintro _ w3 ⟨rfl, hw⟩
  subst hw
  repeat (first | refine RE.x (op_move rfl) rfl ?_ | refine RE.x (op_pick_f rfl rfl) rfl ?_)
  refine RE.splitH (fun h6 => ?_) (fun h6 => ?_)
  · repeat (first | refine RE.x (op_move rfl) rfl ?_ | refine RE.x (op_pick_t rfl rfl rfl) rfl ?_ | refine RE.nox rfl rfl rfl rfl ?_ | refine RE.nilx (show CE _ _ _ _ _ _ _ from ?_))
    refine CE.cond_t rfl ?_
    repeat (first | refine CE.seq ?_ | refine CE.text ?_ | refine RE.x (op_assign rfl) rfl ?_ | refine RE.nilx (show CE _ _ _ _ _ _ _ from ?_))
    (refine CE.ret ?_; (try dsimp only); refine ret1 rfl rfl ?_)
    exact ⟨rfl, e1⟩
  repeat (first | refine RE.x (op_move rfl) rfl ?_ | refine RE.want rfl rfl ?_)
  refine RE.x (op_add_s (a := [10]) rfl rfl (by simp)) rfl ?_
  repeat (refine RE.want rfl rfl ?_)
  refine RE.xc en11 rfl rfl (has_fn (x := [10] ++ [c, c, c]) (by omega) (by simp)) ?_
  rintro _ w4 ⟨rfl, hw⟩
  subst hw
  repeat (first | refine RE.x (op_move rfl) rfl ?_ | refine RE.x (op_pick_f rfl rfl) rfl ?_)
  refine RE.splitH (fun h7 => ?_) (fun h7 => ?_)
  · repeat (first | refine RE.x (op_pick_t rfl rfl rfl) rfl ?_ | refine RE.nox rfl rfl rfl rfl ?_ | refine RE.nilx (show CE _ _ _ _ _ _ _ from ?_))
    refine CE.cond_t rfl ?_
    repeat (first | refine CE.seq ?_ | refine CE.text ?_ | refine RE.x (op_assign rfl) rfl ?_ | refine RE.nilx (show CE _ _ _ _ _ _ _ from ?_))
    (refine CE.ret ?_; (try dsimp only); refine ret1 rfl rfl ?_)
    exact ⟨rfl, e1⟩
  repeat (first | refine RE.x (op_move rfl) rfl ?_ | refine RE.want rfl rfl ?_)
  refine RE.xc en11 rfl rfl (has_fn (x := [13]) (by omega) (by decide)) ?_
  rintro _ w5 ⟨rfl, hw⟩
  subst hw
  repeat (first | refine RE.x (op_pick_f rfl rfl) rfl ?_ | refine RE.nilx (show CE _ _ _ _ _ _ _ from ?_))
  refine CE.cond_s rfl (fun h8 => ?_) (fun h8 => ?_)
  · repeat (first | refine CE.seq ?_ | refine CE.text ?_ | refine RE.x (op_assign rfl) rfl ?_ | refine RE.nilx (show CE _ _ _ _ _ _ _ from ?_))
    (refine CE.ret ?_; (try dsimp only); refine ret1 rfl rfl ?_)
    exact ⟨rfl, e1⟩
  refine CE.skip (show CE _ _ _ _ _ _ _ from ?_)
  repeat (first | refine CE.seq ?_ | refine CE.text ?_ | refine RE.x (op_move rfl) rfl ?_)
  refine RE.x (op_add_s (b := [10]) rfl rfl (by simp)) rfl ?_
  repeat (refine RE.x (op_move rfl) rfl ?_)
  refine RE.x (op_add_s rfl rfl (by simp; omega)) rfl ?_
  repeat (refine RE.x (op_move rfl) rfl ?_)
  refine RE.x (op_add_s rfl rfl (by simp; omega)) rfl ?_
  refine RE.x (op_add_s (b := [10]) rfl rfl (by simp; omega)) rfl ?_
  have ha : [c, c, c] ++ [10] ++ m ++ [c, c, c] ++ [10] = ahead c m := by simp [ahead]
  rw [ha]
  have hal := ahead_len c m
  have hT1 := hT.ext hB e1
  have hB1 : B ≤ w5.heap.size := by have := e1.size; omega
  obtain ⟨r1, hr1, hp1⟩ := parseL_fn (t := ahead c m ++ u) (f := true) (d := d) hT1 hB1 (by simp; omega)
  repeat (first | refine CE.seq ?_ | refine CE.text ?_ | refine RE.x (op_move rfl) rfl ?_ | refine RE.x (op_assign rfl) rfl ?_ | refine RE.nilx (show CE _ _ _ _ _ _ _ from ?_))
  refine RE.x (op_add_s rfl rfl (by omega)) rfl ?_
  repeat (refine RE.x (op_move rfl) rfl ?_)
  refine RE.xc en12 rfl rfl hp1 ?_
  rintro v1 w6 ⟨hv1, e6⟩
  have e16 := e1.trans e6
  have hB6 : B ≤ w6.heap.size := by have := e16.size; omega
  obtain ⟨r2, hr2, hp2⟩ := parseL_fn (t := u) (f := false) (d := d) (hT.ext hB e16) hB6 (by omega)
  have hr12 := Lexes.fn hr1 (front_lex hcc h4 hgl h6 h7 h8 hr2)
  have hfew := lex_few (by omega) hr2
  have hg := gd_lex hr2 (inv0 u true) (fun p hp => by cases hp)
  have hitems := front_items (c := c) (tp := tp) (m := m) (u := u) r2 rfl
  rw [← hr12] at hitems
  rw [hitems] at hv1
  generalize hrs : r2.ps.map (told u) = rs at hp2 hv1
  have hrl : rs.length ≤ 20000000 := by rw [← hrs, List.length_map]; exact hfew
  repeat (first | refine CE.seq ?_ | refine CE.text ?_ | refine RE.x (op_move rfl) rfl ?_ | refine RE.x (op_assign rfl) rfl ?_ | refine RE.nilx (show CE _ _ _ _ _ _ _ from ?_))
  refine RE.xc en12 rfl rfl hp2 ?_
  rintro v2 w7 ⟨hv2, e7⟩
  have hv1' := ownsRow_ext hv1 e7
  have hml1 : (rs.map (RI.mv (ahead c m).length)).length = rs.length := List.length_map ..
  obtain ⟨g, cap, cur, hve, hg1, hcur⟩ := OwnR.item (k := 0) hv1' (Nat.zero_lt_succ _)
  subst hve
  obtain ⟨a2, cap2, hve⟩ := OwnR.len0 hv2
  subst hve
  have hmax : maxLen = 9223372036854775807 := rfl
  repeat (first | refine CE.seq ?_ | refine CE.text ?_ | refine RE.x (op_move rfl) rfl ?_ | refine RE.x (op_assign rfl) rfl ?_ | refine RE.x (op_neq rfl rfl) rfl ?_ | refine RE.x (op_len_sl rfl rfl) rfl ?_ | refine RE.x (op_add64 rfl rfl (by omega) (by omega)) rfl ?_ | refine RE.nilx (show CE _ _ _ _ _ _ _ from ?_))
  have hl1 : decide (((tell tp 4 m false :: rs.map (RI.mv (ahead c m).length)).length : Int) ≠ (rs.length : Int) + 1) = false := decide_eq_false (by simp)
  rw [hl1]
  repeat (first | refine RE.x (op_move rfl) rfl ?_ | refine RE.want rfl rfl ?_)
  refine RE.xc en13 rfl rfl (whole_fn hv2 hrl) ?_
  rintro _ w8 ⟨rfl, e8⟩
  have e18 := (e16.trans e7).trans e8
  repeat (first | refine RE.x (op_not rfl) rfl ?_ | refine RE.x (op_pick_f rfl rfl) rfl ?_ | refine RE.want rfl rfl ?_ | refine RE.nilx (show CE _ _ _ _ _ _ _ from ?_))
  refine CE.cond_s rfl (fun h9 => ?_) (fun h9 => ?_)
  · repeat (first | refine CE.seq ?_ | refine CE.text ?_ | refine RE.x (op_move rfl) rfl ?_)
    refine RE.xc en13 rfl rfl (whole_fn (ownsRow_ext hv2 e8) hrl) ?_
    rintro _ w9 ⟨rfl, e9⟩
    rw [h9]
    repeat (first | refine RE.x (op_assign rfl) rfl ?_ | refine RE.x (op_not rfl) rfl ?_ | refine RE.nilx (show CE _ _ _ _ _ _ _ from ?_))
    rw [h9]
    skip
    (refine CE.ret ?_; (try dsimp only); refine ret1 rfl rfl ?_)
    exact ⟨rfl, e18.trans e9⟩
  refine CE.skip (show CE _ _ _ _ _ _ _ from ?_)
  have hne : rs ≠ [] := by
    intro e
    rw [e] at h9
    exact absurd h9 (by decide)
  repeat (first | refine CE.seq ?_ | refine CE.text ?_ | refine RE.x (op_move rfl) rfl ?_ | refine RE.x (op_assign rfl) rfl ?_ | refine RE.nilx (show CE _ _ _ _ _ _ _ from ?_))
  refine CE.cut (fun s ds w' => ds = [] ∧ w' = w8 ∧ SubL [(13, I tp), (12, .slice a2 rs.length cap2), (11, Sl g 0 (tell tp 4 m false :: rs.map (RI.mv (ahead c m).length)).length cap), (10, S (ahead c m)), (9, S [c, c, c]), (1, S m)] s) ?_ ?_
  · refine CE.cond_s rfl (fun h => ?_) (fun h => ?_)
    · rw [h] at htp
      subst htp
      repeat (first | refine CE.text ?_ | refine RE.x (op_assign rfl) rfl ?_)
      refine RE.nilx ?_
      exact ⟨rfl, rfl, rfl, rfl, rfl, rfl, rfl, rfl, trivial⟩
    · rw [h] at htp
      subst htp
      exact CE.skip ⟨rfl, rfl, rfl, rfl, rfl, rfl, rfl, rfl, trivial⟩
  rintro s _ w9 ⟨rfl, hw, hsb⟩
  subst hw
  refine CE.sub hsb ?_
  repeat (first | refine CE.seq ?_ | refine CE.text ?_ | refine RE.x (op_move rfl) rfl ?_ | refine RE.x (op_len_s rfl Tryz.underlying9) rfl ?_)
  refine RE.x (op_add64 rfl rfl (by simp) (by simp)) rfl ?_
  rw [show (([c, c, c] : List UInt8).length : Int) + 1 = 4 from rfl]
  repeat (refine RE.x (op_move rfl) rfl ?_)
  refine RE.x (op_build (cells := #[I tp, I 4, S m, .bool false, .int .u16 0]) rfl (by kernel_rfl)) rfl ?_
  refine RE.xe (e_alloc (cells := #[I 0, I 0, S [], .bool false, .int .u16 0]) Tryz.zeroValue31 rfl) rfl ?_
  rintro _ w10 ⟨bx, rfl, hn10⟩
  refine RE.xs (e_storeA (k := 5) rfl rfl rfl hn10.here rfl rfl (by simp [Value.oneCell'])) ?_
  rintro _ w11 hu11
  have hb11 : w11.heap[bx]? = some (.cells #[I tp, I 4, S m, .bool false, .int .u16 0] 31 (0, 0)) := hu11.here
  have e11 : Ext w9 w11 := hn10.ext.fr (Fr.of_upd (S := (· = bx)) hu11 rfl) (fun q hq => by subst hq; have := hn10.num; omega)
  repeat (first | refine CE.seq ?_ | refine CE.text ?_ | refine RE.x (op_loadA rfl rfl hb11 rfl rfl) rfl ?_ | refine RE.nilx (show CE _ _ _ _ _ _ _ from ?_))
  refine RE.xc en14 rfl rfl (bits_fn ⟨tp, 4, m, false, 0⟩ w11 (by show m.length ≤ _; omega)) ?_
  rintro _ w12 ⟨rfl, e12⟩
  have hb12 := e12.block hb11
  repeat (refine RE.x (op_fieldAddr0 rfl rfl) rfl ?_)
  refine RE.xs (e_store rfl rfl rfl hb12 rfl rfl) ?_
  rintro _ w13 hu13
  have hb13 : w13.heap[bx]? = some (.cells (tell tp 4 m false).lst.toArray 31 (0, 0)) := hu13.here
  have e13 : Ext w9 w13 := (e11.trans e12).fr (Fr.of_upd (S := (· = bx)) hu13 rfl) (fun q hq => by subst hq; have := hn10.num; have := hn10.size; omega)
  have hbd : w13.drew.heap[bx]? = _ := hb13
  have e813 := (e8.trans e13).trans (Ext.drew w13)
  have hgd : w13.drew.heap[g]? = _ := e813.block hg1
  have hB13 : B ≤ w13.drew.heap.size := by have := e18.size; have := e13.size; have : w13.drew.heap.size = w13.heap.size := rfl; omega
  have hcapl : rs.length + 1 ≤ cap := by
    rcases hv1'.2 with ⟨_, h0⟩ | ⟨g', cap', cur', he, hb, hg', hnc, _⟩
    · simp at h0
    · cases he
      have := hnc
      simp at this
      exact this
  have hps : ∀ x ∈ rs, x.pos ≤ 1000000 := by
    intro x hx
    rw [← hrs] at hx
    obtain ⟨p, hp, rfl⟩ := List.mem_map.1 hx
    have := pos_le (hg p hp)
    show p.pos ≤ _
    omega
  repeat (first | refine CE.seq ?_ | refine RE.nilx (show CE _ _ _ _ _ _ _ from ?_))
  repeat refine CE.seq ?_
  refine CE.drawR Ext [0, 0, 0, 0, 0, 0, 0, 0, 0, 0, 0, 1, 0, 0, 0] mixed Ext.refl (fun _ _ _ => Ext.trans) (by decide +kernel) ?_
  repeat (refine RE.dd (fun _ hw => op_move rfl) rfl Ext.refl ?_)
  refine RE.dd (fun _ _ => op_indexAddr rfl rfl rfl (by decide) (by simp)) rfl Ext.refl ?_
  refine RE.dd (fun _ hw => op_loadA (k := 5) (vs := (tell tp 4 m false).lst) rfl rfl (hw.block hgd) hcur rfl) rfl Ext.refl ?_
  refine RE.dd (fun _ hw => op_loadA (k := 5) (vs := (tell tp 4 m false).lst) rfl rfl (hw.block hbd) rfl rfl) rfl Ext.refl ?_
  refine RE.dd (fun _ _ => op_eql31 (a := tell tp 4 m false) (b := tell tp 4 m false) rfl rfl) rfl Ext.refl ?_
  rw [show decide (tell tp 4 m false = tell tp 4 m false) = true by simp]
  repeat (first | refine RE.dd (fun _ hw => op_move rfl) rfl Ext.refl ?_ | refine RE.want rfl rfl ?_)
  refine RE.dd (fun _ _ => op_slice_l rfl rfl rfl (by decide) (by rw [List.length_cons]; omega)) rfl Ext.refl ?_
  repeat (first | refine RE.dd (fun _ hw => op_move rfl) rfl Ext.refl ?_ | refine RE.dd (fun _ hw => op_len_s rfl Tryz.underlying9) rfl Ext.refl ?_ | refine RE.want rfl rfl ?_)
  refine RE.gcx (φ := fun v w' => OwnR B w' v (rs.map (RI.mv (ahead c m).length))) en16 rfl rfl (fun _ _ _ h he => ownsRow_ext h he)
    (fun w14 hw14 => moved_fn (ownsRow_ext hv2 (e813.trans hw14)) (by have := hw14.size; omega) hrl (by omega) hps) ?_
  rintro v15 ⟨w15, _, hrow⟩
  refine RE.want rfl rfl ?_
  refine RE.dc en15 rfl rfl (fun w16 hw16 => same_fn (RowR.ext (RowR.tail (rs := rs.map (RI.mv (ahead c m).length)) hv1' (by simpa using hne)) (e813.trans hw16.1)) (RowR.of hw16.2) (by rw [hml1]; exact hrl)) ?_
  repeat (first | refine RE.dd (fun _ hw => op_assign rfl) rfl Ext.refl ?_ | refine RE.dd (fun _ hw => op_pick_t rfl rfl rfl) rfl Ext.refl ?_)
  refine RE.nil (fun w17 hw17 => show CE _ _ _ _ _ _ _ from ?_)
  (refine CE.ret ?_; (try dsimp only); refine ret1 rfl rfl ?_)
  exact ⟨rfl, ((e16.trans e7).trans e813).trans hw17.1⟩
end Go.Wk
