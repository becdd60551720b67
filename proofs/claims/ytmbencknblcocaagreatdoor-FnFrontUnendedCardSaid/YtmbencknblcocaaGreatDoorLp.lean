/- bytes.TrimSpace: whether something is left. -/
import Derived.Test.YtmbencknblcocaaGreatDoorLo
import Derived.Test.YtmbencknblcocaaGreatDoorPa
import Derived.Test.YtmbencknblcocaaGreatDoorSj
namespace Go.Wk
open Go Go.RowKit Go.Proofs
set_option maxRecDepth 100000

section
variable {n : Nat} {s : Slots} {w : World} {dst : Option Tmp} {ty : TypeId} {pos : String} {af : Array Edge} {g : Option (Nat × Bool)} {x y : Operand}
def okArr (P : Program) (t e m : Nat) : Bool := match P.underlying t, P.info? e with | some (.array k u), some i => k == m && u == e && i.size == 1 | _, _ => false
theorem op_indexAddrA {t e m b o : Nat} {i : Int} {k : IntKind} (hx : ev s x = some (Ptr b o)) (hy : ev s y = some (.int k i)) (ht : okArr PT t e m = true) (h0 : 0 ≤ i) (h1 : i < m) :
    Op1 PT ⟨dst, .indexAddr t x y, ty, pos, af, g⟩ n s (Ptr b (o + i.toNat)) w := by
  refine ⟨fun ds a ha => ?_⟩
  unfold okArr at ht
  split at ht
  · rename_i q u j hu hj
    simp only [Bool.and_eq_true, beq_iff_eq] at ht
    obtain ⟨⟨rfl, rfl⟩, hz⟩ := ht
    have he : PT.elem t = u := by simp [Program.elem, hu]
    have hl : PT.arrayLen t = q := by simp [Program.arrayLen, hu]
    have h2 := run_indexAt_array (P := PT) w t ⟨b, o, none⟩ k i (by rw [hu, he, hl])
    have h3 : (sizeOf u).run PT w = .ok 1 w := by simp [sizeOf, typeInfo, hj, hz]
    rw [if_pos ⟨h0, by rw [hl]; exact h1⟩, he, h3] at h2
    simp only [Result.andThen_ok, Addr.add_lit, Nat.mul_one] at h2
    simp [execOp, ha.ev hx, ha.ev hy, h2]
  · cases ht
end

/-- bytes.TrimFunc at unicode.IsSpace. -/
theorem trimFunc_fn {B : Nat} {w : World} {b : Nat} {v : Value} {l : List UInt8} (h : HBk b w v l) (hl : l ≠ []) (hT : TabsB B w) (hB : B ≤ w.heap.size) (hs : l.length ≤ 1000000) :
    Fn PT 107 [v, fnV 108] w (fun u w' => (∃ a m c, u = .slice a m c ∧ (0 < m ↔ nonSp l = true)) ∧ Ext w w') := by
  obtain ⟨a, cp, rfl, hcp, hcl⟩ := h
  obtain ⟨o, rfl, hcells⟩ := hcl hl
  have hp : PredGrows PT 108 #[] Lib.isSpaceR w := by
    intro W x hx hb
    have := Tryz.unicode_IsSpace_any (x : Int) W (by omega) (by omega) (hT.ext hB hb).tabs.white
    rw [Lib.isSpaceZ_nat] at this
    exact this
  have h1 := Any7.bytes_TrimFunc Tryz.lays42 108 #[] en108 Lib.isSpaceR ⟨⟨l⟩⟩ b o cp w (by rw [size_S]; exact hcp) (by rw [size_S]; omega) (fun j hj => by
      rw [size_S] at hj
      rw [hcells j hj]
      have : (ByteArray.mk ⟨l⟩).get! j = l[j] := by
        show (Array.mk l)[j]! = _
        simp [hj]
      rw [this]) hT.tabs.u8 hp
  rw [size_S] at h1
  obtain ⟨a', m, c', he, hm⟩ := trimCut_len l b o cp
  rw [he] at h1
  exact ⟨Calls.mono h1 fun _ _ ⟨he, hb⟩ => ⟨_, he, ⟨_, _, _, rfl, hm⟩, hb⟩⟩

theorem asc_cell {w : World} (h : Tabs w) (q : Nat) (hq : q < 256) : w.cell? ⟨0, q, none⟩ = some (.int .u8 (if Lib.isSp (UInt8.ofNat q) then 1 else 0)) := by
  have hg : PT.globalNamed "bytes.asciiSpace" = some 0 := by kernel_rfl
  rw [h.asc.cell hg q (by rw [Lib.asciiSpaceTab_length]; exact hq), Lib.asciiSpaceTab_at q hq]

theorem head_sp {b : UInt8} {r : List UInt8} (h : Lib.isSp b = true) : Lib.headSpace (b :: r) = 1 := by
  have hm : ∀ i : Fin 256, Lib.isSp (UInt8.ofNat i.val) = true → [UInt8.ofNat i.val] ∈ Lib.spaceSeqs := by decide
  have h1 : [b] ∈ Lib.spaceSeqs := by
    have := hm ⟨b.toNat, b.toNat_lt⟩
    simp at this
    exact this h
  have h2 := headSpace_of h1 (l := b :: r) (by simp)
  obtain ⟨q, _, hq, hp, he⟩ := find_seq h2
  rw [he]
  have hl : ∀ i : Fin 256, Lib.isSp (UInt8.ofNat i.val) = true → ∀ q ∈ Lib.spaceSeqs, q.head? = some (UInt8.ofNat i.val) → q.length = 1 := by decide
  have := hl ⟨b.toNat, b.toNat_lt⟩ (by simpa using h) q hq (by
    obtain ⟨z, hz⟩ := List.isPrefixOf_iff_prefix.1 hp
    cases q with
    | nil => have := seq_pos [] hq; simp at this
    | cons c q => simp at hz; simp [hz.1])
  exact this
theorem head_ns {b : UInt8} {r : List UInt8} (h : Lib.isSp b = false) (h1 : b.toNat < 128) : Lib.headSpace (b :: r) = 0 := by
  by_cases h2 : Lib.headSpace (b :: r) = 0
  · exact h2
  · exfalso
    obtain ⟨q, _, hq, hp, he⟩ := find_seq h2
    have hl : ∀ i : Fin 256, Lib.isSp (UInt8.ofNat i.val) = false → i.val < 128 → ∀ q ∈ Lib.spaceSeqs, q.head? ≠ some (UInt8.ofNat i.val) := by decide
    refine hl ⟨b.toNat, b.toNat_lt⟩ (by simpa using h) h1 q hq ?_
    obtain ⟨z, hz⟩ := List.isPrefixOf_iff_prefix.1 hp
    cases q with
    | nil => have := seq_pos [] hq; simp at this
    | cons c q => simp at hz; simp [hz.1]

set_option maxHeartbeats 3000000 in
theorem trim_fn {B : Nat} {w : World} {b : Nat} {v : Value} {l : List UInt8} (h : HBk b w v l) (hT : TabsB B w) (hB : B ≤ w.heap.size) (hs : l.length ≤ 1000000) :
    Fn PT 83 [v] w (fun u w' => (∃ a m c, u = .slice a m c ∧ (0 < m ↔ nonSp l = true)) ∧ Ext w w') := by
  obtain ⟨a, cp, rfl, hcp, hcl⟩ := h
  have h : HBk b w (.slice a l.length cp) l := ⟨_, _, rfl, hcp, hcl⟩
  refine fn_of Tryz.func83 rfl Tryz.ntmps83 rfl ?_
  repeat (first | refine CE.seq ?_ | refine CE.text ?_ | refine RE.x (op_move rfl) rfl ?_ | refine RE.x (op_assign rfl) rfl ?_ | refine RE.x (op_nil rfl) rfl ?_ | refine RE.x (op_fieldAddr0 rfl rfl) rfl ?_ | refine RE.x (op_fieldAddr rfl rfl) rfl ?_ | refine RE.x (op_eql rfl rfl) rfl ?_ | refine RE.x (op_neq rfl rfl) rfl ?_ | refine RE.x (op_lss rfl rfl) rfl ?_ | refine RE.x (op_leq rfl rfl) rfl ?_ | refine RE.x (op_gtr rfl rfl) rfl ?_ | refine RE.x (op_geq rfl rfl) rfl ?_ | refine RE.x (op_not_d rfl) rfl ?_ | refine RE.x (op_not rfl) rfl ?_ | refine RE.x (op_len_sl rfl rfl) rfl ?_ | refine RE.x (op_len_s rfl Tryz.underlying9) rfl ?_ | refine RE.x (op_extract rfl rfl) rfl ?_ | refine RE.x (op_pick_t rfl rfl rfl) rfl ?_ | refine RE.x (op_pick_f rfl rfl) rfl ?_ | refine RE.x (op_add64 rfl rfl (by omega) (by omega)) rfl ?_ | refine RE.x (op_sub64 rfl rfl (by omega) (by omega)) rfl ?_ | refine RE.x (op_eql_s rfl rfl) rfl ?_ | refine RE.x (op_neq_s rfl rfl) rfl ?_ | refine RE.want rfl rfl ?_ | refine RE.nox rfl rfl rfl rfl ?_ | refine RE.nou rfl rfl rfl ?_ | refine RE.nilx (show CE _ _ _ _ _ _ _ from ?_) | refine CE.scope ?_ | refine CE.label (show CE _ _ _ _ _ _ _ from ?_) | refine CE.skip (show CE _ _ _ _ _ _ _ from ?_) | refine CE.exit (show CE _ _ _ _ _ _ _ from ?_))
  refine CE.cut (fun s ds w' => ds = [] ∧ w' = w ∧ nonSp l = false) ?_ ?_
  · refine CE.block ?_
    refine CE.loop (α := Nat) (fun i => [(9, I i), (8, I l.length), (7, .slice a l.length cp), (0, .slice a l.length cp)]) (fun i w' => w' = w ∧ i ≤ l.length ∧ nonSp l = nonSp (l.drop i)) (fun i => l.length - i) 0 ⟨rfl, rfl, rfl, rfl, trivial⟩ ⟨rfl, Nat.zero_le _, by simp⟩ ?_
    rintro i w' ⟨hw', hi, hns⟩
    have hw2 : w = w' := hw'.symm
    subst hw2
    repeat (first | refine CE.seq ?_ | refine CE.text ?_ | refine RE.x (op_move rfl) rfl ?_ | refine RE.x (op_assign rfl) rfl ?_ | refine RE.x (op_nil rfl) rfl ?_ | refine RE.x (op_fieldAddr0 rfl rfl) rfl ?_ | refine RE.x (op_fieldAddr rfl rfl) rfl ?_ | refine RE.x (op_eql rfl rfl) rfl ?_ | refine RE.x (op_neq rfl rfl) rfl ?_ | refine RE.x (op_lss rfl rfl) rfl ?_ | refine RE.x (op_leq rfl rfl) rfl ?_ | refine RE.x (op_gtr rfl rfl) rfl ?_ | refine RE.x (op_geq rfl rfl) rfl ?_ | refine RE.x (op_not_d rfl) rfl ?_ | refine RE.x (op_not rfl) rfl ?_ | refine RE.x (op_len_sl rfl rfl) rfl ?_ | refine RE.x (op_len_s rfl Tryz.underlying9) rfl ?_ | refine RE.x (op_extract rfl rfl) rfl ?_ | refine RE.x (op_pick_t rfl rfl rfl) rfl ?_ | refine RE.x (op_pick_f rfl rfl) rfl ?_ | refine RE.x (op_add64 rfl rfl (by omega) (by omega)) rfl ?_ | refine RE.x (op_sub64 rfl rfl (by omega) (by omega)) rfl ?_ | refine RE.x (op_eql_s rfl rfl) rfl ?_ | refine RE.x (op_neq_s rfl rfl) rfl ?_ | refine RE.want rfl rfl ?_ | refine RE.nox rfl rfl rfl rfl ?_ | refine RE.nou rfl rfl rfl ?_ | refine RE.nilx (show CE _ _ _ _ _ _ _ from ?_) | refine CE.block ?_ | refine CE.scope ?_ | refine CE.label (show CE _ _ _ _ _ _ _ from ?_) | refine CE.skip (show CE _ _ _ _ _ _ _ from ?_) | refine CE.exit (show CE _ _ _ _ _ _ _ from ?_))
    refine CE.cond_d rfl (fun hlt => ?_) (fun hlt => ?_)
    · have hil : i < l.length := by omega
      obtain ⟨o, rfl, hcells⟩ := hcl (by intro e; subst e; simp at hil)
      have hcell : w.cell? ⟨b, o + (i : Int).toNat * 1, none⟩ = some (Wk.B l[i]) := by
        have e1 : o + (i : Int).toNat * 1 = o + i := by omega
        rw [e1]; exact hcells i hil
      have hd := List.drop_eq_getElem_cons hil
      generalize hb8 : l[i] = b8 at hcell hd
      have hb256 := b8.toNat_lt
      repeat (first | refine CE.seq ?_ | refine CE.text ?_ | refine RE.x (op_move rfl) rfl ?_ | refine RE.x (op_assign rfl) rfl ?_ | refine RE.x (op_nil rfl) rfl ?_ | refine RE.x (op_fieldAddr0 rfl rfl) rfl ?_ | refine RE.x (op_fieldAddr rfl rfl) rfl ?_ | refine RE.x (op_eql rfl rfl) rfl ?_ | refine RE.x (op_neq rfl rfl) rfl ?_ | refine RE.x (op_lss rfl rfl) rfl ?_ | refine RE.x (op_leq rfl rfl) rfl ?_ | refine RE.x (op_gtr rfl rfl) rfl ?_ | refine RE.x (op_geq rfl rfl) rfl ?_ | refine RE.x (op_not_d rfl) rfl ?_ | refine RE.x (op_not rfl) rfl ?_ | refine RE.x (op_len_sl rfl rfl) rfl ?_ | refine RE.x (op_len_s rfl Tryz.underlying9) rfl ?_ | refine RE.x (op_extract rfl rfl) rfl ?_ | refine RE.x (op_pick_t rfl rfl rfl) rfl ?_ | refine RE.x (op_pick_f rfl rfl) rfl ?_ | refine RE.x (op_add64 rfl rfl (by omega) (by omega)) rfl ?_ | refine RE.x (op_sub64 rfl rfl (by omega) (by omega)) rfl ?_ | refine RE.x (op_eql_s rfl rfl) rfl ?_ | refine RE.x (op_neq_s rfl rfl) rfl ?_ | refine RE.want rfl rfl ?_ | refine RE.nox rfl rfl rfl rfl ?_ | refine RE.nou rfl rfl rfl ?_ | refine RE.nilx (show CE _ _ _ _ _ _ _ from ?_) | refine CE.block ?_ | refine CE.scope ?_ | refine CE.label (show CE _ _ _ _ _ _ _ from ?_) | refine CE.skip (show CE _ _ _ _ _ _ _ from ?_) | refine CE.exit (show CE _ _ _ _ _ _ _ from ?_))
      refine RE.x (op_indexAddr rfl rfl rfl (by omega) (by omega)) rfl ?_
      refine RE.x (op_load rfl rfl hcell) rfl ?_
      repeat (first | refine CE.seq ?_ | refine CE.text ?_ | refine RE.x (op_move rfl) rfl ?_ | refine RE.x (op_assign rfl) rfl ?_ | refine RE.x (op_nil rfl) rfl ?_ | refine RE.x (op_fieldAddr0 rfl rfl) rfl ?_ | refine RE.x (op_fieldAddr rfl rfl) rfl ?_ | refine RE.x (op_eql rfl rfl) rfl ?_ | refine RE.x (op_neq rfl rfl) rfl ?_ | refine RE.x (op_lss rfl rfl) rfl ?_ | refine RE.x (op_leq rfl rfl) rfl ?_ | refine RE.x (op_gtr rfl rfl) rfl ?_ | refine RE.x (op_geq rfl rfl) rfl ?_ | refine RE.x (op_not_d rfl) rfl ?_ | refine RE.x (op_not rfl) rfl ?_ | refine RE.x (op_len_sl rfl rfl) rfl ?_ | refine RE.x (op_len_s rfl Tryz.underlying9) rfl ?_ | refine RE.x (op_extract rfl rfl) rfl ?_ | refine RE.x (op_pick_t rfl rfl rfl) rfl ?_ | refine RE.x (op_pick_f rfl rfl) rfl ?_ | refine RE.x (op_add64 rfl rfl (by omega) (by omega)) rfl ?_ | refine RE.x (op_sub64 rfl rfl (by omega) (by omega)) rfl ?_ | refine RE.x (op_eql_s rfl rfl) rfl ?_ | refine RE.x (op_neq_s rfl rfl) rfl ?_ | refine RE.want rfl rfl ?_ | refine RE.nox rfl rfl rfl rfl ?_ | refine RE.nou rfl rfl rfl ?_ | refine RE.nilx (show CE _ _ _ _ _ _ _ from ?_) | refine CE.block ?_ | refine CE.scope ?_ | refine CE.label (show CE _ _ _ _ _ _ _ from ?_) | refine CE.skip (show CE _ _ _ _ _ _ _ from ?_) | refine CE.exit (show CE _ _ _ _ _ _ _ from ?_))
      refine CE.cond_d rfl (fun h128 => ?_) (fun h128 => ?_)
      · repeat (first | refine CE.seq ?_ | refine CE.text ?_ | refine RE.x (op_move rfl) rfl ?_ | refine RE.x (op_assign rfl) rfl ?_ | refine RE.x (op_nil rfl) rfl ?_ | refine RE.x (op_fieldAddr0 rfl rfl) rfl ?_ | refine RE.x (op_fieldAddr rfl rfl) rfl ?_ | refine RE.x (op_eql rfl rfl) rfl ?_ | refine RE.x (op_neq rfl rfl) rfl ?_ | refine RE.x (op_lss rfl rfl) rfl ?_ | refine RE.x (op_leq rfl rfl) rfl ?_ | refine RE.x (op_gtr rfl rfl) rfl ?_ | refine RE.x (op_geq rfl rfl) rfl ?_ | refine RE.x (op_not_d rfl) rfl ?_ | refine RE.x (op_not rfl) rfl ?_ | refine RE.x (op_len_sl rfl rfl) rfl ?_ | refine RE.x (op_len_s rfl Tryz.underlying9) rfl ?_ | refine RE.x (op_extract rfl rfl) rfl ?_ | refine RE.x (op_pick_t rfl rfl rfl) rfl ?_ | refine RE.x (op_pick_f rfl rfl) rfl ?_ | refine RE.x (op_add64 rfl rfl (by omega) (by omega)) rfl ?_ | refine RE.x (op_sub64 rfl rfl (by omega) (by omega)) rfl ?_ | refine RE.x (op_eql_s rfl rfl) rfl ?_ | refine RE.x (op_neq_s rfl rfl) rfl ?_ | refine RE.want rfl rfl ?_ | refine RE.nox rfl rfl rfl rfl ?_ | refine RE.nou rfl rfl rfl ?_ | refine RE.nilx (show CE _ _ _ _ _ _ _ from ?_) | refine CE.block ?_ | refine CE.scope ?_ | refine CE.label (show CE _ _ _ _ _ _ _ from ?_) | refine CE.skip (show CE _ _ _ _ _ _ _ from ?_) | refine CE.exit (show CE _ _ _ _ _ _ _ from ?_))
        refine RE.x (op_slice_l rfl rfl rfl (by omega) (by omega)) rfl ?_
        have hs2 := hb_drop h hi
        refine RE.xc en107 rfl rfl (trimFunc_fn (v := sliced (some ⟨b, o, none⟩) (i : Int).toNat l.length cp 1) (l := l.drop i) hs2 (by rw [hd]; simp) hT hB (by simp; omega)) ?_
        rintro _ w3 ⟨⟨a3, m3, c3, rfl, hm3⟩, e3⟩
        repeat (first | refine CE.seq ?_ | refine CE.text ?_ | refine RE.x (op_move rfl) rfl ?_ | refine RE.x (op_assign rfl) rfl ?_ | refine RE.x (op_nil rfl) rfl ?_ | refine RE.x (op_fieldAddr0 rfl rfl) rfl ?_ | refine RE.x (op_fieldAddr rfl rfl) rfl ?_ | refine RE.x (op_eql rfl rfl) rfl ?_ | refine RE.x (op_neq rfl rfl) rfl ?_ | refine RE.x (op_lss rfl rfl) rfl ?_ | refine RE.x (op_leq rfl rfl) rfl ?_ | refine RE.x (op_gtr rfl rfl) rfl ?_ | refine RE.x (op_geq rfl rfl) rfl ?_ | refine RE.x (op_not_d rfl) rfl ?_ | refine RE.x (op_not rfl) rfl ?_ | refine RE.x (op_len_sl rfl rfl) rfl ?_ | refine RE.x (op_len_s rfl Tryz.underlying9) rfl ?_ | refine RE.x (op_extract rfl rfl) rfl ?_ | refine RE.x (op_pick_t rfl rfl rfl) rfl ?_ | refine RE.x (op_pick_f rfl rfl) rfl ?_ | refine RE.x (op_add64 rfl rfl (by omega) (by omega)) rfl ?_ | refine RE.x (op_sub64 rfl rfl (by omega) (by omega)) rfl ?_ | refine RE.x (op_eql_s rfl rfl) rfl ?_ | refine RE.x (op_neq_s rfl rfl) rfl ?_ | refine RE.want rfl rfl ?_ | refine RE.nox rfl rfl rfl rfl ?_ | refine RE.nou rfl rfl rfl ?_ | refine RE.nilx (show CE _ _ _ _ _ _ _ from ?_) | refine CE.block ?_ | refine CE.scope ?_ | refine CE.label (show CE _ _ _ _ _ _ _ from ?_) | refine CE.skip (show CE _ _ _ _ _ _ _ from ?_) | refine CE.exit (show CE _ _ _ _ _ _ _ from ?_))
        (refine CE.ret ?_; (try dsimp only); refine ret1 rfl rfl ?_)
        exact ⟨⟨_, _, _, rfl, by rw [hns]; exact hm3⟩, e3⟩
      · have h128' : b8.toNat < 128 := by omega
        have hasc := asc_cell hT.tabs b8.toNat hb256
        rw [show UInt8.ofNat b8.toNat = b8 by simp] at hasc
        repeat (first | refine CE.seq ?_ | refine CE.text ?_ | refine RE.x (op_move rfl) rfl ?_ | refine RE.x (op_assign rfl) rfl ?_ | refine RE.x (op_nil rfl) rfl ?_ | refine RE.x (op_fieldAddr0 rfl rfl) rfl ?_ | refine RE.x (op_fieldAddr rfl rfl) rfl ?_ | refine RE.x (op_eql rfl rfl) rfl ?_ | refine RE.x (op_neq rfl rfl) rfl ?_ | refine RE.x (op_lss rfl rfl) rfl ?_ | refine RE.x (op_leq rfl rfl) rfl ?_ | refine RE.x (op_gtr rfl rfl) rfl ?_ | refine RE.x (op_geq rfl rfl) rfl ?_ | refine RE.x (op_not_d rfl) rfl ?_ | refine RE.x (op_not rfl) rfl ?_ | refine RE.x (op_len_sl rfl rfl) rfl ?_ | refine RE.x (op_len_s rfl Tryz.underlying9) rfl ?_ | refine RE.x (op_extract rfl rfl) rfl ?_ | refine RE.x (op_pick_t rfl rfl rfl) rfl ?_ | refine RE.x (op_pick_f rfl rfl) rfl ?_ | refine RE.x (op_add64 rfl rfl (by omega) (by omega)) rfl ?_ | refine RE.x (op_sub64 rfl rfl (by omega) (by omega)) rfl ?_ | refine RE.x (op_eql_s rfl rfl) rfl ?_ | refine RE.x (op_neq_s rfl rfl) rfl ?_ | refine RE.want rfl rfl ?_ | refine RE.nox rfl rfl rfl rfl ?_ | refine RE.nou rfl rfl rfl ?_ | refine RE.nilx (show CE _ _ _ _ _ _ _ from ?_) | refine CE.block ?_ | refine CE.scope ?_ | refine CE.label (show CE _ _ _ _ _ _ _ from ?_) | refine CE.skip (show CE _ _ _ _ _ _ _ from ?_) | refine CE.exit (show CE _ _ _ _ _ _ _ from ?_))
        refine RE.x (op_indexAddrA (m := 256) (e := 5) rfl rfl (by kernel_rfl) (by omega) (by omega)) rfl ?_
        refine RE.x (op_load rfl rfl (by simpa using hasc)) rfl ?_
        cases hsp : Lib.isSp b8 with
        | true =>
          rw [if_pos rfl]
          repeat (first | refine CE.seq ?_ | refine CE.text ?_ | refine RE.x (op_move rfl) rfl ?_ | refine RE.x (op_assign rfl) rfl ?_ | refine RE.x (op_nil rfl) rfl ?_ | refine RE.x (op_fieldAddr0 rfl rfl) rfl ?_ | refine RE.x (op_fieldAddr rfl rfl) rfl ?_ | refine RE.x (op_eql rfl rfl) rfl ?_ | refine RE.x (op_neq rfl rfl) rfl ?_ | refine RE.x (op_lss rfl rfl) rfl ?_ | refine RE.x (op_leq rfl rfl) rfl ?_ | refine RE.x (op_gtr rfl rfl) rfl ?_ | refine RE.x (op_geq rfl rfl) rfl ?_ | refine RE.x (op_not_d rfl) rfl ?_ | refine RE.x (op_not rfl) rfl ?_ | refine RE.x (op_len_sl rfl rfl) rfl ?_ | refine RE.x (op_len_s rfl Tryz.underlying9) rfl ?_ | refine RE.x (op_extract rfl rfl) rfl ?_ | refine RE.x (op_pick_t rfl rfl rfl) rfl ?_ | refine RE.x (op_pick_f rfl rfl) rfl ?_ | refine RE.x (op_add64 rfl rfl (by omega) (by omega)) rfl ?_ | refine RE.x (op_sub64 rfl rfl (by omega) (by omega)) rfl ?_ | refine RE.x (op_eql_s rfl rfl) rfl ?_ | refine RE.x (op_neq_s rfl rfl) rfl ?_ | refine RE.want rfl rfl ?_ | refine RE.nox rfl rfl rfl rfl ?_ | refine RE.nou rfl rfl rfl ?_ | refine RE.nilx (show CE _ _ _ _ _ _ _ from ?_) | refine CE.block ?_ | refine CE.scope ?_ | refine CE.label (show CE _ _ _ _ _ _ _ from ?_) | refine CE.skip (show CE _ _ _ _ _ _ _ from ?_) | refine CE.exit (show CE _ _ _ _ _ _ _ from ?_) | refine CE.cond_t rfl ?_ | refine CE.cond_f rfl ?_)
          refine RE.nilx ?_
          refine ⟨i + 1, by show l.length - (i + 1) < l.length - i; omega, rfl, ⟨rfl, rfl, rfl, rfl, trivial⟩, rfl, by omega, ?_⟩
          rw [hns, hd, nonSp_step (by rw [head_sp hsp]; decide), head_sp hsp]
          simp
        | false =>
          rw [if_neg (by decide)]
          have hhs : Lib.headSpace (l.drop i) = 0 := by rw [hd]; exact head_ns hsp h128'
          have hnt : nonSp l = true := by rw [hns]; exact nonSp_stop hhs (by rw [hd]; simp)
          have hs2 := hb_drop h hi
          obtain ⟨a2, c2, hv2, hc2, hcl2⟩ := hs2
          have hne2 : l.drop i ≠ [] := by rw [hd]; simp
          obtain ⟨o2, rfl, hcells2⟩ := hcl2 hne2
          have hs3 : HBk b w (Sl b o2 (l.drop i).length c2) (l.drop i) := ⟨_, _, rfl, hc2, fun _ => ⟨o2, rfl, hcells2⟩⟩
          have hlen2 : (l.drop i).length = l.length - i := by simp
          generalize hL2 : l.drop i = l2 at *
          have hl20 : l2[0]? = some b8 := by rw [hd]; rfl
          repeat (first | refine CE.seq ?_ | refine CE.text ?_ | refine RE.x (op_move rfl) rfl ?_ | refine RE.x (op_assign rfl) rfl ?_ | refine RE.x (op_nil rfl) rfl ?_ | refine RE.x (op_fieldAddr0 rfl rfl) rfl ?_ | refine RE.x (op_fieldAddr rfl rfl) rfl ?_ | refine RE.x (op_eql rfl rfl) rfl ?_ | refine RE.x (op_neq rfl rfl) rfl ?_ | refine RE.x (op_lss rfl rfl) rfl ?_ | refine RE.x (op_leq rfl rfl) rfl ?_ | refine RE.x (op_gtr rfl rfl) rfl ?_ | refine RE.x (op_geq rfl rfl) rfl ?_ | refine RE.x (op_not_d rfl) rfl ?_ | refine RE.x (op_not rfl) rfl ?_ | refine RE.x (op_len_sl rfl rfl) rfl ?_ | refine RE.x (op_len_s rfl Tryz.underlying9) rfl ?_ | refine RE.x (op_extract rfl rfl) rfl ?_ | refine RE.x (op_pick_t rfl rfl rfl) rfl ?_ | refine RE.x (op_pick_f rfl rfl) rfl ?_ | refine RE.x (op_add64 rfl rfl (by omega) (by omega)) rfl ?_ | refine RE.x (op_sub64 rfl rfl (by omega) (by omega)) rfl ?_ | refine RE.x (op_eql_s rfl rfl) rfl ?_ | refine RE.x (op_neq_s rfl rfl) rfl ?_ | refine RE.want rfl rfl ?_ | refine RE.nox rfl rfl rfl rfl ?_ | refine RE.nou rfl rfl rfl ?_ | refine RE.nilx (show CE _ _ _ _ _ _ _ from ?_) | refine CE.scope ?_ | refine CE.label (show CE _ _ _ _ _ _ _ from ?_) | refine CE.skip (show CE _ _ _ _ _ _ _ from ?_) | refine CE.exit (show CE _ _ _ _ _ _ _ from ?_))
          refine CE.cond_f rfl ?_
          repeat (first | refine CE.seq ?_ | refine CE.text ?_ | refine RE.x (op_move rfl) rfl ?_ | refine RE.x (op_assign rfl) rfl ?_ | refine RE.x (op_nil rfl) rfl ?_ | refine RE.x (op_fieldAddr0 rfl rfl) rfl ?_ | refine RE.x (op_fieldAddr rfl rfl) rfl ?_ | refine RE.x (op_eql rfl rfl) rfl ?_ | refine RE.x (op_neq rfl rfl) rfl ?_ | refine RE.x (op_lss rfl rfl) rfl ?_ | refine RE.x (op_leq rfl rfl) rfl ?_ | refine RE.x (op_gtr rfl rfl) rfl ?_ | refine RE.x (op_geq rfl rfl) rfl ?_ | refine RE.x (op_not_d rfl) rfl ?_ | refine RE.x (op_not rfl) rfl ?_ | refine RE.x (op_len_sl rfl rfl) rfl ?_ | refine RE.x (op_len_s rfl Tryz.underlying9) rfl ?_ | refine RE.x (op_extract rfl rfl) rfl ?_ | refine RE.x (op_pick_t rfl rfl rfl) rfl ?_ | refine RE.x (op_pick_f rfl rfl) rfl ?_ | refine RE.x (op_add64 rfl rfl (by omega) (by omega)) rfl ?_ | refine RE.x (op_sub64 rfl rfl (by omega) (by omega)) rfl ?_ | refine RE.x (op_eql_s rfl rfl) rfl ?_ | refine RE.x (op_neq_s rfl rfl) rfl ?_ | refine RE.want rfl rfl ?_ | refine RE.nox rfl rfl rfl rfl ?_ | refine RE.nou rfl rfl rfl ?_ | refine RE.nilx (show CE _ _ _ _ _ _ _ from ?_) | refine CE.scope ?_ | refine CE.label (show CE _ _ _ _ _ _ _ from ?_) | refine CE.skip (show CE _ _ _ _ _ _ _ from ?_) | refine CE.exit (show CE _ _ _ _ _ _ _ from ?_))
          refine RE.x (op_slice_l rfl rfl rfl (by omega) (by omega)) rfl ?_
          rw [show sliced (some ⟨b, o, none⟩) (i : Int).toNat l.length cp 1 = Sl b o2 l2.length c2 from hv2]
          repeat (first | refine CE.seq ?_ | refine CE.text ?_ | refine RE.x (op_move rfl) rfl ?_ | refine RE.x (op_assign rfl) rfl ?_ | refine RE.x (op_nil rfl) rfl ?_ | refine RE.x (op_fieldAddr0 rfl rfl) rfl ?_ | refine RE.x (op_fieldAddr rfl rfl) rfl ?_ | refine RE.x (op_eql rfl rfl) rfl ?_ | refine RE.x (op_neq rfl rfl) rfl ?_ | refine RE.x (op_lss rfl rfl) rfl ?_ | refine RE.x (op_leq rfl rfl) rfl ?_ | refine RE.x (op_gtr rfl rfl) rfl ?_ | refine RE.x (op_geq rfl rfl) rfl ?_ | refine RE.x (op_not_d rfl) rfl ?_ | refine RE.x (op_not rfl) rfl ?_ | refine RE.x (op_len_sl rfl rfl) rfl ?_ | refine RE.x (op_len_s rfl Tryz.underlying9) rfl ?_ | refine RE.x (op_extract rfl rfl) rfl ?_ | refine RE.x (op_pick_t rfl rfl rfl) rfl ?_ | refine RE.x (op_pick_f rfl rfl) rfl ?_ | refine RE.x (op_add64 rfl rfl (by omega) (by omega)) rfl ?_ | refine RE.x (op_sub64 rfl rfl (by omega) (by omega)) rfl ?_ | refine RE.x (op_eql_s rfl rfl) rfl ?_ | refine RE.x (op_neq_s rfl rfl) rfl ?_ | refine RE.want rfl rfl ?_ | refine RE.nox rfl rfl rfl rfl ?_ | refine RE.nou rfl rfl rfl ?_ | refine RE.nilx (show CE _ _ _ _ _ _ _ from ?_) | refine CE.scope ?_ | refine CE.label (show CE _ _ _ _ _ _ _ from ?_) | refine CE.skip (show CE _ _ _ _ _ _ _ from ?_) | refine CE.exit (show CE _ _ _ _ _ _ _ from ?_))
          refine CE.cut (fun _ _ _ => False) ?_ (fun _ _ _ h => h.elim)
          refine CE.block ?_
          refine CE.loop (α := Nat) (fun k => [(5, I k), (0, Sl b o2 l2.length c2)]) (fun k w' => w' = w ∧ k < l2.length) id (l2.length - 1) ⟨?_, rfl, trivial⟩ ⟨rfl, by omega⟩ ?_
          · show some (I ((l2.length : Int) - 1)) = some (I ((l2.length - 1 : Nat) : Int))
            rw [show ((l2.length - 1 : Nat) : Int) = (l2.length : Int) - 1 by omega]
          rintro k w' ⟨hw', hk⟩
          have hw2 : w = w' := hw'.symm
          subst hw2
          have hcellk : w.cell? ⟨b, o2 + (k : Int).toNat * 1, none⟩ = some (Wk.B l2[k]) := by
            have e1 : o2 + (k : Int).toNat * 1 = o2 + k := by omega
            rw [e1]; exact hcells2 k hk
          generalize hbk : l2[k] = bk at hcellk
          have hk256 := bk.toNat_lt
          have hst := HBk.slice hs3 (i := 0) (j := k + 1) (Nat.zero_le _) (by omega)
          have e0 : ((k : Int) + 1).toNat = k + 1 := by omega
          repeat (first | refine CE.seq ?_ | refine CE.text ?_ | refine RE.x (op_move rfl) rfl ?_ | refine RE.x (op_assign rfl) rfl ?_ | refine RE.x (op_nil rfl) rfl ?_ | refine RE.x (op_fieldAddr0 rfl rfl) rfl ?_ | refine RE.x (op_fieldAddr rfl rfl) rfl ?_ | refine RE.x (op_eql rfl rfl) rfl ?_ | refine RE.x (op_neq rfl rfl) rfl ?_ | refine RE.x (op_lss rfl rfl) rfl ?_ | refine RE.x (op_leq rfl rfl) rfl ?_ | refine RE.x (op_gtr rfl rfl) rfl ?_ | refine RE.x (op_geq rfl rfl) rfl ?_ | refine RE.x (op_not_d rfl) rfl ?_ | refine RE.x (op_not rfl) rfl ?_ | refine RE.x (op_len_sl rfl rfl) rfl ?_ | refine RE.x (op_len_s rfl Tryz.underlying9) rfl ?_ | refine RE.x (op_extract rfl rfl) rfl ?_ | refine RE.x (op_pick_t rfl rfl rfl) rfl ?_ | refine RE.x (op_pick_f rfl rfl) rfl ?_ | refine RE.x (op_add64 rfl rfl (by omega) (by omega)) rfl ?_ | refine RE.x (op_sub64 rfl rfl (by omega) (by omega)) rfl ?_ | refine RE.x (op_eql_s rfl rfl) rfl ?_ | refine RE.x (op_neq_s rfl rfl) rfl ?_ | refine RE.want rfl rfl ?_ | refine RE.nox rfl rfl rfl rfl ?_ | refine RE.nou rfl rfl rfl ?_ | refine RE.nilx (show CE _ _ _ _ _ _ _ from ?_) | refine CE.block ?_ | refine CE.scope ?_ | refine CE.label (show CE _ _ _ _ _ _ _ from ?_) | refine CE.skip (show CE _ _ _ _ _ _ _ from ?_) | refine CE.exit (show CE _ _ _ _ _ _ _ from ?_))
          refine CE.cond_d rfl (fun hge => ?_) (fun hge => ?_)
          · repeat (first | refine CE.seq ?_ | refine CE.text ?_ | refine RE.x (op_move rfl) rfl ?_ | refine RE.x (op_assign rfl) rfl ?_ | refine RE.x (op_nil rfl) rfl ?_ | refine RE.x (op_fieldAddr0 rfl rfl) rfl ?_ | refine RE.x (op_fieldAddr rfl rfl) rfl ?_ | refine RE.x (op_eql rfl rfl) rfl ?_ | refine RE.x (op_neq rfl rfl) rfl ?_ | refine RE.x (op_lss rfl rfl) rfl ?_ | refine RE.x (op_leq rfl rfl) rfl ?_ | refine RE.x (op_gtr rfl rfl) rfl ?_ | refine RE.x (op_geq rfl rfl) rfl ?_ | refine RE.x (op_not_d rfl) rfl ?_ | refine RE.x (op_not rfl) rfl ?_ | refine RE.x (op_len_sl rfl rfl) rfl ?_ | refine RE.x (op_len_s rfl Tryz.underlying9) rfl ?_ | refine RE.x (op_extract rfl rfl) rfl ?_ | refine RE.x (op_pick_t rfl rfl rfl) rfl ?_ | refine RE.x (op_pick_f rfl rfl) rfl ?_ | refine RE.x (op_add64 rfl rfl (by omega) (by omega)) rfl ?_ | refine RE.x (op_sub64 rfl rfl (by omega) (by omega)) rfl ?_ | refine RE.x (op_eql_s rfl rfl) rfl ?_ | refine RE.x (op_neq_s rfl rfl) rfl ?_ | refine RE.want rfl rfl ?_ | refine RE.nox rfl rfl rfl rfl ?_ | refine RE.nou rfl rfl rfl ?_ | refine RE.nilx (show CE _ _ _ _ _ _ _ from ?_) | refine CE.block ?_ | refine CE.scope ?_ | refine CE.label (show CE _ _ _ _ _ _ _ from ?_) | refine CE.skip (show CE _ _ _ _ _ _ _ from ?_) | refine CE.exit (show CE _ _ _ _ _ _ _ from ?_))
            refine RE.x (op_indexAddr rfl rfl rfl (by omega) (by omega)) rfl ?_
            refine RE.x (op_load rfl rfl hcellk) rfl ?_
            repeat (first | refine CE.seq ?_ | refine CE.text ?_ | refine RE.x (op_move rfl) rfl ?_ | refine RE.x (op_assign rfl) rfl ?_ | refine RE.x (op_nil rfl) rfl ?_ | refine RE.x (op_fieldAddr0 rfl rfl) rfl ?_ | refine RE.x (op_fieldAddr rfl rfl) rfl ?_ | refine RE.x (op_eql rfl rfl) rfl ?_ | refine RE.x (op_neq rfl rfl) rfl ?_ | refine RE.x (op_lss rfl rfl) rfl ?_ | refine RE.x (op_leq rfl rfl) rfl ?_ | refine RE.x (op_gtr rfl rfl) rfl ?_ | refine RE.x (op_geq rfl rfl) rfl ?_ | refine RE.x (op_not_d rfl) rfl ?_ | refine RE.x (op_not rfl) rfl ?_ | refine RE.x (op_len_sl rfl rfl) rfl ?_ | refine RE.x (op_len_s rfl Tryz.underlying9) rfl ?_ | refine RE.x (op_extract rfl rfl) rfl ?_ | refine RE.x (op_pick_t rfl rfl rfl) rfl ?_ | refine RE.x (op_pick_f rfl rfl) rfl ?_ | refine RE.x (op_add64 rfl rfl (by omega) (by omega)) rfl ?_ | refine RE.x (op_sub64 rfl rfl (by omega) (by omega)) rfl ?_ | refine RE.x (op_eql_s rfl rfl) rfl ?_ | refine RE.x (op_neq_s rfl rfl) rfl ?_ | refine RE.want rfl rfl ?_ | refine RE.nox rfl rfl rfl rfl ?_ | refine RE.nou rfl rfl rfl ?_ | refine RE.nilx (show CE _ _ _ _ _ _ _ from ?_) | refine CE.block ?_ | refine CE.scope ?_ | refine CE.label (show CE _ _ _ _ _ _ _ from ?_) | refine CE.skip (show CE _ _ _ _ _ _ _ from ?_) | refine CE.exit (show CE _ _ _ _ _ _ _ from ?_))
            refine CE.cond_d rfl (fun h128k => ?_) (fun h128k => ?_)
            · repeat (first | refine CE.seq ?_ | refine CE.text ?_ | refine RE.x (op_move rfl) rfl ?_ | refine RE.x (op_assign rfl) rfl ?_ | refine RE.x (op_nil rfl) rfl ?_ | refine RE.x (op_fieldAddr0 rfl rfl) rfl ?_ | refine RE.x (op_fieldAddr rfl rfl) rfl ?_ | refine RE.x (op_eql rfl rfl) rfl ?_ | refine RE.x (op_neq rfl rfl) rfl ?_ | refine RE.x (op_lss rfl rfl) rfl ?_ | refine RE.x (op_leq rfl rfl) rfl ?_ | refine RE.x (op_gtr rfl rfl) rfl ?_ | refine RE.x (op_geq rfl rfl) rfl ?_ | refine RE.x (op_not_d rfl) rfl ?_ | refine RE.x (op_not rfl) rfl ?_ | refine RE.x (op_len_sl rfl rfl) rfl ?_ | refine RE.x (op_len_s rfl Tryz.underlying9) rfl ?_ | refine RE.x (op_extract rfl rfl) rfl ?_ | refine RE.x (op_pick_t rfl rfl rfl) rfl ?_ | refine RE.x (op_pick_f rfl rfl) rfl ?_ | refine RE.x (op_add64 rfl rfl (by omega) (by omega)) rfl ?_ | refine RE.x (op_sub64 rfl rfl (by omega) (by omega)) rfl ?_ | refine RE.x (op_eql_s rfl rfl) rfl ?_ | refine RE.x (op_neq_s rfl rfl) rfl ?_ | refine RE.want rfl rfl ?_ | refine RE.nox rfl rfl rfl rfl ?_ | refine RE.nou rfl rfl rfl ?_ | refine RE.nilx (show CE _ _ _ _ _ _ _ from ?_) | refine CE.block ?_ | refine CE.scope ?_ | refine CE.label (show CE _ _ _ _ _ _ _ from ?_) | refine CE.skip (show CE _ _ _ _ _ _ _ from ?_) | refine CE.exit (show CE _ _ _ _ _ _ _ from ?_))
              refine RE.x (op_slice_h rfl rfl rfl (by omega) (by omega)) rfl ?_
              rw [e0]
              have hne : (l2.drop 0).take (k + 1 - 0) ≠ [] := by
                intro e
                have h9 : ((l2.drop 0).take (k + 1 - 0)).length = 0 := by rw [e]; rfl
                rw [List.length_take, List.length_drop] at h9
                omega
              refine RE.xc en107 rfl rfl (trimFunc_fn (v := sliced (some ⟨b, o2, none⟩) 0 (k + 1) c2 1) hst hne hT hB (by simp; omega)) ?_
              rintro _ w3 ⟨⟨a3, m3, c3, rfl, hm3⟩, e3⟩
              repeat (first | refine CE.seq ?_ | refine CE.text ?_ | refine RE.x (op_move rfl) rfl ?_ | refine RE.x (op_assign rfl) rfl ?_ | refine RE.x (op_nil rfl) rfl ?_ | refine RE.x (op_fieldAddr0 rfl rfl) rfl ?_ | refine RE.x (op_fieldAddr rfl rfl) rfl ?_ | refine RE.x (op_eql rfl rfl) rfl ?_ | refine RE.x (op_neq rfl rfl) rfl ?_ | refine RE.x (op_lss rfl rfl) rfl ?_ | refine RE.x (op_leq rfl rfl) rfl ?_ | refine RE.x (op_gtr rfl rfl) rfl ?_ | refine RE.x (op_geq rfl rfl) rfl ?_ | refine RE.x (op_not_d rfl) rfl ?_ | refine RE.x (op_not rfl) rfl ?_ | refine RE.x (op_len_sl rfl rfl) rfl ?_ | refine RE.x (op_len_s rfl Tryz.underlying9) rfl ?_ | refine RE.x (op_extract rfl rfl) rfl ?_ | refine RE.x (op_pick_t rfl rfl rfl) rfl ?_ | refine RE.x (op_pick_f rfl rfl) rfl ?_ | refine RE.x (op_add64 rfl rfl (by omega) (by omega)) rfl ?_ | refine RE.x (op_sub64 rfl rfl (by omega) (by omega)) rfl ?_ | refine RE.x (op_eql_s rfl rfl) rfl ?_ | refine RE.x (op_neq_s rfl rfl) rfl ?_ | refine RE.want rfl rfl ?_ | refine RE.nox rfl rfl rfl rfl ?_ | refine RE.nou rfl rfl rfl ?_ | refine RE.nilx (show CE _ _ _ _ _ _ _ from ?_) | refine CE.block ?_ | refine CE.scope ?_ | refine CE.label (show CE _ _ _ _ _ _ _ from ?_) | refine CE.skip (show CE _ _ _ _ _ _ _ from ?_) | refine CE.exit (show CE _ _ _ _ _ _ _ from ?_))
              (refine CE.ret ?_; (try dsimp only); refine ret1 rfl rfl ?_)
              refine ⟨⟨_, _, _, rfl, ?_⟩, e3⟩
              rw [hm3, hnt]
              have : nonSp ((l2.drop 0).take (k + 1 - 0)) = true := by
                rw [hd]
                exact nonSp_stop (head_ns hsp h128') (by simp)
              rw [this]
            · have hasck := asc_cell hT.tabs bk.toNat hk256
              rw [show UInt8.ofNat bk.toNat = bk by simp] at hasck
              repeat (first | refine CE.seq ?_ | refine CE.text ?_ | refine RE.x (op_move rfl) rfl ?_ | refine RE.x (op_assign rfl) rfl ?_ | refine RE.x (op_nil rfl) rfl ?_ | refine RE.x (op_fieldAddr0 rfl rfl) rfl ?_ | refine RE.x (op_fieldAddr rfl rfl) rfl ?_ | refine RE.x (op_eql rfl rfl) rfl ?_ | refine RE.x (op_neq rfl rfl) rfl ?_ | refine RE.x (op_lss rfl rfl) rfl ?_ | refine RE.x (op_leq rfl rfl) rfl ?_ | refine RE.x (op_gtr rfl rfl) rfl ?_ | refine RE.x (op_geq rfl rfl) rfl ?_ | refine RE.x (op_not_d rfl) rfl ?_ | refine RE.x (op_not rfl) rfl ?_ | refine RE.x (op_len_sl rfl rfl) rfl ?_ | refine RE.x (op_len_s rfl Tryz.underlying9) rfl ?_ | refine RE.x (op_extract rfl rfl) rfl ?_ | refine RE.x (op_pick_t rfl rfl rfl) rfl ?_ | refine RE.x (op_pick_f rfl rfl) rfl ?_ | refine RE.x (op_add64 rfl rfl (by omega) (by omega)) rfl ?_ | refine RE.x (op_sub64 rfl rfl (by omega) (by omega)) rfl ?_ | refine RE.x (op_eql_s rfl rfl) rfl ?_ | refine RE.x (op_neq_s rfl rfl) rfl ?_ | refine RE.want rfl rfl ?_ | refine RE.nox rfl rfl rfl rfl ?_ | refine RE.nou rfl rfl rfl ?_ | refine RE.nilx (show CE _ _ _ _ _ _ _ from ?_) | refine CE.block ?_ | refine CE.scope ?_ | refine CE.label (show CE _ _ _ _ _ _ _ from ?_) | refine CE.skip (show CE _ _ _ _ _ _ _ from ?_) | refine CE.exit (show CE _ _ _ _ _ _ _ from ?_))
              refine RE.x (op_indexAddrA (m := 256) (e := 5) rfl rfl (by kernel_rfl) (by omega) (by omega)) rfl ?_
              refine RE.x (op_load rfl rfl (by simpa using hasck)) rfl ?_
              cases hspk : Lib.isSp bk with
              | false =>
                rw [if_neg (by decide)]
                repeat (first | refine CE.seq ?_ | refine CE.text ?_ | refine RE.x (op_move rfl) rfl ?_ | refine RE.x (op_assign rfl) rfl ?_ | refine RE.x (op_nil rfl) rfl ?_ | refine RE.x (op_fieldAddr0 rfl rfl) rfl ?_ | refine RE.x (op_fieldAddr rfl rfl) rfl ?_ | refine RE.x (op_eql rfl rfl) rfl ?_ | refine RE.x (op_neq rfl rfl) rfl ?_ | refine RE.x (op_lss rfl rfl) rfl ?_ | refine RE.x (op_leq rfl rfl) rfl ?_ | refine RE.x (op_gtr rfl rfl) rfl ?_ | refine RE.x (op_geq rfl rfl) rfl ?_ | refine RE.x (op_not_d rfl) rfl ?_ | refine RE.x (op_not rfl) rfl ?_ | refine RE.x (op_len_sl rfl rfl) rfl ?_ | refine RE.x (op_len_s rfl Tryz.underlying9) rfl ?_ | refine RE.x (op_extract rfl rfl) rfl ?_ | refine RE.x (op_pick_t rfl rfl rfl) rfl ?_ | refine RE.x (op_pick_f rfl rfl) rfl ?_ | refine RE.x (op_add64 rfl rfl (by omega) (by omega)) rfl ?_ | refine RE.x (op_sub64 rfl rfl (by omega) (by omega)) rfl ?_ | refine RE.x (op_eql_s rfl rfl) rfl ?_ | refine RE.x (op_neq_s rfl rfl) rfl ?_ | refine RE.want rfl rfl ?_ | refine RE.nox rfl rfl rfl rfl ?_ | refine RE.nou rfl rfl rfl ?_ | refine RE.nilx (show CE _ _ _ _ _ _ _ from ?_) | refine CE.scope ?_ | refine CE.label (show CE _ _ _ _ _ _ _ from ?_) | refine CE.skip (show CE _ _ _ _ _ _ _ from ?_) | refine CE.exit (show CE _ _ _ _ _ _ _ from ?_))
                refine CE.cond_t rfl ?_
                repeat (first | refine CE.seq ?_ | refine CE.text ?_ | refine RE.x (op_move rfl) rfl ?_ | refine RE.x (op_assign rfl) rfl ?_ | refine RE.x (op_nil rfl) rfl ?_ | refine RE.x (op_fieldAddr0 rfl rfl) rfl ?_ | refine RE.x (op_fieldAddr rfl rfl) rfl ?_ | refine RE.x (op_eql rfl rfl) rfl ?_ | refine RE.x (op_neq rfl rfl) rfl ?_ | refine RE.x (op_lss rfl rfl) rfl ?_ | refine RE.x (op_leq rfl rfl) rfl ?_ | refine RE.x (op_gtr rfl rfl) rfl ?_ | refine RE.x (op_geq rfl rfl) rfl ?_ | refine RE.x (op_not_d rfl) rfl ?_ | refine RE.x (op_not rfl) rfl ?_ | refine RE.x (op_len_sl rfl rfl) rfl ?_ | refine RE.x (op_len_s rfl Tryz.underlying9) rfl ?_ | refine RE.x (op_extract rfl rfl) rfl ?_ | refine RE.x (op_pick_t rfl rfl rfl) rfl ?_ | refine RE.x (op_pick_f rfl rfl) rfl ?_ | refine RE.x (op_add64 rfl rfl (by omega) (by omega)) rfl ?_ | refine RE.x (op_sub64 rfl rfl (by omega) (by omega)) rfl ?_ | refine RE.x (op_eql_s rfl rfl) rfl ?_ | refine RE.x (op_neq_s rfl rfl) rfl ?_ | refine RE.want rfl rfl ?_ | refine RE.nox rfl rfl rfl rfl ?_ | refine RE.nou rfl rfl rfl ?_ | refine RE.nilx (show CE _ _ _ _ _ _ _ from ?_) | refine CE.scope ?_ | refine CE.label (show CE _ _ _ _ _ _ _ from ?_) | refine CE.skip (show CE _ _ _ _ _ _ _ from ?_) | refine CE.exit (show CE _ _ _ _ _ _ _ from ?_))
                refine RE.x (op_slice_h rfl rfl rfl (by omega) (by omega)) rfl ?_
                rw [e0]
                repeat (first | refine CE.seq ?_ | refine CE.text ?_ | refine RE.x (op_move rfl) rfl ?_ | refine RE.x (op_assign rfl) rfl ?_ | refine RE.x (op_nil rfl) rfl ?_ | refine RE.x (op_fieldAddr0 rfl rfl) rfl ?_ | refine RE.x (op_fieldAddr rfl rfl) rfl ?_ | refine RE.x (op_eql rfl rfl) rfl ?_ | refine RE.x (op_neq rfl rfl) rfl ?_ | refine RE.x (op_lss rfl rfl) rfl ?_ | refine RE.x (op_leq rfl rfl) rfl ?_ | refine RE.x (op_gtr rfl rfl) rfl ?_ | refine RE.x (op_geq rfl rfl) rfl ?_ | refine RE.x (op_not_d rfl) rfl ?_ | refine RE.x (op_not rfl) rfl ?_ | refine RE.x (op_len_sl rfl rfl) rfl ?_ | refine RE.x (op_len_s rfl Tryz.underlying9) rfl ?_ | refine RE.x (op_extract rfl rfl) rfl ?_ | refine RE.x (op_pick_t rfl rfl rfl) rfl ?_ | refine RE.x (op_pick_f rfl rfl) rfl ?_ | refine RE.x (op_add64 rfl rfl (by omega) (by omega)) rfl ?_ | refine RE.x (op_sub64 rfl rfl (by omega) (by omega)) rfl ?_ | refine RE.x (op_eql_s rfl rfl) rfl ?_ | refine RE.x (op_neq_s rfl rfl) rfl ?_ | refine RE.want rfl rfl ?_ | refine RE.nox rfl rfl rfl rfl ?_ | refine RE.nou rfl rfl rfl ?_ | refine RE.nilx (show CE _ _ _ _ _ _ _ from ?_) | refine CE.scope ?_ | refine CE.label (show CE _ _ _ _ _ _ _ from ?_) | refine CE.skip (show CE _ _ _ _ _ _ _ from ?_) | refine CE.exit (show CE _ _ _ _ _ _ _ from ?_))
                (refine CE.ret ?_; (try dsimp only); refine ret1 rfl rfl ?_)
                refine ⟨⟨_, _, _, rfl, ?_⟩, Ext.refl _⟩
                rw [hnt]
                simp
              | true =>
                have hk0 : k ≠ 0 := by
                  rintro rfl
                  have : l2[0]? = some bk := by rw [← hbk]; simp
                  rw [hl20] at this
                  cases this
                  rw [hsp] at hspk
                  cases hspk
                rw [if_pos rfl]
                repeat (first | refine CE.seq ?_ | refine CE.text ?_ | refine RE.x (op_move rfl) rfl ?_ | refine RE.x (op_assign rfl) rfl ?_ | refine RE.x (op_nil rfl) rfl ?_ | refine RE.x (op_fieldAddr0 rfl rfl) rfl ?_ | refine RE.x (op_fieldAddr rfl rfl) rfl ?_ | refine RE.x (op_eql rfl rfl) rfl ?_ | refine RE.x (op_neq rfl rfl) rfl ?_ | refine RE.x (op_lss rfl rfl) rfl ?_ | refine RE.x (op_leq rfl rfl) rfl ?_ | refine RE.x (op_gtr rfl rfl) rfl ?_ | refine RE.x (op_geq rfl rfl) rfl ?_ | refine RE.x (op_not_d rfl) rfl ?_ | refine RE.x (op_not rfl) rfl ?_ | refine RE.x (op_len_sl rfl rfl) rfl ?_ | refine RE.x (op_len_s rfl Tryz.underlying9) rfl ?_ | refine RE.x (op_extract rfl rfl) rfl ?_ | refine RE.x (op_pick_t rfl rfl rfl) rfl ?_ | refine RE.x (op_pick_f rfl rfl) rfl ?_ | refine RE.x (op_add64 rfl rfl (by omega) (by omega)) rfl ?_ | refine RE.x (op_sub64 rfl rfl (by omega) (by omega)) rfl ?_ | refine RE.x (op_eql_s rfl rfl) rfl ?_ | refine RE.x (op_neq_s rfl rfl) rfl ?_ | refine RE.want rfl rfl ?_ | refine RE.nox rfl rfl rfl rfl ?_ | refine RE.nou rfl rfl rfl ?_ | refine RE.nilx (show CE _ _ _ _ _ _ _ from ?_) | refine CE.scope ?_ | refine CE.label (show CE _ _ _ _ _ _ _ from ?_) | refine CE.skip (show CE _ _ _ _ _ _ _ from ?_) | refine CE.exit (show CE _ _ _ _ _ _ _ from ?_))
                refine CE.cond_f rfl ?_
                repeat (first | refine CE.seq ?_ | refine CE.text ?_ | refine RE.x (op_move rfl) rfl ?_ | refine RE.x (op_assign rfl) rfl ?_ | refine RE.x (op_nil rfl) rfl ?_ | refine RE.x (op_fieldAddr0 rfl rfl) rfl ?_ | refine RE.x (op_fieldAddr rfl rfl) rfl ?_ | refine RE.x (op_eql rfl rfl) rfl ?_ | refine RE.x (op_neq rfl rfl) rfl ?_ | refine RE.x (op_lss rfl rfl) rfl ?_ | refine RE.x (op_leq rfl rfl) rfl ?_ | refine RE.x (op_gtr rfl rfl) rfl ?_ | refine RE.x (op_geq rfl rfl) rfl ?_ | refine RE.x (op_not_d rfl) rfl ?_ | refine RE.x (op_not rfl) rfl ?_ | refine RE.x (op_len_sl rfl rfl) rfl ?_ | refine RE.x (op_len_s rfl Tryz.underlying9) rfl ?_ | refine RE.x (op_extract rfl rfl) rfl ?_ | refine RE.x (op_pick_t rfl rfl rfl) rfl ?_ | refine RE.x (op_pick_f rfl rfl) rfl ?_ | refine RE.x (op_add64 rfl rfl (by omega) (by omega)) rfl ?_ | refine RE.x (op_sub64 rfl rfl (by omega) (by omega)) rfl ?_ | refine RE.x (op_eql_s rfl rfl) rfl ?_ | refine RE.x (op_neq_s rfl rfl) rfl ?_ | refine RE.want rfl rfl ?_ | refine RE.nox rfl rfl rfl rfl ?_ | refine RE.nou rfl rfl rfl ?_ | refine RE.nilx (show CE _ _ _ _ _ _ _ from ?_) | refine CE.scope ?_ | refine CE.label (show CE _ _ _ _ _ _ _ from ?_) | refine CE.skip (show CE _ _ _ _ _ _ _ from ?_) | refine CE.exit (show CE _ _ _ _ _ _ _ from ?_))
                refine RE.nilx ?_
                exact ⟨k - 1, by show k - 1 < k; omega, rfl, ⟨congrArg (fun z => some (I z)) (show ((k : Int) - 1) = ((k - 1 : Nat) : Int) by omega), rfl, trivial⟩, rfl, by omega⟩
          · omega
    · refine CE.exit ?_
      refine ⟨rfl, rfl, ?_⟩
      rw [hns, List.drop_eq_nil_of_le (by omega)]
      rfl
  · rintro s _ w' ⟨rfl, hw', hns⟩
    subst hw'
    repeat (first | refine CE.seq ?_ | refine CE.text ?_ | refine RE.x (op_move rfl) rfl ?_ | refine RE.x (op_assign rfl) rfl ?_ | refine RE.x (op_nil rfl) rfl ?_ | refine RE.x (op_fieldAddr0 rfl rfl) rfl ?_ | refine RE.x (op_fieldAddr rfl rfl) rfl ?_ | refine RE.x (op_eql rfl rfl) rfl ?_ | refine RE.x (op_neq rfl rfl) rfl ?_ | refine RE.x (op_lss rfl rfl) rfl ?_ | refine RE.x (op_leq rfl rfl) rfl ?_ | refine RE.x (op_gtr rfl rfl) rfl ?_ | refine RE.x (op_geq rfl rfl) rfl ?_ | refine RE.x (op_not_d rfl) rfl ?_ | refine RE.x (op_not rfl) rfl ?_ | refine RE.x (op_len_sl rfl rfl) rfl ?_ | refine RE.x (op_len_s rfl Tryz.underlying9) rfl ?_ | refine RE.x (op_extract rfl rfl) rfl ?_ | refine RE.x (op_pick_t rfl rfl rfl) rfl ?_ | refine RE.x (op_pick_f rfl rfl) rfl ?_ | refine RE.x (op_add64 rfl rfl (by omega) (by omega)) rfl ?_ | refine RE.x (op_sub64 rfl rfl (by omega) (by omega)) rfl ?_ | refine RE.x (op_eql_s rfl rfl) rfl ?_ | refine RE.x (op_neq_s rfl rfl) rfl ?_ | refine RE.want rfl rfl ?_ | refine RE.nox rfl rfl rfl rfl ?_ | refine RE.nou rfl rfl rfl ?_ | refine RE.nilx (show CE _ _ _ _ _ _ _ from ?_) | refine CE.block ?_ | refine CE.scope ?_ | refine CE.label (show CE _ _ _ _ _ _ _ from ?_) | refine CE.skip (show CE _ _ _ _ _ _ _ from ?_) | refine CE.exit (show CE _ _ _ _ _ _ _ from ?_) | refine CE.cond_t rfl ?_ | refine CE.cond_f rfl ?_)
    (refine CE.ret ?_; (try dsimp only); refine ret1 rfl rfl ?_)
    exact ⟨⟨_, _, _, rfl, by rw [hns]; simp⟩, Ext.refl _⟩
end Go.Wk
