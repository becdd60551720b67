/- The walk layer: what each operation yields. -/
import Derived.Test.YtmbencknblcocaaGreatDoorWk2
namespace Go.Wk
open Go Go.RowKit Go.Proofs

abbrev I (n : Int) : Value := .int .i64 n
abbrev B (b : UInt8) : Value := .int .u8 b.toNat
abbrev S (l : List UInt8) : Value := .string ⟨⟨l⟩⟩
abbrev Ptr (b o : Nat) : Value := .pointer (some ⟨b, o, none⟩)
abbrev Sl (b o n c : Nat) : Value := .slice (some ⟨b, o, none⟩) n c

section
variable {n : Nat} {s : Slots} {w : World} {dst : Option Tmp} {ty : TypeId} {pos : String} {af : Array Edge} {g : Option (Nat × Bool)} {x y z : Operand} {v : Value}

theorem op_move (hx : ev s x = some v) : Op1 PT ⟨dst, .move x, ty, pos, af, g⟩ n s v w := by
  refine ⟨fun ds a ha => ?_⟩
  simp only [execOp, ha.ev hx, Sem.run_pure]
theorem op_assign (hx : ev s x = some v) : Op1 PT ⟨dst, .assign x, ty, pos, af, g⟩ n s v w := by
  refine ⟨fun ds a ha => ?_⟩
  simp only [execOp, ha.ev hx, Sem.run_pure]
theorem op_nil {a : Addr} (hx : ev s x = some (.pointer (some a))) : Op1 PT ⟨dst, .nilCheck x, ty, pos, af, g⟩ n s (.pointer (some a)) w := by
  refine ⟨fun ds a' ha => ?_⟩
  simp only [execOp, ha.ev hx, Sem.run_pure]
theorem op_pick_t {v' : Value} (hx : ev s x = some (.bool true)) (hy : ev s y = some v) (_hz : ev s z = some v') : Op1 PT ⟨dst, .pick x y z, ty, pos, af, g⟩ n s v w := by
  refine ⟨fun ds a ha => ?_⟩
  simp [execOp, ha.ev hx, ha.ev hy, asBool]
theorem op_pick_f (hx : ev s x = some (.bool false)) (hz : ev s z = some v) : Op1 PT ⟨dst, .pick x y z, ty, pos, af, g⟩ n s v w := by
  refine ⟨fun ds a ha => ?_⟩
  simp [execOp, ha.ev hx, ha.ev hz, asBool]
theorem op_fieldAddr {t k b o off : Nat} (hx : ev s x = some (Ptr b o)) (hf : foLook foT t k = some off) : Op1 PT ⟨dst, .fieldAddr t x k, ty, pos, af, g⟩ n s (Ptr b (o + off)) w := by
  refine ⟨fun ds a ha => ?_⟩
  simp [execOp, ha.ev hx, fo_spec hf]
theorem op_fieldAddr0 {t k b off : Nat} (hx : ev s x = some (Ptr b 0)) (hf : foLook foT t k = some off) : Op1 PT ⟨dst, .fieldAddr t x k, ty, pos, af, g⟩ n s (Ptr b off) w := by
  refine ⟨fun ds a ha => ?_⟩
  have := fo_spec hf b 0 w
  rw [Nat.zero_add] at this
  simp [execOp, ha.ev hx, this]
theorem run_load1 {t : Nat} {a : Addr} (ht : nonAgg.elem t = true) (hc : w.cell? a = some v) : (Instr.loadAt t (.pointer (some a))).run PT w = .ok v w := by
  simp [Instr.loadAt, Instr.sureAddr, loadVar, (non_spec ht w).1, run_load, hc]
theorem op_load {t : Nat} {a : Addr} (hx : ev s x = some (.pointer (some a))) (ht : nonAgg.elem t = true) (hc : w.cell? a = some v) : Op1 PT ⟨dst, .load t x, ty, pos, af, g⟩ n s v w := by
  refine ⟨fun ds a' ha => ?_⟩
  simp [execOp, ha.ev hx, run_load1 ht hc]

/-- A load out of a block that is known. -/
theorem cell_of {b o : Nat} {cs : Array Value} {t : TypeId} {fr : Nat × Nat} (hb : w.heap[b]? = some (.cells cs t fr)) (hv : cs[o]? = some v) : w.cell? ⟨b, o, none⟩ = some v := by
  rw [cell_of_row w b o cs t fr hb, hv]
def nth : List Value → Nat → Option Value
  | [], _ => none
  | v :: _, 0 => some v
  | _ :: r, i + 1 => nth r i
theorem nth_get : ∀ (l : List Value) (i : Nat), nth l i = l[i]?
  | [], _ => rfl
  | _ :: _, 0 => rfl
  | _ :: r, i + 1 => nth_get r i
theorem op_loadB {t b o : Nat} {cs : Array Value} {T : TypeId} {fr : Nat × Nat} (hx : ev s x = some (Ptr b o)) (ht : nonAgg.elem t = true) (hb : w.heap[b]? = some (.cells cs T fr)) (hv : nth cs.toList o = some v) :
    Op1 PT ⟨dst, .load t x, ty, pos, af, g⟩ n s v w := op_load hx ht (cell_of hb (by rw [nth_get] at hv; simpa using hv))
theorem run_loadA {t k b o : Nat} {cs : Array Value} {T : TypeId} {fr : Nat × Nat} {vs : List Value} (ht : agLook agT t = some k) (hb : w.heap[b]? = some (.cells cs T fr)) (hv : (cs.toList.drop o).take k = vs) (hk : vs.length = k) :
    (Instr.loadAt t (Ptr b o)).run PT w = .ok (.agg vs.toArray) w := by
  have h1 := run_loadCells_list (P := PT) (w := w) ⟨b, o, none⟩ vs (fun j u hj => by
    rw [Addr.add_lit, cell_of_row w b (o + j) cs T fr hb]
    subst hv
    rw [List.getElem?_take] at hj
    split at hj
    · simpa using hj
    · cases hj)
  rw [hk] at h1
  simp [Instr.loadAt, Instr.sureAddr, loadVar, (ag_spec ht w).1, (ag_spec ht w).2, h1]
theorem op_loadA {t k b o : Nat} {cs : Array Value} {T : TypeId} {fr : Nat × Nat} {vs : List Value} (hx : ev s x = some (Ptr b o)) (ht : agLook agT t = some k) (hb : w.heap[b]? = some (.cells cs T fr)) (hv : (cs.toList.drop o).take k = vs) (hk : vs.length = k) :
    Op1 PT ⟨dst, .load t x, ty, pos, af, g⟩ n s (.agg vs.toArray) w := by
  refine ⟨fun ds a ha => ?_⟩
  simp [execOp, ha.ev hx, run_loadA ht hb hv hk]

/-! Numbers. -/
section ints
variable {k : IntKind} {a b c : Int} {t t' : TypeId}
theorem op_bin {op : BinOp} {va vb : Value} (hx : ev s x = some va) (hy : ev s y = some vb) (h1 : eqGuard op t x y va vb = pure ()) (h2 : (binOp op t va vb).run PT w = .ok v w) :
    Op1 PT ⟨dst, .binOp op t x y t', ty, pos, af, g⟩ n s v w := by
  refine ⟨fun ds a ha => ?_⟩
  simp [execOp, ha.ev hx, ha.ev hy, h1, h2]
theorem op_eql (hx : ev s x = some (.int k a)) (hy : ev s y = some (.int k b)) : Op1 PT ⟨dst, .binOp .eql t x y t', ty, pos, af, g⟩ n s (.bool (decide (a = b))) w :=
  op_bin hx hy (eqGuard_at_int _ _ _ _ _ _ _) (by rw [binOp_eql]; rfl)
theorem op_neq (hx : ev s x = some (.int k a)) (hy : ev s y = some (.int k b)) : Op1 PT ⟨dst, .binOp .neq t x y t', ty, pos, af, g⟩ n s (.bool (decide (a ≠ b))) w :=
  op_bin hx hy (eqGuard_at_int _ _ _ _ _ _ _) (by
    rw [binOp_neq]
    have : (a != b) = decide (a ≠ b) := by by_cases h : a = b <;> simp [h, bne]
    rw [this]; rfl)
theorem op_lss (hx : ev s x = some (.int k a)) (hy : ev s y = some (.int k b)) : Op1 PT ⟨dst, .binOp .lss t x y t', ty, pos, af, g⟩ n s (.bool (decide (a < b))) w :=
  op_bin hx hy (eqGuard_at_int _ _ _ _ _ _ _) (by rw [binOp_lss]; rfl)
theorem op_leq (hx : ev s x = some (.int k a)) (hy : ev s y = some (.int k b)) : Op1 PT ⟨dst, .binOp .leq t x y t', ty, pos, af, g⟩ n s (.bool (decide (a ≤ b))) w :=
  op_bin hx hy (eqGuard_at_int _ _ _ _ _ _ _) (by rw [binOp_leq]; rfl)
theorem op_gtr (hx : ev s x = some (.int k a)) (hy : ev s y = some (.int k b)) : Op1 PT ⟨dst, .binOp .gtr t x y t', ty, pos, af, g⟩ n s (.bool (decide (b < a))) w :=
  op_bin hx hy (eqGuard_at_int _ _ _ _ _ _ _) (by rw [binOp_gtr]; rfl)
theorem op_geq (hx : ev s x = some (.int k a)) (hy : ev s y = some (.int k b)) : Op1 PT ⟨dst, .binOp .geq t x y t', ty, pos, af, g⟩ n s (.bool (decide (b ≤ a))) w :=
  op_bin hx hy (eqGuard_at_int _ _ _ _ _ _ _) (by rw [binOp_geq]; rfl)
theorem op_add (hx : ev s x = some (.int k a)) (hy : ev s y = some (.int k b)) (hw : k.wrap (a + b) = c) : Op1 PT ⟨dst, .binOp .add t x y t', ty, pos, af, g⟩ n s (.int k c) w :=
  op_bin hx hy (eqGuard_add _ _ _ _ _) (by rw [binOp_add]; subst hw; rfl)
theorem op_sub (hx : ev s x = some (.int k a)) (hy : ev s y = some (.int k b)) (hw : k.wrap (a - b) = c) : Op1 PT ⟨dst, .binOp .sub t x y t', ty, pos, af, g⟩ n s (.int k c) w :=
  op_bin hx hy (eqGuard_sub _ _ _ _ _) (by rw [binOp_sub]; subst hw; rfl)
theorem op_mul (hx : ev s x = some (.int k a)) (hy : ev s y = some (.int k b)) (hw : k.wrap (a * b) = c) : Op1 PT ⟨dst, .binOp .mul t x y t', ty, pos, af, g⟩ n s (.int k c) w :=
  op_bin hx hy (eqGuard_mul _ _ _ _ _) (by rw [binOp_mul]; subst hw; rfl)
theorem wrap_in {m : Int} (h1 : -9223372036854775808 ≤ m) (h2 : m ≤ 9223372036854775807) : IntKind.i64.wrap m = m := by
  rw [IntKind.wrap_i64]; omega
theorem op_add64 (hx : ev s x = some (I a)) (hy : ev s y = some (I b)) (h1 : -9223372036854775808 ≤ a + b) (h2 : a + b ≤ 9223372036854775807) : Op1 PT ⟨dst, .binOp .add t x y t', ty, pos, af, g⟩ n s (I (a + b)) w :=
  op_add hx hy (wrap_in h1 h2)
theorem op_sub64 (hx : ev s x = some (I a)) (hy : ev s y = some (I b)) (h1 : -9223372036854775808 ≤ a - b) (h2 : a - b ≤ 9223372036854775807) : Op1 PT ⟨dst, .binOp .sub t x y t', ty, pos, af, g⟩ n s (I (a - b)) w :=
  op_sub hx hy (wrap_in h1 h2)
theorem op_mul64 (hx : ev s x = some (I a)) (hy : ev s y = some (I b)) (h1 : -9223372036854775808 ≤ a * b) (h2 : a * b ≤ 9223372036854775807) : Op1 PT ⟨dst, .binOp .mul t x y t', ty, pos, af, g⟩ n s (I (a * b)) w :=
  op_mul hx hy (wrap_in h1 h2)
end ints

theorem op_not {b : Bool} {t : TypeId} (hx : ev s x = some (.bool b)) : Op1 PT ⟨dst, .unOp .not t x, ty, pos, af, g⟩ n s (.bool (!b)) w := by
  refine ⟨fun ds a ha => ?_⟩
  simp [execOp, ha.ev hx, unary_not]
theorem op_not_d {p : Prop} [Decidable p] {t : TypeId} (hx : ev s x = some (.bool (decide p))) : Op1 PT ⟨dst, .unOp .not t x, ty, pos, af, g⟩ n s (.bool (decide (¬ p))) w := by
  refine ⟨fun ds a ha => ?_⟩
  simp [execOp, ha.ev hx, unary_not]
theorem op_eql_b {a b : Bool} {t t' : TypeId} (hx : ev s x = some (.bool a)) (hy : ev s y = some (.bool b)) (ht : PT.underlying t = some .bool) : Op1 PT ⟨dst, .binOp .eql t x y t', ty, pos, af, g⟩ n s (.bool (a == b)) w :=
  op_bin hx hy (eqGuard_at_bool _ _ _ _ _ _) (run_eql_bool w t a b ht)
theorem op_neq_b {a b : Bool} {t t' : TypeId} (hx : ev s x = some (.bool a)) (hy : ev s y = some (.bool b)) (ht : PT.underlying t = some .bool) : Op1 PT ⟨dst, .binOp .neq t x y t', ty, pos, af, g⟩ n s (.bool (!(a == b))) w :=
  op_bin hx hy (eqGuard_at_bool _ _ _ _ _ _) (run_neq_bool w t a b ht)

/-! Strings, as lists of bytes. -/
theorem toList_S (l : List UInt8) : (ByteArray.mk ⟨l⟩).toList = l := ByteArray.toList_mk l
theorem op_eql_s {a b : List UInt8} {t t' : TypeId} (hx : ev s x = some (S a)) (hy : ev s y = some (S b)) : Op1 PT ⟨dst, .binOp .eql t x y t', ty, pos, af, g⟩ n s (.bool (decide (a = b))) w :=
  op_bin hx hy (eqGuard_at_string _ _ _ _ _ _) (by
    rw [binOp_string_eql, toList_S, toList_S]
    have : (a == b) = decide (a = b) := by by_cases h : a = b <;> simp [h]
    rw [this]; rfl)
theorem op_neq_s {a b : List UInt8} {t t' : TypeId} (hx : ev s x = some (S a)) (hy : ev s y = some (S b)) : Op1 PT ⟨dst, .binOp .neq t x y t', ty, pos, af, g⟩ n s (.bool (decide (a ≠ b))) w :=
  op_bin hx hy (eqGuard_at_string _ _ _ _ _ _) (by
    rw [binOp_string_neq, toList_S, toList_S]
    have : (!(a == b)) = decide (a ≠ b) := by by_cases h : a = b <;> simp [h]
    rw [this]; rfl)
theorem op_add_s {a b : List UInt8} {t t' : TypeId} (hx : ev s x = some (S a)) (hy : ev s y = some (S b)) (h : a.length + b.length ≤ 9223372036854775807) : Op1 PT ⟨dst, .binOp .add t x y t', ty, pos, af, g⟩ n s (S (a ++ b)) w :=
  op_bin hx hy (eqGuard_add _ _ _ _ _) (by
    rw [binOp_string_add, run_string_add_sum _ _ _ (by simpa [ByteArray.size] using h)]
    have : (ByteArray.mk ⟨a⟩ ++ ByteArray.mk ⟨b⟩) = ByteArray.mk ⟨a ++ b⟩ := ByteArray.mk_append_mk a b
    rw [this])
theorem op_len_s {a : List UInt8} {t : TypeId} (hx : ev s x = some (S a)) (ht : PT.underlying t = some .string) : Op1 PT ⟨dst, .call { callee := .builtin .len, args := #[x], argTypes := #[t] }, ty, pos, af, g⟩ n s (I a.length) w := by
  refine ⟨fun ds a' ha => ?_⟩
  have h1 := run_len_string (P := PT) (w := w) t ty ⟨⟨a⟩⟩ ht
  rw [BigFrame.execOp_builtin, BigFrame.builtin_len]
  simp [ha.ev hx, h1]
  simp [goInt, ByteArray.size]
theorem op_len_sl {t e z m c : Nat} {o : Option Addr} (hx : ev s x = some (.slice o m c)) (ht : slLook slT t = some (e, z)) : Op1 PT ⟨dst, .call { callee := .builtin .len, args := #[x], argTypes := #[t] }, ty, pos, af, g⟩ n s (I m) w := by
  refine ⟨fun ds a' ha => ?_⟩
  have hu := (sl_spec ht).1
  have h1 := run_len_slice (P := PT) w t ty o m c (by rw [hu]; simp [Program.elem, hu])
  rw [BigFrame.execOp_builtin, BigFrame.builtin_len]
  simp [ha.ev hx, h1, goInt]
theorem op_index_s {l : List UInt8} {i : Int} {k : IntKind} {t : TypeId} {b : UInt8} (hx : ev s x = some (S l)) (hy : ev s y = some (.int k i)) (ht : PT.underlying t = some .string) (h0 : 0 ≤ i) (hi : l[i.toNat]? = some b) :
    Op1 PT ⟨dst, .index t x y, ty, pos, af, g⟩ n s (B b) w := by
  refine ⟨fun ds a ha => ?_⟩
  have hb : (ByteArray.mk ⟨l⟩)[i.toNat]? = some b := by
    have hlt : i.toNat < l.length := (List.getElem?_eq_some_iff.1 hi).1
    rw [ByteArray.getElem?_lt' _ _ (by simpa [ByteArray.size] using hlt)]
    rw [List.getElem?_eq_getElem hlt] at hi
    exact hi
  simp only [execOp, ha.ev hx, ha.ev hy, Instr.index, asIntOf, Sem.run_bind, Sem.run_pure, Result.andThen_ok, run_underlying ht, if_pos h0, hb]
theorem op_indexAddr {t e z b o m c : Nat} {i : Int} {k : IntKind} (hx : ev s x = some (Sl b o m c)) (hy : ev s y = some (.int k i)) (ht : slLook slT t = some (e, z)) (h0 : 0 ≤ i) (h1 : i < m) :
    Op1 PT ⟨dst, .indexAddr t x y, ty, pos, af, g⟩ n s (Ptr b (o + i.toNat * z)) w := by
  refine ⟨fun ds a ha => ?_⟩
  obtain ⟨hu, j, hj, hz⟩ := sl_spec ht
  have h2 := run_indexAt_slice (P := PT) w t ⟨b, o, none⟩ m c k i (by rw [hu]; simp [Program.elem, hu])
  have he : PT.elem t = e := by simp [Program.elem, hu]
  rw [if_pos ⟨h0, h1⟩, he] at h2
  have h3 : (sizeOf e).run PT w = .ok z w := by simp [sizeOf, typeInfo, hj, hz]
  rw [h3] at h2
  simp only [Result.andThen_ok, Addr.add_lit] at h2
  simp [execOp, ha.ev hx, ha.ev hy, h2]
theorem op_extract {vs : Array Value} {i : Nat} (hx : ev s x = some (.tuple vs)) (hv : nth vs.toList i = some v) : Op1 PT ⟨dst, .extract x i, ty, pos, af, g⟩ n s v w := by
  refine ⟨fun ds a ha => ?_⟩
  have hv' : vs[i]? = some v := by rw [nth_get] at hv; simpa using hv
  simp [execOp, ha.ev hx, Instr.extract, hv']

/-! Slices of slices and of strings. -/
section slices
variable {t e z b o m c : Nat} {lo hi : Int} {kl kh : IntKind}
theorem slice_any {x' : Value} {l' h' m' : Option Value} (ht : slLook slT t = some (e, z)) : (Instr.sliceAt t x' l' h' m').run PT w = (Instr.slice t x' l' h' m').run PT w := by
  have hu := (sl_spec ht).1
  exact run_sliceAt_slice (P := PT) (w := w) t x' l' h' m' (by rw [hu]; simp [Program.elem, hu])
end slices
end
end Go.Wk
