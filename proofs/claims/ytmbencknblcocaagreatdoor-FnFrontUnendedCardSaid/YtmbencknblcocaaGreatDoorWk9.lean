/- The walk layer: structs stored and returned; bits. -/
import Derived.Test.YtmbencknblcocaaGreatDoorWk8
import Derived.Laws.Tables
import Derived.Laws.Shifts
namespace Go.Wk
open Go Go.RowKit Go.Proofs

section
variable {n : Nat} {s : Slots} {w : World} {dst : Option Tmp} {ty : TypeId} {pos : String} {af : Array Edge} {g : Option (Nat × Bool)} {x y : Operand} {v : Value}

theorem run_storeA {t k b : Nat} {cur cells : Array Value} {T : TypeId} (ht : agLook agT t = some k) (hb : w.heap[b]? = some (.cells cur T (0, 0))) (hk : cells.size = k) (hc : cur.size = k) (h1 : ∀ u ∈ cells.toList, u.oneCell' = true) :
    (Instr.storeAt t (Ptr b 0) (.agg cells)).run PT w = .ok () (w.setRow b cells) := by
  have hz := (ag_spec ht w).2
  have h2 := run_storeCells_from (P := PT) b T cells.toList 0 cur w hb (by simp; omega) h1
  simp only [List.take_zero, List.nil_append, Array.toArray_toList] at h2
  have hsz : (Value.agg cells).cells = cells := rfl
  simp only [Instr.storeAt, Instr.sureAddr, Sem.run_bind, Sem.run_pure, Result.andThen_ok, storeVar, hz, hsz]
  simp [hk, h2]

theorem upd_setRow {b : Nat} {cur cells : Array Value} {T : TypeId} (hb : w.heap[b]? = some (.cells cur T (0, 0))) : Upd w b (.cells cells T (0, 0)) (w.setRow b cells) :=
  ⟨rfl, rfl, rfl, by simp, setRow_heap w b cur cells T (0, 0) hb, fun k hk => setRow_other w b k cells hk⟩

theorem e_storeA {t k b : Nat} {cur cells : Array Value} {T : TypeId} (hx : ev s x = some (Ptr b 0)) (hy : ev s y = some (.agg cells)) (ht : agLook agT t = some k) (hb : w.heap[b]? = some (.cells cur T (0, 0))) (hk : cells.size = k) (hc : cur.size = k)
    (h1 : ∀ u ∈ cells.toList, u.oneCell' = true) :
    OpE PT ⟨dst, .store t x y, ty, pos, af, g⟩ n s w (fun _ w' => Upd w b (.cells cells T (0, 0)) w') := by
  refine ⟨fun ds a ha => ⟨undef, _, Or.inr ⟨?_, rfl⟩, upd_setRow hb⟩⟩
  simp [execOp, ha.ev hx, ha.ev hy, run_storeA ht hb hk hc h1]

theorem op_shl_u16 {a : Int} {k : IntKind} {b r : Int} {t t' : TypeId} (hx : ev s x = some (.int .u16 a)) (hy : ev s y = some (.int k b)) (h0 : 0 ≤ b) (hr : IntKind.u16.wrap (a * 2 ^ min b.toNat 16) = r) :
    Op1 PT ⟨dst, .binOp .shl t x y t', ty, pos, af, g⟩ n s (.int .u16 r) w :=
  op_bin hx hy (eqGuard_shl _ _ _ _ _) (by rw [binOp_shl, shift_shl_any _ _ _ _ h0]; subst hr; rfl)
theorem op_or_u16 {a b : Int} {t t' : TypeId} (hx : ev s x = some (.int .u16 a)) (hy : ev s y = some (.int .u16 b)) :
    Op1 PT ⟨dst, .binOp .or t x y t', ty, pos, af, g⟩ n s (.int .u16 (bits .or .u16 a b)) w :=
  op_bin hx hy rfl (by rw [binOp_or, intBits_or]; rfl)
end

/-- A result that is a variable's cells. -/
theorem retC {P : Program} {fn : Func} {n : Nat} {s : Slots} {w : World} {Φ : Value → World → Prop} {t : Tmp} {T b : Nat} {v : Value} (hr : fn.results = #[.cell t T]) (ht : look s t = some (Ptr b 0))
    (hl : (loadVar T ⟨b, 0, none⟩).run P w = .ok v w) (h : Φ v w) : (endK P fn n Φ).r s [] w := by
  refine ⟨rfl, v, fun a ha => ?_, h⟩
  have := ha.val t _ ht
  rw [Array.getD_eq_getD_getElem?] at this
  simp [results, hr, this, asAddr, hl]
theorem loadVar_A {t k b : Nat} {w : World} {cs : Array Value} {T : TypeId} {fr : Nat × Nat} (ht : agLook agT t = some k) (hb : w.heap[b]? = some (.cells cs T fr)) (hk : cs.size = k) :
    (loadVar t ⟨b, 0, none⟩).run PT w = .ok (.agg cs) w := by
  have h1 := run_loadA (vs := cs.toList) (o := 0) ht hb (by rw [List.drop_zero, List.take_of_length_le (by simp; omega)]) (by simpa using hk)
  simpa [Instr.loadAt, Instr.sureAddr] using h1
end Go.Wk
