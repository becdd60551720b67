/- The walk layer: slices, strings, conversions, structs; what changes memory. -/
import Derived.Test.YtmbencknblcocaaGreatDoorWk3
namespace Go.Wk
open Go Go.RowKit Go.Proofs

/-! ### Worlds -/
/-- Nothing that was there has changed. -/
def Ext (w w' : World) : Prop := Below w.heap.size w w'
theorem Ext.refl (w : World) : Ext w w := Below.refl _ _
theorem Ext.trans {a b c : World} (h : Ext a b) (k : Ext b c) : Ext a c := Below.trans h (Below.mono k h.size)
theorem Ext.cell {w w' : World} (h : Ext w w') {a : Addr} {v : Value} (hc : w.cell? a = some v) : w'.cell? a = some v := by
  rw [Below.cell h (World.block_lt_of_cell? w a hc)]; exact hc
theorem Ext.block {w w' : World} (h : Ext w w') {b : Nat} {o : Obj} (hb : w.heap[b]? = some o) : w'.heap[b]? = some o := by
  rw [Below.block h b (Array.getElem?_eq_some_iff.1 hb).1]; exact hb
theorem Ext.drew (w : World) : Ext w w.drew := (Below.refl _ _).drew
theorem Ext.alloc (w : World) (o : Obj) : Ext w (w.alloc o) := (Below.refl _ _).alloc (Nat.le_refl _) o

/-- Block b holds o now; nothing else has changed. -/
structure Upd (w : World) (b : Nat) (o : Obj) (w' : World) : Prop where
  os : w'.os = w.os
  tape : w'.tape = w.tape
  output : w'.output = w.output
  size : w'.heap.size = w.heap.size
  here : w'.heap[b]? = some o
  other : ∀ k, k ≠ b → w'.heap[k]? = w.heap[k]?

/-- Block g is new and holds o; nothing else has changed. -/
structure New (w : World) (g : Nat) (o : Obj) (w' : World) : Prop where
  os : w'.os = w.os
  tape : w'.tape = w.tape
  output : w'.output = w.output
  size : w'.heap.size = w.heap.size + 1
  num : g = w.heap.size
  here : w'.heap[g]? = some o
  other : ∀ k, k ≠ g → w'.heap[k]? = w.heap[k]?

theorem Upd.undrew {w w' : World} {b : Nat} {o : Obj} (h : Upd w.drew b o w') : Upd w b o w' := ⟨h.os, h.tape, h.output, h.size, h.here, h.other⟩
theorem New.undrew {w w' : World} {b : Nat} {o : Obj} (h : New w.drew b o w') : New w b o w' := ⟨h.os, h.tape, h.output, h.size, h.num, h.here, h.other⟩
theorem New.ext {w w' : World} {g : Nat} {o : Obj} (h : New w g o w') : Ext w w' :=
  ⟨h.os, h.tape, h.output, by have := h.size; omega, fun k hk => h.other k (by have := h.num; omega)⟩
theorem new_alloc (w : World) (o : Obj) : New w w.heap.size o (w.alloc o) :=
  ⟨rfl, rfl, rfl, by simp, rfl, heap_alloc_new w o, fun k hk => by
    rcases Nat.lt_or_ge k w.heap.size with h | h
    · exact Below.heap_alloc w o k h
    · have h2 : w.heap.size + 1 ≤ k := by omega
      rw [Array.getElem?_eq_none (by simpa using h2), Array.getElem?_eq_none (by omega)]⟩

theorem upd_setCell {w : World} {b o : Nat} {cs : Array Value} {t : TypeId} (v : Value) (hb : w.heap[b]? = some (.cells cs t (0, 0))) :
    Upd w b (.cells (cs.setIfInBounds o v) t (0, 0)) (w.setCell ⟨b, o, none⟩ v) :=
  ⟨rfl, rfl, rfl, by simp, heap_setCell_same w b o cs t v hb, fun k hk => heap_setCell_other w ⟨b, o, none⟩ k v hk⟩

theorem New.to {w w' : World} {g : Nat} {o : Obj} (h : New w g o w') {b : Nat} {o' : Obj} (hb : w.heap[b]? = some o') : w'.heap[b]? = some o' := h.ext.block hb

/-- Nothing that was there has changed but the blocks of S. -/
structure Fr (S : Nat → Prop) (w w' : World) : Prop where
  os : w'.os = w.os
  tape : w'.tape = w.tape
  output : w'.output = w.output
  size : w.heap.size ≤ w'.heap.size
  same : ∀ k, k < w.heap.size → ¬ S k → w'.heap[k]? = w.heap[k]?

theorem Fr.of_ext {S : Nat → Prop} {w w' : World} (h : Ext w w') : Fr S w w' := ⟨h.os, h.tape, h.output, h.size, fun k hk _ => Below.block h k hk⟩
theorem Fr.refl (S : Nat → Prop) (w : World) : Fr S w w := Fr.of_ext (Ext.refl w)
theorem Fr.of_upd {S : Nat → Prop} {w w' : World} {b : Nat} {o : Obj} (h : Upd w b o w') (hb : S b) : Fr S w w' :=
  ⟨h.os, h.tape, h.output, by rw [h.size]; exact Nat.le_refl _, fun k _ hk => h.other k (fun e => hk (e ▸ hb))⟩
theorem Fr.trans {S : Nat → Prop} {a b c : World} (h : Fr S a b) (k : Fr S b c) : Fr S a c :=
  ⟨k.os.trans h.os, k.tape.trans h.tape, k.output.trans h.output, Nat.le_trans h.size k.size, fun i hi hs => (k.same i (Nat.lt_of_lt_of_le hi h.size) hs).trans (h.same i hi hs)⟩
theorem Fr.mono {S S' : Nat → Prop} {a b : World} (h : Fr S a b) (hs : ∀ k, k < a.heap.size → S k → S' k) : Fr S' a b :=
  ⟨h.os, h.tape, h.output, h.size, fun i hi hn => h.same i hi (fun e => hn (hs i hi e))⟩
theorem Fr.below {S : Nat → Prop} {B : Nat} {a b : World} (h : Fr S a b) (hB : B ≤ a.heap.size) (hs : ∀ k, S k → B ≤ k) : Below B a b :=
  ⟨h.os, h.tape, h.output, h.size, fun k hk => h.same k (by omega) (fun e => by have := hs k e; omega)⟩
theorem Fr.ext {a b : World} (h : Fr (fun _ => False) a b) : Ext a b := ⟨h.os, h.tape, h.output, h.size, fun k hk => h.same k hk (fun e => e)⟩
theorem Fr.block {S : Nat → Prop} {w w' : World} (h : Fr S w w') {b : Nat} {o : Obj} (hb : w.heap[b]? = some o) (hs : ¬ S b) : w'.heap[b]? = some o := by
  rw [h.same b (Array.getElem?_eq_some_iff.1 hb).1 hs]; exact hb
theorem Fr.cell {S : Nat → Prop} {w w' : World} (h : Fr S w w') {a : Addr} {v : Value} (hc : w.cell? a = some v) (hs : ¬ S a.block) : w'.cell? a = some v := by
  rw [World.cell?_of_block (h.same a.block (World.block_lt_of_cell? w a hc) hs)]; exact hc

/-- Bytes in memory: the value v is a slice of the bytes l; they lie in block b. -/
def HBk (b : Nat) (w : World) (v : Value) (l : List UInt8) : Prop :=
  ∃ a c, v = .slice a l.length c ∧ l.length ≤ c ∧ (l ≠ [] → ∃ o, a = some ⟨b, o, none⟩ ∧ ∀ i (h : i < l.length), w.cell? ⟨b, o + i, none⟩ = some (B l[i]))
def HB (w : World) (v : Value) (l : List UInt8) : Prop := ∃ b, HBk b w v l

theorem HBk.fr {S : Nat → Prop} {w w' : World} {b : Nat} {v : Value} {l : List UInt8} (h : HBk b w v l) (hf : Fr S w w') (hs : ¬ S b) : HBk b w' v l := by
  obtain ⟨a, c, h1, h2, h3⟩ := h
  exact ⟨a, c, h1, h2, fun hl => let ⟨o, h4, h5⟩ := h3 hl; ⟨o, h4, fun i hi => hf.cell (h5 i hi) hs⟩⟩
theorem HBk.ext {w w' : World} {b : Nat} {v : Value} {l : List UInt8} (h : HBk b w v l) (he : Ext w w') : HBk b w' v l :=
  h.fr (Fr.of_ext (S := fun _ => False) he) (fun e => e)
theorem HB.ext {w w' : World} {v : Value} {l : List UInt8} (h : HB w v l) (he : Ext w w') : HB w' v l := let ⟨b, hb⟩ := h; ⟨b, hb.ext he⟩
theorem HBk.hb {w : World} {b : Nat} {v : Value} {l : List UInt8} (h : HBk b w v l) : HB w v l := ⟨b, h⟩
theorem HB.nil (w : World) (a : Option Addr) (c : Nat) : HB w (.slice a 0 c) [] := ⟨0, a, c, rfl, Nat.zero_le _, fun h => absurd rfl h⟩

section
variable {n : Nat} {s : Slots} {w : World} {dst : Option Tmp} {ty : TypeId} {pos : String} {af : Array Edge} {g : Option (Nat × Bool)} {x y z : Operand} {v : Value}

section slices
variable {t e q m c : Nat} {a : Option Addr} {lo hi : Int} {kl kh : IntKind} {xl xh : Operand}

theorem elem_of (ht : slLook slT t = some (e, q)) : PT.underlying t = some (.slice (PT.elem t)) ∧ PT.elem t = e ∧ ∀ w, (sizeOf e).run PT w = .ok q w := by
  obtain ⟨hu, j, hj, hz⟩ := sl_spec ht
  exact ⟨by rw [hu]; simp [Program.elem, hu], by simp [Program.elem, hu], fun w => by simp [sizeOf, typeInfo, hj, hz]⟩

theorem op_slice_l (hx : ev s x = some (.slice a m c)) (hl : ev s xl = some (.int kl lo)) (ht : slLook slT t = some (e, q)) (h0 : 0 ≤ lo) (h1 : lo ≤ m) :
    Op1 PT ⟨dst, .slice t x (some xl) none none, ty, pos, af, g⟩ n s (sliced a lo.toNat m c q) w := by
  refine ⟨fun ds a' ha => ?_⟩
  obtain ⟨hu, he, hz⟩ := elem_of ht
  have h2 := run_slice_l w t a m c hu kl lo h0 h1
  rw [he, hz w] at h2
  simp only [execOp, ha.ev hx, ha.ev hl, Option.map_some, Option.map_none, slice_any ht, Sem.run_bind, h2, Result.andThen_ok, Sem.run_pure]
theorem op_slice_h (hx : ev s x = some (.slice a m c)) (hh : ev s xh = some (.int kh hi)) (ht : slLook slT t = some (e, q)) (h0 : 0 ≤ hi) (h1 : hi ≤ c) :
    Op1 PT ⟨dst, .slice t x none (some xh) none, ty, pos, af, g⟩ n s (sliced a 0 hi.toNat c q) w := by
  refine ⟨fun ds a' ha => ?_⟩
  obtain ⟨hu, he, hz⟩ := elem_of ht
  have h2 := run_slice_h w t a m c hu kh hi h0 h1
  rw [he, hz w] at h2
  simp only [execOp, ha.ev hx, ha.ev hh, Option.map_some, Option.map_none, slice_any ht, Sem.run_bind, h2, Result.andThen_ok, Sem.run_pure]
theorem op_slice_lh (hx : ev s x = some (.slice a m c)) (hl : ev s xl = some (.int kl lo)) (hh : ev s xh = some (.int kh hi)) (ht : slLook slT t = some (e, q)) (h0 : 0 ≤ lo) (h1 : lo ≤ hi) (h2 : hi ≤ c) :
    Op1 PT ⟨dst, .slice t x (some xl) (some xh) none, ty, pos, af, g⟩ n s (sliced a lo.toNat hi.toNat c q) w := by
  refine ⟨fun ds a' ha => ?_⟩
  obtain ⟨hu, he, hz⟩ := elem_of ht
  have h3 := run_slice_lh w t a m c hu kl kh lo hi h0 h1 h2
  rw [he, hz w] at h3
  simp only [execOp, ha.ev hx, ha.ev hl, ha.ev hh, Option.map_some, Option.map_none, slice_any ht, Sem.run_bind, h3, Result.andThen_ok, Sem.run_pure]

theorem HBk.slice {k : Nat} {l : List UInt8} {i j : Nat} (h : HBk k w (.slice a m c) l) (h1 : i ≤ j) (h2 : j ≤ l.length) : HBk k w (sliced a i j c 1) ((l.drop i).take (j - i)) := by
  obtain ⟨a', c', he, hc, hcell⟩ := h
  simp only [Value.slice.injEq] at he
  obtain ⟨rfl, rfl, rfl⟩ := he
  have hlen : ((l.drop i).take (j - i)).length = j - i := by simp; omega
  unfold sliced
  refine ⟨_, _, by rw [hlen], by rw [hlen]; omega, fun hne => ?_⟩
  have hlt : i < j := by
    rcases Nat.lt_or_ge i j with h | h
    · exact h
    · exact absurd (List.eq_nil_of_length_eq_zero (by rw [hlen]; omega)) hne
  have hl : l ≠ [] := by intro h; subst h; simp at h2; omega
  obtain ⟨o, rfl, hcells⟩ := hcell hl
  rw [if_neg (by omega)]
  refine ⟨o + i, by simp [Addr.add_lit], fun q hk => ?_⟩
  rw [hlen] at hk
  have := hcells (i + q) (by omega)
  rw [Nat.add_assoc]
  simpa using this
end slices

/-! Strings. -/
theorem size_S (l : List UInt8) : (ByteArray.mk ⟨l⟩).size = l.length := by simp [ByteArray.size]
theorem extract_S (l : List UInt8) (i j : Nat) : (ByteArray.mk ⟨l⟩).extract i j = ByteArray.mk ⟨(l.drop i).take (j - i)⟩ := by
  apply ByteArray.ext
  simp [List.extract_eq_take_drop]

section strs
variable {t : TypeId} {l : List UInt8} {lo hi : Int} {kl kh : IntKind} {xl xh : Operand}
theorem str_any (ht : PT.underlying t = some .string) (x' : Value) (l' h' m' : Option Value) : (Instr.sliceAt t x' l' h' m').run PT w = (Instr.slice t x' l' h' m').run PT w :=
  run_sliceAt_string (P := PT) (w := w) t x' l' h' m' ht
theorem op_str_l (hx : ev s x = some (S l)) (hl : ev s xl = some (.int kl lo)) (ht : PT.underlying t = some .string) (h0 : 0 ≤ lo) (h1 : lo ≤ l.length) :
    Op1 PT ⟨dst, .slice t x (some xl) none none, ty, pos, af, g⟩ n s (S (l.drop lo.toNat)) w := by
  refine ⟨fun ds a' ha => ?_⟩
  have h2 := run_slice_string_l (P := PT) w t ⟨⟨l⟩⟩ ht kl lo h0 (by rw [size_S]; exact h1)
  rw [extract_S, size_S, List.take_of_length_le (by simp)] at h2
  simp only [execOp, ha.ev hx, ha.ev hl, Option.map_some, Option.map_none, str_any ht, Sem.run_bind, h2, Result.andThen_ok, Sem.run_pure]
theorem op_str_h (hx : ev s x = some (S l)) (hh : ev s xh = some (.int kh hi)) (ht : PT.underlying t = some .string) (h0 : 0 ≤ hi) (h1 : hi ≤ l.length) :
    Op1 PT ⟨dst, .slice t x none (some xh) none, ty, pos, af, g⟩ n s (S (l.take hi.toNat)) w := by
  refine ⟨fun ds a' ha => ?_⟩
  have h2 := run_slice_string_h (P := PT) w t ⟨⟨l⟩⟩ ht kh hi h0 (by rw [size_S]; exact h1)
  rw [extract_S] at h2
  simp only [List.drop_zero, Nat.sub_zero] at h2
  simp only [execOp, ha.ev hx, ha.ev hh, Option.map_some, Option.map_none, str_any ht, Sem.run_bind, h2, Result.andThen_ok, Sem.run_pure]
theorem op_str_lh (hx : ev s x = some (S l)) (hl : ev s xl = some (.int kl lo)) (hh : ev s xh = some (.int kh hi)) (ht : PT.underlying t = some .string) (h0 : 0 ≤ lo) (h1 : lo ≤ hi) (h2 : hi ≤ l.length) :
    Op1 PT ⟨dst, .slice t x (some xl) (some xh) none, ty, pos, af, g⟩ n s (S ((l.drop lo.toNat).take (hi.toNat - lo.toNat))) w := by
  refine ⟨fun ds a' ha => ?_⟩
  have h3 : (Instr.slice t (S l) (some (.int kl lo)) (some (.int kh hi)) none).run PT w = .ok (S ((l.drop lo.toNat).take (hi.toNat - lo.toNat))) w := by
    have eh : (hi.toNat : Int) = hi := Int.toNat_of_nonneg (by omega)
    have e1 : hi ≤ ((ByteArray.mk ⟨l⟩).size : Int) := by rw [size_S]; exact h2
    have e2 : 0 ≤ hi := by omega
    simp [Instr.slice, run_underlying ht, Instr.sliceBounds, run_sliceBound, h0, h1, e1, e2, eh, extract_S]
  simp only [execOp, ha.ev hx, ha.ev hl, ha.ev hh, Option.map_some, Option.map_none, str_any ht, Sem.run_bind, h3, Result.andThen_ok, Sem.run_pure]
end strs

/-! Conversions. -/
theorem foldl_push (l : List UInt8) : ∀ (acc : List UInt8), (l.map fun b => (b.toNat : Int)).foldl (fun r m => r.push (UInt8.ofNat m.toNat)) (ByteArray.mk ⟨acc⟩) = ByteArray.mk ⟨acc ++ l⟩ := by
  induction l with
  | nil => intro acc; simp
  | cons b l ih =>
    intro acc
    simp only [List.map_cons, List.foldl_cons]
    have : (ByteArray.mk ⟨acc⟩).push (UInt8.ofNat ((b.toNat : Int).toNat)) = ByteArray.mk ⟨acc ++ [b]⟩ := by
      simp [ByteArray.push]
    rw [this, ih]
    simp
theorem run_conv_bs {t t' : TypeId} {l : List UInt8} (h : HB w v l) (h1 : PT.underlying t = some (.slice 5)) (h2 : PT.underlying t' = some .string) : (convert t t' v).run PT w = .ok (S l) w := by
  obtain ⟨kb, a, c, rfl, hc, hcell⟩ := h
  rw [run_convert_bytes_string w t t' 5 a l.length c h1 Tryz.underlying5 h2]
  cases a with
  | none =>
    have : l = [] := by
      cases l with
      | nil => rfl
      | cons b l => obtain ⟨o, h, _⟩ := hcell (by simp); cases h
    subst this
    rfl
  | some a =>
    have hl : (loadCells a l.length).run PT w = .ok ((l.map fun b => (b.toNat : Int)).map (Value.int .u8)).toArray w := by
      have := run_loadCells_list (P := PT) (w := w) a ((l.map fun b => (b.toNat : Int)).map (Value.int .u8)) (fun j u hj => by
        have hlt : j < l.length := by have := (List.getElem?_eq_some_iff.1 hj).1; simpa using this
        obtain ⟨o, he, hcells⟩ := hcell (by intro h; subst h; simp at hlt)
        cases he
        rw [Addr.add_lit, hcells j hlt]
        rw [← hj]
        simp [hlt])
      simpa using this
    rw [run_bytesToString w a l.length c _ hl]
    have := foldl_push l []
    simp only [List.nil_append] at this
    exact congrArg (fun r => Result.ok (Value.string r) w) this
theorem op_conv_bs {t t' : TypeId} {l : List UInt8} (hx : ev s x = some v) (h : HB w v l) (h1 : PT.underlying t = some (.slice 5)) (h2 : PT.underlying t' = some .string) :
    Op1 PT ⟨dst, .convert t t' x, ty, pos, af, g⟩ n s (S l) w := by
  refine ⟨fun ds a ha => ?_⟩
  simp only [execOp, ha.ev hx, Sem.run_bind, run_conv_bs h h1 h2, Result.andThen_ok, Sem.run_pure]
theorem op_conv_i {t t' : TypeId} {k k' : IntKind} {a c : Int} (hx : ev s x = some (.int k a)) (h1 : (PT.underlying t).isSome = true) (h2 : PT.underlying t' = some (.int k')) (hw : k'.wrap a = c) :
    Op1 PT ⟨dst, .convert t t' x, ty, pos, af, g⟩ n s (.int k' c) w := by
  refine ⟨fun ds a' ha => ?_⟩
  have hk : PT.intKind t' = k' := by simp [Program.intKind, h2]
  have := run_convert_int (P := PT) w t t' k a h1 (by rw [h2, hk])
  rw [hk, hw] at this
  simp only [execOp, ha.ev hx, Sem.run_bind, this, Result.andThen_ok, Sem.run_pure]

/-! Structs. -/
def evp (s : Slots) : List (Nat × Operand) → Option (List (Nat × Value))
  | [] => some []
  | (i, x) :: r => match ev s x with
    | none => none
    | some v => match evp s r with
      | none => none
      | some vs => some ((i, v) :: vs)
theorem Has.evp {n : Nat} {s : Slots} {ds : List Deferred} {a : Act} (h : Has n s ds a) : ∀ {xs : List (Nat × Operand)} {vs : List (Nat × Value)}, evp s xs = some vs → xs.map (fun p => (p.1, a.eval p.2)) = vs
  | [], vs, hx => by simp only [Wk.evp, Option.some.injEq] at hx; subst hx; rfl
  | (i, x) :: r, vs, hx => by
    simp only [Wk.evp] at hx
    split at hx
    · cases hx
    · rename_i v hv
      split at hx
      · cases hx
      · rename_i us hu
        simp only [Option.some.injEq] at hx
        subst hx
        simp only [List.map_cons, h.ev hv, h.evp hu]
theorem op_build {t : TypeId} {ps : List (Nat × Operand)} {vs : List (Nat × Value)} {cells : Array Value} (hx : evp s ps = some vs) (hb : PT.built t vs = some cells) :
    Op1 PT ⟨dst, .build t ps.toArray, ty, pos, af, g⟩ n s (.agg cells) w := by
  refine ⟨fun ds a ha => ?_⟩
  have h1 := ha.evp hx
  have h2 := run_build (P := PT) w t vs.toArray cells hb
  have h3 : (ps.toArray.map fun (p : Nat × Operand) => match p with | (i, x) => (i, a.eval x)) = vs.toArray := by
    rw [← h1]; simp
  simp only [execOp, Sem.run_bind]
  rw [h3, h2]
  simp only [Result.andThen_ok, Sem.run_pure]
theorem op_iface {t : TypeId} (hx : ev s x = some v) (h : PT.concrete t = true) : Op1 PT ⟨dst, .makeInterface t x, ty, pos, af, g⟩ n s (.iface t v) w := by
  refine ⟨fun ds a ha => ?_⟩
  simp only [execOp, ha.ev hx, Sem.run_bind, run_makeInterface w t v h, Result.andThen_ok, Sem.run_pure]

/-! ### What changes memory -/
theorem cells_one (hv : v.oneCell' = true) : v.cells = #[v] := by cases v <;> first | rfl | (simp [Value.oneCell'] at hv)

theorem run_store1 {t b o : Nat} {cs : Array Value} {T : TypeId} (ht : nonAgg.elem t = true) (hb : w.heap[b]? = some (.cells cs T (0, 0))) (ho : o < cs.size) (hv : v.oneCell' = true) :
    (Instr.storeAt t (Ptr b o) v).run PT w = .ok () (w.setCell ⟨b, o, none⟩ v) := by
  have h1 := (non_spec ht w).2
  have h2 := run_store PT w ⟨b, o, none⟩ v .plain hv
  rw [cell_of_row w b o cs T _ hb, frozen_of_row w b o cs T hb] at h2
  simp only [Array.getElem?_eq_getElem ho] at h2
  simp only [Instr.storeAt, Instr.sureAddr, Sem.run_bind, Sem.run_pure, Result.andThen_ok, storeVar, h1, cells_one hv]
  simp [storeCells, Addr.add_zero', h2]

theorem e_store {t b o : Nat} {cs : Array Value} {T : TypeId} (hx : ev s x = some (Ptr b o)) (hy : ev s y = some v) (ht : nonAgg.elem t = true) (hb : w.heap[b]? = some (.cells cs T (0, 0))) {old : Value} (hold : nth cs.toList o = some old) (hv : v.oneCell' = true) :
    OpE PT ⟨dst, .store t x y, ty, pos, af, g⟩ n s w (fun _ w' => Upd w b (.cells (cs.setIfInBounds o v) T (0, 0)) w') := by
  refine ⟨fun ds a ha => ?_⟩
  have ho : o < cs.size := by
    rw [nth_get] at hold
    have := (List.getElem?_eq_some_iff.1 hold).1
    simpa using this
  exact ⟨undef, _, Or.inr ⟨by simp [execOp, ha.ev hx, ha.ev hy, run_store1 ht hb ho hv], rfl⟩, upd_setCell v hb⟩

theorem e_box {t : TypeId} {cells : Array Value} (hx : ev s x = some v) (hc : v.cells = cells) : OpE PT ⟨dst, .box t x, ty, pos, af, g⟩ n s w (fun u w' => ∃ b, u = Ptr b 0 ∧ New w b (.cells cells t) w') := by
  refine ⟨fun ds a ha => ?_⟩
  exact ⟨Ptr w.heap.size 0, w.alloc (.cells cells t), Or.inl (by subst hc; simp [execOp, ha.ev hx, Instr.box, newVar, newRow]), _, rfl, new_alloc w _⟩
theorem e_alloc {t : TypeId} {cells : Array Value} {z0 : Value} (hz : ∀ w, (zeroValue t).run PT w = .ok z0 w) (hc : z0.cells = cells) : OpE PT ⟨dst, .alloc t, ty, pos, af, g⟩ n s w (fun u w' => ∃ b, u = Ptr b 0 ∧ New w b (.cells cells t) w') := by
  refine ⟨fun ds a _ => ?_⟩
  exact ⟨Ptr w.heap.size 0, w.alloc (.cells cells t), Or.inl (by subst hc; simp [execOp, Instr.alloc, hz, newVar, newRow]), _, rfl, new_alloc w _⟩

def builtSl (P : Program) (t len : Nat) (parts : List (Nat × Value)) : Option (Array Value × Nat) :=
  match P.underlying t with
  | some (.slice e) =>
    match P.info? e with
    | some i =>
      match i.zero with
      | some z => (Instr.fill (fun j => some (j * i.size, i.size)) ((Array.range (len * i.size)).map (fun j => z.cells[j % z.cells.size]!)) parts).map fun c => (c, e)
      | none => none
    | none => none
  | _ => none
def smallSl (P : Program) (t len : Nat) : Bool :=
  match P.underlying t with
  | some (.slice e) => match P.info? e with
    | some i => decide (len * i.size ≤ 2 ^ 24) && decide (len * i.size ≠ 0)
    | none => false
  | _ => false
theorem e_buildSlice {t len e : Nat} {ps : List (Nat × Operand)} {vs : List (Nat × Value)} {cells : Array Value} (hx : evp s ps = some vs) (hb : builtSl PT t len vs = some (cells, e)) (hs : smallSl PT t len = true) :
    OpE PT ⟨dst, .buildSlice t len ps.toArray, ty, pos, af, g⟩ n s w (fun u w' => ∃ b, u = Sl b 0 len len ∧ New w b (.cells cells e) w') := by
  refine ⟨fun ds a ha => ?_⟩
  have h1 := ha.evp hx
  have h3 : (ps.toArray.map fun (p : Nat × Operand) => match p with | (i, x) => (i, a.eval x)) = vs.toArray := by
    rw [← h1]; simp
  refine ⟨Sl w.heap.size 0 len len, w.alloc (.cells cells e), Or.inl ?_, _, rfl, new_alloc w _⟩
  unfold builtSl at hb
  unfold smallSl at hs
  split at hb
  · rename_i e' hu
    split at hb
    · rename_i i hi
      split at hb
      · rename_i z hz
        rw [hu] at hs
        simp only [hi] at hs
        simp only [Option.map_eq_some_iff, Prod.mk.injEq] at hb
        obtain ⟨c, hc, rfl, rfl⟩ := hb
        simp only [Bool.and_eq_true, decide_eq_true_eq] at hs
        simp only [execOp, Sem.run_bind]
        rw [h3]
        have hs1 : ¬ (len * i.size > 2 ^ 24) := Nat.not_lt.2 hs.1
        simp only [Instr.buildSlice, Sem.run_bind, run_underlying hu, Result.andThen_ok, sizeOf, typeInfo, run_program, hi, Sem.run_pure, zeroValue, hz, if_neg hs1, if_neg hs.2, Sem.run_ite]
        rw [hc]
        simp [newRow]
      · cases hb
    · cases hb
  · cases hb

/-- '[]byte("..")' of a constant: the block is marked behind its end. -/
theorem e_mark {b m c : Nat} {cs : Array Value} {T : TypeId} (hx : ev s x = some (Sl b 0 m c)) (hb : w.heap[b]? = some (.cells cs T (0, 0))) :
    OpE PT ⟨dst, .convert 42 42 x, ty, pos, af, g⟩ n s w (fun u w' => u = Sl b 0 m c ∧ Upd w b (.cells cs T (cs.size, cs.size + 1)) w') := by
  refine ⟨fun ds a ha => ⟨Sl b 0 m c, w.freeze ⟨b, cs.size, none⟩ 1, Or.inl ?_, rfl, ?_⟩⟩
  · have hsh : w.shape? b = some (T, cs.size) := by simp [World.shape?, hb]
    simp only [execOp, ha.ev hx, Sem.run_bind]
    simp [convert, run_underlying Tryz.underlying42, run_underlying Tryz.underlying5, markStringish, hsh]
  · have hlt := (Array.getElem?_eq_some_iff.1 hb).1
    have he := (Array.getElem?_eq_some_iff.1 hb).2
    refine ⟨by simp [World.freeze], by simp [World.freeze], by simp [World.freeze], by simp [World.freeze], ?_, fun k hk => ?_⟩
    · simp [World.freeze, Array.getElem?_modify, hb]
    · simp only [World.freeze, Nat.one_ne_zero, if_false, Array.getElem?_modify]
      rw [if_neg (fun e => hk e.symm)]
end
end Go.Wk
