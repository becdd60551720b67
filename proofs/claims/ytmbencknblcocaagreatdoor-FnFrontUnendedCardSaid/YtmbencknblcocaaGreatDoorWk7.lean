/- The walk layer: function values, deferred calls. -/
import Derived.Test.YtmbencknblcocaaGreatDoorWk6
import Derived.Defers
import Derived.Scope
namespace Go.Wk
open Go Go.RowKit Go.Proofs

section
variable {P : Program} {R : World → World → Prop} {n : Nat} {k : Ks} {ops : Array Oper} {m : List Nat} {r : List Oper} {C : World → Prop} {s : Slots} {ds : List Deferred}
  {d : Nat} {op : Op} {ty : TypeId} {pos : String} {af : Array Edge} {dst : Option Tmp} {g : Option (Nat × Bool)} {w : World} {a : Act}

/-! Function values. -/
theorem op_makeFunc {fv : Go.Fn} {xs : List Operand} {vs : List Value} (hx : evs s xs = some vs) : Op1 P ⟨dst, .makeFunc fv #[] xs.toArray, ty, pos, af, g⟩ n s (.func fv #[] vs.toArray) w := by
  refine ⟨fun ds a ha => ?_⟩
  have h1 := ha.evs hx
  simp only [execOp, Instr.makeFunc, List.map_toArray, Sem.run_bind, Sem.run_pure, Result.andThen_ok]
  rw [show List.map a.eval xs = vs from h1]
  rfl

theorem run_callv {f : FuncId} {x : Operand} {args : List Operand} {ats : Array TypeId} {first cap : Array Value} {vs all : List Value} {a : Act} (hf : Enters P f) (ha : Has n s ds a) (hv : ev s x = some (.func (.func f) first cap)) (hx : evs s args = some vs)
    (hall : first.toList ++ vs ++ cap.toList = all) (w : World) :
    (execOp a.eval ⟨dst, .call { callee := .value x, args := args.toArray, argTypes := ats }, ty, pos, af, g⟩).run P w = .ok (.enter f all.toArray) w := by
  have h1 := ha.evs hx
  have h2 := hf all.toArray w
  have h0 := ha.ev hv
  simp only [execOp, resolve, Sem.run_bind, h0, Deferred.ofValue, List.map_toArray, Sem.run_pure, Result.andThen_ok, invoke]
  have h3 : List.map a.eval args = vs := h1
  rw [show first ++ (List.map (fun x => a.eval x) args).toArray ++ cap = all.toArray by
    rw [← hall, ← h3]
    apply Array.ext'
    simp]
  exact h2

/-- A call of a function's value. -/
theorem RE.xcv {f : FuncId} {x : Operand} {args : List Operand} {ats : Array TypeId} {first cap : Array Value} {vs all : List Value} {Φ : Value → World → Prop} (hv : ev s x = some (.func (.func f) first cap)) (hf : Enters P f)
    (hx : evs s args = some vs) (hall : first.toList ++ vs ++ cap.toList = all) (hd : Nat.blt d n = true)
    (h : Fn P f all w Φ) (h2 : ∀ v w', Φ v w' → RE P Eq n k ops [] r (Eq w') ((d, v) :: s) ds) :
    RE P Eq n k ops [] (⟨some d, .call { callee := .value x, args := args.toArray, argTypes := ats }, ty, pos, af, none⟩ :: r) (Eq w) s ds := by
  refine ⟨fun a ha => ?_⟩
  rw [RW_none]
  rintro w1 rfl
  unfold opE
  rw [if_pos (by simp [Region.wanted])]
  unfold Oper.wp
  rw [run_callv hf ha hv hx hall]
  refine Calls.mono h.out ?_
  rintro e w' ⟨v, rfl, hv⟩
  exact (h2 v w' hv).out _ (ha.put hd v)

theorem RE.ecv {c : Nat} {f : FuncId} {x : Operand} {args : List Operand} {ats : Array TypeId} {first cap : Array Value} {vs all : List Value} {Φ : World → Value → World → Prop} (hv : ev s x = some (.func (.func f) first cap)) (hf : Enters P f)
    (hx : evs s args = some vs) (hall : first.toList ++ vs ++ cap.toList = all) (hd : Nat.blt d n = true)
    (h : ∀ w, C w → Fn P f all w (Φ w)) (h2 : ∀ w, C w → ∀ v w', Φ w v w' → RE P R n k ops m r (R w') ((d, v) :: s) ds) :
    RE P R n k ops ((c + 2) :: m) (⟨some d, .call { callee := .value x, args := args.toArray, argTypes := ats }, ty, pos, af, none⟩ :: r) C s ds := by
  refine ⟨fun a ha => ?_⟩
  rw [RW_any]
  intro w1 hw1
  unfold opE
  rw [if_pos (by simp [Region.wanted])]
  unfold Oper.wp
  rw [run_callv hf ha hv hx hall]
  refine Calls.mono (h w1 hw1).out ?_
  rintro e w' ⟨v, rfl, hv⟩
  exact (h2 w1 hw1 v w' hv).out _ (ha.put hd v)

/-! Deferred calls. -/
theorem RE.xdefer {x : Operand} {ats : Array TypeId} {f : FuncId} {cap : Array Value} (hv : ev s x = some (.func (.func f) #[] cap))
    (h : RE P Eq n k ops [] r (Eq w) s (⟨.fn (.func f) cap, #[]⟩ :: ds)) :
    RE P Eq n k ops [] (⟨none, .defer { callee := .value x, args := #[], argTypes := ats }, ty, pos, af, none⟩ :: r) (Eq w) s ds := by
  refine ⟨fun a ha => ?_⟩
  rw [RW_none]
  rintro w1 rfl
  unfold opE
  rw [if_pos (by simp [Region.wanted])]
  unfold Oper.wp
  have h0 := ha.ev hv
  have : (execOp a.eval ⟨none, .defer { callee := .value x, args := #[], argTypes := ats }, ty, pos, af, none⟩).run P w = .ok (.defer ⟨.fn (.func f) cap, #[]⟩) w := by
    simp only [execOp, resolve, Sem.run_bind, h0, Deferred.ofValue, Sem.run_pure, Result.andThen_ok]
    simp
  rw [this]
  exact h.out _ ⟨by simpa [Act.put] using ha.size, by simp [Act.put, ha.ds], fun t v ht => by simpa [Act.put] using ha.val t v ht⟩
end

theorem CE.scope {P : Program} {n : Nat} {k : Ks} {s : Slots} {ds : List Deferred} {w : World} {c : Code} (h : CE P n c k s ds w) : CE P n (.scope c) k s ds w := by
  refine ⟨fun a ha => wp_scope_straight (wp_mono (h.out a ha) fun e a' w' hq => ?_)⟩
  cases e <;> exact hq

structure FnD (P : Program) (f : FuncId) (args : List Value) (w : World) (Φ : Value → World → Prop) : Prop where
  out : CallsD P f args.toArray .returning w (fun e u' w' => u' = .returning ∧ ∃ v, e = .returned v ∧ Φ v w')

theorem fnD_of {P : Program} {f : FuncId} {fn : Func} {c : Code} {args : List Value} {n : Nat} {w : World} {Φ : Value → World → Prop}
    (hf : P.funcs[f]? = some fn) (hb : fn.body = some c) (hn : fn.ntmps = n) (hl : Nat.ble args.length n = true)
    (h : CE P n c (endK P fn n Φ) (argSlots 0 args) [] w) : FnD P f args w Φ := by
  refine ⟨callsD_of_wp (R := fun e w' => ∃ v, e = .returned v ∧ Φ v w') hf hb ?_⟩
  subst hn
  refine wp_mono (h.out _ (has_enter args fn.ntmps (by simpa [Nat.ble_eq] using hl))) fun e a' w' hq => ?_
  cases e with
  | normal =>
    obtain ⟨s, ds, ha, rfl, v, hr, hφ⟩ := hq
    exact ⟨ha.ds, v, hr a' ha, v, rfl, hφ⟩
  | ret =>
    obtain ⟨s, ds, ha, rfl, v, hr, hφ⟩ := hq
    exact ⟨ha.ds, v, hr a' ha, v, rfl, hφ⟩
  | exit i => obtain ⟨_, _, _, hq⟩ := hq; exact hq.elim
  | _ => exact hq.elim

/-- Where a function without results leaves that has deferred one call. -/
structure OutD (P : Program) (Φ : World → Prop) (ds : List Deferred) (w : World) : Prop where
  out : ∃ f cap, ds = [⟨.fn (.func f) cap, #[]⟩] ∧ Enters P f ∧ FnD P f cap.toList w (fun _ w' => Φ w')

def endKD (P : Program) (Φ : World → Prop) : Ks where
  n := fun _ ds w => OutD P Φ ds w
  r := fun _ ds w => OutD P Φ ds w
  x := fun _ _ _ _ => False

theorem leaves_of {P : Program} {fn : Func} {tmps : Array Value} {Φ : World → Prop} {ds : List Deferred} {w : World} (hr : fn.results = #[]) (h : OutD P Φ ds w) :
    Leaves P fn tmps (fun e w' => ∃ v, e = .returned v ∧ v = .tuple #[] ∧ Φ w') ds .returning w := by
  obtain ⟨f, cap, rfl, hf, hc⟩ := h.out
  refine leaves_cons (f := f) (args := cap) (by simp) ?_ ?_
  · simp only [invoke, Array.empty_append]
    exact hf cap w
  · refine CallsD.mono hc.out ?_
    rintro e u' w' ⟨rfl, v, rfl, hφ⟩
    exact ⟨.tuple #[], results_none hr _ _ _, _, rfl, rfl, hφ⟩

theorem fn_of_d {P : Program} {f : FuncId} {fn : Func} {c : Code} {args : List Value} {n : Nat} {w : World} {Φ : World → Prop}
    (hf : P.funcs[f]? = some fn) (hb : fn.body = some c) (hn : fn.ntmps = n) (hl : Nat.ble args.length n = true) (hr : fn.results = #[])
    (h : CE P n c (endKD P Φ) (argSlots 0 args) [] w) : Fn P f args w (fun v w' => v = .tuple #[] ∧ Φ w') := by
  refine ⟨calls_of_wp_defers (R := fun e w' => ∃ v, e = .returned v ∧ v = .tuple #[] ∧ Φ w') hf hb ?_⟩
  subst hn
  refine wp_mono (h.out _ (has_enter args fn.ntmps (by simpa [Nat.ble_eq] using hl))) fun e a' w' hq => ?_
  cases e with
  | normal =>
    obtain ⟨s, ds, ha, ho⟩ := hq
    show Leaves P fn a'.tmps _ a'.defers .returning w'
    rw [ha.ds]
    exact leaves_of hr ho
  | ret =>
    obtain ⟨s, ds, ha, ho⟩ := hq
    show Leaves P fn a'.tmps _ a'.defers .returning w'
    rw [ha.ds]
    exact leaves_of hr ho
  | exit i => obtain ⟨_, _, _, hq⟩ := hq; exact hq.elim
  | _ => exact hq.elim
end Go.Wk
