/- The walk layer: temporaries as a list of known slots; rules for code, for regions, for calls. -/
import Derived.Test.YtmbencknblcocaaGreatDoorWk0
namespace Go.Wk
open Go Go.RowKit

abbrev Slots := List (Nat × Value)

def look : Slots → Nat → Option Value
  | [], _ => none
  | (d, v) :: e, t => bif Nat.beq d t then some v else look e t

def ev (s : Slots) : Operand → Option Value
  | .tmp t => look s t
  | .const v => some v
  | .global g => some (.pointer (some ⟨g, 0, none⟩))
  | .func f => some (.func (.func f) #[] #[])

def evs (s : Slots) : List Operand → Option (List Value)
  | [] => some []
  | x :: r => match ev s x with
    | none => none
    | some v => match evs s r with
      | none => none
      | some vs => some (v :: vs)

theorem beqF {a b : Nat} (h : ¬ a = b) : Nat.beq a b = false := by
  cases hb : Nat.beq a b with
  | false => rfl
  | true => exact absurd (Nat.eq_of_beq_eq_true hb) h

/-- What is known of the temporaries: n of them; the list; the deferred calls. -/
structure Has (n : Nat) (s : Slots) (ds : List Deferred) (a : Act) : Prop where
  size : a.tmps.size = n
  ds : a.defers = ds
  val : ∀ t v, look s t = some v → a.tmps.getD t undef = v

theorem Has.put {n : Nat} {s : Slots} {ds : List Deferred} {a : Act} (h : Has n s ds a) {d : Nat} (hd : Nat.blt d n = true) (v : Value) : Has n ((d, v) :: s) ds (a.put (some d) v) := by
  have hlt : d < a.tmps.size := by rw [h.size]; simpa [Nat.blt_eq] using hd
  refine ⟨by simp [Act.put, h.size], by simp [Act.put, h.ds], fun t u hu => ?_⟩
  simp only [look] at hu
  by_cases hdt : d = t
  · subst hdt
    simp at hu
    subst hu
    simp [Act.put, hlt]
  · have : Nat.beq d t = false := beqF hdt
    rw [this] at hu
    have := h.val t u (by simpa using hu)
    simp only [Act.put, Array.getD_eq_getD_getElem?, Array.getElem?_setIfInBounds_ne hdt] at this ⊢
    exact this

theorem Has.putN {n : Nat} {s : Slots} {ds : List Deferred} {a : Act} (h : Has n s ds a) (v : Value) : Has n s ds (a.put none v) := h

theorem Has.ev {n : Nat} {s : Slots} {ds : List Deferred} {a : Act} (h : Has n s ds a) {x : Operand} {v : Value} (hx : ev s x = some v) : a.eval x = v := by
  cases x with
  | tmp t => exact h.val t v hx
  | const c => simpa [Wk.ev, Act.eval] using hx
  | global g => simpa [Wk.ev, Act.eval] using hx
  | func f => simpa [Wk.ev, Act.eval] using hx

theorem Has.evs {n : Nat} {s : Slots} {ds : List Deferred} {a : Act} (h : Has n s ds a) : ∀ {xs : List Operand} {vs : List Value}, evs s xs = some vs → xs.map a.eval = vs
  | [], vs, hx => by simp only [Wk.evs, Option.some.injEq] at hx; subst hx; rfl
  | x :: r, vs, hx => by
    simp only [Wk.evs] at hx
    split at hx
    · cases hx
    · rename_i v hv
      split at hx
      · cases hx
      · rename_i us hu
        simp only [Option.some.injEq] at hx
        subst hx
        simp [h.ev hv, h.evs hu]

/-- Every slot of the first list is one of the second's. -/
def SubL : Slots → Slots → Prop
  | [], _ => True
  | (d, v) :: s, s' => look s' d = some v ∧ SubL s s'

theorem SubL.look {s s' : Slots} (h : SubL s s') : ∀ t v, look s t = some v → look s' t = some v := by
  induction s with
  | nil => intro t v hv; cases hv
  | cons p s ih =>
    obtain ⟨d, u⟩ := p
    intro t v hv
    simp only [Wk.look] at hv
    by_cases hdt : d = t
    · subst hdt
      simp at hv
      subst hv
      exact h.1
    · have : Nat.beq d t = false := beqF hdt
      rw [this] at hv
      exact ih h.2 t v (by simpa using hv)

theorem Has.sub {n : Nat} {s s' : Slots} {ds : List Deferred} {a : Act} (h : Has n s' ds a) (hs : SubL s s') : Has n s ds a :=
  ⟨h.size, h.ds, fun t v hv => h.val t v (hs.look t v hv)⟩

/-- What is to hold where a piece of code leaves: at its end, at a return, at a jump out of a block. -/
structure Ks where
  n : Slots → List Deferred → World → Prop
  r : Slots → List Deferred → World → Prop
  x : Nat → Slots → List Deferred → World → Prop

def Ks.Q (k : Ks) (n : Nat) : Exit → Act → World → Prop
  | .normal, a, w => ∃ s ds, Has n s ds a ∧ k.n s ds w
  | .ret, a, w => ∃ s ds, Has n s ds a ∧ k.r s ds w
  | .exit i, a, w => ∃ s ds, Has n s ds a ∧ k.x i s ds w
  | _, _, _ => False

structure CE (P : Program) (n : Nat) (c : Code) (k : Ks) (s : Slots) (ds : List Deferred) (w : World) : Prop where
  out : ∀ a, Has n s ds a → c.wp P (k.Q n) a w

section code
variable {P : Program} {n : Nat} {k : Ks} {s : Slots} {ds : List Deferred} {w : World}

theorem CE.seq {x y : Code} (h : CE P n x ⟨fun s ds w => CE P n y k s ds w, k.r, k.x⟩ s ds w) : CE P n (.seq x y) k s ds w := by
  refine ⟨fun a ha => wp_seq (wp_mono (h.out a ha) fun e a' w' hq => ?_)⟩
  cases e with
  | normal => obtain ⟨s', ds', h1, h2⟩ := hq; exact h2.out a' h1
  | _ => exact hq

theorem CE.skip (h : k.n s ds w) : CE P n .skip k s ds w := ⟨fun _ ha => wp_skip ⟨s, ds, ha, h⟩⟩
theorem CE.label {l : Nat} (h : k.n s ds w) : CE P n (.label l) k s ds w := ⟨fun _ ha => wp_label ⟨s, ds, ha, h⟩⟩
theorem CE.ret (h : k.r s ds w) : CE P n .ret k s ds w := ⟨fun _ ha => wp_ret ⟨s, ds, ha, h⟩⟩
theorem CE.exit {i : Nat} (h : k.x i s ds w) : CE P n (.exit i) k s ds w := ⟨fun _ ha => wp_exit ⟨s, ds, ha, h⟩⟩

theorem CE.block {i : Nat} {c : Code} (h : CE P n c ⟨k.n, k.r, fun j s ds w => bif Nat.beq j i then k.n s ds w else k.x j s ds w⟩ s ds w) : CE P n (.block i c) k s ds w := by
  refine ⟨fun a ha => wp_block (wp_mono (h.out a ha) fun e a' w' hq => ?_)⟩
  cases e with
  | exit j =>
    obtain ⟨s', ds', h1, h2⟩ := hq
    show (if j = i then k.Q n .normal a' w' else k.Q n (.exit j) a' w')
    by_cases hji : j = i
    · subst hji
      simp at h2
      rw [if_pos rfl]
      exact ⟨s', ds', h1, h2⟩
    · have : Nat.beq j i = false := beqF hji
      simp only [this, cond_false] at h2
      rw [if_neg hji]
      exact ⟨s', ds', h1, h2⟩
  | _ => exact hq

theorem CE.cond_t {c : Operand} {x y : Code} (hc : ev s c = some (.bool true)) (h : CE P n x k s ds w) : CE P n (.cond c x y) k s ds w :=
  ⟨fun a ha => wp_cond_true (ha.ev hc) (h.out a ha)⟩
theorem CE.cond_f {c : Operand} {x y : Code} (hc : ev s c = some (.bool false)) (h : CE P n y k s ds w) : CE P n (.cond c x y) k s ds w :=
  ⟨fun a ha => wp_cond_false (ha.ev hc) (h.out a ha)⟩
theorem CE.cond_b {c : Operand} {x y : Code} {b : Bool} (hc : ev s c = some (.bool b)) (h1 : b = true → CE P n x k s ds w) (h2 : b = false → CE P n y k s ds w) : CE P n (.cond c x y) k s ds w :=
  ⟨fun a ha => wp_cond_split (ha.ev hc) (fun h => (h1 h).out a ha) (fun h => (h2 h).out a ha)⟩
theorem Has.bool {a : Act} {t : Tmp} {b : Bool} (ha : Has n s ds a) (ht : look s t = some (.bool b)) : Has n ((t, .bool b) :: s) ds a := by
  refine ⟨ha.size, ha.ds, fun u v hv => ?_⟩
  simp only [look] at hv
  by_cases htu : t = u
  · subst htu
    simp at hv
    subst hv
    exact ha.val _ _ ht
  · have : Nat.beq t u = false := beqF htu
    rw [this] at hv
    exact ha.val u v (by simpa using hv)
theorem CE.cond_s {t : Tmp} {x y : Code} {b : Bool} (hc : look s t = some (.bool b)) (h1 : b = true → CE P n x k ((t, .bool true) :: s) ds w)
    (h2 : b = false → CE P n y k ((t, .bool false) :: s) ds w) : CE P n (.cond (.tmp t) x y) k s ds w :=
  ⟨fun a ha => wp_cond_split (ha.ev (x := .tmp t) hc) (fun h => (h1 h).out a (h ▸ ha.bool hc)) (fun h => (h2 h).out a (h ▸ ha.bool hc))⟩
theorem CE.cond_d {t : Tmp} {x y : Code} {p : Prop} [Decidable p] (hc : look s t = some (.bool (decide p))) (h1 : p → CE P n x k ((t, .bool true) :: s) ds w)
    (h2 : ¬ p → CE P n y k ((t, .bool false) :: s) ds w) : CE P n (.cond (.tmp t) x y) k s ds w :=
  CE.cond_s hc (fun h => h1 (of_decide_eq_true h)) (fun h => h2 (of_decide_eq_false h))

/-- Less is known. -/
theorem CE.sub {c : Code} {s' : Slots} (hs : SubL s' s) (h : CE P n c k s' ds w) : CE P n c k s ds w := ⟨fun a ha => h.out a (ha.sub hs)⟩

theorem CE.mono {c : Code} {k' : Ks} (h : CE P n c k s ds w) (hn : ∀ s ds w, k.n s ds w → k'.n s ds w) (hr : ∀ s ds w, k.r s ds w → k'.r s ds w)
    (hx : ∀ i s ds w, k.x i s ds w → k'.x i s ds w) : CE P n c k' s ds w := by
  refine ⟨fun a ha => wp_mono (h.out a ha) fun e a' w' hq => ?_⟩
  cases e with
  | normal => obtain ⟨s', ds', h1, h2⟩ := hq; exact ⟨s', ds', h1, hn _ _ _ h2⟩
  | ret => obtain ⟨s', ds', h1, h2⟩ := hq; exact ⟨s', ds', h1, hr _ _ _ h2⟩
  | exit i => obtain ⟨s', ds', h1, h2⟩ := hq; exact ⟨s', ds', h1, hx _ _ _ _ h2⟩
  | _ => exact hq

/-- The ways through a piece of code meet at what J says. -/
theorem CE.cut {c : Code} (J : Slots → List Deferred → World → Prop) (h : CE P n c ⟨J, k.r, k.x⟩ s ds w) (hJ : ∀ s ds w, J s ds w → k.n s ds w) : CE P n c k s ds w :=
  h.mono hJ (fun _ _ _ h => h) (fun _ _ _ _ h => h)

/-- A loop over some data: the slots are a function of it, W says what holds, μ goes down. -/
theorem CE.loop {c : Code} {α : Type} (S : α → Slots) (W : α → World → Prop) (μ : α → Nat) (x0 : α) (hs : SubL (S x0) s) (h0 : W x0 w)
    (round : ∀ x w, W x w → CE P n c ⟨fun s' ds' w' => ∃ y, μ y < μ x ∧ ds' = ds ∧ SubL (S y) s' ∧ W y w', k.r, k.x⟩ (S x) ds w) : CE P n (.loop c) k s ds w := by
  refine ⟨fun a ha b kk cs => ?_⟩
  have key : ∀ m, ∀ x a w, μ x = m → Has n (S x) ds a → W x w →
      ∃ e a' w', k.Q n e a' w' ∧ Arrives P (lone (b.at a (.code c :: .inLoop c :: kk)) cs w) b kk cs e a' w' := by
    intro m
    induction m using Nat.strongRecOn with
    | _ m ih =>
      intro x a w hm ha hW
      obtain ⟨e, a1, w1, hq, harr⟩ := (round x w hW).out a ha b (.inLoop c :: kk) cs
      cases e with
      | normal =>
        obtain ⟨s', ds', h1, y, hlt, rfl, hsub, hW'⟩ := hq
        obtain ⟨e2, a2, w2, hq2, harr2⟩ := ih (μ y) (hm ▸ hlt) y a1 w1 rfl (h1.sub hsub) hW'
        exact ⟨e2, a2, w2, hq2, .of_steps (Steps.trans harr (.one step_inLoop)) harr2⟩
      | exit id => exact ⟨.exit id, a1, w1, hq, .pass (x := .inLoop c) rfl (fun _ _ => .inl (by simp)) harr⟩
      | goto l => exact ⟨.goto l, a1, w1, hq, .pass (x := .inLoop c) rfl (fun _ _ => .inl (by simp)) harr⟩
      | ret => exact ⟨.ret, a1, w1, hq, .pass (x := .inLoop c) rfl (fun _ _ => .inl (by simp)) harr⟩
      | panic ch => exact ⟨.panic ch, a1, w1, hq, .pass (x := .inLoop c) rfl (fun _ _ => .inl (by simp)) harr⟩
      | outgrown => exact ⟨.outgrown, a1, w1, hq, .pass (x := .inLoop c) rfl (fun _ _ => .inl (by simp)) harr⟩
  obtain ⟨e, a', w', hq, harr⟩ := key _ x0 a w rfl (ha.sub hs) h0
  exact ⟨e, a', w', hq, .of_steps (.one step_loop) harr⟩
end code

/-! ### Regions -/

structure Op1 (P : Program) (o : Oper) (n : Nat) (s : Slots) (v : Value) (w : World) : Prop where
  out : ∀ ds a, Has n s ds a → (execOp a.eval o).run P w = .ok (.value v) w

structure RE (P : Program) (R : World → World → Prop) (n : Nat) (k : Ks) (ops : Array Oper) (m : List Nat) (l : List Oper) (C : World → Prop) (s : Slots) (ds : List Deferred) : Prop where
  out : ∀ a, Has n s ds a → RW P R (k.Q n) ops m l C a

/-- A contract: the call returns some v, and behind it Φ v holds. -/
structure Fn (P : Program) (f : FuncId) (args : List Value) (w : World) (Φ : Value → World → Prop) : Prop where
  out : Calls P f args.toArray w (fun e w' => ∃ v, e = .returned v ∧ Φ v w')

theorem Fn.mono {P : Program} {f : FuncId} {args : List Value} {w : World} {Φ Ψ : Value → World → Prop} (h : Fn P f args w Φ) (hk : ∀ v w', Φ v w' → Ψ v w') : Fn P f args w Ψ :=
  ⟨Calls.mono h.out fun _ _ ⟨v, he, hv⟩ => ⟨v, he, hk _ _ hv⟩⟩

/-- A call of function f enters it. -/
def Enters (P : Program) (f : FuncId) : Prop := ∀ args w, (callFunc f args).run P w = .ok (.enter f args) w

theorem enters_of {P : Program} {f : FuncId} {fn : Func} (hf : P.funcs[f]? = some fn) (hb : fn.body.isNone = false) (hn : (fn.name == "runtime.NumGoroutine") = false) : Enters P f := by
  intro args w
  unfold callFunc
  simp only [Sem.run_bind, run_program, Result.andThen_ok, hf, hn, hb, Bool.false_eq_true, if_false]
  rfl

section region
variable {P : Program} {R : World → World → Prop} {n : Nat} {k : Ks} {ops : Array Oper} {m : List Nat} {l r : List Oper} {C : World → Prop} {s : Slots} {ds : List Deferred}
  {d : Nat} {op : Op} {ty : TypeId} {pos : String} {af : Array Edge} {v : Value} {w : World}

theorem RE.nil (h : ∀ w, C w → k.n s ds w) : RE P R n k ops m [] C s ds := ⟨fun a ha => by rw [RW_nil]; exact fun w hw => ⟨s, ds, ha, h w hw⟩⟩
theorem RE.nilx (h : k.n s ds w) : RE P R n k ops m [] (Eq w) s ds := RE.nil fun _ hw => hw ▸ h

theorem wanted_none (o : Oper) (y : Nat → Option Bool) (h : o.guard = none) : Region.wanted o y = true := by simp [Region.wanted, h]

theorem RE.dd (h : ∀ w, C w → Op1 P ⟨some d, op, ty, pos, af, none⟩ n s v w) (hd : Nat.blt d n = true) (hR : ∀ w, R w w)
    (h2 : RE P R n k ops m r C ((d, v) :: s) ds) : RE P R n k ops (0 :: m) (⟨some d, op, ty, pos, af, none⟩ :: r) C s ds := by
  refine ⟨fun a ha => ?_⟩
  rw [RW_zero]
  refine ⟨v, ⟨fun _ w hw => ?_, fun hf => ?_⟩, h2.out _ (ha.put hd v)⟩
  · rw [(h w hw).out ds a ha]; exact ⟨hR w, rfl⟩
  · simp [Region.wanted] at hf

theorem RE.d1 (h : Op1 P ⟨some d, op, ty, pos, af, none⟩ n s v w) (hd : Nat.blt d n = true)
    (h2 : RE P Eq n k ops m r (Eq w) ((d, v) :: s) ds) : RE P Eq n k ops (0 :: m) (⟨some d, op, ty, pos, af, none⟩ :: r) (Eq w) s ds :=
  RE.dd (by rintro _ rfl; exact h) hd (fun _ => rfl) h2
/-- In a region that follows the text. -/
theorem RE.x (h : Op1 P ⟨some d, op, ty, pos, af, none⟩ n s v w) (hd : Nat.blt d n = true)
    (h2 : RE P Eq n k ops [] r (Eq w) ((d, v) :: s) ds) : RE P Eq n k ops [] (⟨some d, op, ty, pos, af, none⟩ :: r) (Eq w) s ds := by
  refine ⟨fun a ha => ?_⟩
  rw [RW_none]
  rintro w1 rfl
  unfold opE
  rw [if_pos (by simp [Region.wanted])]
  unfold Oper.wp
  rw [h.out ds a ha]
  exact h2.out _ (ha.put hd v)

/-- What an operation does that changes the world. -/
structure OpE (P : Program) (o : Oper) (n : Nat) (s : Slots) (w : World) (Φ : Value → World → Prop) : Prop where
  out : ∀ ds a, Has n s ds a → ∃ v w', ((execOp a.eval o).run P w = .ok (.value v) w' ∨ ((execOp a.eval o).run P w = .ok .skip w' ∧ v = undef)) ∧ Φ v w'

theorem opE_of {Q : Exit → Act → World → Prop} {o : Oper} {a : Act} {Φ : Value → World → Prop} {K : Act → World → Prop} (hg : o.guard = none)
    (h : OpE P o n s w Φ) (ha : Has n s ds a) (hk : ∀ v w', Φ v w' → K (a.put o.dst v) w') : opE P ops Q o a w K := by
  unfold opE
  rw [if_pos (wanted_none _ _ hg)]
  obtain ⟨v, w', hr, hφ⟩ := h.out ds a ha
  unfold Oper.wp
  rcases hr with hr | ⟨hr, rfl⟩ <;> rw [hr]
  · exact hk v w' hφ
  · exact hk undef w' hφ

theorem RE.xe {Φ : Value → World → Prop} (h : OpE P ⟨some d, op, ty, pos, af, none⟩ n s w Φ) (hd : Nat.blt d n = true)
    (h2 : ∀ v w', Φ v w' → RE P Eq n k ops [] r (Eq w') ((d, v) :: s) ds) : RE P Eq n k ops [] (⟨some d, op, ty, pos, af, none⟩ :: r) (Eq w) s ds := by
  refine ⟨fun a ha => ?_⟩
  rw [RW_none]
  rintro w1 rfl
  exact opE_of rfl h ha fun v w' hφ => (h2 v w' hφ).out _ (ha.put hd v)

theorem RE.xs {Φ : Value → World → Prop} (h : OpE P ⟨none, op, ty, pos, af, none⟩ n s w Φ)
    (h2 : ∀ v w', Φ v w' → RE P Eq n k ops [] r (Eq w') s ds) : RE P Eq n k ops [] (⟨none, op, ty, pos, af, none⟩ :: r) (Eq w) s ds := by
  refine ⟨fun a ha => ?_⟩
  rw [RW_none]
  rintro w1 rfl
  exact opE_of rfl h ha fun v w' hφ => (h2 v w' hφ).out _ ha

/-- In a region that draws, where nothing else can be next. -/
theorem RE.ee {c : Nat} {Φ : World → Value → World → Prop} (h : ∀ w, C w → OpE P ⟨some d, op, ty, pos, af, none⟩ n s w (Φ w)) (hd : Nat.blt d n = true)
    (h2 : ∀ w, C w → ∀ v w', Φ w v w' → RE P R n k ops m r (R w') ((d, v) :: s) ds) : RE P R n k ops ((c + 2) :: m) (⟨some d, op, ty, pos, af, none⟩ :: r) C s ds := by
  refine ⟨fun a ha => ?_⟩
  rw [RW_any]
  intro w1 hw1
  exact opE_of rfl (h w1 hw1) ha fun v w' hφ => (h2 w1 hw1 v w' hφ).out _ (ha.put hd v)

theorem RE.es {c : Nat} {Φ : World → Value → World → Prop} (h : ∀ w, C w → OpE P ⟨none, op, ty, pos, af, none⟩ n s w (Φ w))
    (h2 : ∀ w, C w → ∀ v w', Φ w v w' → RE P R n k ops m r (R w') s ds) : RE P R n k ops ((c + 2) :: m) (⟨none, op, ty, pos, af, none⟩ :: r) C s ds := by
  refine ⟨fun a ha => ?_⟩
  rw [RW_any]
  intro w1 hw1
  exact opE_of rfl (h w1 hw1) ha fun v w' hφ => (h2 w1 hw1 v w' hφ).out _ ha

/-! Calls. -/
theorem run_call {f : FuncId} {args : List Operand} {ats : Array TypeId} {g : Option (Nat × Bool)} {dst : Option Tmp} {vs : List Value} {a : Act} (hf : Enters P f) (ha : Has n s ds a) (hx : evs s args = some vs) (w : World) :
    (execOp a.eval ⟨dst, .call { callee := .value (.func f), args := args.toArray, argTypes := ats }, ty, pos, af, g⟩).run P w = .ok (.enter f vs.toArray) w := by
  have h1 := ha.evs hx
  have h2 := hf vs.toArray w
  simp only [execOp, resolve, Sem.run_bind, Act.eval, Deferred.ofValue, List.map_toArray, Sem.run_pure, Result.andThen_ok, invoke, Array.append_empty, Array.empty_append]
  have h3 : List.map a.eval args = vs := h1
  rw [show (List.map (fun x => a.eval x) args).toArray = vs.toArray by rw [← h3]]
  exact h2

theorem RE.xc {f : FuncId} {args : List Operand} {ats : Array TypeId} {vs : List Value} {Φ : Value → World → Prop} (hf : Enters P f) (hx : evs s args = some vs) (hd : Nat.blt d n = true)
    (h : Fn P f vs w Φ) (h2 : ∀ v w', Φ v w' → RE P Eq n k ops [] r (Eq w') ((d, v) :: s) ds) :
    RE P Eq n k ops [] (⟨some d, .call { callee := .value (.func f), args := args.toArray, argTypes := ats }, ty, pos, af, none⟩ :: r) (Eq w) s ds := by
  refine ⟨fun a ha => ?_⟩
  rw [RW_none]
  rintro w1 rfl
  unfold opE
  rw [if_pos (by simp [Region.wanted])]
  unfold Oper.wp
  rw [run_call hf ha hx]
  refine Calls.mono h.out ?_
  rintro e w' ⟨v, rfl, hv⟩
  exact (h2 v w' hv).out _ (ha.put hd v)

theorem RE.ec {c : Nat} {f : FuncId} {args : List Operand} {ats : Array TypeId} {vs : List Value} {Φ : World → Value → World → Prop} (hf : Enters P f) (hx : evs s args = some vs) (hd : Nat.blt d n = true)
    (h : ∀ w, C w → Fn P f vs w (Φ w)) (h2 : ∀ w, C w → ∀ v w', Φ w v w' → RE P R n k ops m r (R w') ((d, v) :: s) ds) :
    RE P R n k ops ((c + 2) :: m) (⟨some d, .call { callee := .value (.func f), args := args.toArray, argTypes := ats }, ty, pos, af, none⟩ :: r) C s ds := by
  refine ⟨fun a ha => ?_⟩
  rw [RW_any]
  intro w1 hw1
  unfold opE
  rw [if_pos (by simp [Region.wanted])]
  unfold Oper.wp
  rw [run_call hf ha hx]
  refine Calls.mono (h w1 hw1).out ?_
  rintro e w' ⟨v, rfl, hv⟩
  exact (h2 w1 hw1 v w' hv).out _ (ha.put hd v)

theorem RE.es1 {c : Nat} {Φ : Value → World → Prop} (h : OpE P ⟨none, op, ty, pos, af, none⟩ n s w Φ)
    (h2 : ∀ v w', Φ v w' → RE P Eq n k ops m r (Eq w') s ds) : RE P Eq n k ops ((c + 2) :: m) (⟨none, op, ty, pos, af, none⟩ :: r) (Eq w) s ds :=
  RE.es (Φ := fun _ => Φ) (by rintro _ rfl; exact h) (by rintro _ rfl; exact h2)
theorem RE.ec1 {c : Nat} {f : FuncId} {args : List Operand} {ats : Array TypeId} {vs : List Value} {Φ : Value → World → Prop} (hf : Enters P f) (hx : evs s args = some vs) (hd : Nat.blt d n = true)
    (h : Fn P f vs w Φ) (h2 : ∀ v w', Φ v w' → RE P Eq n k ops m r (Eq w') ((d, v) :: s) ds) :
    RE P Eq n k ops ((c + 2) :: m) (⟨some d, .call { callee := .value (.func f), args := args.toArray, argTypes := ats }, ty, pos, af, none⟩ :: r) (Eq w) s ds :=
  RE.ec (Φ := fun _ => Φ) hf hx hd (by rintro _ rfl; exact h) (by rintro _ rfl; exact h2)

/-- A call whose value is known and that only makes memory. -/
theorem RE.dc {f : FuncId} {args : List Operand} {ats : Array TypeId} {vs : List Value} (hf : Enters P f) (hx : evs s args = some vs) (hd : Nat.blt d n = true)
    (h : ∀ w, C w → Fn P f vs w (fun u w' => u = v ∧ R w w')) (h2 : RE P R n k ops m r C ((d, v) :: s) ds) :
    RE P R n k ops (0 :: m) (⟨some d, .call { callee := .value (.func f), args := args.toArray, argTypes := ats }, ty, pos, af, none⟩ :: r) C s ds := by
  refine ⟨fun a ha => ?_⟩
  rw [RW_zero]
  refine ⟨v, ⟨fun _ w hw => ?_, fun hf => ?_⟩, h2.out _ (ha.put hd v)⟩
  · rw [run_call hf ha hx]
    refine Calls.mono (h w hw).out ?_
    rintro e w' ⟨u, rfl, rfl, hR⟩
    exact ⟨_, rfl, hR, rfl⟩
  · simp [Region.wanted] at hf

/-- A call that only makes memory and nothing else can be next. -/
theorem RE.gc {f : FuncId} {args : List Operand} {ats : Array TypeId} {vs : List Value} {φ : Value → World → Prop} (hf : Enters P f) (hx : evs s args = some vs) (hd : Nat.blt d n = true)
    (hφ : ∀ v w w', φ v w → R w w' → φ v w')
    (h : ∀ w, C w → Fn P f vs w (fun u w' => φ u w' ∧ R w w')) (h2 : ∀ v, RE P R n k ops m r (fun w => C w ∧ φ v w) ((d, v) :: s) ds) :
    RE P R n k ops (1 :: m) (⟨some d, .call { callee := .value (.func f), args := args.toArray, argTypes := ats }, ty, pos, af, none⟩ :: r) C s ds := by
  refine ⟨fun a ha => ?_⟩
  rw [RW_one]
  refine ⟨φ, hφ, ⟨fun _ w hw => ?_, fun hf => ?_⟩, fun v _ => (h2 v).out _ (ha.put hd v)⟩
  · rw [run_call hf ha hx]
    refine Calls.mono (h w hw).out ?_
    rintro e w' ⟨u, rfl, hu, hR⟩
    exact ⟨_, rfl, hR, hu⟩
  · simp [Region.wanted] at hf

theorem RE.ge {φ : Value → World → Prop} (hd : Nat.blt d n = true)
    (hφ : ∀ v w w', φ v w → R w w' → φ v w')
    (h : ∀ w, C w → OpE P ⟨some d, op, ty, pos, af, none⟩ n s w (fun u w' => φ u w' ∧ R w w')) (h2 : ∀ v, RE P R n k ops m r (fun w => C w ∧ φ v w) ((d, v) :: s) ds) :
    RE P R n k ops (1 :: m) (⟨some d, op, ty, pos, af, none⟩ :: r) C s ds := by
  refine ⟨fun a ha => ?_⟩
  rw [RW_one]
  refine ⟨φ, hφ, ⟨fun _ w hw => ?_, fun hf => ?_⟩, fun v _ => (h2 v).out _ (ha.put hd v)⟩
  · obtain ⟨v, w', hr, hv, hR⟩ := (h w hw).out ds a ha
    rcases hr with hr | ⟨hr, rfl⟩ <;> rw [hr]
    · exact ⟨hR, hv⟩
    · exact ⟨hR, hv⟩
  · simp [Region.wanted] at hf

/-! Guards. -/
def gslot (ops : Array Oper) (g : Nat) : Option Tmp := (ops[g]?).bind (·.dst)

theorem yielded_of {g : Nat} {t : Tmp} {b : Bool} {a : Act} (hg : gslot ops g = some t) (ht : look s t = some (.bool b)) (ha : Has n s ds a) : yielded ops a.tmps g = some b := by
  have h1 := ha.val t _ ht
  unfold gslot at hg
  unfold yielded
  rw [hg]
  have h2 : a.tmps[t]? = some (.bool b) := by
    rw [Array.getD_eq_getD_getElem?] at h1
    cases hx : a.tmps[t]? with
    | none => rw [hx] at h1; exact absurd h1 (by simp [undef])
    | some v => rw [hx] at h1; exact congrArg some h1
  simp [h2]

theorem RW_guard {Q : Exit → Act → World → Prop} {o o' : Oper} {a : Act} (hdst : o.dst = o'.dst)
    (hw : Region.wanted o (yielded ops a.tmps) = Region.wanted o' (yielded ops a.tmps)) (hex : execOp a.eval o = execOp a.eval o')
    (h : RW P R Q ops m (o :: r) C a) : RW P R Q ops m (o' :: r) C a := by
  have hyc : ∀ φ, YC P R ops C o φ a → YC P R ops C o' φ a := fun φ hy => ⟨fun h1 => hex ▸ hy.yes (hw ▸ h1), fun h1 => hy.no (hw ▸ h1)⟩
  have hopE : ∀ w K, opE P ops Q o a w K → opE P ops Q o' a w K := by
    intro w K hh
    unfold opE at *
    rw [← hw]
    split
    · rename_i h1
      rw [if_pos h1] at hh
      unfold Oper.wp at *
      rw [← hex]
      revert hh
      generalize (execOp a.eval o).run P w = res
      intro hh
      cases res with
      | ok nx w' => cases nx <;> simp only [Oper.upon] at hh ⊢ <;> first | (rw [← hdst]; exact hh) | exact hh
      | halt x w' => cases x <;> simp only [Oper.upon] at hh ⊢ <;> exact hh
    · rename_i h1
      rw [if_neg h1] at hh
      rw [← hdst]; exact hh
  match m with
  | 0 :: m =>
    rw [RW_zero] at *
    obtain ⟨v, hy, h2⟩ := h
    exact ⟨v, hyc _ hy, hdst ▸ h2⟩
  | 1 :: m =>
    rw [RW_one] at *
    obtain ⟨φ, hφ, hy, h2⟩ := h
    exact ⟨φ, hφ, hyc _ hy, fun v hv => hdst ▸ h2 v hv⟩
  | (x + 2) :: m =>
    rw [RW_any] at *
    exact fun w hw => hopE _ _ (h w hw)
  | [] =>
    rw [RW_none] at *
    exact fun w hw => hopE _ _ (h w hw)

theorem RE.want {g : Nat} {t : Tmp} {b : Bool} {dst : Option Tmp} (hg : gslot ops g = some t) (ht : look s t = some (.bool b))
    (h : RE P R n k ops m (⟨dst, op, ty, pos, af, none⟩ :: r) C s ds) : RE P R n k ops m (⟨dst, op, ty, pos, af, some (g, b)⟩ :: r) C s ds := by
  refine ⟨fun a ha => RW_guard (o := ⟨dst, op, ty, pos, af, none⟩) rfl ?_ rfl (h.out a ha)⟩
  simp [Region.wanted, yielded_of hg ht ha]

/-- The guard says no. -/
theorem RE.no0 {g : Nat} {t : Tmp} {b b' : Bool} (hg : gslot ops g = some t) (ht : look s t = some (.bool b)) (hb : (b == b') = false) (hd : Nat.blt d n = true)
    (h : RE P R n k ops m r C ((d, undef) :: s) ds) : RE P R n k ops (0 :: m) (⟨some d, op, ty, pos, af, some (g, b')⟩ :: r) C s ds := by
  refine ⟨fun a ha => ?_⟩
  have hw : Region.wanted ⟨some d, op, ty, pos, af, some (g, b')⟩ (yielded ops a.tmps) = false := by
    simp only [Region.wanted, yielded_of hg ht ha]
    simpa using hb
  rw [RW_zero]
  exact ⟨undef, ⟨fun h1 => (by rw [hw] at h1; cases h1), fun _ _ _ => rfl⟩, h.out _ (ha.put hd undef)⟩

theorem RE.nox {g : Nat} {t : Tmp} {b b' : Bool} (hg : gslot ops g = some t) (ht : look s t = some (.bool b)) (hb : (b == b') = false) (hd : Nat.blt d n = true)
    (h : RE P Eq n k ops [] r (Eq w) ((d, undef) :: s) ds) : RE P Eq n k ops [] (⟨some d, op, ty, pos, af, some (g, b')⟩ :: r) (Eq w) s ds := by
  refine ⟨fun a ha => ?_⟩
  have hw : Region.wanted ⟨some d, op, ty, pos, af, some (g, b')⟩ (yielded ops a.tmps) = false := by
    simp only [Region.wanted, yielded_of hg ht ha]
    simpa using hb
  rw [RW_none]
  rintro w1 rfl
  unfold opE
  rw [if_neg (by rw [hw]; simp)]
  exact h.out _ (ha.put hd undef)

/-- The guard's own operation was not carried out. -/
theorem RE.nou {g : Nat} {t : Tmp} {b' : Bool} (hg : gslot ops g = some t) (ht : look s t = some undef) (hd : Nat.blt d n = true)
    (h : RE P Eq n k ops [] r (Eq w) ((d, undef) :: s) ds) : RE P Eq n k ops [] (⟨some d, op, ty, pos, af, some (g, b')⟩ :: r) (Eq w) s ds := by
  refine ⟨fun a ha => ?_⟩
  have hw : Region.wanted ⟨some d, op, ty, pos, af, some (g, b')⟩ (yielded ops a.tmps) = false := by
    have h1 := ha.val t _ ht
    unfold gslot at hg
    unfold Region.wanted yielded
    simp only [hg]
    rw [Array.getD_eq_getD_getElem?] at h1
    simp only [Option.bind_some]
    cases hx : a.tmps[t]? with
    | none => rfl
    | some v => rw [hx] at h1; have h3 : v = undef := h1; subst h3; rfl
  rw [RW_none]
  rintro w1 rfl
  unfold opE
  rw [if_neg (by rw [hw]; simp)]
  exact h.out _ (ha.put hd undef)

/-- By the two values of a test. -/
theorem RE.split {t : Tmp} {b : Bool} (ht : look s t = some (.bool b)) (h1 : b = true → RE P R n k ops m l C ((t, .bool true) :: s) ds)
    (h2 : b = false → RE P R n k ops m l C ((t, .bool false) :: s) ds) : RE P R n k ops m l C s ds := by
  refine ⟨fun a ha => ?_⟩
  have key : ∀ c, b = c → Has n ((t, .bool c) :: s) ds a := by
    rintro c rfl
    refine ⟨ha.size, ha.ds, fun u v hv => ?_⟩
    simp only [look] at hv
    by_cases htu : t = u
    · subst htu
      simp at hv
      subst hv
      exact ha.val _ _ ht
    · have : Nat.beq t u = false := beqF htu
      rw [this] at hv
      exact ha.val u v (by simpa using hv)
  cases b with
  | true => exact (h1 rfl).out a (key _ rfl)
  | false => exact (h2 rfl).out a (key _ rfl)

theorem RE.splitH {t : Tmp} {b : Bool} (h1 : b = true → RE P R n k ops m l C ((t, .bool true) :: s) ds)
    (h2 : b = false → RE P R n k ops m l C ((t, .bool false) :: s) ds) : RE P R n k ops m l C ((t, .bool b) :: s) ds := by
  cases b with
  | true => exact h1 rfl
  | false => exact h2 rfl
theorem RE.splitD {t : Tmp} {p : Prop} [Decidable p] (h1 : p → RE P R n k ops m l C ((t, .bool true) :: s) ds)
    (h2 : ¬ p → RE P R n k ops m l C ((t, .bool false) :: s) ds) : RE P R n k ops m l C ((t, .bool (decide p)) :: s) ds :=
  RE.splitH (fun h => h1 (of_decide_eq_true h)) (fun h => h2 (of_decide_eq_false h))

theorem RE.sub {s' : Slots} (hs : SubL s' s) (h : RE P R n k ops m l C s' ds) : RE P R n k ops m l C s ds := ⟨fun a ha => h.out a (ha.sub hs)⟩

theorem RE.cls {C' : World → Prop} (h : RE P R n k ops m l C' s ds) (hC : C = C') : RE P R n k ops m l C s ds := hC ▸ h

end region

section regions
variable {P : Program} {R : World → World → Prop} {n : Nat} {k : Ks} {l : List Oper} {s : Slots} {ds : List Deferred} {w : World} {id : Nat}

theorem CE.text (h : RE P Eq n k l.toArray [] l (Eq w) s ds) : CE P n (.region id l.toArray false) k s ds w :=
  ⟨fun a ha => region_text (R := Eq) (fun _ => rfl) (h.out a ha)⟩

theorem CE.draw (m : List Nat) (hm : P.follows .mixedOrders = true) (hc : chkD l.toArray m = true) (h : RE P Eq n k l.toArray m l (Eq w.drew) s ds) :
    CE P n (.region id l.toArray true) k s ds w :=
  ⟨fun a ha => region_draw (R := Eq) m hm (fun _ => rfl) (fun _ _ _ h1 h2 => h1.trans h2) hc (h.out a ha)⟩

theorem CE.drawR (R : World → World → Prop) (m : List Nat) (hm : P.follows .mixedOrders = true) (hr : ∀ w, R w w) (ht : ∀ a b c, R a b → R b c → R a c) (hc : chkD l.toArray m = true)
    (h : RE P R n k l.toArray m l (R w.drew) s ds) : CE P n (.region id l.toArray true) k s ds w :=
  ⟨fun a ha => region_draw (R := R) m hm hr ht hc (h.out a ha)⟩
end regions

/-! ### A function's body -/

def ResOK (P : Program) (fn : Func) (n : Nat) (s : Slots) (ds : List Deferred) (w : World) (v : Value) : Prop :=
  ∀ a, Has n s ds a → (results fn a.tmps).run P w = .ok v w

def endK (P : Program) (fn : Func) (n : Nat) (Φ : Value → World → Prop) : Ks where
  n := fun s ds w => ds = [] ∧ ∃ v, ResOK P fn n s ds w v ∧ Φ v w
  r := fun s ds w => ds = [] ∧ ∃ v, ResOK P fn n s ds w v ∧ Φ v w
  x := fun _ _ _ _ => False

section ends
variable {P : Program} {fn : Func} {n : Nat} {s : Slots} {w : World} {Φ : Value → World → Prop}

theorem end0 (hr : fn.results = #[]) (h : Φ (.tuple #[]) w) : (endK P fn n Φ).n s [] w :=
  ⟨rfl, _, fun _ _ => results_none hr _ _ _, h⟩
theorem ret0 (hr : fn.results = #[]) (h : Φ (.tuple #[]) w) : (endK P fn n Φ).r s [] w := end0 (s := s) hr h
theorem ret1 {t : Tmp} {v : Value} (hr : fn.results = #[.tmp t]) (ht : look s t = some v) (h : Φ v w) : (endK P fn n Φ).r s [] w :=
  ⟨rfl, v, fun _ ha => by rw [results_tmp hr, ha.val t v ht], h⟩
theorem ret2 {t u : Tmp} {v v' : Value} (hr : fn.results = #[.tmp t, .tmp u]) (ht : look s t = some v) (hu : look s u = some v') (h : Φ (.tuple #[v, v']) w) :
    (endK P fn n Φ).r s [] w :=
  ⟨rfl, _, fun _ ha => by rw [results_tmp2 hr, ha.val t v ht, ha.val u v' hu], h⟩
end ends

def argSlots : Nat → List Value → Slots
  | _, [] => []
  | i, v :: r => (i, v) :: argSlots (i + 1) r

theorem look_argSlots : ∀ (l : List Value) (i t : Nat) (v : Value), look (argSlots i l) t = some v → i ≤ t ∧ l[t - i]? = some v
  | [], _, _, _, h => by cases h
  | u :: r, i, t, v, h => by
    simp only [argSlots, look] at h
    by_cases hit : i = t
    · subst hit; simp at h; subst h; simp
    · have : Nat.beq i t = false := beqF hit
      rw [this] at h
      obtain ⟨h1, h2⟩ := look_argSlots r (i + 1) t v (by simpa using h)
      refine ⟨by omega, ?_⟩
      rw [show t - i = (t - (i + 1)) + 1 by omega]
      simpa using h2

theorem has_enter (l : List Value) (n : Nat) (hn : l.length ≤ n) : Has n (argSlots 0 l) [] { tmps := l.toArray ++ Array.replicate (n - l.toArray.size) undef, defers := [] } := by
  refine ⟨by simp; omega, rfl, fun t v hv => ?_⟩
  obtain ⟨_, h2⟩ := look_argSlots l 0 t v hv
  have hlt : t < l.length := by
    rcases Nat.lt_or_ge t l.length with h | h
    · exact h
    · simp [List.getElem?_eq_none h] at h2
  simp only [Nat.sub_zero] at h2
  simp [Array.getD_eq_getD_getElem?, Array.getElem?_append, hlt]
  simpa [List.getElem?_eq_getElem hlt] using h2

theorem fn_of {P : Program} {f : FuncId} {fn : Func} {c : Code} {args : List Value} {n : Nat} {w : World} {Φ : Value → World → Prop}
    (hf : P.funcs[f]? = some fn) (hb : fn.body = some c) (hn : fn.ntmps = n) (hl : Nat.ble args.length n = true)
    (h : CE P n c (endK P fn n Φ) (argSlots 0 args) [] w) : Fn P f args w Φ := by
  refine ⟨calls_of_wp hf hb ?_⟩
  subst hn
  refine wp_mono (h.out _ (has_enter args fn.ntmps (by simpa [Nat.ble_eq] using hl))) fun e a' w' hq => ?_
  cases e with
  | normal =>
    obtain ⟨s, ds, ha, rfl, v, hr, hφ⟩ := hq
    exact ⟨ha.ds, v, hr a' ha, v, rfl, hφ⟩
  | ret =>
    obtain ⟨s, ds, ha, rfl, v, hr, hφ⟩ := hq
    exact ⟨ha.ds, v, hr a' ha, v, rfl, hφ⟩
  | exit i => obtain ⟨_, _, _, hq⟩ := hq; exact hq.elim
  | _ => exact hq.elim

end Go.Wk
