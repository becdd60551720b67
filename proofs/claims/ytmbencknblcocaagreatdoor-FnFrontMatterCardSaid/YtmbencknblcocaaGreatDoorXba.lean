/- A step of the lexer commutes with a text put ahead. -/
import Derived.Test.YtmbencknblcocaaGreatDoorXat
import Derived.Test.YtmbencknblcocaaGreatDoorXak
namespace Go.Wk
open Go Go.RowKit Go.Proofs
set_option maxRecDepth 100000

def PI.sh (k : Nat) (p : PI) : PI :=
  match p.segs with
  | [] => { p with lo := p.lo + k, hi := p.hi + k }
  | ss => { p with segs := ss.map fun s => (s.1 + k, s.2 + k) }
theorem sh_one (k : Nat) (ty : Int) (err : Bool) (lo hi fb : Nat) (str : Bool) : PI.sh k ⟨ty, err, [], lo, hi, fb, str⟩ = ⟨ty, err, [], lo + k, hi + k, fb, str⟩ := rfl
theorem sh_pos (k : Nat) (p : PI) : (p.sh k).pos = p.pos + k := by
  obtain ⟨ty, err, segs, lo, hi, fb, str⟩ := p
  cases segs <;> rfl

/-- The state in the longer text: fm stands ahead of the items. -/
def D.sh (k : Nat) (fm : List PI) (d : D) : D := { d with pos := d.pos + k, start := d.start + k, ps := fm ++ d.ps.map (PI.sh k) }
def mv (k : Nat) (fm : List PI) (x : Option Nat × D) : Option Nat × D := (x.1, x.2.sh k fm)

section
variable {a t : List UInt8} {fm : List PI}

theorem drop_sh (p : Nat) : (a ++ t).drop (p + a.length) = t.drop p := by
  rw [Nat.add_comm, ← List.drop_drop, List.drop_left]
theorem len_sh : (a ++ t).length = t.length + a.length := by simp; omega
theorem nx_sh (p : Nat) : nx (a ++ t) (p + a.length) = nx t p := by
  unfold nx
  rw [len_sh, drop_sh]
  by_cases h : t.length ≤ p
  · rw [if_pos h, if_pos (by omega)]
  · rw [if_neg h, if_neg (by omega)]
theorem getD_sh (p : Nat) : (a ++ t).getD (p + a.length) 0 = t.getD p 0 := by
  simp only [List.getD_eq_getElem?_getD]
  rw [List.getElem?_append_right (by omega), Nat.add_sub_cancel]
theorem skipTo_sh (st : Int → Bool) : ∀ (n p : Nat), t.length - p = n → skipTo st (a ++ t) (p + a.length) = skipTo st t p + a.length := by
  intro n
  induction n using Nat.strongRecOn with
  | _ n ih =>
    intro p hn
    conv => lhs; rw [skipTo]
    conv => rhs; rw [skipTo]
    rw [len_sh, nx_sh]
    by_cases h : p < t.length
    · rw [dif_pos h, dif_pos (by omega)]
      have h1 := nx_pos t h
      by_cases hs : st (nx t p).1 = true
      · rw [if_pos hs, if_pos hs]
      · rw [if_neg hs, if_neg hs, show p + a.length + (nx t p).2 = p + (nx t p).2 + a.length by omega]
        exact ih _ (by omega) _ rfl
    · rw [dif_neg h, dif_neg (by omega)]
theorem fix_sh (p : PI) : (p.sh a.length).fix (a ++ t) = (p.fix t).sh a.length := by
  unfold PI.fix
  rw [sh_pos]
  by_cases h : p.pos < t.length
  · rw [dif_pos h, dif_pos (by rw [len_sh]; omega)]
    have : (a ++ t)[p.pos + a.length]'(by rw [len_sh]; omega) = t[p.pos] := by
      rw [List.getElem_append_right (by omega)]
      simp
    rw [this]
    obtain ⟨ty, err, segs, lo, hi, fb, str⟩ := p
    cases segs <;> rfl
  · rw [dif_neg h, dif_neg (by rw [len_sh]; omega)]
theorem of_sh (ty : Int) (lo hi : Nat) (str : Bool) : PI.of (a ++ t) ty (lo + a.length) (hi + a.length) str = (PI.of t ty lo hi str).sh a.length := by
  unfold PI.of
  exact fix_sh (a := a) (t := t) ⟨ty, false, [], lo, hi, 0, str⟩
theorem bad_sh (lo hi : Nat) : PI.bad (a ++ t) (lo + a.length) (hi + a.length) = (PI.bad t lo hi).sh a.length := by
  unfold PI.bad
  exact fix_sh (a := a) (t := t) ⟨0, true, [], lo, hi, 0, false⟩

def mv3 (k : Nat) (x : Int × Nat × Nat) : Int × Nat × Nat := (x.1, x.2.1 + k, x.2.2 + k)
theorem emScan_sh (lo hi : Nat) : ∀ j, emScan (a ++ t) (lo + a.length) (hi + a.length) (j + a.length) = (emScan t lo hi j).map (mv3 a.length)
  | 0 => by
    show _ = [(18, lo + a.length, hi + a.length)]
    cases hk : a.length with
    | zero => rfl
    | succ k =>
      rw [Nat.zero_add, emScan, if_pos (by omega)]
  | j + 1 => by
    rw [show j + 1 + a.length = (j + a.length) + 1 by omega, emScan, emScan, getD_sh]
    dsimp only
    by_cases h1 : j < lo
    · rw [if_pos h1, if_pos (by omega)]; rfl
    rw [if_neg h1, if_neg (by omega)]
    split
    · rfl
    by_cases h2 : j = lo ∧ (t.getD j 0).toNat ≠ 10
    · rw [if_pos h2, if_pos ⟨by omega, h2.2⟩]; rfl
    rw [if_neg h2, if_neg (fun h => h2 ⟨by omega, h.2⟩)]
    by_cases h3 : (t.getD j 0).toNat = 10 ∧ j + 1 < hi
    · rw [if_pos h3, if_pos ⟨h3.1, by omega⟩]
      show _ = [(18, lo + a.length, j + 1 + a.length), (17, j + 1 + a.length, hi + a.length)]
      rw [show j + a.length + 1 = j + 1 + a.length by omega]
    rw [if_neg h3, if_neg (fun h => h3 ⟨h.1, by omega⟩)]
    by_cases h4 : (t.getD j 0).toNat = 10 ∧ j + 1 = hi
    · rw [if_pos h4, if_pos ⟨h4.1, by omega⟩]; rfl
    rw [if_neg h4, if_neg (fun h => h4 ⟨h.1, by omega⟩)]
    exact emScan_sh lo hi j
theorem emitI_sh (ty : Int) (lo hi : Nat) : emitI (a ++ t) ty (lo + a.length) (hi + a.length) = (emitI t ty lo hi).map (PI.sh a.length) := by
  have key : ∀ l : List (Int × Nat × Nat), (l.map (mv3 a.length)).map (mk3 (a ++ t)) = (l.map (mk3 t)).map (PI.sh a.length) := by
    intro l
    rw [List.map_map, List.map_map]
    apply List.map_congr_left
    rintro ⟨x, y, z⟩ _
    exact of_sh x y z false
  unfold emitI emitL
  split
  · rw [emScan_sh, key]
  · exact key [(ty, lo, hi)]

theorem em_sh (d : D) (ty : Int) : (d.sh a.length fm).em (a ++ t) ty = (d.em t ty).sh a.length fm := by
  unfold D.em D.sh
  dsimp only
  rw [emitI_sh, List.map_append, List.append_assoc]
theorem dbad_sh (d : D) : (d.sh a.length fm).bad (a ++ t) = (d.bad t).sh a.length fm := by
  unfold D.bad D.sh
  dsimp only
  rw [bad_sh, List.map_append, List.append_assoc]
  rfl
theorem word_sh (lo hi : Nat) : wordA (a ++ t) (lo + a.length) (hi + a.length) = wordA t lo hi := by
  unfold wordA
  rw [drop_sh, Nat.add_sub_add_right]

/-! ### the states -/
theorem txt_sh (d : D) : (d.sh a.length fm).txt (a ++ t) = (d.txt t).sh a.length fm := by
  unfold D.txt
  by_cases h : d.start < d.pos
  · rw [if_pos h, if_pos (show (d.sh a.length fm).start < (d.sh a.length fm).pos by show d.start + a.length < d.pos + a.length; omega), em_sh]
  · rw [if_neg h, if_neg (show ¬ (d.sh a.length fm).start < (d.sh a.length fm).pos by show ¬ d.start + a.length < d.pos + a.length; omega)]
theorem mvI {c c' : Prop} [Decidable c] [Decidable c'] {x y x' y' : Option Nat × D} {k : Nat} (hc : c = c') (h1 : c' → x = mv k fm x') (h2 : ¬ c' → y = mv k fm y') : (if c then x else y) = mv k fm (if c' then x' else y') := by
  subst hc
  by_cases h : c
  · rw [if_pos h, if_pos h]; exact h1 h
  · rw [if_neg h, if_neg h]; exact h2 h
theorem mvE {d e : D} {f : Option Nat} {k : Nat} (h : d = e.sh k fm) : (f, d) = mv k fm (f, e) := by rw [h]; rfl
theorem eqT {x y : Bool} (h : x = y) : (x = true) = (y = true) := by rw [h]
theorem eqF {x y : Bool} (h : x = y) : (x = false) = (y = false) := by rw [h]
theorem nxp (p : Nat) : p + a.length + (nx (a ++ t) (p + a.length)).2 = p + (nx t p).2 + a.length := by rw [nx_sh]; omega

theorem done_sh (d : D) : outDone (a ++ t) (d.sh a.length fm) = mv a.length fm (outDone t d) := by
  unfold outDone
  refine mvE ?_
  have := txt_sh (a := a) (t := t) (fm := fm) d
  unfold D.txt at this
  rw [this, em_sh]
theorem right_sh (d : D) : outRight (a ++ t) (d.sh a.length fm) = mv a.length fm (outRight t d) := by
  unfold outRight
  refine mvE ?_
  rw [← em_sh]
  congr 1
  unfold D.sh
  simp only [D.mk.injEq, and_true]
  omega
theorem val_sh (d : D) : outVal (a ++ t) (d.sh a.length fm) = mv a.length fm (outVal t d) := by
  unfold outVal
  refine mvE ?_
  rw [← em_sh]
  congr 1
  unfold D.sh
  simp only [D.mk.injEq, and_true]
  exact skipTo_sh _ _ _ rfl
theorem end_sh (d : D) : outEnd (a ++ t) (d.sh a.length fm) = mv a.length fm (outEnd t d) := by
  unfold outEnd
  have e1 : (d.sh a.length fm).pos = d.pos + a.length := rfl
  have e2 : (d.sh a.length fm).rd = d.rd := rfl
  rw [e1, e2, drop_sh, nxp, nx_sh]
  refine mvI rfl (fun _ => rfl) (fun _ => mvI rfl (fun _ => rfl) (fun _ => mvE ?_))
  rw [← dbad_sh]
  rfl
theorem left_sh (d : D) : outLeft (a ++ t) (d.sh a.length fm) = mv a.length fm (outLeft t d) := by
  unfold outLeft
  have e1 : (d.sh a.length fm).pos + 3 = (d.pos + 3) + a.length := by show d.pos + a.length + 3 = _; omega
  rw [e1, drop_sh]
  refine mvI rfl (fun _ => rfl) (fun _ => mvE ?_)
  have := em_sh (a := a) (t := t) (fm := fm) { d with pos := d.pos + 3 } d.ld
  have e2 : ({ d.sh a.length fm with pos := (d.pos + 3) + a.length } : D) = ({ d with pos := d.pos + 3 } : D).sh a.length fm := rfl
  rw [e2]
  show ({ (({ d with pos := d.pos + 3 } : D).sh a.length fm).em (a ++ t) d.ld with step := 0, par := 0 } : D) = _
  rw [this]
  rfl
theorem comment_sh (d : D) : outComment (a ++ t) (d.sh a.length fm) = mv a.length fm (outComment t d) := by
  unfold outComment
  have e1 : (d.sh a.length fm).pos = d.pos + a.length := rfl
  have e2 : (d.sh a.length fm).rd = d.rd := rfl
  rw [e1, e2, drop_sh]
  generalize (fnd (bs152 ++ rightD d.rd) (t.drop d.pos) 0) = n
  refine mvI rfl (fun _ => mvE (dbad_sh d)) (fun _ => mvE ?_)
  rw [em_sh, show d.pos + a.length + n.toNat = d.pos + n.toNat + a.length by omega, show d.pos + a.length + 2 = d.pos + 2 + a.length by omega,
    show d.pos + n.toNat + a.length + 5 = d.pos + n.toNat + 5 + a.length by omega, show d.pos + n.toNat + a.length + 2 = d.pos + n.toNat + 2 + a.length by omega]
  have h1 : ({ (d.em t 18).sh a.length fm with pos := d.pos + n.toNat + a.length, start := d.pos + 2 + a.length } : D) = ({ d.em t 18 with pos := d.pos + n.toNat, start := d.pos + 2 } : D).sh a.length fm := rfl
  rw [h1, em_sh]
  have h2 : ∀ e : D, ({ e.sh a.length fm with pos := d.pos + n.toNat + 5 + a.length, start := d.pos + n.toNat + 2 + a.length } : D) = ({ e with pos := d.pos + n.toNat + 5, start := d.pos + n.toNat + 2 } : D).sh a.length fm := fun _ => rfl
  rw [h2, em_sh]
theorem raw_sh (d : D) (ty : Int) : outRaw (a ++ t) (d.sh a.length fm) ty = mv a.length fm (outRaw t d ty) := by
  unfold outRaw
  have e1 : (d.sh a.length fm).pos + 1 = (d.pos + 1) + a.length := by show d.pos + a.length + 1 = _; omega
  rw [e1, skipTo_sh _ _ _ rfl, len_sh]
  generalize skipTo isTick t (d.pos + 1) = q
  refine mvI (by simp) (fun _ => mvE ?_) (fun _ => mvE ?_)
  · have h1 : ({ d.sh a.length fm with start := d.pos + 1 + a.length, pos := q + a.length } : D) = ({ d with start := d.pos + 1, pos := q } : D).sh a.length fm := rfl
    rw [h1, dbad_sh]
  · rw [of_sh, show q + a.length + 1 = q + 1 + a.length by omega]
    unfold D.sh
    simp
theorem segGo_sh : ∀ (n : Nat) (u : List UInt8) (i k : Nat), u.length - i = n → segGo (a ++ u) (i + a.length) (k + a.length) = (segGo u i k).map fun s => (s.1 + a.length, s.2 + a.length) := by
  intro n
  induction n using Nat.strongRecOn with
  | _ n ih =>
    intro u i k hn
    conv => lhs; rw [segGo]
    conv => rhs; rw [segGo]
    rw [len_sh, nx_sh]
    by_cases h : i < u.length
    · rw [dif_pos h, dif_pos (by omega)]
      have h1 := nx_pos u h
      rw [show i + a.length + (nx u i).2 = i + (nx u i).2 + a.length by omega]
      by_cases hs : (nx u i).1 = 92
      · rw [if_pos hs, if_pos hs, ih _ (by omega) u _ _ rfl, List.map_append]
        by_cases hk : k < i
        · rw [if_pos hk, if_pos (by omega)]; rfl
        · rw [if_neg hk, if_neg (by omega)]; rfl
      · rw [if_neg hs, if_neg hs]
        exact ih _ (by omega) u _ _ rfl
    · rw [dif_neg h, dif_neg (by omega)]
      by_cases hk : k < u.length
      · rw [if_pos hk, if_pos (by omega)]; rfl
      · rw [if_neg hk, if_neg (by omega)]; rfl
theorem segI_sh (ty : Int) (lo hi : Nat) : segI (a ++ t) ty (lo + a.length) (hi + a.length) = (segI t ty lo hi).map (PI.sh a.length) := by
  unfold segI
  have h1 : (a ++ t).take (hi + a.length) = a ++ t.take hi := by
    rw [List.take_append, List.take_of_length_le (by omega), Nat.add_sub_cancel]
  rw [h1, segGo_sh _ _ _ _ rfl]
  cases segGo (t.take hi) lo lo with
  | nil => rfl
  | cons s r =>
    show [PI.fix (a ++ t) (PI.sh a.length ⟨ty, false, s :: r, 0, 0, 0, false⟩)] = _
    rw [fix_sh]
    rfl
theorem quoI_sh (ty : Int) (es : Bool) (lo hi : Nat) : quoI (a ++ t) ty es (lo + a.length) (hi + a.length) = (quoI t ty es lo hi).map (PI.sh a.length) := by
  unfold quoI
  split
  · exact segI_sh ty lo hi
  · rw [of_sh]; rfl
def mv4 (k : Nat) (x : Nat × Bool × Nat × Nat) : Nat × Bool × Nat × Nat := (x.1, x.2.1, x.2.2.1 + k, x.2.2.2 + k)
theorem qtGo_sh (al : Bool) : ∀ (n : Nat) (op es s1 : Bool) (p s : Nat), t.length - p = n → qtGo (a ++ t) al op es s1 (p + a.length) (s + a.length) = mv4 a.length (qtGo t al op es s1 p s) := by
  intro n
  induction n using Nat.strongRecOn with
  | _ n ih =>
    intro op es s1 p s hn
    conv => lhs; rw [qtGo]
    conv => rhs; rw [qtGo]
    rw [len_sh, nx_sh]
    by_cases h : p < t.length
    · rw [dif_pos h, dif_pos (by omega)]
      have h1 := nx_pos t h
      rw [show p + a.length + (nx t p).2 = p + (nx t p).2 + a.length by omega, nx_sh]
      have ih' := fun op es s1 s => ih _ (by omega : t.length - (p + (nx t p).2) < n) op es s1 (p + (nx t p).2) s rfl
      repeat' split
      all_goals first | exact ih' _ _ _ _ | rfl
    · rw [dif_neg h, dif_neg (by omega)]
      rfl
theorem quo_sh (d : D) (al : Bool) (ty : Int) : outQuo (a ++ t) (d.sh a.length fm) al ty = mv a.length fm (outQuo t d al ty) := by
  unfold outQuo
  have e1 : qtGo (a ++ t) al false false false (d.sh a.length fm).pos (d.sh a.length fm).start = mv4 a.length (qtGo t al false false false d.pos d.start) := qtGo_sh al _ _ _ _ _ _ rfl
  rw [e1]
  generalize qtGo t al false false false d.pos d.start = g
  obtain ⟨r, es, p, s⟩ := g
  show (if r = 0 then _ else _) = _
  refine mvI rfl (fun _ => mvE ?_) (fun _ => mvE ?_)
  · exact dbad_sh { d with pos := p, start := s }
  · show ({ d.sh a.length fm with pos := p + a.length + r, start := p + a.length + r, ps := (d.sh a.length fm).ps ++ quoI (a ++ t) ty es (s + a.length) (p + a.length) } : D) = _
    rw [quoI_sh, show p + a.length + r = p + r + a.length by omega]
    unfold D.sh
    simp
theorem parEnd_sh (p : Nat) : parEnd (a ++ t) (p + a.length) = parEnd t p + a.length := by
  unfold parEnd
  rw [nxp, nx_sh, skipTo_sh _ _ _ rfl]
  split <;> rfl
theorem parEq_sh (p : Nat) : parEq (a ++ t) (p + a.length) = parEq t p := by
  unfold parEq
  rw [parEnd_sh, nx_sh, nx_sh]
theorem par2_sh (d : D) (ne : Bool) : outPar2 (a ++ t) (d.sh a.length fm) ne = mv a.length fm (outPar2 t d ne) := by
  unfold outPar2
  refine mvI rfl (fun _ => mvE ?_) (fun _ => mvI rfl (fun _ => mvE (dbad_sh d)) (fun _ => mvI rfl (fun _ => mvE (dbad_sh d)) (fun _ => mvE (em_sh d 15))))
  exact em_sh { d with par := if ne then 2 else 1 } 15
theorem param_sh (d : D) (eq : Bool) : outParam (a ++ t) (d.sh a.length fm) eq = mv a.length fm (outParam t d eq) := by
  unfold outParam
  have e1 : (d.sh a.length fm).pos = d.pos + a.length := rfl
  rw [e1, nxp, nx_sh, parEnd_sh, parEq_sh]
  refine mvI rfl (fun _ => mvI rfl (fun _ => mvE ?_) (fun _ => mvI rfl (fun _ => ?_) (fun _ => ?_))) (fun _ => mvI rfl (fun _ => mvE ?_) (fun _ => ?_))
  · exact dbad_sh { d with pos := d.pos + (nx t d.pos).2 }
  · exact quo_sh { d with par := 1 } _ _
  · exact raw_sh { d with par := 1 } _
  · exact dbad_sh { d with pos := d.pos + (nx t d.pos).2 }
  · exact par2_sh { d with pos := parEnd t d.pos } _
theorem idGo_sh : ∀ (n : Nat) (inl : Bool) (p : Nat), t.length - p = n → idGo (a ++ t) inl (p + a.length) = ((idGo t inl p).1, (idGo t inl p).2.1 + a.length, (idGo t inl p).2.2) := by
  intro n
  induction n using Nat.strongRecOn with
  | _ n ih =>
    intro inl p hn
    rw [idGo]
    rw [idGo.eq_def t inl p]
    rw [len_sh, nx_sh]
    by_cases h : p < t.length
    · rw [dif_pos h, dif_pos (by omega)]
      have h1 := nx_pos t h
      rw [show p + a.length + (nx t p).2 = p + (nx t p).2 + a.length by omega, drop_sh]
      have ih' := fun inl => ih _ (by omega : t.length - (p + (nx t p).2) < n) inl (p + (nx t p).2) rfl
      repeat' split
      all_goals first | exact ih' _ | rfl
    · rw [dif_neg h, dif_neg (by omega)]
theorem ident_sh (d : D) : outIdent (a ++ t) (d.sh a.length fm) = mv a.length fm (outIdent t d) := by
  unfold outIdent
  have e1 : idGo (a ++ t) (d.sh a.length fm).inl (d.sh a.length fm).pos = ((idGo t d.inl d.pos).1, (idGo t d.inl d.pos).2.1 + a.length, (idGo t d.inl d.pos).2.2) := idGo_sh _ _ _ rfl
  rw [e1]
  generalize idGo t d.inl d.pos = g
  obtain ⟨b, p, i⟩ := g
  have e2 : wordA (a ++ t) (d.sh a.length fm).start (p + a.length) = wordA t d.start p := word_sh d.start p
  dsimp only
  rw [e2]
  refine mvI rfl (fun _ => mvE ?_) (fun _ => mvI rfl (fun _ => mvE ?_) (fun _ => ?_))
  · exact dbad_sh { d with pos := p, inl := false }
  · exact dbad_sh { d with pos := p, inl := i }
  · refine mvE ?_
    exact em_sh { d with pos := p, inl := i, clos := 0, name := wordA t d.start p, opn := updB d.opn (wordA t d.start p) true, step := d.step + 1 } _
theorem inside_sh (d : D) : outInside (a ++ t) (d.sh a.length fm) = mv a.length fm (outInside t d) := by
  unfold outInside
  have e1 : (d.sh a.length fm).pos = d.pos + a.length := rfl
  rw [e1, nxp, nx_sh, drop_sh, skipTo_sh _ _ _ rfl, nx_sh, nx_sh]
  refine mvI rfl (fun _ => rfl) (fun _ => mvI rfl (fun _ => mvE ?_) (fun _ => mvI rfl (fun _ => rfl) (fun _ => mvI rfl (fun _ => mvI rfl (fun _ => ?_) (fun _ => mvI rfl (fun _ => ?_) (fun _ => rfl)))
    (fun _ => mvI rfl (fun _ => mvI rfl (fun _ => mvE ?_) (fun _ => mvE ?_)) (fun _ => mvI rfl (fun _ => mvI rfl (fun _ => ?_) (fun _ => rfl)) (fun _ => mvI rfl (fun _ => ?_) (fun _ => mvI rfl (fun _ => rfl) (fun _ => mvE ?_))))))))
  · exact dbad_sh { d with pos := d.pos + (nx t d.pos).2 }
  · exact quo_sh { d with pos := skipTo notSp t (d.pos + (nx t d.pos).2), start := skipTo notSp t (d.pos + (nx t d.pos).2) } _ _
  · exact raw_sh { d with pos := skipTo notSp t (d.pos + (nx t d.pos).2), start := skipTo notSp t (d.pos + (nx t d.pos).2) } _
  · exact dbad_sh { d with pos := d.pos + (nx t d.pos).2 }
  · exact em_sh { d with pos := d.pos + (nx t d.pos).2, clos := d.clos + 1, inl := false, step := 0 } _
  · exact param_sh { d with pos := d.pos + (nx t d.pos).2, start := d.pos + (nx t d.pos).2 } _
  · exact param_sh d _
  · exact dbad_sh { d with pos := d.pos + (nx t d.pos).2 }
theorem inlOk_sh (nm : List UInt8) (p : Nat) : inlOk (a ++ t) nm (p + a.length) = inlOk t nm p := by
  unfold inlOk
  rw [show p + a.length + 3 = p + 3 + a.length by omega, drop_sh]
theorem isSC_sh (p : Nat) : isSC (a ++ t) (p + a.length) = isSC t p := by
  unfold isSC
  rw [drop_sh]
theorem sc_sh (d : D) : outSc (a ++ t) (d.sh a.length fm) = mv a.length fm (outSc t d) := by
  unfold outSc
  have e1 : (d.sh a.length fm).pos = d.pos + a.length := rfl
  have e2 : (d.sh a.length fm).name = d.name := rfl
  rw [e1, e2, inlOk_sh, drop_sh]
  exact mvI rfl (fun _ => mvE (dbad_sh d)) (fun _ => rfl)
theorem div_sh (d : D) : outDiv (a ++ t) (d.sh a.length fm) = (outDiv t d).sh a.length fm := by
  unfold outDiv
  have e1 : (d.sh a.length fm).pos + (d.sh a.length fm).dv.length = d.pos + d.dv.length + a.length := by show d.pos + a.length + d.dv.length = _; omega
  rw [e1, skipTo_sh _ _ _ rfl]
  exact em_sh { d with chk := true, pos := skipTo notSp t (d.pos + d.dv.length) } 2
theorem lex_sh (nd s1 s2 : Bool) (d : D) : outLex (a ++ t) nd s1 s2 (d.sh a.length fm) = mv a.length fm (outLex t nd s1 s2 d) := by
  unfold outLex
  have e1 : (d.sh a.length fm).pos = d.pos + a.length := rfl
  have e2 : (d.sh a.length fm).dv = d.dv := rfl
  rw [e1, e2, isSC_sh, drop_sh, txt_sh]
  refine mvI rfl (fun _ => sc_sh _) (fun _ => mvI rfl (fun _ => mvE (div_sh _)) (fun _ => mvE ?_))
  rw [show d.pos + a.length + 1 = d.pos + 1 + a.length by omega]
  rfl
theorem scAt_sh (d : D) : scAt (a ++ t) (d.sh a.length fm) = scAt t d := by
  unfold scAt
  rw [show (d.sh a.length fm).pos = d.pos + a.length from rfl, drop_sh]
theorem nextDiv_sh (d : D) : nextDiv (a ++ t) (d.sh a.length fm) = nextDiv t d := by
  unfold nextDiv
  rw [show (d.sh a.length fm).pos = d.pos + a.length from rfl, drop_sh]
  rfl
theorem ixs_sh (nd : Bool) (d : D) : ixs (a ++ t) nd (d.sh a.length fm) = ixs t nd d := by
  unfold ixs
  rw [scAt_sh, nextDiv_sh]
theorem main_sh (nd : Bool) (d : D) : outMain (a ++ t) nd (d.sh a.length fm) = mv a.length fm (outMain t nd d) := by
  unfold outMain
  rw [ixs_sh, scAt_sh, nextDiv_sh, len_sh]
  refine mvI ?_ (fun _ => rfl) (fun _ => mvI rfl (fun _ => rfl) (fun _ => ?_))
  · show (t.length + a.length ≤ d.pos + a.length) = _
    simp
  · have h1 : ({ d.sh a.length fm with pos := (d.sh a.length fm).pos + (minGo (-1) (ixs t nd d)).toNat } : D) = ({ d with pos := d.pos + (minGo (-1) (ixs t nd d)).toNat } : D).sh a.length fm := by
      show ({ d.sh a.length fm with pos := d.pos + a.length + (minGo (-1) (ixs t nd d)).toNat } : D) = _
      rw [show d.pos + a.length + (minGo (-1) (ixs t nd d)).toNat = d.pos + (minGo (-1) (ixs t nd d)).toNat + a.length by omega]
      rfl
    rw [h1, lex_sh]
    generalize outLex t nd (decide (scAt t d = -1)) (decide (nextDiv t d = -1)) { d with pos := d.pos + (minGo (-1) (ixs t nd d)).toNat } = O
    obtain ⟨o, e⟩ := O
    cases o <;> rfl

/-- The states behind the front matter. -/
def okM : Option Nat → Bool
  | none => true
  | some f => [42, 77, 125, 142, 144, 154, 158, 162, 175].elem f
theorem stp_sh {nd : Bool} {f : Nat} (h : okM (some f) = true) (d : D) : stp (a ++ t) nd f (d.sh a.length fm) = mv a.length fm (stp t nd f d) := by
  simp only [okM, List.elem_eq_mem, List.mem_cons, List.not_mem_nil, or_false, decide_eq_true_eq] at h
  rcases h with rfl | rfl | rfl | rfl | rfl | rfl | rfl | rfl | rfl
  · exact main_sh nd d
  · exact done_sh d
  · exact left_sh d
  · exact comment_sh d
  · exact inside_sh d
  · exact right_sh d
  · exact val_sh d
  · exact ident_sh d
  · exact end_sh d
end
theorem okQ (t : List UInt8) (d : D) (al : Bool) (ty : Int) : okM (outQuo t d al ty).1 = true := by
  unfold outQuo; split <;> rfl
theorem okR (t : List UInt8) (d : D) (ty : Int) : okM (outRaw t d ty).1 = true := by
  unfold outRaw; split <;> rfl
theorem okP (t : List UInt8) (d : D) (eq : Bool) : okM (outParam t d eq).1 = true := by
  unfold outParam outPar2
  repeat' split
  all_goals first | exact okQ _ _ _ _ | exact okR _ _ _ | rfl
theorem okM_stp {t : List UInt8} {nd : Bool} {f : Nat} (h : okM (some f) = true) (d : D) : okM (stp t nd f d).1 = true := by
  simp only [okM, List.elem_eq_mem, List.mem_cons, List.not_mem_nil, or_false, decide_eq_true_eq] at h
  rcases h with rfl | rfl | rfl | rfl | rfl | rfl | rfl | rfl | rfl
  · show okM (outMain t nd d).1 = true
    have hl : ∀ s1 s2 e, okM (outLex t nd s1 s2 e).1 = true := by
      intro s1 s2 e
      unfold outLex outSc
      repeat' split
      all_goals rfl
    unfold outMain
    split
    · rfl
    split
    · rfl
    have := hl (decide (scAt t d = -1)) (decide (nextDiv t d = -1)) { d with pos := d.pos + (minGo (-1) (ixs t nd d)).toNat }
    generalize outLex t nd (decide (scAt t d = -1)) (decide (nextDiv t d = -1)) { d with pos := d.pos + (minGo (-1) (ixs t nd d)).toNat } = O at this ⊢
    obtain ⟨o, e⟩ := O
    cases o with
    | none => rfl
    | some g => exact this
  · rfl
  · show okM (outLeft t d).1 = true
    unfold outLeft; split <;> rfl
  · show okM (outComment t d).1 = true
    unfold outComment; split <;> rfl
  · show okM (outInside t d).1 = true
    unfold outInside
    repeat' split
    all_goals first | exact okQ _ _ _ _ | exact okR _ _ _ | exact okP _ _ _ | rfl
  · rfl
  · rfl
  · show okM (outIdent t d).1 = true
    unfold outIdent
    split
    · rfl
    split
    · rfl
    split <;> rfl
  · show okM (outEnd t d).1 = true
    unfold outEnd
    repeat' split
    all_goals rfl

/-- The lexer's run commutes with a text put ahead. -/
theorem lexes_sh {a t : List UInt8} {fm : List PI} {nd : Bool} {x : Option Nat × D} {r : D} (h : Lexes t nd x r) : okM x.1 = true → Lexes (a ++ t) nd (mv a.length fm x) (r.sh a.length fm) := by
  induction h with
  | done d => intro _; exact Lexes.done _
  | step f d r _ ih =>
    intro hk
    refine Lexes.step f _ _ ?_
    rw [stp_sh hk]
    exact ih (okM_stp hk d)
end Go.Wk
namespace Go.Wk
open Go Go.RowKit Go.Proofs
set_option maxRecDepth 100000

/-- A rune of several bytes goes over no ASCII byte. -/
theorem nx_wide {t : List UInt8} {p j : Nat} {b : UInt8} (h0 : 0 < j) (hj : j < (nx t p).2) (hb : t[p + j]? = some b) : 128 ≤ b.toNat := by
  have hp : p < t.length := by have := (List.getElem?_eq_some_iff.1 hb).1; omega
  have hg : ((t.drop p).getD j 0) = b := by simp [List.getD, List.getElem?_drop, hb]
  rw [nx_in hp, Lib.decodeL_N] at hj
  dsimp only at hj
  rcases Lib.decodeN_shape (t.drop p).length ((t.drop p).getD 0 0).toNat ((t.drop p).getD 1 0).toNat ((t.drop p).getD 2 0).toNat ((t.drop p).getD 3 0).toNat with ⟨c, e⟩ | ⟨c1, c2, c3, cv, e⟩ | ⟨c1, c2, c3, c4, cv, cs, e⟩ | ⟨c1, c2, c3, c4, c5, cv, cw, e⟩ | e
  all_goals (rw [e] at hj; dsimp only at hj)
  · omega
  · have : j = 1 := by omega
    subst this; rw [hg] at c3; omega
  · have : j = 1 ∨ j = 2 := by omega
    rcases this with rfl | rfl
    · rw [hg] at c3; omega
    · rw [hg] at c4; omega
  · have : j = 1 ∨ j = 2 ∨ j = 3 := by omega
    rcases this with rfl | rfl | rfl
    · rw [hg] at c3; omega
    · rw [hg] at c4; omega
    · rw [hg] at c5; omega
  · omega

/-- The end of the front matter, from any place ahead of it. -/
theorem fmFind_some {t d : List UInt8} {z : Nat} (hr : ∀ p, p ≤ z → t[p]? ≠ some 13) (hz : t[z]? = some 10) (hd : pre d (t.drop (z + 1)) = true) (hn : ∀ p : Nat, t[p]? = some 10 → 4 ≤ p → p < z → pre d (t.drop (p + 1)) = false) :
    ∀ (n p : Nat), z - p = n → 4 ≤ p → p ≤ z → fmFind t d false p = some (z + 1) := by
  intro n
  induction n using Nat.strongRecOn with
  | _ n ih =>
    intro p hpn hp4 hpz
    have hzl := (List.getElem?_eq_some_iff.1 hz).1
    have hp : p < t.length := by omega
    rw [fmFind]
    rw [if_neg (by decide), dif_pos hp]
    by_cases he : p = z
    · subst he
      rw [nx_ascii hz (by decide)]
      dsimp only
      rw [hd, if_pos (by decide)]
    · have hw := nx_pos t hp
      have hle : p + (nx t p).2 ≤ z := by
        rcases Nat.lt_or_ge z (p + (nx t p).2) with h | h
        · exfalso
          have := nx_wide (t := t) (p := p) (j := z - p) (b := 10) (by omega) (by omega) (by rw [show p + (z - p) = z by omega]; exact hz)
          exact absurd this (by decide)
        · exact h
      rw [if_neg]
      · exact ih _ (by omega) _ rfl (by omega) hle
      · intro h
        simp only [Bool.and_eq_true] at h
        obtain ⟨h1, h2⟩ := h
        unfold isEol at h1
        simp only [Bool.or_eq_true, decide_eq_true_eq] at h1
        rcases h1 with h1 | h1
        · obtain ⟨b, hb, hv⟩ := nx_small (r := 13) h1 (by decide)
          have : b = 13 := UInt8.toNat_inj.1 hv
          subst this
          exact hr p hpz hb
        · obtain ⟨b, hb, hv⟩ := nx_small (r := 10) h1 (by decide)
          have : b = 10 := UInt8.toNat_inj.1 hv
          subst this
          have hw1 : (nx t p).2 = 1 := by rw [nx_ascii hb (by decide)]
          rw [hw1, hn p hb hp4 (by omega)] at h2
          cases h2

def ahead (c : UInt8) (m : List UInt8) : List UInt8 := c :: c :: c :: 10 :: (m ++ [c, c, c, 10])
theorem ahead_len (c : UInt8) (m : List UInt8) : (ahead c m).length = m.length + 8 := by unfold ahead; simp

theorem pre_app {c : UInt8} {l x : List UInt8} (hl : l ≠ []) (h10 : l.getLast? = some 10) (hc : c ≠ 10) (h : pre [c, c, c] (l ++ x) = true) : l.take 3 = [c, c, c] := by
  have h1 : (l ++ x).take 3 = [c, c, c] := of_decide_eq_true h
  rcases l with _ | ⟨a1, l⟩
  · exact absurd rfl hl
  rcases l with _ | ⟨a2, l⟩
  · simp at h10
    subst h10
    cases x with
    | nil => simp at h1
    | cons y r => simp at h1; exact absurd h1.1.symm hc
  rcases l with _ | ⟨a3, l⟩
  · simp at h10
    subst h10
    cases x with
    | nil => simp at h1
    | cons y r => simp at h1; exact absurd h1.2.1.symm hc
  · simpa using h1

theorem intro_fm (c : UInt8) (tp : Int) (m u : List UInt8) (hc : c.toNat = 43 ∧ tp = 4 ∨ c.toNat = 45 ∧ tp = 3) (hm : m ≠ []) (hl : m.getLast? = some 10) (h1 : begS m 0 [c, c, c] = false) (h2 : hasS m [10, c, c, c] = false) (h3 : hasS m [13] = false) :
    inOut (ahead c m ++ u) 0 0 = (fnV 42, m.length + 8, m.length + 8, [PI.of (ahead c m ++ u) tp 4 (m.length + 4) false]) := by
  generalize ht : ahead c m ++ u = t
  have ht' : c :: c :: c :: 10 :: (m ++ (c :: c :: c :: 10 :: u)) = t := by rw [← ht]; unfold ahead; simp
  have hc128 : c.toNat < 128 := by omega
  have hc10 : c ≠ 10 := by intro h; rw [h] at hc; rcases hc with ⟨h, _⟩ | ⟨h, _⟩ <;> exact absurd h (by decide)
  have hc13 : c ≠ 13 := by intro h; rw [h] at hc; rcases hc with ⟨h, _⟩ | ⟨h, _⟩ <;> exact absurd h (by decide)
  have n0 : nx t 0 = ((c.toNat : Int), 1) := nx_ascii (by rw [← ht']; rfl) hc128
  have n1 : nx t 1 = ((c.toNat : Int), 1) := nx_ascii (by rw [← ht']; rfl) hc128
  have n2 : nx t 2 = ((c.toNat : Int), 1) := nx_ascii (by rw [← ht']; rfl) hc128
  have n3 : nx t 3 = (10, 1) := nx_ascii (b := 10) (by rw [← ht']; rfl) (by decide)
  have hdrop : ∀ k, k ≤ m.length → t.drop (4 + k) = m.drop k ++ (c :: c :: c :: 10 :: u) := by
    intro k hk
    rw [← ht', Nat.add_comm]
    show (m ++ _).drop k = _
    rw [List.drop_append, show k - m.length = 0 by omega, List.drop_zero]
  have hat : ∀ k, k < m.length → t[4 + k]? = m[k]? := by
    intro k hk
    have h0 : (t.drop (4 + k))[0]? = t[4 + k]? := by rw [List.getElem?_drop, Nat.add_zero]
    rw [← h0, hdrop k (by omega), List.drop_eq_getElem_cons hk, List.getElem?_eq_getElem hk]
    rfl
  have hend : t.drop (4 + m.length) = c :: c :: c :: 10 :: u := by rw [hdrop _ (Nat.le_refl _), List.drop_length]; rfl
  have hml : 0 < m.length := by cases m with | nil => exact absurd rfl hm | cons _ _ => simp
  have hlast : m[m.length - 1]? = some 10 := by rw [← List.getLast?_eq_getElem?]; exact hl
  have hcrE : ∀ p, nx t p = (10, 1) → crE t p = (p + 1, true) := by
    intro p hn
    have e : (if (nx t p).1 = 13 then p + (nx t p).2 else p) = p := by rw [hn]; rfl
    unfold crE
    dsimp only
    rw [e, hn]
    rfl
  have hcr : crE t 3 = (4, true) := hcrE 3 n3
  have hsub : ∀ k, k < m.length → pre [c, c, c] (t.drop (4 + k)) = true → (m.drop k).take 3 = [c, c, c] := by
    intro k hk h
    rw [hdrop k (by omega)] at h
    refine pre_app ?_ ?_ hc10 h
    · intro e
      have := congrArg List.length e
      simp at this
      omega
    · rw [List.getLast?_drop, if_neg (by omega)]; exact hl
  have hfm : fmFind t [c, c, c] true 4 = some (4 + m.length) := by
    rw [fmFind, if_pos rfl, if_neg]
    · have hz : 4 + m.length = (4 + (m.length - 1)) + 1 := by omega
      rw [hz]
      refine fmFind_some ?_ ?_ ?_ ?_ _ 4 rfl (Nat.le_refl _) (by omega)
      · intro p hpz hp
        rcases Nat.lt_or_ge p 4 with h4 | h4
        · rw [← ht'] at hp
          have : p = 0 ∨ p = 1 ∨ p = 2 ∨ p = 3 := by omega
          rcases this with rfl | rfl | rfl | rfl
          · exact hc13 (by simpa using hp)
          · exact hc13 (by simpa using hp)
          · exact hc13 (by simpa using hp)
          · simp at hp
        · obtain ⟨k, rfl⟩ : ∃ k, p = 4 + k := ⟨p - 4, by omega⟩
          have hkl : k < m.length := by omega
          rw [hat k hkl] at hp
          refine hasS_none h3 k (by simp; omega) ?_
          rw [List.drop_eq_getElem_cons hkl]
          have := (List.getElem?_eq_some_iff.1 hp).2
          simp [this]
      · rw [hat _ (by omega)]; exact hlast
      · rw [← hz, hend]
        exact decide_eq_true rfl
      · intro p hp hp4 hpz
        obtain ⟨k, rfl⟩ : ∃ k, p = 4 + k := ⟨p - 4, by omega⟩
        have hkl : k < m.length := by omega
        rw [hat k hkl] at hp
        have hv := (List.getElem?_eq_some_iff.1 hp).2
        cases h : pre [c, c, c] (t.drop (4 + k + 1)) with
        | false => rfl
        | true =>
          exfalso
          have g1 := hsub (k + 1) (by omega) h
          have g2 := congrArg List.length g1
          simp at g2
          refine hasS_none h2 k (by simp; omega) ?_
          rw [List.drop_eq_getElem_cons hkl, hv]
          show 10 :: (m.drop (k + 1)).take 3 = _
          rw [g1]
    · intro h
      have g1 := hsub 0 hml h
      rw [List.drop_zero] at g1
      have g2 := congrArg List.length g1
      simp at g2
      have : begS m 0 [c, c, c] = true := by
        unfold begS
        simp only [List.drop_zero, List.length_cons, List.length_nil]
        rw [g1]
        simp
        omega
      rw [h1] at this; cases this
  have n7 : nx t (4 + m.length + 3) = (10, 1) := by
    refine nx_ascii (b := 10) ?_ (by decide)
    have h0 : (t.drop (4 + m.length))[3]? = t[4 + m.length + 3]? := by rw [List.getElem?_drop]
    rw [← h0, hend]
    rfl
  have hcr2 := hcrE _ n7
  have hsk : skipTo notSp t 0 = 0 := by
    refine skipTo_stop (Or.inr ?_)
    rw [n0]
    rcases hc with ⟨hc, _⟩ | ⟨hc, _⟩ <;> rw [hc] <;> rfl
  have hout : fmOut t [c, c, c] tp (c.toNat : Int) 0 1 = (true, m.length + 8, m.length + 8, emitI t tp 4 (m.length + 4)) := by
    simp only [fmOut, n1, n2, hcr, hfm, hcr2]
    rw [show 4 + m.length + 3 + 1 = m.length + 8 by omega, show 4 + m.length = m.length + 4 by omega]
    simp
  have hem : emitI t tp 4 (m.length + 4) = [PI.of t tp 4 (m.length + 4) false] := by
    unfold emitI emitL
    rw [if_neg (by rcases hc with ⟨_, h⟩ | ⟨_, h⟩ <;> omega)]
    rfl
  rw [hem] at hout
  unfold inOut
  rw [hsk]
  simp only [n0]
  rcases hc with ⟨hc, rfl⟩ | ⟨hc, rfl⟩
  · have hcc : c = 43 := UInt8.toNat_inj.1 hc
    subst hcc
    rw [if_neg (by decide), if_pos (by decide)]
    have hout' : fmOut t bs70 4 43 0 (0 + 1) = (true, m.length + 8, m.length + 8, [PI.of t 4 4 (m.length + 4) false]) := hout
    rw [hout']
    rfl
  · have hcc : c = 45 := UInt8.toNat_inj.1 hc
    subst hcc
    rw [if_neg (by decide), if_neg (by decide), if_pos (by decide)]
    have hout' : fmOut t bs71 3 45 0 (0 + 1) = (true, m.length + 8, m.length + 8, [PI.of t 3 4 (m.length + 4) false]) := hout
    rw [hout']
    rfl

/-- The page's run: the front matter, then the rest's run. -/
theorem front_lex {c : UInt8} {tp : Int} {m u : List UInt8} {nd : Bool} {r : D} (hc : c.toNat = 43 ∧ tp = 4 ∨ c.toNat = 45 ∧ tp = 3) (hm : m ≠ []) (hl : m.getLast? = some 10) (h1 : begS m 0 [c, c, c] = false) (h2 : hasS m [10, c, c, c] = false) (h3 : hasS m [13] = false)
    (h : Lexes u nd (some 42, d0) r) : Lexes (ahead c m ++ u) nd (some 41, d0) (r.sh (ahead c m).length [PI.of (ahead c m ++ u) tp 4 (m.length + 4) false]) := by
  refine Lexes.step 41 _ _ ?_
  have e1 : stp (ahead c m ++ u) nd 41 d0 = mv (ahead c m).length [PI.of (ahead c m ++ u) tp 4 (m.length + 4) false] (some 42, d0) := by
    show outIntro (ahead c m ++ u) d0 = _
    unfold outIntro
    have hi : inOut (ahead c m ++ u) d0.start d0.pos = _ := intro_fm c tp m u hc hm hl h1 h2 h3
    rw [hi, ahead_len]
    show (some 42, _) = (some 42, _)
    congr 1
    unfold D.sh
    dsimp only
    rw [show d0.pos + (m.length + 8) = m.length + 8 from Nat.zero_add _, show d0.start + (m.length + 8) = m.length + 8 from Nat.zero_add _]
    rfl
  rw [e1]
  exact lexes_sh h rfl

def RI.mv (k : Nat) (x : RI) : RI := { x with pos := x.pos + k }
theorem ptext_sh {a t : List UInt8} (p : PI) : ptext (a ++ t) (p.sh a.length) = ptext t p := by
  obtain ⟨ty, err, segs, lo, hi, fb, str⟩ := p
  cases segs with
  | nil =>
    show ((a ++ t).drop (lo + a.length)).take (hi + a.length - (lo + a.length)) = _
    rw [drop_sh, Nat.add_sub_add_right]
    rfl
  | cons s r =>
    have key : ∀ l : List (Nat × Nat), (l.map fun s => (s.1 + a.length, s.2 + a.length)).flatMap (fun s => ((a ++ t).drop s.1).take (s.2 - s.1)) = l.flatMap fun s => (t.drop s.1).take (s.2 - s.1) := by
      intro l
      induction l with
      | nil => rfl
      | cons x l ih =>
        rw [List.map_cons, List.flatMap_cons, List.flatMap_cons, ih]
        dsimp only
        rw [drop_sh, Nat.add_sub_add_right]
    exact key (s :: r)
theorem told_sh {a t : List UInt8} (p : PI) : told (a ++ t) (p.sh a.length) = (told t p).mv a.length := by
  unfold told
  rw [ptext_sh, sh_pos]
  have e1 : (p.sh a.length).ty = p.ty := by obtain ⟨ty, err, segs, lo, hi, fb, str⟩ := p; cases segs <;> rfl
  have e2 : (p.sh a.length).err = p.err := by obtain ⟨ty, err, segs, lo, hi, fb, str⟩ := p; cases segs <;> rfl
  rw [e1, e2]
  rfl
theorem fix_partsB (t : List UInt8) (p : PI) : (p.fix t).ty = p.ty ∧ (p.fix t).err = p.err ∧ (p.fix t).segs = p.segs ∧ (p.fix t).lo = p.lo ∧ (p.fix t).hi = p.hi ∧ (p.fix t).pos = p.pos := by
  unfold PI.fix
  split <;> exact ⟨rfl, rfl, rfl, rfl, rfl, rfl⟩
theorem told_fm (c : UInt8) (tp : Int) (m u : List UInt8) : told (ahead c m ++ u) (PI.of (ahead c m ++ u) tp 4 (m.length + 4) false) = tell tp 4 m false := by
  obtain ⟨e1, e2, e3, e4, e5, e6⟩ := fix_partsB (ahead c m ++ u) ⟨tp, false, [], 4, m.length + 4, 0, false⟩
  unfold told ptext
  unfold PI.of
  rw [e1, e2, e3, e6]
  dsimp only
  rw [e4, e5]
  show tell tp 4 (((ahead c m ++ u).drop 4).take (m.length + 4 - 4)) false = _
  rw [Nat.add_sub_cancel]
  congr 1
  show ((m ++ [c, c, c, 10]) ++ u).take m.length = m
  rw [List.append_assoc, List.take_left']
  rfl

theorem front_items {c : UInt8} {tp : Int} {m u : List UInt8} {k : Nat} (r : D) (hk : k = (ahead c m).length) :
    (r.sh (ahead c m).length [PI.of (ahead c m ++ u) tp 4 (m.length + 4) false]).ps.map (told (ahead c m ++ u)) = tell tp 4 m false :: (r.ps.map (told u)).map (RI.mv k) := by
  subst hk
  show ([_] ++ r.ps.map (PI.sh (ahead c m).length)).map _ = _
  rw [List.map_append, List.map_map, List.map_map]
  show told _ _ :: _ = _
  rw [told_fm]
  congr 1
  apply List.map_congr_left
  intro p _
  exact told_sh p
end Go.Wk
