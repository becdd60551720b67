/- The walk layer: regions of operations that only make memory, in any order; making slices and maps. -/
import Derived.Test.YtmbencknblcocaaGreatDoorLg
import Derived.Test.YtmbencknblcocaaGreatDoorWk7
import Derived.Laws.OwnMore
namespace Go.Wk
open Go Go.RowKit Go.Proofs

section
variable {P : Program} {R : World → World → Prop} {l : List Oper}

def valsAt (a : Act) (ks : List Nat) : List Value := ks.map fun k => a.tmps.getD k undef

theorem valsAt_put {a : Act} {ks : List Nat} {d : Option Tmp} {v : Value} (h : ∀ k ∈ ks, d ≠ some k) : valsAt (a.put d v) ks = valsAt a ks := by
  unfold valsAt
  refine List.map_congr_left fun k hk => ?_
  cases d with
  | none => rfl
  | some d =>
    have hne : d ≠ k := fun e => h k hk (by rw [e])
    simp only [Act.put, Array.getD_eq_getD_getElem?, Array.getElem?_setIfInBounds_ne hne]

/-- No operation writes what another looks at that does not wait on it; none has a guard. -/
def chkF2 (ops : Array Oper) (idx : Nat → List Nat) : Bool :=
  Region.noSelect ops && (List.range ops.size).all fun i => (List.range ops.size).all fun j =>
    (match ops[i]? with
     | some o => o.guard.isNone && (o.after.all fun e => !(Region.binds .any e) || Nat.blt e.on i) && (i == j || waits .any ops j i || (idx j).all fun k => !(o.dst == some k))
     | none => false)

structure OpF (P : Program) (R : World → World → Prop) (idx : Nat → List Nat) (Ψ : Nat → List Value → World → Prop) (o : Oper) (i : Nat) (a : Act) (w : World) : Prop where
  out : UpC P R (fun v w' => Ψ i (valsAt (a.put o.dst v) (idx i)) w') w ((execOp a.eval o).run P w)

/-- A region of operations that only make memory or look at what is known: each adds its fact, in whatever order. -/
theorem region_facts {n : Nat} {Q : Exit → Act → World → Prop} {a : Act} {w : World} (idx : Nat → List Nat) (Ψ : Nat → List Value → World → Prop) (_hm : P.follows .mixedOrders = true)
    (_hrefl : ∀ w, R w w) (htrans : ∀ a b c, R a b → R b c → R a c) (hn : a.tmps.size = n) (hc : chkF2 l.toArray idx = true)
    (hst : ∀ j vs w w', Ψ j vs w → R w w' → Ψ j vs w')
    (hop : ∀ i o, l[i]? = some o → ∀ b w1, b.tmps.size = n → b.defers = a.defers → R w w1 → (∀ k, (∀ o' ∈ l, o'.dst ≠ some k) → b.tmps.getD k undef = a.tmps.getD k undef) →
      (∀ j, waits .any l.toArray i j = true → Ψ j (valsAt b (idx j)) w1) → OpF P R idx Ψ o i b w1)
    (hend : ∀ b w1, b.tmps.size = n → b.defers = a.defers → R w w1 → (∀ k, (∀ o' ∈ l, o'.dst ≠ some k) → b.tmps.getD k undef = a.tmps.getD k undef) →
      (∀ i, i < l.length → Ψ i (valsAt b (idx i)) w1) → Q .normal b w1) :
    ∀ (w0 : World), R w w0 → wpAny P .any l.toArray Q l.length (Array.replicate l.length false) a w0 := by
  intro w0 hw0
  simp only [chkF2, Bool.and_eq_true] at hc
  obtain ⟨hsel, hall⟩ := hc
  -- how many are not listed yet
  suffices H : ∀ (f : Nat) (listed : Array Bool) (b : Act) (w1 : World), listed.size = l.length → (listed.toList.filter (fun x => !x)).length ≤ f → Closed .any l.toArray listed → b.tmps.size = n → b.defers = a.defers → R w w1 →
      (∀ k, (∀ o' ∈ l, o'.dst ≠ some k) → b.tmps.getD k undef = a.tmps.getD k undef) → (∀ i, listed.getD i false = true → Ψ i (valsAt b (idx i)) w1) → wpAny P .any l.toArray Q f listed b w1 by
    refine H l.length _ a w0 (by simp) ?_ (by have := Closed.init (md := .any) (ops := l.toArray) l.length; exact this) hn rfl hw0 (fun _ _ => rfl) ?_
    · exact Nat.le_trans (List.length_filter_le _ _) (by simp)
    · intro i hi
      exfalso
      rcases Nat.lt_or_ge i l.length with h | h
      · simp [h] at hi
      · simp [h] at hi
  intro f
  induction f with
  | zero =>
    intro listed b w1 hsz hcnt hcl hbn hbd hR hk hfacts
    have hf0 : listed.toList.filter (fun x => !x) = [] := List.eq_nil_of_length_eq_zero (by omega)
    have hlisted : ∀ i, i < l.length → listed.getD i false = true := by
      intro i hi
      have hi' : i < listed.size := by omega
      have : ∀ x ∈ listed.toList, x = true := by
        intro x hx
        cases hxe : x with
        | true => rfl
        | false =>
          exfalso
          have : x ∈ listed.toList.filter (fun x => !x) := List.mem_filter.2 ⟨hx, by simp [hxe]⟩
          rw [hf0] at this
          cases this
      have := this listed[i] (by simp)
      simp [hi', this]
    refine ⟨?_, hend b w1 hbn hbd hR hk fun i hi => hfacts i (hlisted i hi)⟩
    cases hr : Region.ready .any l.toArray listed with
    | nil => rfl
    | cons i rs =>
      exfalso
      have hi : i ∈ Region.ready .any l.toArray listed := by rw [hr]; simp
      obtain ⟨hun, o, ho, _⟩ := mem_ready.1 hi
      have hil : i < l.length := by
        rcases Nat.lt_or_ge i l.length with h | h
        · exact h
        · simp [h] at ho
      have := hlisted i hil
      simp [show i < listed.size by omega] at this hun
      rw [this] at hun
      cases hun
  | succ f ih =>
    intro listed b w1 hsz hcnt hcl hbn hbd hR hk hfacts
    by_cases hr : Region.ready .any l.toArray listed = []
    · -- nothing is ready: all are listed
      have hlisted : ∀ i, i < l.length → listed.getD i false = true := by
        intro i
        induction i using Nat.strongRecOn with
        | _ i ihi =>
          intro hi
          cases hx : listed.getD i false with
          | true => rfl
          | false =>
            exfalso
            have ho : l.toArray[i]? = some l[i] := by simp [hi]
            have : i ∈ Region.ready .any l.toArray listed := mem_ready.2 ⟨by
                simp [show i < listed.size by omega] at hx ⊢
                exact hx, l[i], ho, fun e he hb => by
                have hij := (List.all_eq_true.1 (List.all_eq_true.1 hall i (by simp [hi])) i (by simp [hi]))
                rw [ho] at hij
                simp only [Bool.and_eq_true] at hij
                have he2 := Array.all_eq_true'.1 hij.1.2 e he
                simp only [hb, Bool.not_true, Bool.false_or] at he2
                have hlt : e.on < i := by simpa [Nat.blt_eq] using he2
                have h3 := ihi e.on hlt (by omega)
                have h4 : e.on < listed.size := by omega
                simp [h4] at h3 ⊢
                exact h3⟩
            rw [hr] at this
            cases this
      exact ⟨fun _ => hend b w1 hbn hbd hR hk fun i hi => hfacts i (hlisted i hi), fun i hi => by rw [hr] at hi; cases hi⟩
    · refine ⟨fun h => absurd h hr, fun i hi => ?_⟩
      obtain ⟨hun, o, ho, hdeps⟩ := mem_ready.1 hi
      have hil : i < l.length := by
        rcases Nat.lt_or_ge i l.length with h | h
        · exact h
        · simp [h] at ho
      have ho' : l[i]? = some o := by simpa using ho
      have hii := (List.all_eq_true.1 (List.all_eq_true.1 hall i (by simp [hil])) i (by simp [hil]))
      rw [ho] at hii
      simp only [Bool.and_eq_true, Option.isNone_iff_eq_none] at hii
      have hg : o.guard = none := hii.1.1
      have hu := (hop i o ho' b w1 hbn hbd hR hk fun j hj => by
        obtain ⟨oj, hoj, e, he, hb, hon⟩ := waits_spec hj
        rw [ho] at hoj
        cases hoj
        have := hdeps e he hb
        subst hon
        refine hfacts e.on ?_
        rcases Nat.lt_or_ge e.on listed.size with h | h
        · simp [h] at this ⊢; exact this
        · simp [h] at this).out
      have step : ∀ v w2, R w1 w2 → Ψ i (valsAt (b.put o.dst v) (idx i)) w2 → wpAny P .any l.toArray Q f (listed.setIfInBounds i true) (b.put o.dst v) w2 := by
        intro v w2 hR2 hψ
        refine ih _ _ _ (by simpa using hsz) ?_ (hcl.set hi) (by cases hd : o.dst <;> simp [Act.put, hbn]) (by cases hd : o.dst <;> simp [Act.put, hbd]) (htrans _ _ _ hR hR2) ?_ ?_
        · have hlt : i < listed.toList.length := by simp; omega
          have hfalse : listed.toList[i] = false := by
            have h4 : i < listed.size := by omega
            simp [h4] at hun
            simpa using hun
          have key : ∀ (xs : List Bool) (i : Nat) (h : i < xs.length), xs[i] = false → ((xs.set i true).filter (fun x => !x)).length + 1 = (xs.filter (fun x => !x)).length := by
            intro xs
            induction xs with
            | nil => intro i h; simp at h
            | cons x xs ihx =>
              intro i h hx
              cases i with
              | zero => simp at hx; subst hx; simp
              | succ i =>
                have := ihx i (by simpa using h) (by simpa using hx)
                cases x <;> simp [this] <;> omega
          have := key listed.toList i hlt hfalse
          simp only [Array.toList_setIfInBounds]
          omega
        · intro k hk2
          rw [← hk k hk2]
          have hne : o.dst ≠ some k := hk2 o (List.mem_of_getElem? ho')
          have := valsAt_put (a := b) (ks := [k]) (d := o.dst) (v := v) (by simpa using hne)
          simpa [valsAt] using this
        · intro j hj
          by_cases hij : i = j
          · subst hij; exact hψ
          · have hj' : listed.getD j false = true := by rw [getD_set_ne false hij] at hj; exact hj
            have hjl : j < l.length := by
              rcases Nat.lt_or_ge j listed.size with h | h
              · omega
              · simp [h] at hj'
            have hoj : l.toArray[j]? = some l[j] := by simp [hjl]
            have hnw : waits .any l.toArray j i = false := by
              cases hw : waits .any l.toArray j i with
              | false => rfl
              | true =>
                exfalso
                obtain ⟨oj, hoj', e, he, hb, hon⟩ := waits_spec hw
                have := hcl j oj hoj' hj' e he hb
                rw [hon] at this
                have h4 : i < listed.size := by omega
                simp [h4] at hun this
                rw [this] at hun
                cases hun
            have hijc := (List.all_eq_true.1 (List.all_eq_true.1 hall i (by simp [hil])) j (by simp [hjl]))
            rw [ho] at hijc
            simp only [Bool.and_eq_true, hnw, Bool.or_false, Bool.or_eq_true, beq_iff_eq] at hijc
            rcases hijc.2 with h | h
            · exact absurd h hij
            · rw [valsAt_put (fun k hk3 => by
                have := List.all_eq_true.1 h k hk3
                simpa using this)]
              exact hst j _ _ _ (hfacts j hj') hR2
      unfold Go.wpOp
      simp only [ho]
      rw [if_pos (wanted_none _ _ hg)]
      refine Or.inl ?_
      unfold Oper.wp
      revert hu
      generalize (execOp b.eval o).run P w1 = res
      intro hu
      cases res with
      | halt x w' => exact hu.elim
      | ok nx w' =>
        cases nx <;> simp only [UpC] at hu <;> simp only [Oper.upon]
        case value u => exact step _ _ hu.1 hu.2
        case skip => exact step _ _ hu.1 hu.2
        case enter fid args =>
          refine hu.mono ?_
          rintro e w2 ⟨u, rfl, h1, h2⟩
          exact step _ _ h1 h2

theorem Has.add {n : Nat} {s : Slots} {ds : List Deferred} {a : Act} (h : Has n s ds a) {d : Nat} {v : Value} (hv : a.tmps.getD d undef = v) : Has n ((d, v) :: s) ds a := by
  refine ⟨h.size, h.ds, fun t u hu => ?_⟩
  simp only [look] at hu
  by_cases hdt : d = t
  · subst hdt
    simp at hu
    subst hu
    exact hv
  · have : Nat.beq d t = false := beqF hdt
    rw [this] at hu
    exact h.val t u (by simpa using hu)

/-- No operation writes a known slot. -/
def apartS (l : List Oper) (s : Slots) : Bool := s.all fun p => l.all fun o => !(o.dst == some p.1)

theorem look_mem : ∀ {s : Slots} {t : Nat} {v : Value}, look s t = some v → ∃ p ∈ s, p.1 = t
  | [], _, _, h => by cases h
  | (d, v) :: s, t, u, h => by
    simp only [look] at h
    by_cases hdt : d = t
    · exact ⟨(d, v), by simp, hdt⟩
    · have : Nat.beq d t = false := beqF hdt
      rw [this] at h
      obtain ⟨p, hp, hq⟩ := look_mem (s := s) (by simpa using h)
      exact ⟨p, by simp [hp], hq⟩

theorem CE.drawF {n : Nat} {k : Ks} {s : Slots} {ds : List Deferred} {w : World} {id : Nat} (R : World → World → Prop) (idx : Nat → List Nat) (Ψ : Nat → List Value → World → Prop) (hm : P.follows .mixedOrders = true)
    (hrefl : ∀ w, R w w) (htrans : ∀ a b c, R a b → R b c → R a c) (hc : chkF2 l.toArray idx = true) (hs : apartS l s = true)
    (hst : ∀ j vs w w', Ψ j vs w → R w w' → Ψ j vs w')
    (hop : ∀ i o, l[i]? = some o → ∀ b w1, Has n s ds b → R w.drew w1 → (∀ j, waits .any l.toArray i j = true → Ψ j (valsAt b (idx j)) w1) → OpF P R idx Ψ o i b w1)
    (hend : ∀ b w1, Has n s ds b → R w.drew w1 → (∀ i, i < l.length → Ψ i (valsAt b (idx i)) w1) → k.Q n .normal b w1) :
    CE P n (.region id l.toArray true) k s ds w := by
  refine ⟨fun a ha => wp_region_any hm ?_⟩
  have hhas : ∀ b : Act, b.tmps.size = n → b.defers = a.defers → (∀ k, (∀ o' ∈ l, o'.dst ≠ some k) → b.tmps.getD k undef = a.tmps.getD k undef) → Has n s ds b := by
    intro b h1 h2 h3
    refine ⟨h1, h2.trans ha.ds, fun t v hv => ?_⟩
    rw [h3 t ?_]
    · exact ha.val t v hv
    · obtain ⟨p, hp, rfl⟩ := look_mem hv
      intro o ho e
      have := List.all_eq_true.1 (List.all_eq_true.1 hs p hp) o ho
      simp [e] at this
  have := region_facts (P := P) (R := R) (l := l) (n := n) (Q := k.Q n) (a := a) (w := w.drew) idx Ψ hm hrefl htrans ha.size hc hst
    (fun i o ho b w1 h1 h2 h3 h4 h5 => hop i o ho b w1 (hhas b h1 h2 h4) h3 h5) (fun b w1 h1 h2 h3 h4 h5 => hend b w1 (hhas b h1 h2 h4) h3 h5) w.drew (hrefl _)
  simpa using this
end

section
variable {n : Nat} {s : Slots} {w : World} {dst : Option Tmp} {ty : TypeId} {pos : String} {af : Array Edge} {g : Option (Nat × Bool)} {x y : Operand} {v : Value}

theorem e_make0 (base : Nat) {t e size bytes cp : Nat} {z : Value} (ht : slLook slT t = some (e, size)) (hz : (PT.info? e).map (fun i => (i.zero, i.bytes)) = some (some z, bytes))
    (hx : ev s x = some (I 0)) (hy : ev s y = some (I cp)) (hb : bytes * cp ≤ 281474976710656) (h63 : cp ≤ 9223372036854775807) (hbase : base ≤ w.heap.size) :
    OpE PT ⟨dst, .makeSlice t x y, ty, pos, af, g⟩ n s w (fun u w' => ∃ b, u = Sl b 0 0 cp ∧ b = w.heap.size ∧ w'.ownsRow base e size u 0 [] ∧ Ext w w') := by
  refine ⟨fun ds a ha => ?_⟩
  obtain ⟨hu, i, hi, hs⟩ := sl_spec ht
  rw [hi] at hz
  simp only [Option.map_some, Option.some.injEq, Prod.mk.injEq] at hz
  obtain ⟨hz1, hz2⟩ := hz
  subst hz2
  obtain ⟨w', hr, ho, hg⟩ := run_make_own (P := PT) w base t e i z size hu hi hz1 hs .i64 .i64 cp hb h63 hbase
  refine ⟨_, w', Or.inl ?_, _, rfl, rfl, ho, (grownBy_fr (S := fun _ => False) hg (by intro k hk; cases hk)).ext⟩
  simp only [execOp, ha.ev hx, ha.ev hy, Sem.run_bind]
  rw [hr]
  rfl

theorem e_makeN (base : Nat) {t e size bytes cp : Nat} {z : Value} (ht : slLook slT t = some (e, size)) (hz : (PT.info? e).map (fun i => (i.zero, i.bytes)) = some (some z, bytes))
    (hx : ev s x = some (I cp)) (hy : ev s y = some (I cp)) (hb : bytes * cp ≤ 281474976710656) (hcs : cp * size ≤ 16777216) (h63 : cp ≤ 9223372036854775807) (hbase : base ≤ w.heap.size) :
    OpE PT ⟨dst, .makeSlice t x y, ty, pos, af, g⟩ n s w (fun u w' => ∃ b, u = Sl b 0 cp cp ∧ b = w.heap.size ∧ (∃ xs, w'.ownsRow base e size u cp xs) ∧ Ext w w') := by
  refine ⟨fun ds a ha => ?_⟩
  obtain ⟨hu, i, hi, hs⟩ := sl_spec ht
  rw [hi] at hz
  simp only [Option.map_some, Option.some.injEq, Prod.mk.injEq] at hz
  obtain ⟨hz1, hz2⟩ := hz
  subst hz2
  obtain ⟨w', hr, ho, hg⟩ := run_makeSlice_full (P := PT) (w := w) base t e i z size hu hi hz1 hs .i64 .i64 cp hcs hb h63 hbase
  refine ⟨_, w', Or.inl ?_, _, rfl, rfl, ⟨_, ho⟩, (grownBy_fr (S := fun _ => False) hg (by intro k hk; cases hk)).ext⟩
  simp only [execOp, ha.ev hx, ha.ev hy, Sem.run_bind]
  rw [hr]
  rfl

theorem e_makeMap {t : TypeId} : OpE PT ⟨dst, .makeMap t none, ty, pos, af, g⟩ n s w (fun u w' => u = .map (some w.heap.size) ∧ New w w.heap.size (.map #[] 0) w') := by
  refine ⟨fun ds a ha => ⟨.map (some w.heap.size), w.alloc (.map #[] 0), Or.inl ?_, rfl, new_alloc w _⟩⟩
  simp only [execOp, Sem.run_bind, Option.map_none]
  rfl
end
end Go.Wk
