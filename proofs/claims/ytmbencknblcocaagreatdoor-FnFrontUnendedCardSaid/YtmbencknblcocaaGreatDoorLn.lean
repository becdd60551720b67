/- The lexer's run. -/
import Derived.Test.YtmbencknblcocaaGreatDoorLm
import Derived.WideLaws
namespace Go.Wk
open Go Go.RowKit Go.Proofs
set_option maxRecDepth 100000

def isFnT (P : Program) (t : Nat) : Bool := match P.underlying t with | some (.func _ _ _) => true | _ => false
def isIfT (P : Program) (t : Nat) : Bool := match P.underlying t with | some (.interface _) => true | _ => false
theorem isIf_spec {P : Program} {t : Nat} (h : isIfT P t = true) : P.underlying t = some (.interface (P.methodsAt t)) := by
  unfold isIfT at h
  split at h
  · rename_i ms he
    unfold Program.methodsAt
    rw [he]
  · cases h

def isNil : Value → Bool | .nilFunc => true | _ => false
def isNilI : Value → Bool | .nilIface => true | _ => false

theorem run_equalIn_fn {P : Program} (w : World) (d t : Nat) {ps rs : Array TypeId} {vd : Bool} {v : Value} (hu : P.underlying t = some (.func ps rs vd)) (hv : v = .nilFunc ∨ ∃ f, v = fnV f) :
    (Op.equalIn (d + 1) t v .nilFunc).run P w = .ok (isNil v) w := by
  rcases hv with rfl | ⟨f, rfl⟩ <;> simp [Op.equalIn, run_underlying hu, isNil, fnV]

section
variable {n : Nat} {s : Slots} {w : World} {dst : Option Tmp} {ty : TypeId} {pos : String} {af : Array Edge} {g : Option (Nat × Bool)} {x y : Operand} {v : Value} {t t' : TypeId}
theorem op_neq_fn (hx : ev s x = some v) (hv : v = .nilFunc ∨ ∃ f, v = fnV f) (ht : isFnT PT t = true) : Op1 PT ⟨dst, .binOp .neq t x (.const .nilFunc) t', ty, pos, af, g⟩ n s (.bool (!(isNil v))) w := by
  have key : (Op.equal t v .nilFunc).run PT w = .ok (isNil v) w := by
    unfold isFnT at ht
    split at ht
    · rename_i ps rs vd hu
      exact run_equalIn_fn w 9999 t hu hv
    · cases ht
  have key2 : (binOp .neq t v .nilFunc).run PT w = .ok (.bool (!(isNil v))) w := by
    rcases hv with rfl | ⟨f, rfl⟩ <;> (simp only [binOp, fnV] at *; simp [key])
  refine op_bin hx rfl ?_ key2
  rcases hv with rfl | ⟨f, rfl⟩ <;> rfl
theorem op_neq_if (hx : ev s x = some v) (hv : v = .nilIface ∨ ∃ u z, v = .iface u z) (ht : isIfT PT t = true) : Op1 PT ⟨dst, .binOp .neq t x (.const .nilIface) t', ty, pos, af, g⟩ n s (.bool (!(isNilI v))) w := by
  have h := isIf_spec ht
  rcases hv with rfl | ⟨u, z, rfl⟩
  · exact op_bin hx rfl (by simp [eqGuard]) (run_neq_nil_nil w t h)
  · exact op_bin hx rfl (by simp [eqGuard]) (run_neq_held_nil w t u z h)
end

def fvV (f : Option Nat) : Value := match f with | none => .nilFunc | some f => fnV f
theorem fvV_or (f : Option Nat) : fvV f = .nilFunc ∨ ∃ g, fvV f = fnV g := by
  cases f with
  | none => exact Or.inl rfl
  | some f => exact Or.inr ⟨f, rfl⟩
theorem fvV_one (f : Option Nat) : (fvV f).oneCell' = true := by cases f <;> rfl
theorem fvV_nil (f : Option Nat) : isNil (fvV f) = f.isNone := by cases f <;> rfl

theorem run_fn {L : Nat} {α : Type} (fv : α → Option Nat) (I : α → LC → World → Prop) (μ : α → Nat) (x0 : α) {c : LC} {w : World} (h0 : I x0 c w) (hs0 : c.st0 = fvV (fv x0))
    (hI : ∀ x c w, I x c w → AtL L c w)
    (hst : ∀ x c w w' v, I x c w → LM L { c with st := v } w w' → I x { c with st := v } w')
    (hstep : ∀ x c w f, I x c w → fv x = some f → Enters PT f ∧ Fn PT f [Ptr L 0] w (fun u w' => ∃ y c', u = fvV (fv y) ∧ I y c' w' ∧ μ y < μ x)) :
    Fn PT 81 [Ptr L 0] w (fun u w' => u = Ptr L 0 ∧ ∃ x c, fv x = none ∧ I x c w') := by
  refine fn_of Tryz.func81 rfl Tryz.ntmps81 rfl ?_
  have hB := hI _ _ _ h0
  unfold AtL at hB
  repeat (first | refine CE.seq ?_ | refine CE.text ?_ | refine RE.x (op_move rfl) rfl ?_ | refine RE.x (op_assign rfl) rfl ?_ | refine RE.x (op_nil rfl) rfl ?_ | refine RE.x (op_fieldAddr0 rfl rfl) rfl ?_ | refine RE.x (op_fieldAddr rfl rfl) rfl ?_ | refine RE.x (op_loadB rfl rfl hB rfl) rfl ?_ | refine RE.x (op_loadA rfl rfl hB rfl rfl) rfl ?_ | refine RE.x (op_eql rfl rfl) rfl ?_ | refine RE.x (op_neq rfl rfl) rfl ?_ | refine RE.x (op_lss rfl rfl) rfl ?_ | refine RE.x (op_leq rfl rfl) rfl ?_ | refine RE.x (op_gtr rfl rfl) rfl ?_ | refine RE.x (op_geq rfl rfl) rfl ?_ | refine RE.x (op_not_d rfl) rfl ?_ | refine RE.x (op_not rfl) rfl ?_ | refine RE.x (op_len_sl rfl rfl) rfl ?_ | refine RE.x (op_len_s rfl Tryz.underlying9) rfl ?_ | refine RE.x (op_extract rfl rfl) rfl ?_ | refine RE.x (op_pick_t rfl rfl rfl) rfl ?_ | refine RE.x (op_pick_f rfl rfl) rfl ?_ | refine RE.x (op_add64 rfl rfl (by omega) (by omega)) rfl ?_ | refine RE.x (op_sub64 rfl rfl (by omega) (by omega)) rfl ?_ | refine RE.x (op_eql_s rfl rfl) rfl ?_ | refine RE.x (op_neq_s rfl rfl) rfl ?_ | refine RE.want rfl rfl ?_ | refine RE.nox rfl rfl rfl rfl ?_ | refine RE.nou rfl rfl rfl ?_ | refine RE.nilx (show CE _ _ _ _ _ _ _ from ?_) | refine CE.scope ?_ | refine CE.label (show CE _ _ _ _ _ _ _ from ?_) | refine CE.skip (show CE _ _ _ _ _ _ _ from ?_) | refine CE.exit (show CE _ _ _ _ _ _ _ from ?_))
  refine RE.xs (e_store rfl rfl rfl hB rfl (by rw [hs0]; exact fvV_one _)) ?_
  rintro _ w1 hu
  have hm1 : LM L { c with st := c.st0 } w w1 := LM.of_upd hu rfl
  have h1 := hst _ _ _ _ _ h0 hm1
  repeat (first | refine CE.seq ?_ | refine CE.text ?_ | refine RE.x (op_move rfl) rfl ?_ | refine RE.x (op_assign rfl) rfl ?_ | refine RE.x (op_nil rfl) rfl ?_ | refine RE.x (op_fieldAddr0 rfl rfl) rfl ?_ | refine RE.x (op_fieldAddr rfl rfl) rfl ?_ | refine RE.x (op_eql rfl rfl) rfl ?_ | refine RE.x (op_neq rfl rfl) rfl ?_ | refine RE.x (op_lss rfl rfl) rfl ?_ | refine RE.x (op_leq rfl rfl) rfl ?_ | refine RE.x (op_gtr rfl rfl) rfl ?_ | refine RE.x (op_geq rfl rfl) rfl ?_ | refine RE.x (op_not_d rfl) rfl ?_ | refine RE.x (op_not rfl) rfl ?_ | refine RE.x (op_len_sl rfl rfl) rfl ?_ | refine RE.x (op_len_s rfl Tryz.underlying9) rfl ?_ | refine RE.x (op_extract rfl rfl) rfl ?_ | refine RE.x (op_pick_t rfl rfl rfl) rfl ?_ | refine RE.x (op_pick_f rfl rfl) rfl ?_ | refine RE.x (op_add64 rfl rfl (by omega) (by omega)) rfl ?_ | refine RE.x (op_sub64 rfl rfl (by omega) (by omega)) rfl ?_ | refine RE.x (op_eql_s rfl rfl) rfl ?_ | refine RE.x (op_neq_s rfl rfl) rfl ?_ | refine RE.want rfl rfl ?_ | refine RE.nox rfl rfl rfl rfl ?_ | refine RE.nou rfl rfl rfl ?_ | refine RE.nilx (show CE _ _ _ _ _ _ _ from ?_) | refine CE.scope ?_ | refine CE.label (show CE _ _ _ _ _ _ _ from ?_) | refine CE.skip (show CE _ _ _ _ _ _ _ from ?_) | refine CE.exit (show CE _ _ _ _ _ _ _ from ?_))
  refine CE.cut (fun s ds w' => ds = [] ∧ SubL [(0, Ptr L 0)] s ∧ ∃ x c, fv x = none ∧ I x c w') ?_ ?_
  · refine CE.block ?_
    refine CE.loop (α := α) (fun _ => [(0, Ptr L 0)]) (fun x w' => ∃ c, c.st = fvV (fv x) ∧ I x c w') μ x0 ⟨rfl, trivial⟩ ⟨_, hs0, h1⟩ ?_
    rintro x w2 ⟨c2, hst2, hx2⟩
    have hB2 := hI _ _ _ hx2
    unfold AtL at hB2
    repeat (first | refine CE.seq ?_ | refine CE.text ?_ | refine RE.x (op_move rfl) rfl ?_ | refine RE.x (op_assign rfl) rfl ?_ | refine RE.x (op_nil rfl) rfl ?_ | refine RE.x (op_fieldAddr0 rfl rfl) rfl ?_ | refine RE.x (op_fieldAddr rfl rfl) rfl ?_ | refine RE.x (op_loadB rfl rfl hB2 rfl) rfl ?_ | refine RE.x (op_loadA rfl rfl hB2 rfl rfl) rfl ?_ | refine RE.x (op_eql rfl rfl) rfl ?_ | refine RE.x (op_neq rfl rfl) rfl ?_ | refine RE.x (op_lss rfl rfl) rfl ?_ | refine RE.x (op_leq rfl rfl) rfl ?_ | refine RE.x (op_gtr rfl rfl) rfl ?_ | refine RE.x (op_geq rfl rfl) rfl ?_ | refine RE.x (op_not_d rfl) rfl ?_ | refine RE.x (op_not rfl) rfl ?_ | refine RE.x (op_len_sl rfl rfl) rfl ?_ | refine RE.x (op_len_s rfl Tryz.underlying9) rfl ?_ | refine RE.x (op_extract rfl rfl) rfl ?_ | refine RE.x (op_pick_t rfl rfl rfl) rfl ?_ | refine RE.x (op_pick_f rfl rfl) rfl ?_ | refine RE.x (op_add64 rfl rfl (by omega) (by omega)) rfl ?_ | refine RE.x (op_sub64 rfl rfl (by omega) (by omega)) rfl ?_ | refine RE.x (op_eql_s rfl rfl) rfl ?_ | refine RE.x (op_neq_s rfl rfl) rfl ?_ | refine RE.want rfl rfl ?_ | refine RE.nox rfl rfl rfl rfl ?_ | refine RE.nou rfl rfl rfl ?_ | refine RE.nilx (show CE _ _ _ _ _ _ _ from ?_) | refine CE.scope ?_ | refine CE.label (show CE _ _ _ _ _ _ _ from ?_) | refine CE.skip (show CE _ _ _ _ _ _ _ from ?_) | refine CE.exit (show CE _ _ _ _ _ _ _ from ?_))
    refine RE.x (op_neq_fn rfl (by rw [hst2]; exact fvV_or _) (by kernel_rfl)) rfl ?_
    rw [hst2, fvV_nil]
    cases hf : fv x with
    | none =>
      refine RE.nilx (show CE _ _ _ _ _ _ _ from ?_)
      refine CE.cond_f rfl ?_
      refine CE.exit ?_
      exact ⟨rfl, ⟨rfl, trivial⟩, x, c2, hf, hx2⟩
    | some f =>
      obtain ⟨hen, hfn⟩ := hstep x c2 w2 f hx2 hf
      refine RE.nilx (show CE _ _ _ _ _ _ _ from ?_)
      refine CE.cond_t rfl ?_
      refine CE.skip (show CE _ _ _ _ _ _ _ from ?_)
      have hst3 : c2.st = .func (.func f) #[] #[] := by rw [hst2, hf]; rfl
      have hB3 : w2.heap[L]? = some (.cells { c2 with st := .func (.func f) #[] #[] }.arr 79 (0, 0)) := by rw [← hst3]; exact hB2
      repeat (first | refine CE.seq ?_ | refine CE.text ?_ | refine RE.x (op_move rfl) rfl ?_ | refine RE.x (op_assign rfl) rfl ?_ | refine RE.x (op_nil rfl) rfl ?_ | refine RE.x (op_fieldAddr0 rfl rfl) rfl ?_ | refine RE.x (op_fieldAddr rfl rfl) rfl ?_ | refine RE.x (op_loadB rfl rfl hB3 rfl) rfl ?_ | refine RE.x (op_loadA rfl rfl hB3 rfl rfl) rfl ?_ | refine RE.x (op_eql rfl rfl) rfl ?_ | refine RE.x (op_neq rfl rfl) rfl ?_ | refine RE.x (op_lss rfl rfl) rfl ?_ | refine RE.x (op_leq rfl rfl) rfl ?_ | refine RE.x (op_gtr rfl rfl) rfl ?_ | refine RE.x (op_geq rfl rfl) rfl ?_ | refine RE.x (op_not_d rfl) rfl ?_ | refine RE.x (op_not rfl) rfl ?_ | refine RE.x (op_len_sl rfl rfl) rfl ?_ | refine RE.x (op_len_s rfl Tryz.underlying9) rfl ?_ | refine RE.x (op_extract rfl rfl) rfl ?_ | refine RE.x (op_pick_t rfl rfl rfl) rfl ?_ | refine RE.x (op_pick_f rfl rfl) rfl ?_ | refine RE.x (op_add64 rfl rfl (by omega) (by omega)) rfl ?_ | refine RE.x (op_sub64 rfl rfl (by omega) (by omega)) rfl ?_ | refine RE.x (op_eql_s rfl rfl) rfl ?_ | refine RE.x (op_neq_s rfl rfl) rfl ?_ | refine RE.want rfl rfl ?_ | refine RE.nox rfl rfl rfl rfl ?_ | refine RE.nou rfl rfl rfl ?_ | refine RE.nilx (show CE _ _ _ _ _ _ _ from ?_) | refine CE.block ?_ | refine CE.scope ?_ | refine CE.label (show CE _ _ _ _ _ _ _ from ?_) | refine CE.skip (show CE _ _ _ _ _ _ _ from ?_) | refine CE.exit (show CE _ _ _ _ _ _ _ from ?_) | refine CE.cond_t rfl ?_ | refine CE.cond_f rfl ?_)
      refine RE.xcv (f := f) (first := #[]) (cap := #[]) rfl hen rfl rfl rfl hfn ?_
      rintro _ w3 ⟨y, c3, rfl, hy, hlt⟩
      have hB4 := hI _ _ _ hy
      unfold AtL at hB4
      repeat (first | refine CE.seq ?_ | refine CE.text ?_ | refine RE.x (op_move rfl) rfl ?_ | refine RE.x (op_assign rfl) rfl ?_ | refine RE.x (op_nil rfl) rfl ?_ | refine RE.x (op_fieldAddr0 rfl rfl) rfl ?_ | refine RE.x (op_fieldAddr rfl rfl) rfl ?_ | refine RE.x (op_eql rfl rfl) rfl ?_ | refine RE.x (op_neq rfl rfl) rfl ?_ | refine RE.x (op_lss rfl rfl) rfl ?_ | refine RE.x (op_leq rfl rfl) rfl ?_ | refine RE.x (op_gtr rfl rfl) rfl ?_ | refine RE.x (op_geq rfl rfl) rfl ?_ | refine RE.x (op_not_d rfl) rfl ?_ | refine RE.x (op_not rfl) rfl ?_ | refine RE.x (op_len_sl rfl rfl) rfl ?_ | refine RE.x (op_len_s rfl Tryz.underlying9) rfl ?_ | refine RE.x (op_extract rfl rfl) rfl ?_ | refine RE.x (op_pick_t rfl rfl rfl) rfl ?_ | refine RE.x (op_pick_f rfl rfl) rfl ?_ | refine RE.x (op_add64 rfl rfl (by omega) (by omega)) rfl ?_ | refine RE.x (op_sub64 rfl rfl (by omega) (by omega)) rfl ?_ | refine RE.x (op_eql_s rfl rfl) rfl ?_ | refine RE.x (op_neq_s rfl rfl) rfl ?_ | refine RE.want rfl rfl ?_ | refine RE.nox rfl rfl rfl rfl ?_ | refine RE.nou rfl rfl rfl ?_ | refine RE.nilx (show CE _ _ _ _ _ _ _ from ?_) | refine CE.scope ?_ | refine CE.label (show CE _ _ _ _ _ _ _ from ?_) | refine CE.skip (show CE _ _ _ _ _ _ _ from ?_) | refine CE.exit (show CE _ _ _ _ _ _ _ from ?_))
      refine RE.xs (e_store rfl rfl rfl hB4 rfl (fvV_one _)) ?_
      rintro _ w4 hu4
      have hm4 : LM L { c3 with st := fvV (fv y) } w3 w4 := LM.of_upd hu4 rfl
      have h4 := hst _ _ _ _ _ hy hm4
      repeat (first | refine CE.seq ?_ | refine CE.text ?_ | refine RE.x (op_move rfl) rfl ?_ | refine RE.x (op_assign rfl) rfl ?_ | refine RE.x (op_nil rfl) rfl ?_ | refine RE.x (op_fieldAddr0 rfl rfl) rfl ?_ | refine RE.x (op_fieldAddr rfl rfl) rfl ?_ | refine RE.x (op_eql rfl rfl) rfl ?_ | refine RE.x (op_neq rfl rfl) rfl ?_ | refine RE.x (op_lss rfl rfl) rfl ?_ | refine RE.x (op_leq rfl rfl) rfl ?_ | refine RE.x (op_gtr rfl rfl) rfl ?_ | refine RE.x (op_geq rfl rfl) rfl ?_ | refine RE.x (op_not_d rfl) rfl ?_ | refine RE.x (op_not rfl) rfl ?_ | refine RE.x (op_len_sl rfl rfl) rfl ?_ | refine RE.x (op_len_s rfl Tryz.underlying9) rfl ?_ | refine RE.x (op_extract rfl rfl) rfl ?_ | refine RE.x (op_pick_t rfl rfl rfl) rfl ?_ | refine RE.x (op_pick_f rfl rfl) rfl ?_ | refine RE.x (op_add64 rfl rfl (by omega) (by omega)) rfl ?_ | refine RE.x (op_sub64 rfl rfl (by omega) (by omega)) rfl ?_ | refine RE.x (op_eql_s rfl rfl) rfl ?_ | refine RE.x (op_neq_s rfl rfl) rfl ?_ | refine RE.want rfl rfl ?_ | refine RE.nox rfl rfl rfl rfl ?_ | refine RE.nou rfl rfl rfl ?_ | refine RE.nilx (show CE _ _ _ _ _ _ _ from ?_) | refine CE.scope ?_ | refine CE.label (show CE _ _ _ _ _ _ _ from ?_) | refine CE.skip (show CE _ _ _ _ _ _ _ from ?_) | refine CE.exit (show CE _ _ _ _ _ _ _ from ?_))
      refine RE.nilx ?_
      exact ⟨y, hlt, rfl, ⟨rfl, trivial⟩, _, rfl, h4⟩
  · rintro s _ w2 ⟨rfl, hs, x, c2, hx, hI2⟩
    refine CE.sub hs ?_
    repeat (first | refine CE.seq ?_ | refine CE.text ?_ | refine RE.x (op_move rfl) rfl ?_ | refine RE.x (op_assign rfl) rfl ?_ | refine RE.x (op_nil rfl) rfl ?_ | refine RE.x (op_fieldAddr0 rfl rfl) rfl ?_ | refine RE.x (op_fieldAddr rfl rfl) rfl ?_ | refine RE.x (op_eql rfl rfl) rfl ?_ | refine RE.x (op_neq rfl rfl) rfl ?_ | refine RE.x (op_lss rfl rfl) rfl ?_ | refine RE.x (op_leq rfl rfl) rfl ?_ | refine RE.x (op_gtr rfl rfl) rfl ?_ | refine RE.x (op_geq rfl rfl) rfl ?_ | refine RE.x (op_not_d rfl) rfl ?_ | refine RE.x (op_not rfl) rfl ?_ | refine RE.x (op_len_sl rfl rfl) rfl ?_ | refine RE.x (op_len_s rfl Tryz.underlying9) rfl ?_ | refine RE.x (op_extract rfl rfl) rfl ?_ | refine RE.x (op_pick_t rfl rfl rfl) rfl ?_ | refine RE.x (op_pick_f rfl rfl) rfl ?_ | refine RE.x (op_add64 rfl rfl (by omega) (by omega)) rfl ?_ | refine RE.x (op_sub64 rfl rfl (by omega) (by omega)) rfl ?_ | refine RE.x (op_eql_s rfl rfl) rfl ?_ | refine RE.x (op_neq_s rfl rfl) rfl ?_ | refine RE.want rfl rfl ?_ | refine RE.nox rfl rfl rfl rfl ?_ | refine RE.nou rfl rfl rfl ?_ | refine RE.nilx (show CE _ _ _ _ _ _ _ from ?_) | refine CE.block ?_ | refine CE.scope ?_ | refine CE.label (show CE _ _ _ _ _ _ _ from ?_) | refine CE.skip (show CE _ _ _ _ _ _ _ from ?_) | refine CE.exit (show CE _ _ _ _ _ _ _ from ?_) | refine CE.cond_t rfl ?_ | refine CE.cond_f rfl ?_)
    (refine CE.ret ?_; (try dsimp only); refine ret1 rfl rfl ?_)
    exact ⟨rfl, x, c2, hx, hI2⟩
end Go.Wk
