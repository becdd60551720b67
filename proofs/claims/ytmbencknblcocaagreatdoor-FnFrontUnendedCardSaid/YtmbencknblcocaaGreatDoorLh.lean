/- The lexer's state with its items as data; errorf. -/
import Derived.Test.YtmbencknblcocaaGreatDoorLg
namespace Go.Wk
open Go Go.RowKit Go.Proofs
set_option maxRecDepth 100000

/-- An item as data. -/
structure PI where
  ty : Int
  err : Bool
  segs : List (Nat × Nat)
  lo : Nat
  hi : Nat
  fb : Nat
  str : Bool
deriving DecidableEq
def PI.pos (p : PI) : Nat := match p.segs with | [] => p.lo | s :: _ => s.1
def PI.fix (t : List UInt8) (p : PI) : PI := if h : p.pos < t.length then { p with fb := t[p.pos].toNat } else p
def PI.of (t : List UInt8) (ty : Int) (lo hi : Nat) (str : Bool) : PI := PI.fix t ⟨ty, false, [], lo, hi, 0, str⟩

def segCells (l : List (Nat × Nat)) : List Value := l.flatMap fun s => [I s.1, I s.2]

structure IRep (w : World) (x : IC) (p : PI) : Prop where
  ty : x.ty = p.ty
  lo : x.lo = p.lo
  hi : x.hi = p.hi
  fb : x.fb = p.fb
  str : x.str = p.str
  sn : x.sn = p.segs.length
  ev : (p.err = false ∧ x.ev = .nilIface) ∨ (p.err = true ∧ ∃ b, x.ev = .iface 142 (Ptr b 0))
  seg : p.segs ≠ [] → ∃ b cs, x.sa = some ⟨b, 0, none⟩ ∧ w.heap[b]? = some (.cells cs 94 (0, 0)) ∧ cs.toList.take (2 * p.segs.length) = segCells p.segs

theorem IRep.fr {w w' : World} {x : IC} {p : PI} {S : Nat → Prop} (h : IRep w x p) (hf : Fr S w w') (hS : ∀ b cs, w.heap[b]? = some (.cells cs 94 (0, 0)) → ¬ S b) : IRep w' x p :=
  ⟨h.ty, h.lo, h.hi, h.fb, h.str, h.sn, h.ev, fun hs => let ⟨b, cs, h1, h2, h3⟩ := h.seg hs; ⟨b, cs, h1, hf.block h2 (hS b cs h2), h3⟩⟩
theorem IRep.ext {w w' : World} {x : IC} {p : PI} (h : IRep w x p) (he : Ext w w') : IRep w' x p := h.fr (Fr.of_ext (S := fun _ => False) he) (fun _ _ _ h => h)

theorem IRep.at {w : World} {x : IC} {p : PI} (h : IRep w x p) : x.at w p.pos := by
  unfold IC.at PI.pos
  cases hs : p.segs with
  | nil => exact Or.inl ⟨by rw [h.sn, hs]; rfl, h.lo.symm⟩
  | cons s r =>
    obtain ⟨b, cs, h1, h2, h3⟩ := h.seg (by rw [hs]; simp)
    refine Or.inr ⟨by rw [h.sn, hs]; simp, b, h1, cell_of h2 ?_⟩
    rw [hs] at h3
    have : (cs.toList.take (2 * (s :: r).length))[0]? = some (I s.1) := by rw [h3]; simp [segCells]
    rw [List.getElem?_take] at this
    split at this
    · simpa using this
    · cases this
theorem IRep.evOne {w : World} {x : IC} {p : PI} (h : IRep w x p) : x.ev.oneCell' = true := by
  rcases h.ev with ⟨_, h⟩ | ⟨_, b, h⟩ <;> rw [h] <;> rfl
theorem IRep.fix {w : World} {x : IC} {p : PI} (t : List UInt8) (h : IRep w x p) : IRep w (x.fix t p.pos) (p.fix t) := by
  unfold IC.fix PI.fix
  by_cases hp : p.pos < t.length
  · rw [dif_pos hp, dif_pos hp]
    exact ⟨h.ty, h.lo, h.hi, rfl, h.str, h.sn, h.ev, h.seg⟩
  · rw [dif_neg hp, dif_neg hp]
    exact h

/-- The lexer goes on: its block is c' now; only it and its items have changed. -/
structure LI (L : Nat) (c c' : LC) (w w' : World) : Prop where
  at_ : AtL L c' w'
  fr : Fr (fun q => q = L ∨ c.items.ownBlock = some q) w w'
  nw : ∀ q, c'.items.ownBlock = some q → c.items.ownBlock = some q ∨ w.heap.size ≤ q

theorem LI.of_lm {L : Nat} {c c' : LC} {w w' : World} (h : LM L c' w w') (hi : c'.items = c.items) : LI L c c' w w' :=
  ⟨h.at_, h.fr.mono fun _ _ hk => Or.inl hk, fun _ hq => Or.inl (hi ▸ hq)⟩
theorem LI.refl {L : Nat} {c : LC} {w : World} (h : AtL L c w) : LI L c c w w := ⟨h, Fr.refl _ _, fun _ hq => Or.inl hq⟩
theorem LI.trans {L : Nat} {c c' c'' : LC} {w w' w'' : World} (h : LI L c c' w w') (k : LI L c' c'' w' w'') : LI L c c'' w w'' := by
  refine ⟨k.at_, ⟨k.fr.os.trans h.fr.os, k.fr.tape.trans h.fr.tape, k.fr.output.trans h.fr.output, Nat.le_trans h.fr.size k.fr.size, fun q hq hn => ?_⟩, fun q hq => ?_⟩
  · rw [k.fr.same q (Nat.lt_of_lt_of_le hq h.fr.size) ?_]
    · exact h.fr.same q hq hn
    · rintro (h1 | h1)
      · exact hn (Or.inl h1)
      · rcases h.nw q h1 with h2 | h2
        · exact hn (Or.inr h2)
        · omega
  · rcases k.nw q hq with h1 | h1
    · exact h.nw q h1
    · exact Or.inr (Nat.le_trans h.fr.size h1)
theorem LI.ext_l {L : Nat} {c c' : LC} {w w' w'' : World} (h : Ext w w') (k : LI L c c' w' w'') : LI L c c' w w'' :=
  ⟨k.at_, (Fr.of_ext h).trans k.fr, fun q hq => (k.nw q hq).imp id fun h1 => Nat.le_trans h.size h1⟩
theorem LI.ext_r {L : Nat} {c c' : LC} {w w' w'' : World} (h : LI L c c' w w') (k : Ext w' w'') : LI L c c' w w'' :=
  ⟨h.at_.ext k, h.fr.trans (Fr.of_ext k), h.nw⟩

inductive All2 {α β : Type} (R : α → β → Prop) : List α → List β → Prop
  | nil : All2 R [] []
  | cons {a : α} {b : β} {l : List α} {m : List β} : R a b → All2 R l m → All2 R (a :: l) (b :: m)

/-- The lexer with its items and its divider. -/
structure LS (L ib B : Nat) (t dv : List UInt8) (c : LC) (ps : List PI) (w : World) : Prop where
  lx : Lx L ib B t c w
  ibs : ib < w.heap.size
  own : ∃ xs, Own B w c.items xs ∧ All2 (IRep w) xs ps
  nl : c.items.ownBlock ≠ some L
  ni : c.items.ownBlock ≠ some ib
  div : ∃ db, HBk db w (.slice c.da c.dl c.dc) dv ∧ db ≠ L ∧ c.items.ownBlock ≠ some db ∧ db < w.heap.size
  few : ps.length ≤ 100000000

theorem forall2_mono {α β : Type} {R S : α → β → Prop} (h : ∀ a b, R a b → S a b) : ∀ {l : List α} {m : List β}, All2 R l m → All2 S l m
  | _, _, .nil => .nil
  | _, _, .cons h1 h2 => .cons (h _ _ h1) (forall2_mono h h2)
theorem forall2_len {α β : Type} {R : α → β → Prop} : ∀ {l : List α} {m : List β}, All2 R l m → l.length = m.length
  | _, _, .nil => rfl
  | _, _, .cons _ h2 => by simp [forall2_len h2]
theorem forall2_snoc {α β : Type} {R : α → β → Prop} {a : α} {b : β} : ∀ {l : List α} {m : List β}, All2 R l m → R a b → All2 R (l ++ [a]) (m ++ [b])
  | _, _, .nil, h => .cons h .nil
  | _, _, .cons h1 h2, h => .cons h1 (forall2_snoc h2 h)

theorem Own.tag {B : Nat} {w : World} {v : Value} {xs : List IC} (h : Own B w v xs) {q : Nat} (hq : v.ownBlock = some q) : ∃ cs, w.heap[q]? = some (.cells cs 63 (0, 0)) := by
  rcases h.2 with ⟨rfl, _⟩ | ⟨g, cap, cur, rfl, _, hg, _⟩
  · cases hq
  · simp only [Value.ownBlock, Option.some.injEq] at hq
    subst hq
    exact ⟨_, hg⟩

/-- What a change of the lexer's own block keeps. -/
theorem LS.keep {L ib B : Nat} {t dv : List UInt8} {c c' : LC} {ps : List PI} {w w' : World} (h : LS L ib B t dv c ps w) (hm : LM L c' w w') (hit : c'.items = c.items)
    (hin : Value.slice c'.ia c'.il c'.ic = .slice c.ia c.il c.ic) (hd : Value.slice c'.da c'.dl c'.dc = .slice c.da c.dl c.dc) (hp : c'.pos ≤ t.length) : LS L ib B t dv c' ps w' := by
  obtain ⟨xs, ho, hf⟩ := h.own
  obtain ⟨db, hdb, h1, h2, h3⟩ := h.div
  refine ⟨h.lx.lm hm hin hp, Nat.lt_of_lt_of_le h.ibs hm.fr.size, ⟨xs, ?_, ?_⟩, hit ▸ h.nl, hit ▸ h.ni, ⟨db, ?_, h1, hit ▸ h2, Nat.lt_of_lt_of_le h3 hm.fr.size⟩, h.few⟩
  · rw [hit]
    exact ho.fr hm.fr fun q hq e => h.nl (by rw [hq, e])
  · exact forall2_mono (fun x p hr => hr.fr hm.fr fun b cs hb e => by
      have := h.lx.at_
      unfold AtL at this
      subst e
      rw [this] at hb
      cases hb) hf
  · rw [hd]
    exact hdb.fr hm.fr h1
theorem LS.ext {L ib B : Nat} {t dv : List UInt8} {c : LC} {ps : List PI} {w w' : World} (h : LS L ib B t dv c ps w) (he : Ext w w') : LS L ib B t dv c ps w' := by
  obtain ⟨xs, ho, hf⟩ := h.own
  obtain ⟨db, hdb, h1, h2, h3⟩ := h.div
  exact ⟨h.lx.ext he, Nat.lt_of_lt_of_le h.ibs he.size, ⟨xs, ho.fr (Fr.of_ext (S := fun _ => False) he) (fun _ _ h => h), forall2_mono (fun x p hr => hr.ext he) hf⟩, h.nl, h.ni, ⟨db, hdb.ext he, h1, h2, Nat.lt_of_lt_of_le h3 he.size⟩, h.few⟩

/-- The lexer's append, with its items as data. -/
theorem append_ls {L ib B : Nat} {t dv : List UInt8} {c : LC} {ps : List PI} {w : World} {x : IC} {p : PI} (h : LS L ib B t dv c ps w) (hx : IRep w x p) (hn : ps.length < 100000000) :
    Fn PT 113 [Ptr L 0, x.val] w (fun u w' => u = .tuple #[] ∧ ∃ v, LI L c { c with items := v } w w' ∧ LS L ib B t dv { c with items := v } (ps ++ [p.fix t]) w') := by
  obtain ⟨xs, ho, hf⟩ := h.own
  obtain ⟨db, hdb, h1, h2, h3⟩ := h.div
  have hlen := forall2_len hf
  refine Fn.mono (append_fn h.lx hx.at ho hx.evOne h.nl (by omega)) ?_
  rintro u w' ⟨rfl, ⟨v', hat, hown, hnew⟩, hfr⟩
  have htag : ∀ b cs, w.heap[b]? = some (.cells cs 94 (0, 0)) → ¬ (b = L ∨ c.items.ownBlock = some b) := by
    rintro b cs hb (e | e)
    · have := h.lx.at_
      unfold AtL at this
      subst e
      rw [this] at hb
      cases hb
    · obtain ⟨cs', hcs⟩ := ho.tag e
      rw [hcs] at hb
      cases hb
  have hfar : ∀ q, q < w.heap.size → c.items.ownBlock ≠ some q → v'.ownBlock ≠ some q := fun q hq hn e => by
    rcases hnew q e with h3 | h3
    · exact hn h3
    · omega
  have hLlt := h.lx.at_.lt
  have hBL := h.lx.base
  refine ⟨rfl, v', ⟨hat, hfr, hnew⟩, ⟨hat, h.lx.inp.fr hfr ?_, h.lx.ne, h.lx.tabs.below (hfr.below (by omega) ?_), h.lx.base, h.lx.small, h.lx.pos⟩, Nat.lt_of_lt_of_le h.ibs hfr.size, ⟨xs ++ [x.fix t p.pos], hown, ?_⟩, ?_, ?_, ⟨db, hdb.fr hfr ?_, h1, ?_, Nat.lt_of_lt_of_le h3 hfr.size⟩, ?_⟩
  · rintro (e | e)
    · exact h.lx.ne e
    · exact h.ni e
  · rintro k (e | e)
    · omega
    · exact (ho.lt k e).1
  · exact forall2_snoc (forall2_mono (fun x p hr => hr.fr hfr htag) hf) ((hx.fr hfr htag).fix t)
  · exact hfar L hLlt h.nl
  · exact hfar ib h.ibs h.ni
  · rintro (e | e)
    · exact h1 e
    · exact h2 e
  · exact hfar db h3 h2
  · simp; omega

theorem irep_one (w : World) (ty : Int) (lo hi : Nat) (str : Bool) : IRep w ⟨ty, .nilIface, lo, hi, none, 0, 0, 0, str⟩ ⟨ty, false, [], lo, hi, 0, str⟩ :=
  ⟨rfl, rfl, rfl, rfl, rfl, rfl, Or.inl ⟨rfl, rfl⟩, fun h => absurd rfl h⟩

/-- The error item. -/
def PI.bad (t : List UInt8) (lo hi : Nat) : PI := PI.fix t ⟨0, true, [], lo, hi, 0, false⟩

theorem errorf_fn {L ib B : Nat} {t dv : List UInt8} {c : LC} {ps : List PI} {w : World} {l : List UInt8} {v : Value} (h : LS L ib B t dv c ps w) (hn : ps.length < 100000000) :
    Fn PT 93 [Ptr L 0, S l, v] w (fun u w' => u = .nilFunc ∧ ∃ v, LI L c { c with items := v } w w' ∧ LS L ib B t dv { c with items := v } (ps ++ [PI.bad t c.start c.pos]) w') := by
  refine fn_of Tryz.func93 rfl Tryz.ntmps93 rfl ?_
  have hB := h.lx.at_
  unfold AtL at hB
  have hBd : w.drew.heap[L]? = _ := hB
  repeat (first | refine CE.seq ?_ | refine CE.text ?_ | refine RE.x (op_move rfl) rfl ?_ | refine RE.x (op_assign rfl) rfl ?_ | refine RE.x (op_nil rfl) rfl ?_ | refine RE.x (op_fieldAddr0 rfl rfl) rfl ?_ | refine RE.x (op_fieldAddr rfl rfl) rfl ?_ | refine RE.x (op_eql rfl rfl) rfl ?_ | refine RE.x (op_neq rfl rfl) rfl ?_ | refine RE.x (op_lss rfl rfl) rfl ?_ | refine RE.x (op_leq rfl rfl) rfl ?_ | refine RE.x (op_gtr rfl rfl) rfl ?_ | refine RE.x (op_geq rfl rfl) rfl ?_ | refine RE.x (op_not_d rfl) rfl ?_ | refine RE.x (op_not rfl) rfl ?_ | refine RE.x (op_len_sl rfl rfl) rfl ?_ | refine RE.x (op_len_s rfl Tryz.underlying9) rfl ?_ | refine RE.x (op_extract rfl rfl) rfl ?_ | refine RE.x (op_pick_t rfl rfl rfl) rfl ?_ | refine RE.x (op_pick_f rfl rfl) rfl ?_ | refine RE.x (op_add64 rfl rfl (by omega) (by omega)) rfl ?_ | refine RE.x (op_sub64 rfl rfl (by omega) (by omega)) rfl ?_ | refine RE.x (op_eql_s rfl rfl) rfl ?_ | refine RE.x (op_neq_s rfl rfl) rfl ?_ | refine RE.want rfl rfl ?_ | refine RE.nox rfl rfl rfl rfl ?_ | refine RE.nou rfl rfl rfl ?_ | refine RE.nilx (show CE _ _ _ _ _ _ _ from ?_) | refine CE.block ?_ | refine CE.scope ?_ | refine CE.label (show CE _ _ _ _ _ _ _ from ?_) | refine CE.skip (show CE _ _ _ _ _ _ _ from ?_) | refine CE.exit (show CE _ _ _ _ _ _ _ from ?_) | refine CE.cond_t rfl ?_ | refine CE.cond_f rfl ?_)
  (refine CE.drawA Ext [0, 1] [0, 0, 0, 0, 0, 0, 0, 0, 1, 0, 2] [3, 4, 5, 6, 7, 8, 9, 10, 2, 11, 12] mixed Ext.refl (fun _ _ _ => Ext.trans) (by decide +kernel) ?_); (simp only [pick, nthO, List.cons_append, List.nil_append]); (repeat (first | refine PR.p (fun _ => op_move rfl) rfl ?_ | refine PR.p (fun _ => op_fieldAddr0 rfl rfl) rfl ?_ | refine PR.p (fun _ => op_fieldAddr rfl rfl) rfl ?_)); refine PR.nil ?_
  repeat (first | refine RE.dd (fun _ hw => op_move rfl) rfl Ext.refl ?_ | refine RE.dd (fun _ hw => op_assign rfl) rfl Ext.refl ?_ | refine RE.dd (fun _ hw => op_nil rfl) rfl Ext.refl ?_ | refine RE.dd (fun _ hw => op_fieldAddr0 rfl rfl) rfl Ext.refl ?_ | refine RE.dd (fun _ hw => op_fieldAddr rfl rfl) rfl Ext.refl ?_ | refine RE.dd (fun _ hw => op_loadB rfl rfl (Ext.block hw hBd) rfl) rfl Ext.refl ?_ | refine RE.dd (fun _ hw => op_loadA rfl rfl (Ext.block hw hBd) rfl rfl) rfl Ext.refl ?_ | refine RE.dd (fun _ hw => op_loadB rfl rfl (Ext.block hw.1 hBd) rfl) rfl Ext.refl ?_ | refine RE.dd (fun _ hw => op_loadA rfl rfl (Ext.block hw.1 hBd) rfl rfl) rfl Ext.refl ?_ | refine RE.dd (fun _ hw => op_loadB rfl rfl (Ext.block hw.1.1 hBd) rfl) rfl Ext.refl ?_ | refine RE.dd (fun _ hw => op_loadA rfl rfl (Ext.block hw.1.1 hBd) rfl rfl) rfl Ext.refl ?_ | refine RE.dd (fun _ hw => op_eql rfl rfl) rfl Ext.refl ?_ | refine RE.dd (fun _ hw => op_neq rfl rfl) rfl Ext.refl ?_ | refine RE.dd (fun _ hw => op_lss rfl rfl) rfl Ext.refl ?_ | refine RE.dd (fun _ hw => op_leq rfl rfl) rfl Ext.refl ?_ | refine RE.dd (fun _ hw => op_gtr rfl rfl) rfl Ext.refl ?_ | refine RE.dd (fun _ hw => op_geq rfl rfl) rfl Ext.refl ?_ | refine RE.dd (fun _ hw => op_not_d rfl) rfl Ext.refl ?_ | refine RE.dd (fun _ hw => op_not rfl) rfl Ext.refl ?_ | refine RE.dd (fun _ hw => op_len_sl rfl rfl) rfl Ext.refl ?_ | refine RE.dd (fun _ hw => op_len_s rfl Tryz.underlying9) rfl Ext.refl ?_ | refine RE.dd (fun _ hw => op_extract rfl rfl) rfl Ext.refl ?_ | refine RE.dd (fun _ hw => op_pick_t rfl rfl rfl) rfl Ext.refl ?_ | refine RE.dd (fun _ hw => op_pick_f rfl rfl) rfl Ext.refl ?_ | refine RE.dd (fun _ hw => op_add64 rfl rfl (by omega) (by omega)) rfl Ext.refl ?_ | refine RE.dd (fun _ hw => op_sub64 rfl rfl (by omega) (by omega)) rfl Ext.refl ?_ | refine RE.dd (fun _ hw => op_eql_s rfl rfl) rfl Ext.refl ?_ | refine RE.dd (fun _ hw => op_neq_s rfl rfl) rfl Ext.refl ?_ | refine RE.want rfl rfl ?_ | refine RE.no0 rfl rfl rfl rfl ?_)
  refine RE.gcx (φ := fun u _ => ∃ b, u = .iface 142 (Ptr b 0)) en114 rfl rfl (fun _ _ _ h _ => h) (fun w1 hw1 => errNew_fn) ?_
  rintro _ ⟨_, _, b, rfl⟩
  refine RE.dd (v := (⟨0, .iface 142 (Ptr b 0), c.start, c.pos, none, 0, 0, 0, false⟩ : IC).val) (fun _ _ => op_build rfl (by kernel_rfl)) rfl Ext.refl ?_
  refine RE.ec (Φ := fun w1 u w' => u = .tuple #[] ∧ ∃ v, LI L c { c with items := v } w1 w' ∧ LS L ib B t dv { c with items := v } (ps ++ [PI.bad t c.start c.pos]) w') en113 rfl rfl ?_ ?_
  · rintro w1 ⟨hw1, _⟩
    exact append_ls (x := ⟨0, .iface 142 (Ptr b 0), c.start, c.pos, none, 0, 0, 0, false⟩) (p := ⟨0, true, [], c.start, c.pos, 0, false⟩) (h.ext ((Ext.drew w).trans hw1))
      ⟨rfl, rfl, rfl, rfl, rfl, rfl, Or.inr ⟨rfl, b, rfl⟩, fun h => absurd rfl h⟩ hn
  · rintro w1 ⟨hw1, _⟩ _ w2 ⟨rfl, v2, h2, h3⟩
    refine RE.nil fun w3 hw3 => ?_
    repeat (first | refine CE.seq ?_ | refine CE.text ?_ | refine RE.x (op_move rfl) rfl ?_ | refine RE.x (op_assign rfl) rfl ?_ | refine RE.x (op_nil rfl) rfl ?_ | refine RE.x (op_fieldAddr0 rfl rfl) rfl ?_ | refine RE.x (op_fieldAddr rfl rfl) rfl ?_ | refine RE.x (op_eql rfl rfl) rfl ?_ | refine RE.x (op_neq rfl rfl) rfl ?_ | refine RE.x (op_lss rfl rfl) rfl ?_ | refine RE.x (op_leq rfl rfl) rfl ?_ | refine RE.x (op_gtr rfl rfl) rfl ?_ | refine RE.x (op_geq rfl rfl) rfl ?_ | refine RE.x (op_not_d rfl) rfl ?_ | refine RE.x (op_not rfl) rfl ?_ | refine RE.x (op_len_sl rfl rfl) rfl ?_ | refine RE.x (op_len_s rfl Tryz.underlying9) rfl ?_ | refine RE.x (op_extract rfl rfl) rfl ?_ | refine RE.x (op_pick_t rfl rfl rfl) rfl ?_ | refine RE.x (op_pick_f rfl rfl) rfl ?_ | refine RE.x (op_add64 rfl rfl (by omega) (by omega)) rfl ?_ | refine RE.x (op_sub64 rfl rfl (by omega) (by omega)) rfl ?_ | refine RE.x (op_eql_s rfl rfl) rfl ?_ | refine RE.x (op_neq_s rfl rfl) rfl ?_ | refine RE.want rfl rfl ?_ | refine RE.nox rfl rfl rfl rfl ?_ | refine RE.nou rfl rfl rfl ?_ | refine RE.nilx (show CE _ _ _ _ _ _ _ from ?_) | refine CE.block ?_ | refine CE.scope ?_ | refine CE.label (show CE _ _ _ _ _ _ _ from ?_) | refine CE.skip (show CE _ _ _ _ _ _ _ from ?_) | refine CE.exit (show CE _ _ _ _ _ _ _ from ?_) | refine CE.cond_t rfl ?_ | refine CE.cond_f rfl ?_)
    (refine CE.ret ?_; (try dsimp only); refine ret1 rfl rfl ?_)
    exact ⟨rfl, v2, (LI.ext_l ((Ext.drew w).trans hw1) h2).ext_r hw3, h3.ext hw3⟩
end Go.Wk
