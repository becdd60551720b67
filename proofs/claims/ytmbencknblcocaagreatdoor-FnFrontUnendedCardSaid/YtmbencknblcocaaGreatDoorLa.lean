/- The lexer's smallest methods, each as what it does to the lexer's block. -/
import Derived.Test.YtmbencknblcocaaGreatDoorWk4
import Derived.Test.YtmbencknblcocaaGreatDoorSh
import Derived.Lib.MapLaws
import Derived.Lib.Space
namespace Go.Wk
open Go Go.RowKit Go.Proofs
set_option maxRecDepth 100000

/-! ### The library's tables -/
structure Tabs (w : World) : Prop where
  u8 : Lib.Utf8Tabs 2 3 w
  white : Lib.WhiteTab 1 w
  asc : Lib.TabIs PT w "bytes.asciiSpace" .u8 Lib.asciiSpaceTab
  props : Lib.TabIs PT w "unicode.properties" .u8 Lib.propertiesTab
  letter : Lib.RVar 6 Lib.letterT w
  digit : Lib.RVar 7 Lib.digitT w

/-- The library's tables stand, whatever is done from block B on. -/
def TabsB (B : Nat) (w : World) : Prop := ∀ w', Below B w w' → Tabs w'
theorem TabsB.tabs {B : Nat} {w : World} (h : TabsB B w) : Tabs w := h w (Below.refl _ _)
theorem TabsB.below {B : Nat} {w w' : World} (h : TabsB B w) (hb : Below B w w') : TabsB B w' := fun w2 h2 => h w2 (hb.trans h2)
theorem TabsB.ext {B : Nat} {w w' : World} (h : TabsB B w) (hB : B ≤ w.heap.size) (hb : Ext w w') : TabsB B w' := h.below (Below.mono hb hB)

/-! ### The library's functions -/
theorem decodeGo_S (l : List UInt8) (h : l ≠ []) : Lib.decodeGo ⟨⟨l⟩⟩ = Lib.decodeL l := by
  unfold Lib.decodeGo Lib.decodeL
  rw [if_neg (by rw [size_S]; intro e; exact h (List.eq_nil_of_length_eq_zero e))]

theorem decode_fn {w : World} {v : Value} {l : List UInt8} (h : HB w v l) (hl : l ≠ []) (hT : Tabs w) :
    Fn PT 92 [v] w (fun u w' => u = .tuple #[.int .i32 (Lib.decodeL l).1, I (Lib.decodeL l).2] ∧ Ext w w') := by
  obtain ⟨b, a, c, rfl, hc, hcell⟩ := h
  obtain ⟨o, rfl, hcells⟩ := hcell hl
  have h1 := Any7.utf8_DecodeRune Tryz.lays32 ⟨⟨l⟩⟩ b o c w hT.u8 (fun j hj => by
    rw [size_S] at hj
    rw [hcells j hj]
    have : (ByteArray.mk ⟨l⟩).get! j = l[j] := by
      show (Array.mk l)[j]! = _
      simp [hj]
    rw [this])
  rw [size_S, decodeGo_S l hl] at h1
  exact ⟨Calls.mono h1 fun _ _ ⟨he, hb⟩ => ⟨_, he, rfl, hb⟩⟩

theorem letter_fn {w : World} {r : Int} (h0 : -2147483648 ≤ r) (h1 : r ≤ 2147483647) (hT : Tabs w) : Fn PT 172 [.int .i32 r] w (fun u w' => u = .bool (Lib.isLetterU r) ∧ Ext w w') :=
  ⟨Calls.mono (Tryz.unicode_IsLetter_all r w h0 h1 hT.props hT.letter) fun _ _ ⟨he, hb⟩ => ⟨_, he, rfl, hb⟩⟩
theorem digit_fn {w : World} {r : Int} (h0 : -2147483648 ≤ r) (h1 : r ≤ 2147483647) (hT : Tabs w) : Fn PT 173 [.int .i32 r] w (fun u w' => u = .bool (Lib.isDigitU r) ∧ Ext w w') :=
  ⟨Calls.mono (Tryz.unicode_IsDigit_all r w h0 h1 hT.digit) fun _ _ ⟨he, hb⟩ => ⟨_, he, rfl, hb⟩⟩
theorem space_fn {w : World} {r : Int} (h0 : -2147483648 ≤ r) (h1 : r ≤ 2147483647) (hT : Tabs w) : Fn PT 108 [.int .i32 r] w (fun u w' => u = .bool (Lib.isSpaceZ r) ∧ Ext w w') :=
  ⟨Calls.mono (Tryz.unicode_IsSpace_any r w h0 h1 hT.white) fun _ _ ⟨he, hb⟩ => ⟨_, he, rfl, hb⟩⟩

/-! ### The lexer's block -/
structure LC where
  ia : Option Addr
  il : Nat
  ic : Nat
  st0 : Value
  st : Value
  pos : Nat
  start : Nat
  width : Nat
  H : Value
  nf : Bool
  nd : Bool
  da : Option Addr
  dl : Nat
  dc : Nat
  chk : Bool
  ld : Int
  rd : Int
  inl : Bool
  name : List UInt8
  clos : Int
  step : Int
  par : Int
  mp : Value
  items : Value
  err : Value

def LC.arr (c : LC) : Array Value := #[.slice c.ia c.il c.ic, c.st0, c.st, I c.pos, I c.start, I c.width, c.H, .bool c.nf, .bool c.nd, (.slice c.da c.dl c.dc), .bool c.chk, I c.ld, I c.rd, .bool c.inl, S c.name, I c.clos, I c.step, I c.par, c.mp, c.items, c.err]

def AtL (L : Nat) (c : LC) (w : World) : Prop := w.heap[L]? = some (.cells c.arr 79 (0, 0))

/-- The lexer's block is c now; nothing else that was there has changed. -/
structure LM (L : Nat) (c : LC) (w w' : World) : Prop where
  at_ : AtL L c w'
  fr : Fr (· = L) w w'

theorem LM.of_upd {L : Nat} {c : LC} {w w' : World} {o : Obj} (h : Upd w L o w') (ho : o = .cells c.arr 79 (0, 0)) : LM L c w w' := ⟨by unfold AtL; rw [← ho]; exact h.here, Fr.of_upd h rfl⟩
theorem LM.refl {L : Nat} {c : LC} {w : World} (h : AtL L c w) : LM L c w w := ⟨h, Fr.refl _ _⟩
theorem LM.trans {L : Nat} {c c' : LC} {a b d : World} (h : LM L c a b) (k : LM L c' b d) : LM L c' a d := ⟨k.at_, h.fr.trans k.fr⟩
theorem LM.ext {L : Nat} {c : LC} {a b d : World} (h : Ext a b) (k : LM L c b d) : LM L c a d := ⟨k.at_, (Fr.of_ext h).trans k.fr⟩
theorem LM.below {L B : Nat} {c : LC} {w w' : World} (h : LM L c w w') (hB : B ≤ L) (hw : B ≤ w.heap.size) : Below B w w' := h.fr.below hw (fun k hk => by subst hk; exact hB)
theorem AtL.lt {L : Nat} {c : LC} {w : World} (h : AtL L c w) : L < w.heap.size := (Array.getElem?_eq_some_iff.1 h).1
theorem AtL.ext {L : Nat} {c : LC} {w w' : World} (h : AtL L c w) (he : Ext w w') : AtL L c w' := he.block h

/-- What most methods ask: the lexer at L, its input, the tables. -/
structure Lx (L ib B : Nat) (t : List UInt8) (c : LC) (w : World) : Prop where
  at_ : AtL L c w
  inp : HBk ib w (.slice c.ia c.il c.ic) t
  ne : ib ≠ L
  tabs : TabsB B w
  base : B ≤ L
  small : t.length ≤ 1000000
  pos : c.pos ≤ t.length

theorem Lx.lm {L ib B : Nat} {t : List UInt8} {c c' : LC} {w w' : World} (h : Lx L ib B t c w) (hm : LM L c' w w') (hi : Value.slice c'.ia c'.il c'.ic = .slice c.ia c.il c.ic) (hp : c'.pos ≤ t.length) : Lx L ib B t c' w' :=
  ⟨hm.at_, by rw [hi]; exact h.inp.fr hm.fr h.ne, h.ne, h.tabs.below (hm.below h.base (by have := h.at_.lt; have := h.base; omega)), h.base, h.small, hp⟩
theorem Lx.il {L ib B : Nat} {t : List UInt8} {c : LC} {w : World} (h : Lx L ib B t c w) : c.il = t.length ∧ c.il ≤ c.ic := by
  obtain ⟨a, cp, he, hc, _⟩ := h.inp
  simp only [Value.slice.injEq] at he
  obtain ⟨_, h1, h2⟩ := he
  omega
theorem Lx.ext {L ib B : Nat} {t : List UInt8} {c : LC} {w w' : World} (h : Lx L ib B t c w) (he : Ext w w') : Lx L ib B t c w' :=
  ⟨h.at_.ext he, h.inp.ext he, h.ne, h.tabs.ext (by have := h.at_.lt; have := h.base; omega) he, h.base, h.small, h.pos⟩

theorem backup_fn {L : Nat} {c : LC} {w : World} (hL : AtL L c w) (hp : c.width ≤ c.pos) (hb : c.pos ≤ 1000000) :
    Fn PT 98 [Ptr L 0] w (fun v w' => v = .tuple #[] ∧ LM L { c with pos := c.pos - c.width } w w') := by
  refine fn_of Tryz.func98 rfl Tryz.ntmps98 rfl ?_
  have hB := hL
  unfold AtL at hB
  refine CE.draw [0, 0, 0, 0, 0, 0, 0, 0, 0, 0, 0, 2] mixed (by decide +kernel) ?_
  repeat (first | refine RE.d1 (op_move rfl) rfl ?_ | refine RE.d1 (op_assign rfl) rfl ?_ | refine RE.d1 (op_nil rfl) rfl ?_ | refine RE.d1 (op_fieldAddr0 rfl rfl) rfl ?_ | refine RE.d1 (op_fieldAddr rfl rfl) rfl ?_ | refine RE.d1 (op_loadB rfl rfl hB rfl) rfl ?_ | refine RE.d1 (op_loadA rfl rfl hB rfl rfl) rfl ?_ | refine RE.d1 (op_eql rfl rfl) rfl ?_ | refine RE.d1 (op_neq rfl rfl) rfl ?_ | refine RE.d1 (op_lss rfl rfl) rfl ?_ | refine RE.d1 (op_leq rfl rfl) rfl ?_ | refine RE.d1 (op_gtr rfl rfl) rfl ?_ | refine RE.d1 (op_geq rfl rfl) rfl ?_ | refine RE.d1 (op_not_d rfl) rfl ?_ | refine RE.d1 (op_not rfl) rfl ?_ | refine RE.d1 (op_len_sl rfl rfl) rfl ?_ | refine RE.d1 (op_len_s rfl Tryz.underlying9) rfl ?_ | refine RE.d1 (op_extract rfl rfl) rfl ?_ | refine RE.d1 (op_pick_t rfl rfl rfl) rfl ?_ | refine RE.d1 (op_pick_f rfl rfl) rfl ?_ | refine RE.d1 (op_add64 rfl rfl (by omega) (by omega)) rfl ?_ | refine RE.d1 (op_sub64 rfl rfl (by omega) (by omega)) rfl ?_ | refine RE.d1 (op_eql_s rfl rfl) rfl ?_ | refine RE.d1 (op_neq_s rfl rfl) rfl ?_ | refine RE.want rfl rfl ?_ | refine RE.no0 rfl rfl rfl rfl ?_ | refine RE.nilx (show CE _ _ _ _ _ _ _ from ?_))
  refine RE.es1 (e_store rfl rfl rfl hB rfl rfl) ?_
  rintro _ w1 hu
  (refine RE.nilx ?_; (try dsimp only); refine end0 rfl ?_)
  refine ⟨rfl, LM.of_upd hu.undrew ?_⟩
  have e : (((c.pos - c.width : Nat)) : Int) = (c.pos : Int) - c.width := by omega
  simp only [LC.arr, e]
  rfl

theorem ignore_fn {L : Nat} {c : LC} {w : World} (hL : AtL L c w) :
    Fn PT 95 [Ptr L 0] w (fun v w' => v = .tuple #[] ∧ LM L { c with start := c.pos } w w') := by
  refine fn_of Tryz.func95 rfl Tryz.ntmps95 rfl ?_
  have hB := hL
  unfold AtL at hB
  repeat (first | refine CE.seq ?_ | refine CE.text ?_ | refine RE.x (op_move rfl) rfl ?_ | refine RE.x (op_assign rfl) rfl ?_ | refine RE.x (op_nil rfl) rfl ?_ | refine RE.x (op_fieldAddr0 rfl rfl) rfl ?_ | refine RE.x (op_fieldAddr rfl rfl) rfl ?_ | refine RE.x (op_loadB rfl rfl hB rfl) rfl ?_ | refine RE.x (op_loadA rfl rfl hB rfl rfl) rfl ?_ | refine RE.x (op_eql rfl rfl) rfl ?_ | refine RE.x (op_neq rfl rfl) rfl ?_ | refine RE.x (op_lss rfl rfl) rfl ?_ | refine RE.x (op_leq rfl rfl) rfl ?_ | refine RE.x (op_gtr rfl rfl) rfl ?_ | refine RE.x (op_geq rfl rfl) rfl ?_ | refine RE.x (op_not_d rfl) rfl ?_ | refine RE.x (op_not rfl) rfl ?_ | refine RE.x (op_len_sl rfl rfl) rfl ?_ | refine RE.x (op_len_s rfl Tryz.underlying9) rfl ?_ | refine RE.x (op_extract rfl rfl) rfl ?_ | refine RE.x (op_pick_t rfl rfl rfl) rfl ?_ | refine RE.x (op_pick_f rfl rfl) rfl ?_ | refine RE.x (op_add64 rfl rfl (by omega) (by omega)) rfl ?_ | refine RE.x (op_sub64 rfl rfl (by omega) (by omega)) rfl ?_ | refine RE.x (op_eql_s rfl rfl) rfl ?_ | refine RE.x (op_neq_s rfl rfl) rfl ?_ | refine RE.want rfl rfl ?_ | refine RE.nox rfl rfl rfl rfl ?_ | refine RE.nou rfl rfl rfl ?_ | refine RE.nilx (show CE _ _ _ _ _ _ _ from ?_) | refine CE.block ?_ | refine CE.scope ?_ | refine CE.label (show CE _ _ _ _ _ _ _ from ?_) | refine CE.skip (show CE _ _ _ _ _ _ _ from ?_) | refine CE.exit (show CE _ _ _ _ _ _ _ from ?_) | refine CE.cond_t rfl ?_ | refine CE.cond_f rfl ?_)
  refine RE.xs (e_store rfl rfl rfl hB rfl rfl) ?_
  rintro _ w1 hu
  (refine RE.nilx ?_; (try dsimp only); refine end0 rfl ?_)
  exact ⟨rfl, LM.of_upd hu rfl⟩

theorem isEOF_fn {L ib B : Nat} {t : List UInt8} {c : LC} {w : World} (h : Lx L ib B t c w) :
    Fn PT 76 [Ptr L 0] w (fun v w' => v = .bool (decide (t.length ≤ c.pos)) ∧ Ext w w') := by
  refine fn_of Tryz.func76 rfl Tryz.ntmps76 rfl ?_
  have hB := h.at_
  unfold AtL at hB
  repeat (first | refine CE.seq ?_ | refine CE.text ?_ | refine RE.x (op_move rfl) rfl ?_ | refine RE.x (op_assign rfl) rfl ?_ | refine RE.x (op_nil rfl) rfl ?_ | refine RE.x (op_fieldAddr0 rfl rfl) rfl ?_ | refine RE.x (op_fieldAddr rfl rfl) rfl ?_ | refine RE.x (op_loadB rfl rfl hB rfl) rfl ?_ | refine RE.x (op_loadA rfl rfl hB rfl rfl) rfl ?_ | refine RE.x (op_eql rfl rfl) rfl ?_ | refine RE.x (op_neq rfl rfl) rfl ?_ | refine RE.x (op_lss rfl rfl) rfl ?_ | refine RE.x (op_leq rfl rfl) rfl ?_ | refine RE.x (op_gtr rfl rfl) rfl ?_ | refine RE.x (op_geq rfl rfl) rfl ?_ | refine RE.x (op_not_d rfl) rfl ?_ | refine RE.x (op_not rfl) rfl ?_ | refine RE.x (op_len_sl rfl rfl) rfl ?_ | refine RE.x (op_len_s rfl Tryz.underlying9) rfl ?_ | refine RE.x (op_extract rfl rfl) rfl ?_ | refine RE.x (op_pick_t rfl rfl rfl) rfl ?_ | refine RE.x (op_pick_f rfl rfl) rfl ?_ | refine RE.x (op_add64 rfl rfl (by omega) (by omega)) rfl ?_ | refine RE.x (op_sub64 rfl rfl (by omega) (by omega)) rfl ?_ | refine RE.x (op_eql_s rfl rfl) rfl ?_ | refine RE.x (op_neq_s rfl rfl) rfl ?_ | refine RE.want rfl rfl ?_ | refine RE.nox rfl rfl rfl rfl ?_ | refine RE.nou rfl rfl rfl ?_ | refine RE.nilx (show CE _ _ _ _ _ _ _ from ?_) | refine CE.block ?_ | refine CE.scope ?_ | refine CE.label (show CE _ _ _ _ _ _ _ from ?_) | refine CE.skip (show CE _ _ _ _ _ _ _ from ?_) | refine CE.exit (show CE _ _ _ _ _ _ _ from ?_) | refine CE.cond_t rfl ?_ | refine CE.cond_f rfl ?_)
  refine CE.draw [0, 0, 0, 0, 0, 0, 0, 0, 0, 0, 0] mixed (by decide +kernel) ?_
  repeat (first | refine RE.d1 (op_move rfl) rfl ?_ | refine RE.d1 (op_assign rfl) rfl ?_ | refine RE.d1 (op_nil rfl) rfl ?_ | refine RE.d1 (op_fieldAddr0 rfl rfl) rfl ?_ | refine RE.d1 (op_fieldAddr rfl rfl) rfl ?_ | refine RE.d1 (op_loadB rfl rfl hB rfl) rfl ?_ | refine RE.d1 (op_loadA rfl rfl hB rfl rfl) rfl ?_ | refine RE.d1 (op_eql rfl rfl) rfl ?_ | refine RE.d1 (op_neq rfl rfl) rfl ?_ | refine RE.d1 (op_lss rfl rfl) rfl ?_ | refine RE.d1 (op_leq rfl rfl) rfl ?_ | refine RE.d1 (op_gtr rfl rfl) rfl ?_ | refine RE.d1 (op_geq rfl rfl) rfl ?_ | refine RE.d1 (op_not_d rfl) rfl ?_ | refine RE.d1 (op_not rfl) rfl ?_ | refine RE.d1 (op_len_sl rfl rfl) rfl ?_ | refine RE.d1 (op_len_s rfl Tryz.underlying9) rfl ?_ | refine RE.d1 (op_extract rfl rfl) rfl ?_ | refine RE.d1 (op_pick_t rfl rfl rfl) rfl ?_ | refine RE.d1 (op_pick_f rfl rfl) rfl ?_ | refine RE.d1 (op_add64 rfl rfl (by omega) (by omega)) rfl ?_ | refine RE.d1 (op_sub64 rfl rfl (by omega) (by omega)) rfl ?_ | refine RE.d1 (op_eql_s rfl rfl) rfl ?_ | refine RE.d1 (op_neq_s rfl rfl) rfl ?_ | refine RE.want rfl rfl ?_ | refine RE.no0 rfl rfl rfl rfl ?_ | refine RE.nilx (show CE _ _ _ _ _ _ _ from ?_))
  (refine CE.ret ?_; (try dsimp only); refine ret1 rfl rfl ?_)
  have := h.il
  refine ⟨?_, Ext.drew w⟩
  rw [this.1]
  simp
end Go.Wk
