/- The lexer's smallest methods, each as what it does to the lexer's block. -/
import Derived.Test.YtmbencknblcocaaGreatDoorYaa
import Derived.Test.YtmbencknblcocaaGreatDoorYab
import Derived.Lib.MapLaws
import Derived.Lib.Space
namespace Go.Wk
open Go Go.RowKit Go.Proofs
set_option maxRecDepth 100000
structure Tabs (w : World) : Prop where
 u8 : Lib.Utf8Tabs 2 3 w
 white : Lib.WhiteTab 1 w
 asc : Lib.TabIs PT w "bytes.asciiSpace" .u8 Lib.asciiSpaceTab
 props : Lib.TabIs PT w "unicode.properties" .u8 Lib.propertiesTab
 letter : Lib.RVar 6 Lib.letterT w
 digit : Lib.RVar 7 Lib.digitT w
def TabsB (B : Nat) (w : World) : Prop:=∀ w',Below B w w' → Tabs w'
theorem TabsB.tabs {B : Nat} {w : World} (h : TabsB B w) : Tabs w:=h w (Below.refl _ _)
theorem TabsB.below {B : Nat} {w w' : World} (h : TabsB B w) (hb : Below B w w') : TabsB B w':=fun w2 h2 => h w2 (hb.trans h2)
theorem TabsB.ext {B : Nat} {w w' : World} (h : TabsB B w) (hB : B ≤ w.heap.size) (hb : Ext w w') : TabsB B w':=h.below (Below.mono hb hB)
theorem decodeGo_S (l : List UInt8) (h : l ≠ []) : Lib.decodeGo ⟨⟨l⟩⟩ = Lib.decodeL l:=by
 unfold Lib.decodeGo Lib.decodeL
 rw [if_neg (by rw [size_S]; intro e; exact h (List.eq_nil_of_length_eq_zero e))]
theorem decode_fn {w : World} {v : Value} {l : List UInt8} (h : HB w v l) (hl : l ≠ []) (hT : Tabs w) :
  Fn PT 92 [v] w (fun u w' => u = .tuple #[.int .i32 (Lib.decodeL l).1,I (Lib.decodeL l).2] ∧ Ext w w'):=by
 obtain ⟨b,a,c,rfl,hc,hcell⟩:=h
 obtain ⟨o,rfl,hcells⟩:=hcell hl
 have h1:=Any7.utf8_DecodeRune Tryz.lays32 ⟨⟨l⟩⟩ b o c w hT.u8 (fun j hj => by
  rw [size_S] at hj
  rw [hcells j hj]
  have : (ByteArray.mk ⟨l⟩).get! j = l[j]:=by
   show (Array.mk l)[j]! = _
   simp [hj]
  rw [this])
 rw [size_S,decodeGo_S l hl] at h1
 exact ⟨Calls.mono h1 fun _ _ ⟨he,hb⟩ => ⟨_,he,rfl,hb⟩⟩
theorem letter_fn {w : World} {r : Int} (h0 : -2147483648 ≤ r) (h1 : r ≤ 2147483647) (hT : Tabs w) : Fn PT 172 [.int .i32 r] w (fun u w' => u = .bool (Lib.isLetterU r) ∧ Ext w w'):=
 ⟨Calls.mono (Tryz.unicode_IsLetter_all r w h0 h1 hT.props hT.letter) fun _ _ ⟨he,hb⟩ => ⟨_,he,rfl,hb⟩⟩
theorem digit_fn {w : World} {r : Int} (h0 : -2147483648 ≤ r) (h1 : r ≤ 2147483647) (hT : Tabs w) : Fn PT 173 [.int .i32 r] w (fun u w' => u = .bool (Lib.isDigitU r) ∧ Ext w w'):=
 ⟨Calls.mono (Tryz.unicode_IsDigit_all r w h0 h1 hT.digit) fun _ _ ⟨he,hb⟩ => ⟨_,he,rfl,hb⟩⟩
structure LC where
 ia : Option Addr
 il : Nat
 ic : Nat
 st0 : Value
 st : Value
 pos : Nat
 start : Nat
 width : Nat
 H : Value
 nf : Bool
 nd : Bool
 da : Option Addr
 dl : Nat
 dc : Nat
 chk : Bool
 ld : Int
 rd : Int
 inl : Bool
 name : List UInt8
 clos : Int
 step : Int
 par : Int
 mp : Value
 items : Value
 err : Value
def LC.arr (c : LC) : Array Value:=#[.slice c.ia c.il c.ic,c.st0,c.st,I c.pos,I c.start,I c.width,c.H,.bool c.nf,.bool c.nd,(.slice c.da c.dl c.dc),.bool c.chk,I c.ld,I c.rd,.bool c.inl,S c.name,I c.clos,I c.step,I c.par,c.mp,c.items,c.err]
def AtL (L : Nat) (c : LC) (w : World) : Prop:=w.heap[L]? = some (.cells c.arr 79 (0,0))
structure LM (L : Nat) (c : LC) (w w' : World) : Prop where
 at_ : AtL L c w'
 fr : Fr (· = L) w w'
theorem LM.of_upd {L : Nat} {c : LC} {w w' : World} {o : Obj} (h : Upd w L o w') (ho : o = .cells c.arr 79 (0,0)) : LM L c w w':=⟨by unfold AtL; rw [← ho]; exact h.here,Fr.of_upd h rfl⟩
theorem LM.refl {L : Nat} {c : LC} {w : World} (h : AtL L c w) : LM L c w w:=⟨h,Fr.refl _ _⟩
theorem LM.trans {L : Nat} {c c' : LC} {a b d : World} (h : LM L c a b) (k : LM L c' b d) : LM L c' a d:=⟨k.at_,h.fr.trans k.fr⟩
theorem LM.ext {L : Nat} {c : LC} {a b d : World} (h : Ext a b) (k : LM L c b d) : LM L c a d:=⟨k.at_,(Fr.of_ext h).trans k.fr⟩
theorem LM.below {L B : Nat} {c : LC} {w w' : World} (h : LM L c w w') (hB : B ≤ L) (hw : B ≤ w.heap.size) : Below B w w':=h.fr.below hw (fun k hk => by subst hk; exact hB)
theorem AtL.lt {L : Nat} {c : LC} {w : World} (h : AtL L c w) : L < w.heap.size:=(Array.getElem?_eq_some_iff.1 h).1
theorem AtL.ext {L : Nat} {c : LC} {w w' : World} (h : AtL L c w) (he : Ext w w') : AtL L c w':=he.block h
structure Lx (L ib B : Nat) (t : List UInt8) (c : LC) (w : World) : Prop where
 at_ : AtL L c w
 inp : HBk ib w (.slice c.ia c.il c.ic) t
 ne : ib ≠ L
 tabs : TabsB B w
 base : B ≤ L
 small : t.length ≤ 1000000
 pos : c.pos ≤ t.length
theorem Lx.lm {L ib B : Nat} {t : List UInt8} {c c' : LC} {w w' : World} (h : Lx L ib B t c w) (hm : LM L c' w w') (hi : Value.slice c'.ia c'.il c'.ic = .slice c.ia c.il c.ic) (hp : c'.pos ≤ t.length) : Lx L ib B t c' w':=
 ⟨hm.at_,by rw [hi]; exact h.inp.fr hm.fr h.ne,h.ne,h.tabs.below (hm.below h.base (by have:=h.at_.lt; have:=h.base; omega)),h.base,h.small,hp⟩
theorem Lx.il {L ib B : Nat} {t : List UInt8} {c : LC} {w : World} (h : Lx L ib B t c w) : c.il = t.length ∧ c.il ≤ c.ic:=by
 obtain ⟨a,cp,he,hc,_⟩:=h.inp
 simp only [Value.slice.injEq] at he
 obtain ⟨_,h1,h2⟩:=he
 omega
theorem Lx.ext {L ib B : Nat} {t : List UInt8} {c : LC} {w w' : World} (h : Lx L ib B t c w) (he : Ext w w') : Lx L ib B t c w':=
 ⟨h.at_.ext he,h.inp.ext he,h.ne,h.tabs.ext (by have:=h.at_.lt; have:=h.base; omega) he,h.base,h.small,h.pos⟩
theorem backup_fn {L : Nat} {c : LC} {w : World} (hL : AtL L c w) (hp : c.width ≤ c.pos) (hb : c.pos ≤ 1000000) :
  Fn PT 98 [Ptr L 0] w (fun v w' => v = .tuple #[] ∧ LM L { c with pos:=c.pos - c.width } w w'):=by
 refine fn_of Tryz.func98 rfl Tryz.ntmps98 rfl ?_
 have hB:=hL
 unfold AtL at hB
 refine CE.draw [0,0,0,0,0,0,0,0,0,0,0,2] mixed (by decide +kernel) ?_
 repeat(first|refine Y1 rfl rfl ?_|refine Y2 rfl rfl ?_|refine Y3 rfl rfl rfl ?_|refine Y22 rfl rfl hB rfl rfl ?_|refine Y19 rfl rfl (by omega) (by omega) rfl ?_)
 refine RE.es1 (e_store rfl rfl rfl hB rfl rfl) ?_
 rintro _ w1 hu
 (refine RE.nilx ?_; (try dsimp only); refine end0 rfl ?_)
 refine ⟨rfl,LM.of_upd hu.undrew ?_⟩
 have e : (((c.pos - c.width : Nat)) : Int) = (c.pos : Int) - c.width:=by omega
 simp only [LC.arr,e]
 rfl
theorem ignore_fn {L : Nat} {c : LC} {w : World} (hL : AtL L c w) :
  Fn PT 95 [Ptr L 0] w (fun v w' => v = .tuple #[] ∧ LM L { c with start:=c.pos } w w'):=by
 refine fn_of Tryz.func95 rfl Tryz.ntmps95 rfl ?_
 have hB:=hL
 unfold AtL at hB
 repeat(first|refine C1 ?_|refine X1 rfl rfl ?_|refine X2 rfl rfl ?_|refine X3 rfl rfl rfl ?_|refine X22 rfl rfl hB rfl rfl ?_)
 refine RE.xs (e_store rfl rfl rfl hB rfl rfl) ?_
 rintro _ w1 hu
 (refine RE.nilx ?_; (try dsimp only); refine end0 rfl ?_)
 exact ⟨rfl,LM.of_upd hu rfl⟩
theorem isEOF_fn {L ib B : Nat} {t : List UInt8} {c : LC} {w : World} (h : Lx L ib B t c w) :
  Fn PT 76 [Ptr L 0] w (fun v w' => v = .bool (decide (t.length ≤ c.pos)) ∧ Ext w w'):=by
 refine fn_of Tryz.func76 rfl Tryz.ntmps76 rfl ?_
 have hB:=h.at_
 unfold AtL at hB
 repeat(first|refine C0 ?_|refine C1 ?_|refine X0 rfl rfl ?_|refine C2 ?_)
 refine CE.draw [0,0,0,0,0,0,0,0,0,0,0] mixed (by decide +kernel) ?_
 repeat(first|refine Y1 rfl rfl ?_|refine Y0 rfl rfl ?_|refine Y2 rfl rfl ?_|refine Y3 rfl rfl rfl ?_|refine Y22 rfl rfl hB rfl rfl ?_|refine Y10 rfl rfl rfl ?_|refine Y13 rfl rfl rfl ?_|refine C2 ?_)
 (refine CE.ret ?_;(try dsimp only);refine ret1 rfl rfl ?_)
 have:=h.il
 refine ⟨?_,Ext.drew w⟩
 rw [this.1]
 simp
theorem HBk_row {w : World} {b n : Nat} {cs : Array Value} {T : TypeId} {fr : Nat × Nat} {l : List UInt8} (hb : w.heap[b]? = some (.cells cs T fr)) (hn : l.length = n) (hc : cs.toList = l.map B) :
  HBk b w (Sl b 0 n n) l:=by
 subst hn
 refine ⟨_,_,rfl,Nat.le_refl _,fun _ => ⟨0,rfl,fun i hi => ?_⟩⟩
 rw [cell_of_row w b (0 + i) cs T fr hb]
 have : cs[0 + i]? = cs.toList[i]?:=by simp
 rw [this,hc]
 simp [hi]
def Fresh (l : List UInt8) (w : World) (v : Value) (w' : World) : Prop:=∃ b,HBk b w' v l ∧ w.heap.size ≤ b ∧ Ext w w'
def bs70 : List UInt8:=[43,43,43]
theorem delim70_fn (w : World) : Fn PT 70 [] w (Fresh bs70 w):=by
 refine fn_of Tryz.func70 rfl Tryz.ntmps70 rfl ?_
 repeat(first|refine C0 ?_|refine C1 ?_|refine X0 rfl rfl ?_|refine C2 ?_)
 refine RE.xe (e_buildSlice (cells:=#[.int .u8 43,.int .u8 43,.int .u8 43]) (e:=5) rfl (by kernel_rfl) (by kernel_rfl)) rfl ?_
 rintro _ w1 ⟨b,rfl,hn⟩
 refine RE.xe (e_mark rfl hn.here) rfl ?_
 rintro _ w2 ⟨rfl,hu⟩
 repeat(first|refine X0 rfl rfl ?_|refine C2 ?_)
 (refine CE.ret ?_;(try dsimp only);refine ret1 rfl rfl ?_)
 have hnum:=hn.num
 refine ⟨b,HBk_row hu.here rfl rfl,by omega,?_⟩
 exact ⟨hu.os.trans hn.os,hu.tape.trans hn.tape,hu.output.trans hn.output,by have:=hu.size; have:=hn.size; omega,fun k hk => by
  rw [hu.other k (by omega),hn.other k (by omega)]⟩
def bs71 : List UInt8:=[45,45,45]
theorem delim71_fn (w : World) : Fn PT 71 [] w (Fresh bs71 w):=by
 refine fn_of Tryz.func71 rfl Tryz.ntmps71 rfl ?_
 repeat(first|refine C0 ?_|refine C1 ?_|refine X0 rfl rfl ?_|refine C2 ?_)
 refine RE.xe (e_buildSlice (cells:=#[.int .u8 45,.int .u8 45,.int .u8 45]) (e:=5) rfl (by kernel_rfl) (by kernel_rfl)) rfl ?_
 rintro _ w1 ⟨b,rfl,hn⟩
 refine RE.xe (e_mark rfl hn.here) rfl ?_
 rintro _ w2 ⟨rfl,hu⟩
 repeat(first|refine X0 rfl rfl ?_|refine C2 ?_)
 (refine CE.ret ?_;(try dsimp only);refine ret1 rfl rfl ?_)
 have hnum:=hn.num
 refine ⟨b,HBk_row hu.here rfl rfl,by omega,?_⟩
 exact ⟨hu.os.trans hn.os,hu.tape.trans hn.tape,hu.output.trans hn.output,by have:=hu.size; have:=hn.size; omega,fun k hk => by
  rw [hu.other k (by omega),hn.other k (by omega)]⟩
def bs99 : List UInt8:=[35,43]
theorem delim99_fn (w : World) : Fn PT 99 [] w (Fresh bs99 w):=by
 refine fn_of Tryz.func99 rfl Tryz.ntmps99 rfl ?_
 repeat(first|refine C0 ?_|refine C1 ?_|refine X0 rfl rfl ?_|refine C2 ?_)
 refine RE.xe (e_buildSlice (cells:=#[.int .u8 35,.int .u8 43]) (e:=5) rfl (by kernel_rfl) (by kernel_rfl)) rfl ?_
 rintro _ w1 ⟨b,rfl,hn⟩
 refine RE.xe (e_mark rfl hn.here) rfl ?_
 rintro _ w2 ⟨rfl,hu⟩
 repeat(first|refine X0 rfl rfl ?_|refine C2 ?_)
 (refine CE.ret ?_;(try dsimp only);refine ret1 rfl rfl ?_)
 have hnum:=hn.num
 refine ⟨b,HBk_row hu.here rfl rfl,by omega,?_⟩
 exact ⟨hu.os.trans hn.os,hu.tape.trans hn.tape,hu.output.trans hn.output,by have:=hu.size; have:=hn.size; omega,fun k hk => by
  rw [hu.other k (by omega),hn.other k (by omega)]⟩
def bs100 : List UInt8:=[35,32,109,111,114,101]
def bs103 : List UInt8:=[60,33,45,45,109,111,114,101,45,45,62]
def bs120 : List UInt8:=[123,123]
theorem delim120_fn (w : World) : Fn PT 120 [] w (Fresh bs120 w):=by
 refine fn_of Tryz.func120 rfl Tryz.ntmps120 rfl ?_
 repeat(first|refine C0 ?_|refine C1 ?_|refine X0 rfl rfl ?_|refine C2 ?_)
 refine RE.xe (e_buildSlice (cells:=#[.int .u8 123,.int .u8 123]) (e:=5) rfl (by kernel_rfl) (by kernel_rfl)) rfl ?_
 rintro _ w1 ⟨b,rfl,hn⟩
 refine RE.xe (e_mark rfl hn.here) rfl ?_
 rintro _ w2 ⟨rfl,hu⟩
 repeat(first|refine X0 rfl rfl ?_|refine C2 ?_)
 (refine CE.ret ?_;(try dsimp only);refine ret1 rfl rfl ?_)
 have hnum:=hn.num
 refine ⟨b,HBk_row hu.here rfl rfl,by omega,?_⟩
 exact ⟨hu.os.trans hn.os,hu.tape.trans hn.tape,hu.output.trans hn.output,by have:=hu.size; have:=hn.size; omega,fun k hk => by
  rw [hu.other k (by omega),hn.other k (by omega)]⟩
def bs124 : List UInt8:=[123,123,37]
theorem delim124_fn (w : World) : Fn PT 124 [] w (Fresh bs124 w):=by
 refine fn_of Tryz.func124 rfl Tryz.ntmps124 rfl ?_
 repeat(first|refine C0 ?_|refine C1 ?_|refine X0 rfl rfl ?_|refine C2 ?_)
 refine RE.xe (e_buildSlice (cells:=#[.int .u8 123,.int .u8 123,.int .u8 37]) (e:=5) rfl (by kernel_rfl) (by kernel_rfl)) rfl ?_
 rintro _ w1 ⟨b,rfl,hn⟩
 refine RE.xe (e_mark rfl hn.here) rfl ?_
 rintro _ w2 ⟨rfl,hu⟩
 repeat(first|refine X0 rfl rfl ?_|refine C2 ?_)
 (refine CE.ret ?_;(try dsimp only);refine ret1 rfl rfl ?_)
 have hnum:=hn.num
 refine ⟨b,HBk_row hu.here rfl rfl,by omega,?_⟩
 exact ⟨hu.os.trans hn.os,hu.tape.trans hn.tape,hu.output.trans hn.output,by have:=hu.size; have:=hn.size; omega,fun k hk => by
  rw [hu.other k (by omega),hn.other k (by omega)]⟩
def bs137 : List UInt8:=[123,123,60]
theorem delim137_fn (w : World) : Fn PT 137 [] w (Fresh bs137 w):=by
 refine fn_of Tryz.func137 rfl Tryz.ntmps137 rfl ?_
 repeat(first|refine C0 ?_|refine C1 ?_|refine X0 rfl rfl ?_|refine C2 ?_)
 refine RE.xe (e_buildSlice (cells:=#[.int .u8 123,.int .u8 123,.int .u8 60]) (e:=5) rfl (by kernel_rfl) (by kernel_rfl)) rfl ?_
 rintro _ w1 ⟨b,rfl,hn⟩
 refine RE.xe (e_mark rfl hn.here) rfl ?_
 rintro _ w2 ⟨rfl,hu⟩
 repeat(first|refine X0 rfl rfl ?_|refine C2 ?_)
 (refine CE.ret ?_;(try dsimp only);refine ret1 rfl rfl ?_)
 have hnum:=hn.num
 refine ⟨b,HBk_row hu.here rfl rfl,by omega,?_⟩
 exact ⟨hu.os.trans hn.os,hu.tape.trans hn.tape,hu.output.trans hn.output,by have:=hu.size; have:=hn.size; omega,fun k hk => by
  rw [hu.other k (by omega),hn.other k (by omega)]⟩
def bs141 : List UInt8:=[47,42]
theorem delim141_fn (w : World) : Fn PT 141 [] w (Fresh bs141 w):=by
 refine fn_of Tryz.func141 rfl Tryz.ntmps141 rfl ?_
 repeat(first|refine C0 ?_|refine C1 ?_|refine X0 rfl rfl ?_|refine C2 ?_)
 refine RE.xe (e_buildSlice (cells:=#[.int .u8 47,.int .u8 42]) (e:=5) rfl (by kernel_rfl) (by kernel_rfl)) rfl ?_
 rintro _ w1 ⟨b,rfl,hn⟩
 refine RE.xe (e_mark rfl hn.here) rfl ?_
 rintro _ w2 ⟨rfl,hu⟩
 repeat(first|refine X0 rfl rfl ?_|refine C2 ?_)
 (refine CE.ret ?_;(try dsimp only);refine ret1 rfl rfl ?_)
 have hnum:=hn.num
 refine ⟨b,HBk_row hu.here rfl rfl,by omega,?_⟩
 exact ⟨hu.os.trans hn.os,hu.tape.trans hn.tape,hu.output.trans hn.output,by have:=hu.size; have:=hn.size; omega,fun k hk => by
  rw [hu.other k (by omega),hn.other k (by omega)]⟩
def bs152 : List UInt8:=[42,47]
theorem delim152_fn (w : World) : Fn PT 152 [] w (Fresh bs152 w):=by
 refine fn_of Tryz.func152 rfl Tryz.ntmps152 rfl ?_
 repeat(first|refine C0 ?_|refine C1 ?_|refine X0 rfl rfl ?_|refine C2 ?_)
 refine RE.xe (e_buildSlice (cells:=#[.int .u8 42,.int .u8 47]) (e:=5) rfl (by kernel_rfl) (by kernel_rfl)) rfl ?_
 rintro _ w1 ⟨b,rfl,hn⟩
 refine RE.xe (e_mark rfl hn.here) rfl ?_
 rintro _ w2 ⟨rfl,hu⟩
 repeat(first|refine X0 rfl rfl ?_|refine C2 ?_)
 (refine CE.ret ?_;(try dsimp only);refine ret1 rfl rfl ?_)
 have hnum:=hn.num
 refine ⟨b,HBk_row hu.here rfl rfl,by omega,?_⟩
 exact ⟨hu.os.trans hn.os,hu.tape.trans hn.tape,hu.output.trans hn.output,by have:=hu.size; have:=hn.size; omega,fun k hk => by
  rw [hu.other k (by omega),hn.other k (by omega)]⟩
def bs165 : List UInt8:=[37,125,125]
theorem delim165_fn (w : World) : Fn PT 165 [] w (Fresh bs165 w):=by
 refine fn_of Tryz.func165 rfl Tryz.ntmps165 rfl ?_
 repeat(first|refine C0 ?_|refine C1 ?_|refine X0 rfl rfl ?_|refine C2 ?_)
 refine RE.xe (e_buildSlice (cells:=#[.int .u8 37,.int .u8 125,.int .u8 125]) (e:=5) rfl (by kernel_rfl) (by kernel_rfl)) rfl ?_
 rintro _ w1 ⟨b,rfl,hn⟩
 refine RE.xe (e_mark rfl hn.here) rfl ?_
 rintro _ w2 ⟨rfl,hu⟩
 repeat(first|refine X0 rfl rfl ?_|refine C2 ?_)
 (refine CE.ret ?_;(try dsimp only);refine ret1 rfl rfl ?_)
 have hnum:=hn.num
 refine ⟨b,HBk_row hu.here rfl rfl,by omega,?_⟩
 exact ⟨hu.os.trans hn.os,hu.tape.trans hn.tape,hu.output.trans hn.output,by have:=hu.size; have:=hn.size; omega,fun k hk => by
  rw [hu.other k (by omega),hn.other k (by omega)]⟩
def bs166 : List UInt8:=[62,125,125]
theorem delim166_fn (w : World) : Fn PT 166 [] w (Fresh bs166 w):=by
 refine fn_of Tryz.func166 rfl Tryz.ntmps166 rfl ?_
 repeat(first|refine C0 ?_|refine C1 ?_|refine X0 rfl rfl ?_|refine C2 ?_)
 refine RE.xe (e_buildSlice (cells:=#[.int .u8 62,.int .u8 125,.int .u8 125]) (e:=5) rfl (by kernel_rfl) (by kernel_rfl)) rfl ?_
 rintro _ w1 ⟨b,rfl,hn⟩
 refine RE.xe (e_mark rfl hn.here) rfl ?_
 rintro _ w2 ⟨rfl,hu⟩
 repeat(first|refine X0 rfl rfl ?_|refine C2 ?_)
 (refine CE.ret ?_;(try dsimp only);refine ret1 rfl rfl ?_)
 have hnum:=hn.num
 refine ⟨b,HBk_row hu.here rfl rfl,by omega,?_⟩
 exact ⟨hu.os.trans hn.os,hu.tape.trans hn.tape,hu.output.trans hn.output,by have:=hu.size; have:=hn.size; omega,fun k hk => by
  rw [hu.other k (by omega),hn.other k (by omega)]⟩
def bs174 : List UInt8:=[105,110,108,105,110,101,32]
theorem delim174_fn (w : World) : Fn PT 174 [] w (Fresh bs174 w):=by
 refine fn_of Tryz.func174 rfl Tryz.ntmps174 rfl ?_
 repeat(first|refine C0 ?_|refine C1 ?_|refine X0 rfl rfl ?_|refine C2 ?_)
 refine RE.xe (e_buildSlice (cells:=#[.int .u8 105,.int .u8 110,.int .u8 108,.int .u8 105,.int .u8 110,.int .u8 101,.int .u8 32]) (e:=5) rfl (by kernel_rfl) (by kernel_rfl)) rfl ?_
 rintro _ w1 ⟨b,rfl,hn⟩
 refine RE.xe (e_mark rfl hn.here) rfl ?_
 rintro _ w2 ⟨rfl,hu⟩
 repeat(first|refine X0 rfl rfl ?_|refine C2 ?_)
 (refine CE.ret ?_;(try dsimp only);refine ret1 rfl rfl ?_)
 have hnum:=hn.num
 refine ⟨b,HBk_row hu.here rfl rfl,by omega,?_⟩
 exact ⟨hu.os.trans hn.os,hu.tape.trans hn.tape,hu.output.trans hn.output,by have:=hu.size; have:=hn.size; omega,fun k hk => by
  rw [hu.other k (by omega),hn.other k (by omega)]⟩
def isSp (r : Int) : Bool:=decide (r = 9) || decide (r = 10) || decide (r = 11) || decide (r = 12) || decide (r = 13) || decide (r = 32)
def isEol (r : Int) : Bool:=decide (r = 13) || decide (r = 10)
def isAN (r : Int) : Bool:=decide (r = 95) || Lib.isLetterU r || Lib.isDigitU r
def isANH (r : Int) : Bool:=isAN r || decide (r = 45)
theorem isSp_fn (r : Int) (w : World) : Fn PT 74 [.int .i32 r] w (fun v w' => v = .bool (isSp r) ∧ w' = w):=by
 refine fn_of Tryz.func74 rfl Tryz.ntmps74 rfl ?_
 repeat(first|refine C0 ?_|refine C1 ?_|refine X1 rfl rfl ?_|refine X0 rfl rfl ?_|refine X5 rfl rfl rfl ?_|refine C2 ?_|refine CE.block ?_)
 refine CE.cond_d rfl (fun h9 => ?_) (fun h9 => ?_)
 ·repeat(first|refine C0 ?_|refine C1 ?_|refine X0 rfl rfl ?_|refine C2 ?_|refine C3 ?_|refine CE.cond_t rfl ?_)
  (refine CE.ret ?_;(try dsimp only);refine ret1 rfl rfl ?_)
  exact ⟨by simp [isSp,h9],rfl⟩
 repeat(first|refine C0 ?_|refine C1 ?_|refine X0 rfl rfl ?_|refine X5 rfl rfl rfl ?_|refine C2 ?_)
 refine CE.cond_d rfl (fun h10 => ?_) (fun h10 => ?_)
 ·repeat(first|refine C0 ?_|refine C1 ?_|refine X0 rfl rfl ?_|refine C2 ?_|refine C3 ?_|refine CE.cond_t rfl ?_)
  (refine CE.ret ?_;(try dsimp only);refine ret1 rfl rfl ?_)
  exact ⟨by simp [isSp,h10],rfl⟩
 repeat(first|refine C0 ?_|refine C1 ?_|refine X0 rfl rfl ?_|refine X5 rfl rfl rfl ?_|refine C2 ?_)
 refine CE.cond_d rfl (fun h11 => ?_) (fun h11 => ?_)
 ·repeat(first|refine C0 ?_|refine C1 ?_|refine X0 rfl rfl ?_|refine C2 ?_|refine C3 ?_|refine CE.cond_t rfl ?_)
  (refine CE.ret ?_;(try dsimp only);refine ret1 rfl rfl ?_)
  exact ⟨by simp [isSp,h11],rfl⟩
 repeat(first|refine C0 ?_|refine C1 ?_|refine X0 rfl rfl ?_|refine X5 rfl rfl rfl ?_|refine C2 ?_)
 refine CE.cond_d rfl (fun h12 => ?_) (fun h12 => ?_)
 ·repeat(first|refine C0 ?_|refine C1 ?_|refine X0 rfl rfl ?_|refine C2 ?_|refine C3 ?_|refine CE.cond_t rfl ?_)
  (refine CE.ret ?_;(try dsimp only);refine ret1 rfl rfl ?_)
  exact ⟨by simp [isSp,h12],rfl⟩
 repeat(first|refine C0 ?_|refine C1 ?_|refine X0 rfl rfl ?_|refine X5 rfl rfl rfl ?_|refine C2 ?_)
 refine CE.cond_d rfl (fun h13 => ?_) (fun h13 => ?_)
 ·repeat(first|refine C0 ?_|refine C1 ?_|refine X0 rfl rfl ?_|refine C2 ?_|refine C3 ?_|refine CE.cond_t rfl ?_)
  (refine CE.ret ?_;(try dsimp only);refine ret1 rfl rfl ?_)
  exact ⟨by simp [isSp,h13],rfl⟩
 repeat(first|refine C1 ?_|refine X0 rfl rfl ?_|refine X5 rfl rfl rfl ?_|refine C2 ?_)
 refine CE.cond_d rfl (fun h32 => ?_) (fun h32 => ?_)
 ·repeat(first|refine C0 ?_|refine C1 ?_|refine X0 rfl rfl ?_|refine C2 ?_)
  (refine CE.ret ?_;(try dsimp only);refine ret1 rfl rfl ?_)
  exact ⟨by simp [isSp,h32],rfl⟩
 repeat(first|refine C0 ?_|refine C1 ?_|refine X0 rfl rfl ?_|refine C2 ?_|refine C3 ?_)
 (refine CE.ret ?_;(try dsimp only);refine ret1 rfl rfl ?_)
 exact ⟨by simp [isSp,h9,h10,h11,h12,h13,h32],rfl⟩
theorem isEol_fn (r : Int) (w : World) : Fn PT 75 [.int .i32 r] w (fun v w' => v = .bool (isEol r) ∧ w' = w):=by
 refine fn_of Tryz.func75 rfl Tryz.ntmps75 rfl ?_
 repeat(first|refine C0 ?_|refine C1 ?_|refine X1 rfl rfl ?_|refine X0 rfl rfl ?_|refine X5 rfl rfl rfl ?_|refine C2 ?_)
 refine RE.splitD (fun h' => ?_) (fun h' => ?_)
 ·repeat(first|refine X0 rfl rfl ?_|refine X16 rfl rfl rfl rfl ?_|refine RE.nox rfl rfl rfl rfl ?_|refine C2 ?_)
  (refine CE.ret ?_;(try dsimp only);refine ret1 rfl rfl ?_)
  exact ⟨by simp [isEol,h'],rfl⟩
 ·repeat(first|refine X1 rfl rfl ?_|refine X0 rfl rfl ?_|refine X5 rfl rfl rfl ?_|refine X17 rfl rfl rfl ?_|refine RE.want rfl rfl ?_|refine C2 ?_)
  (refine CE.ret ?_;(try dsimp only);refine ret1 rfl rfl ?_)
  exact ⟨by simp [isEol,h'],rfl⟩
theorem isAN_fn {r : Int} {w : World} (h0 : -2147483648 ≤ r) (h1 : r ≤ 2147483647) (hT : ∀ w',Ext w w' → Tabs w') : Fn PT 161 [.int .i32 r] w (fun v w' => v = .bool (isAN r) ∧ Ext w w'):=by
 refine fn_of Tryz.func161 rfl Tryz.ntmps161 rfl ?_
 repeat(first|refine C0 ?_|refine C1 ?_|refine X1 rfl rfl ?_|refine X0 rfl rfl ?_|refine X5 rfl rfl rfl ?_|refine C2 ?_)
 refine RE.splitD (fun h' => ?_) (fun h' => ?_)
 ·repeat(first|refine X1 rfl rfl ?_|refine X0 rfl rfl ?_|refine X16 rfl rfl rfl rfl ?_|refine RE.nox rfl rfl rfl rfl ?_|refine C2 ?_)
  (refine CE.ret ?_;(try dsimp only);refine ret1 rfl rfl ?_)
  exact ⟨by simp [isAN,h'],Ext.refl w⟩
 ·repeat(first|refine X1 rfl rfl ?_|refine RE.want rfl rfl ?_)
  refine RE.xc en172 rfl rfl (letter_fn h0 h1 (hT _ (Ext.refl w))) ?_
  rintro _ w1 ⟨rfl,e1⟩
  repeat(first|refine X1 rfl rfl ?_|refine X17 rfl rfl rfl ?_)
  refine RE.splitH (fun h2 => ?_) (fun h2 => ?_)
  ·repeat(first|refine X0 rfl rfl ?_|refine X16 rfl rfl rfl rfl ?_|refine RE.nox rfl rfl rfl rfl ?_|refine C2 ?_)
   (refine CE.ret ?_;(try dsimp only);refine ret1 rfl rfl ?_)
   exact ⟨by simp [isAN,h2],e1⟩
  ·repeat(first|refine X1 rfl rfl ?_|refine RE.want rfl rfl ?_)
   refine RE.xc en173 rfl rfl (digit_fn h0 h1 (hT _ e1)) ?_
   rintro _ w2 ⟨rfl,e2⟩
   repeat(first|refine X0 rfl rfl ?_|refine X17 rfl rfl rfl ?_|refine C2 ?_)
   (refine CE.ret ?_;(try dsimp only);refine ret1 rfl rfl ?_)
   exact ⟨by simp [isAN,h2,h'],e1.trans e2⟩
theorem isANH_fn {r : Int} {w : World} (h0 : -2147483648 ≤ r) (h1 : r ≤ 2147483647) (hT : ∀ w',Ext w w' → Tabs w') : Fn PT 160 [.int .i32 r] w (fun v w' => v = .bool (isANH r) ∧ Ext w w'):=by
 refine fn_of Tryz.func160 rfl Tryz.ntmps160 rfl ?_
 repeat(first|refine C0 ?_|refine C1 ?_|refine X1 rfl rfl ?_|refine X0 rfl rfl ?_|refine C2 ?_)
 refine RE.xc en161 rfl rfl (isAN_fn h0 h1 hT) ?_
 rintro _ w1 ⟨rfl,e1⟩
 repeat (refine X1 rfl rfl ?_)
 refine RE.splitH (fun h2 => ?_) (fun h2 => ?_)
 ·repeat(first|refine X0 rfl rfl ?_|refine X16 rfl rfl rfl rfl ?_|refine RE.nox rfl rfl rfl rfl ?_|refine C2 ?_)
  (refine CE.ret ?_;(try dsimp only);refine ret1 rfl rfl ?_)
  exact ⟨by simp [isANH,h2],e1⟩
 ·repeat(first|refine X1 rfl rfl ?_|refine X0 rfl rfl ?_|refine X5 rfl rfl rfl ?_|refine X17 rfl rfl rfl ?_|refine RE.want rfl rfl ?_|refine C2 ?_)
  (refine CE.ret ?_;(try dsimp only);refine ret1 rfl rfl ?_)
  exact ⟨by simp [isANH,h2],e1⟩
theorem equal_fn {w : World} {v v' : Value} {l l' : List UInt8} (h : HB w v l) (h' : HB w v' l') : Fn PT 135 [v,v'] w (fun u w' => u = .bool (decide (l = l')) ∧ w' = w):=by
 refine fn_of Tryz.func135 rfl Tryz.ntmps135 rfl ?_
 repeat(first|refine C0 ?_|refine C1 ?_|refine X1 rfl rfl ?_|refine X0 rfl rfl ?_|refine C2 ?_)
 refine RE.x (op_conv_bs rfl h Tryz.underlying42 Tryz.underlying9) rfl ?_
 repeat (refine X1 rfl rfl ?_)
 refine RE.x (op_conv_bs rfl h' Tryz.underlying42 Tryz.underlying9) rfl ?_
 repeat(first|refine X0 rfl rfl ?_|refine X20 rfl rfl rfl ?_|refine C2 ?_)
 (refine CE.ret ?_;(try dsimp only);refine ret1 rfl rfl ?_)
 exact ⟨rfl,rfl⟩
def pre (p l : List UInt8) : Bool:=decide (l.take p.length = p)
theorem hasPrefix_fn {w : World} {v v' : Value} {l l' : List UInt8} (h : HB w v l) (h' : HB w v' l') : Fn PT 116 [v,v'] w (fun u w' => u = .bool (pre l' l) ∧ w' = w):=by
 obtain ⟨b,a,c,rfl,hc,hcell⟩:=h
 obtain ⟨b',a',c',rfl,hc',hcell'⟩:=h'
 refine fn_of Tryz.func116 rfl Tryz.ntmps116 rfl ?_
 repeat(first|refine C0 ?_|refine C1 ?_|refine X1 rfl rfl ?_|refine X0 rfl rfl ?_|refine X10 rfl rfl rfl ?_|refine X13 rfl rfl rfl ?_|refine C2 ?_)
 refine RE.splitD (fun h2' => ?_) (fun h2' => ?_)
 ·skip
  repeat(first|refine X1 rfl rfl ?_|refine X13 rfl rfl rfl ?_|refine RE.want rfl rfl ?_)
  refine RE.x (op_slice_h rfl rfl rfl (by omega) (by omega)) rfl ?_
  repeat(first|refine X1 rfl rfl ?_|refine RE.want rfl rfl ?_)
  have hs : HBk b w (sliced a 0 ((l'.length : Int).toNat) c 1) (l.take l'.length):=by
   have:=HBk.slice (k:=b) (w:=w) (a:=a) (m:=l.length) (c:=c) (l:=l) (i:=0) (j:=l'.length) ⟨_,_,rfl,hc,hcell⟩ (Nat.zero_le _) (by omega)
   simpa using this
  refine RE.xc en135 rfl rfl (equal_fn hs.hb ⟨b',a',c',rfl,hc',hcell'⟩) ?_
  rintro _ w1 ⟨rfl,rfl⟩
  repeat(first|refine X0 rfl rfl ?_|refine X16 rfl rfl rfl rfl ?_|refine C2 ?_)
  (refine CE.ret ?_;(try dsimp only);refine ret1 rfl rfl ?_)
  exact ⟨rfl,rfl⟩
 ·skip
  repeat(first|refine X0 rfl rfl ?_|refine X17 rfl rfl rfl ?_|refine RE.nox rfl rfl rfl rfl ?_|refine C2 ?_)
  (refine CE.ret ?_;(try dsimp only);refine ret1 rfl rfl ?_)
  refine ⟨?_,rfl⟩
  have : ¬ (l.take l'.length = l'):=by
   intro e
   have:=congrArg List.length e
   simp at this
   omega
  simp [pre,this]
def nx (t : List UInt8) (p : Nat) : Int × Nat:=if t.length ≤ p then (-1,0) else (((Lib.decodeL (t.drop p)).1 : Int),(Lib.decodeL (t.drop p)).2)
theorem nx_end {t : List UInt8} {p : Nat} (h : t.length ≤ p) : nx t p = (-1,0):=by simp [nx,h]
theorem nx_in {t : List UInt8} {p : Nat} (h : p < t.length) : nx t p = (((Lib.decodeL (t.drop p)).1 : Int),(Lib.decodeL (t.drop p)).2):=by simp [nx,Nat.not_le.2 h]
theorem nx_le (t : List UInt8) {p : Nat} (h : p ≤ t.length) : p + (nx t p).2 ≤ t.length:=by
 rcases Nat.lt_or_ge p t.length with h1 | h1
 ·rw [nx_in h1]
  have:=Lib.decodeL_le (t.drop p) (by intro e; have:=congrArg List.length e; simp at this; omega)
  simp at this
  show p + (Lib.decodeL (t.drop p)).2 ≤ t.length
  omega
 ·rw [nx_end h1]; exact h
theorem nx_range (t : List UInt8) (p : Nat) : -1 ≤ (nx t p).1 ∧ (nx t p).1 ≤ 1114111:=by
 rcases Nat.lt_or_ge p t.length with h1 | h1
 ·rw [nx_in h1]
  have:=Lib.decodeL_rune (t.drop p)
  exact ⟨by show (-1 : Int) ≤ ((Lib.decodeL (t.drop p)).1 : Int); omega,by show ((Lib.decodeL (t.drop p)).1 : Int) ≤ 1114111; omega⟩
 ·rw [nx_end h1]; exact ⟨by decide,by decide⟩
theorem decodeL_pos (l : List UInt8) : 1 ≤ (Lib.decodeL l).2:=by
 rw [Lib.decodeL_N]
 rcases Lib.decodeN_shape l.length (l.getD 0 0).toNat (l.getD 1 0).toNat (l.getD 2 0).toNat (l.getD 3 0).toNat with ⟨c,e⟩ | ⟨c1,c2,c3,cv,e⟩ | ⟨c1,c2,c3,c4,cv,cs,e⟩ | ⟨c1,c2,c3,c4,c5,cv,cw,e⟩ | e
 all_goals (rw [e]; dsimp only; omega)
theorem nx_pos (t : List UInt8) {p : Nat} (h : p < t.length) : 1 ≤ (nx t p).2:=by rw [nx_in h]; exact decodeL_pos _
theorem hb_drop {w : World} {ib p m c : Nat} {a : Option Addr} {t : List UInt8} (h : HBk ib w (.slice a m c) t) (hp : p ≤ t.length) : HBk ib w (sliced a p m c 1) (t.drop p):=by
 have hm : m = t.length:=by
  obtain ⟨a',c',he,_,_⟩:=h
  simp only [Value.slice.injEq] at he
  exact he.2.1
 subst hm
 have:=HBk.slice h hp (Nat.le_refl _)
 rwa [List.take_of_length_le (by simp)] at this
def LC.nxt (t : List UInt8) (c : LC) : LC:={ c with width:=(nx t c.pos).2,pos:=c.pos + (nx t c.pos).2 }
theorem next_fn {L ib B : Nat} {t : List UInt8} {c : LC} {w : World} (h : Lx L ib B t c w) :
  Fn PT 68 [Ptr L 0] w (fun v w' => v = .int .i32 (nx t c.pos).1 ∧ LM L (c.nxt t) w w'):=by
 refine fn_of Tryz.func68 rfl Tryz.ntmps68 rfl ?_
 have hB:=h.at_
 unfold AtL at hB
 have hil:=h.il
 have hsm:=h.small
 have hps:=h.pos
 repeat(first|refine C0 ?_|refine C1 ?_|refine X0 rfl rfl ?_|refine C2 ?_)
 refine CE.draw [0,0,0,0,0,0,0,0,0,0] mixed (by decide +kernel) ?_
 repeat(first|refine Y1 rfl rfl ?_|refine Y2 rfl rfl ?_|refine Y3 rfl rfl rfl ?_|refine Y22 rfl rfl hB rfl rfl ?_|refine Y10 rfl rfl rfl ?_|refine Y13 rfl rfl rfl ?_|refine C2 ?_)
 refine CE.cond_d rfl (fun hc => ?_) (fun hc => ?_)
 ·have he : t.length ≤ c.pos:=by omega
  repeat(first|refine C0 ?_|refine C1 ?_|refine X1 rfl rfl ?_|refine X2 rfl rfl ?_|refine X3 rfl rfl rfl ?_)
  refine RE.xs (e_store rfl rfl rfl hB rfl rfl) ?_
  rintro _ w1 hu
  repeat(first|refine C0 ?_|refine C1 ?_|refine X0 rfl rfl ?_|refine C2 ?_)
  (refine CE.ret ?_;(try dsimp only);refine ret1 rfl rfl ?_)
  rw [nx_end he]
  refine ⟨rfl,LM.of_upd hu.undrew ?_⟩
  simp only [LC.arr,LC.nxt,nx_end he]
  rfl
 ·have he : c.pos < t.length:=by omega
  repeat(first|refine C0 ?_|refine C3 ?_)
  refine CE.draw [0,0,0,0,0,0,0,0,0,2,0,0,0,0,0] mixed (by decide +kernel) ?_
  repeat(first|refine Y1 rfl rfl ?_|refine Y2 rfl rfl ?_|refine Y3 rfl rfl rfl ?_|refine Y22 rfl rfl hB rfl rfl ?_)
  refine RE.d1 (op_slice_l rfl rfl rfl (by omega) (by omega)) rfl ?_
  have hdrop:=hb_drop h.inp hps
  refine RE.ec1 en92 rfl rfl (decode_fn (l:=t.drop c.pos) (v:=sliced c.ia (c.pos : Int).toNat c.il c.ic 1) ⟨ib,hdrop.ext ((Ext.drew w).trans (Ext.drew _))⟩ (by intro e; have:=congrArg List.length e; simp at this; omega) (h.tabs w.drew.drew (Below.refl _ _).drew.drew)) ?_
  rintro _ w1 ⟨rfl,e1⟩
  have hB1:=e1.block (show w.drew.drew.heap[L]? = _ from hB)
  repeat(first|refine Y1 rfl rfl ?_|refine Y0 rfl rfl ?_|refine Y15 rfl rfl rfl ?_|refine C2 ?_)
  repeat(first|refine C0 ?_|refine C1 ?_|refine X1 rfl rfl ?_|refine X2 rfl rfl ?_|refine X3 rfl rfl rfl ?_)
  refine RE.xs (e_store rfl rfl rfl hB1 rfl rfl) ?_
  rintro _ w2 hu2
  have hB2:=hu2.here
  have hw:=nx_le t hps
  rw [nx_in he] at hw
  have hw' : c.pos + (Lib.decodeL (t.drop c.pos)).2 ≤ t.length:=hw
  repeat(first|refine C0 ?_|refine C2 ?_)
  refine CE.draw [0,0,0,0,0,0,0,0,0,0,0,2] mixed (by decide +kernel) ?_
  repeat(first|refine Y1 rfl rfl ?_|refine Y2 rfl rfl ?_|refine Y3 rfl rfl rfl ?_|refine Y22 rfl rfl hB2 rfl rfl ?_|refine Y18 rfl rfl (by omega) (by omega) rfl ?_)
  refine RE.es1 (e_store rfl rfl rfl hB2 rfl rfl) ?_
  rintro _ w3 hu3
  repeat(first|refine C0 ?_|refine C1 ?_|refine X1 rfl rfl ?_|refine X0 rfl rfl ?_|refine C2 ?_)
  (refine CE.ret ?_;(try dsimp only);refine ret1 rfl rfl ?_)
  rw [nx_in he]
  refine ⟨rfl,?_⟩
  refine LM.ext ((Ext.drew w).trans ((Ext.drew _).trans e1)) ⟨?_,(Fr.of_upd (S:=(· = L)) hu2 rfl).trans (Fr.of_upd hu3.undrew rfl)⟩
  unfold AtL
  rw [hu3.here]
  simp only [LC.arr,LC.nxt,nx_in he]
  rfl
def skipTo (stop : Int → Bool) (t : List UInt8) (p : Nat) : Nat:=
 if _h : p < t.length then (if stop (nx t p).1 then p else skipTo stop t (p + (nx t p).2)) else p
termination_by t.length - p
decreasing_by have:=nx_pos t _h; omega
theorem skipTo_stop {stop : Int → Bool} {t : List UInt8} {p : Nat} (h : t.length ≤ p ∨ stop (nx t p).1 = true) : skipTo stop t p = p:=by
 rw [skipTo]
 split
 ·rename_i hp
  rcases h with h | h
  ·omega
  ·rw [if_pos h]
 ·rfl
theorem skipTo_go {stop : Int → Bool} {t : List UInt8} {p : Nat} (hp : p < t.length) (h : stop (nx t p).1 = false) : skipTo stop t p = skipTo stop t (p + (nx t p).2):=by
 rw [skipTo,dif_pos hp,if_neg (by simp [h])]
theorem skipTo_le {stop : Int → Bool} {t : List UInt8} : ∀ (d p : Nat),t.length - p = d → p ≤ t.length → skipTo stop t p ≤ t.length ∧ p ≤ skipTo stop t p:=by
 intro d
 induction d using Nat.strongRecOn with
 | _ d ih =>
  intro p hd hp
  rcases Nat.lt_or_ge p t.length with h | h
  ·cases hs : stop (nx t p).1 with
   | true => rw [skipTo_stop (Or.inr hs)]; omega
   | false =>
    rw [skipTo_go h hs]
    have h1:=nx_pos t h
    have h2:=nx_le t hp
    have:=ih (t.length - (p + (nx t p).2)) (by omega) (p + (nx t p).2) rfl h2
    omega
  ·rw [skipTo_stop (Or.inl h)]; omega
def notSp (r : Int) : Bool:=!isSp r
def LC.at (t : List UInt8) (c : LC) (p : Nat) : LC:={ c with pos:=p,width:=(nx t p).2 }
theorem Lx.next {L ib B : Nat} {t : List UInt8} {c : LC} {w w' : World} (h : Lx L ib B t c w) (hm : LM L (c.nxt t) w w') : Lx L ib B t (c.nxt t) w':=
 h.lm hm rfl (nx_le t h.pos)
theorem back_nxt {t : List UInt8} {c : LC} : { c.nxt t with pos:=(c.nxt t).pos - (c.nxt t).width } = c.at t c.pos:=by
 simp [LC.nxt,LC.at]
theorem backNext_fn {L ib B : Nat} {t : List UInt8} {c : LC} {w : World} (h : Lx L ib B t (c.nxt t) w) :
  Fn PT 98 [Ptr L 0] w (fun v w' => v = .tuple #[] ∧ LM L (c.at t c.pos) w w'):=by
 have h1:=h.pos
 have h2:=h.small
 have:=backup_fn (c:=c.nxt t) h.at_ (by simp [LC.nxt]) (by omega)
 rwa [back_nxt] at this
theorem consumeSpace_fn {L ib B : Nat} {t : List UInt8} {c : LC} {w : World} (h : Lx L ib B t c w) :
  Fn PT 128 [Ptr L 0] w (fun v w' => v = .tuple #[] ∧ LM L (c.at t (skipTo notSp t c.pos)) w w'):=by
 refine fn_of Tryz.func128 rfl Tryz.ntmps128 rfl ?_
 refine CE.block ?_
 refine CE.loop (α:=LC) (fun _ => [(0,Ptr L 0)]) (fun x w' => Lx L ib B t x w' ∧ LM L x w w' ∧ (∃ q wd,x = { c with pos:=q,width:=wd }) ∧ skipTo notSp t x.pos = skipTo notSp t c.pos)
  (fun x => t.length + 1 - x.pos) c ⟨rfl,trivial⟩ ⟨h,LM.refl h.at_,⟨_,_,rfl⟩,rfl⟩ ?_
 rintro x w0 ⟨hx,hm,⟨q,wd,hq⟩,hs⟩
 have hat : ∀ p,x.at t p = c.at t p:=by intro p; rw [hq]; rfl
 repeat(first|refine C0 ?_|refine C1 ?_|refine X1 rfl rfl ?_|refine CE.block ?_)
 refine RE.xc en68 rfl rfl (next_fn hx) ?_
 rintro _ w1 ⟨rfl,h1⟩
 have hx1:=hx.next h1
 repeat(first|refine C0 ?_|refine C1 ?_|refine X1 rfl rfl ?_|refine X0 rfl rfl ?_|refine X5 rfl rfl rfl ?_|refine C2 ?_)
 refine RE.splitD (fun he => ?_) (fun he => ?_)
 ·repeat(first|refine C0 ?_|refine C1 ?_|refine X1 rfl rfl ?_|refine X16 rfl rfl rfl rfl ?_|refine RE.nox rfl rfl rfl rfl ?_|refine C2 ?_|refine CE.cond_t rfl ?_)
  refine RE.xc en98 rfl rfl (backNext_fn hx1) ?_
  rintro _ w2 ⟨rfl,h2⟩
  repeat (refine C2 ?_)
  (refine CE.ret ?_; (try dsimp only); refine ret0 rfl ?_)
  refine ⟨rfl,?_⟩
  have hend : t.length ≤ x.pos:=by
   rcases Nat.lt_or_ge x.pos t.length with h' | h'
   ·rw [nx_in h'] at he
    have he' : ((Lib.decodeL (t.drop x.pos)).1 : Int) = -1:=he
    omega
   ·exact h'
  rw [← hs,skipTo_stop (Or.inl hend),← hat]
  exact (hm.trans h1).trans h2
 ·repeat(first|refine X1 rfl rfl ?_|refine RE.want rfl rfl ?_)
  refine RE.xc en74 rfl rfl (isSp_fn _ _) ?_
  rintro _ w2 ⟨rfl,rfl⟩
  repeat(first|refine X11 rfl rfl ?_|refine X17 rfl rfl rfl ?_|refine RE.want rfl rfl ?_|refine C2 ?_)
  refine CE.cond_s rfl (fun h3 => ?_) (fun h3 => ?_)
  ·repeat(first|refine C0 ?_|refine C1 ?_|refine X1 rfl rfl ?_)
   refine RE.xc en98 rfl rfl (backNext_fn hx1) ?_
   rintro _ w2 ⟨rfl,h2⟩
   repeat (refine C2 ?_)
   (refine CE.ret ?_; (try dsimp only); refine ret0 rfl ?_)
   refine ⟨rfl,?_⟩
   rw [← hs,skipTo_stop (Or.inr h3),← hat]
   exact (hm.trans h1).trans h2
  ·have hin : x.pos < t.length:=by
    rcases Nat.lt_or_ge x.pos t.length with h' | h'
    ·exact h'
    ·rw [nx_end h'] at he; exact absurd rfl he
   have hps:=nx_pos t hin
   skip
   refine CE.skip ?_
   refine ⟨x.nxt t,?_,rfl,⟨rfl,trivial⟩,hx1,hm.trans h1,⟨_,_,by rw [hq]; rfl⟩,?_⟩
   ·show t.length + 1 - (x.pos + (nx t x.pos).2) < t.length + 1 - x.pos
    omega
   ·rw [← hs,skipTo_go hin h3]
    rfl
theorem peek_fn {L ib B : Nat} {t : List UInt8} {c : LC} {w : World} (h : Lx L ib B t c w) :
  Fn PT 155 [Ptr L 0] w (fun v w' => v = .int .i32 (nx t c.pos).1 ∧ LM L (c.at t c.pos) w w'):=by
 refine fn_of Tryz.func155 rfl Tryz.ntmps155 rfl ?_
 repeat(first|refine C0 ?_|refine C1 ?_|refine X1 rfl rfl ?_|refine X0 rfl rfl ?_|refine C2 ?_)
 refine RE.xc en68 rfl rfl (next_fn h) ?_
 rintro _ w1 ⟨rfl,h1⟩
 repeat(first|refine C0 ?_|refine C1 ?_|refine X1 rfl rfl ?_|refine X0 rfl rfl ?_|refine C2 ?_)
 refine RE.xc en98 rfl rfl (backNext_fn (h.next h1)) ?_
 rintro _ w2 ⟨rfl,h2⟩
 repeat(first|refine C0 ?_|refine C1 ?_|refine X1 rfl rfl ?_|refine X0 rfl rfl ?_|refine C2 ?_)
 (refine CE.ret ?_;(try dsimp only);refine ret1 rfl rfl ?_)
 exact ⟨rfl,h1.trans h2⟩
theorem consumeToSpace_fn {L ib B : Nat} {t : List UInt8} {c : LC} {w : World} (h : Lx L ib B t c w) :
  Fn PT 171 [Ptr L 0] w (fun v w' => v = .tuple #[] ∧ LM L (c.at t (skipTo isSp t c.pos)) w w'):=by
 refine fn_of Tryz.func171 rfl Tryz.ntmps171 rfl ?_
 refine CE.block ?_
 refine CE.loop (α:=LC) (fun _ => [(0,Ptr L 0)]) (fun x w' => Lx L ib B t x w' ∧ LM L x w w' ∧ (∃ q wd,x = { c with pos:=q,width:=wd }) ∧ skipTo isSp t x.pos = skipTo isSp t c.pos)
  (fun x => t.length + 1 - x.pos) c ⟨rfl,trivial⟩ ⟨h,LM.refl h.at_,⟨_,_,rfl⟩,rfl⟩ ?_
 rintro x w0 ⟨hx,hm,⟨q,wd,hq⟩,hs⟩
 have hat : ∀ p,x.at t p = c.at t p:=by intro p; rw [hq]; rfl
 repeat(first|refine C0 ?_|refine C1 ?_|refine X1 rfl rfl ?_|refine CE.block ?_)
 refine RE.xc en68 rfl rfl (next_fn hx) ?_
 rintro _ w1 ⟨rfl,h1⟩
 have hx1:=hx.next h1
 repeat(first|refine C0 ?_|refine C1 ?_|refine X1 rfl rfl ?_|refine X0 rfl rfl ?_|refine X5 rfl rfl rfl ?_|refine C2 ?_)
 refine RE.splitD (fun he => ?_) (fun he => ?_)
 ·repeat(first|refine C0 ?_|refine C1 ?_|refine X1 rfl rfl ?_|refine X16 rfl rfl rfl rfl ?_|refine RE.nox rfl rfl rfl rfl ?_|refine C2 ?_|refine CE.cond_t rfl ?_)
  refine RE.xc en98 rfl rfl (backNext_fn hx1) ?_
  rintro _ w2 ⟨rfl,h2⟩
  repeat (refine C2 ?_)
  (refine CE.ret ?_; (try dsimp only); refine ret0 rfl ?_)
  refine ⟨rfl,?_⟩
  have hend : t.length ≤ x.pos:=by
   rcases Nat.lt_or_ge x.pos t.length with h' | h'
   ·rw [nx_in h'] at he
    have he' : ((Lib.decodeL (t.drop x.pos)).1 : Int) = -1:=he
    omega
   ·exact h'
  rw [← hs,skipTo_stop (Or.inl hend),← hat]
  exact (hm.trans h1).trans h2
 ·repeat(first|refine X1 rfl rfl ?_|refine RE.want rfl rfl ?_)
  refine RE.xc en74 rfl rfl (isSp_fn _ _) ?_
  rintro _ w2 ⟨rfl,rfl⟩
  repeat(first|refine X17 rfl rfl rfl ?_|refine C2 ?_)
  refine CE.cond_s rfl (fun h3 => ?_) (fun h3 => ?_)
  ·repeat(first|refine C0 ?_|refine C1 ?_|refine X1 rfl rfl ?_)
   refine RE.xc en98 rfl rfl (backNext_fn hx1) ?_
   rintro _ w2 ⟨rfl,h2⟩
   repeat (refine C2 ?_)
   (refine CE.ret ?_; (try dsimp only); refine ret0 rfl ?_)
   refine ⟨rfl,?_⟩
   rw [← hs,skipTo_stop (Or.inr h3),← hat]
   exact (hm.trans h1).trans h2
  ·have hin : x.pos < t.length:=by
    rcases Nat.lt_or_ge x.pos t.length with h' | h'
    ·exact h'
    ·rw [nx_end h'] at he; exact absurd rfl he
   have hps:=nx_pos t hin
   skip
   refine CE.skip ?_
   refine ⟨x.nxt t,?_,rfl,⟨rfl,trivial⟩,hx1,hm.trans h1,⟨_,_,by rw [hq]; rfl⟩,?_⟩
   ·show t.length + 1 - (x.pos + (nx t x.pos).2) < t.length + 1 - x.pos
    omega
   ·rw [← hs,skipTo_go hin h3]
    rfl
def fnd (sep l : List UInt8) (i : Nat) : Int:=
 if i + sep.length ≤ l.length then (if (l.drop i).take sep.length = sep then (i : Int) else fnd sep l (i + 1)) else -1
termination_by l.length + 1 - i
decreasing_by omega
theorem indexBytes_fn {w : World} {v v' : Value} {l sep : List UInt8} (h : HB w v l) (h' : HB w v' sep) (hl : l.length ≤ 1000000) (hl' : sep.length ≤ 1000000) :
  Fn PT 136 [v,v'] w (fun u w' => u = I (fnd sep l 0) ∧ Ext w w'):=by
 obtain ⟨b,a,c,rfl,hc,hcell⟩:=h
 obtain ⟨b',a',c',rfl,hc',hcell'⟩:=h'
 have h : HBk b w (.slice a l.length c) l:=⟨_,_,rfl,hc,hcell⟩
 have h' : HBk b' w (.slice a' sep.length c') sep:=⟨_,_,rfl,hc',hcell'⟩
 refine fn_of Tryz.func136 rfl Tryz.ntmps136 rfl ?_
 repeat(first|refine C0 ?_|refine C1 ?_|refine X0 rfl rfl ?_|refine C2 ?_|refine CE.block ?_)
 refine CE.loop (α:=Nat) (fun i => [(5,I i),(1,.slice a' sep.length c'),(0,.slice a l.length c)]) (fun i w' => Ext w w' ∧ fnd sep l i = fnd sep l 0 ∧ i ≤ l.length + 1) (fun i => l.length + 2 - i) 0 ⟨rfl,rfl,rfl,trivial⟩ ⟨Ext.refl w,rfl,by omega⟩ ?_
 rintro i w0 ⟨he,hf,hi⟩
 repeat(first|refine C0 ?_|refine C1 ?_|refine X1 rfl rfl ?_|refine X8 rfl rfl rfl ?_|refine X13 rfl rfl rfl ?_|refine X18 rfl rfl (by omega) (by omega) rfl ?_|refine C2 ?_)
 refine CE.cond_d rfl (fun h1 => ?_) (fun h1 => ?_)
 ·have h1' : i + sep.length ≤ l.length:=by omega
  repeat(first|refine C0 ?_|refine CE.block ?_|refine C3 ?_)
  refine CE.draw [0,0,0,0,0,0,0,0,0,0,0] mixed (by decide +kernel) ?_
  repeat(first|refine Y1 rfl rfl ?_|refine Y13 rfl rfl rfl ?_|refine Y18 rfl rfl (by omega) (by omega) rfl ?_)
  refine RE.d1 (op_slice_lh rfl rfl rfl rfl (by omega) (by omega) (by omega)) rfl ?_
  have hs:=HBk.slice (h.ext (he.trans (Ext.drew _))) (i:=i) (j:=i + sep.length) (by omega) h1'
  have e1 : ((i : Int) + sep.length).toNat = i + sep.length:=by omega
  have e2 : (l.drop i).take (i + sep.length - i) = (l.drop i).take sep.length:=by rw [Nat.add_sub_cancel_left]
  rw [e2] at hs
  refine RE.d1 (op_conv_bs rfl (by rw [e1]; exact hs.hb) Tryz.underlying42 Tryz.underlying9) rfl ?_
  repeat (refine Y1 rfl rfl ?_)
  refine RE.d1 (op_conv_bs rfl (h'.ext (he.trans (Ext.drew _))).hb Tryz.underlying42 Tryz.underlying9) rfl ?_
  repeat(first|refine Y20 rfl rfl rfl ?_|refine C2 ?_)
  refine CE.cond_d rfl (fun h2 => ?_) (fun h2 => ?_)
  ·repeat(first|refine C0 ?_|refine C1 ?_|refine X1 rfl rfl ?_|refine X0 rfl rfl ?_|refine C2 ?_)
   (refine CE.ret ?_;(try dsimp only);refine ret1 rfl rfl ?_)
   refine ⟨?_,he.trans (Ext.drew _)⟩
   rw [← hf,fnd,if_pos h1',if_pos h2]
  ·repeat(first|refine C1 ?_|refine X1 rfl rfl ?_|refine X0 rfl rfl ?_|refine X18 rfl rfl (by omega) (by omega) rfl ?_|refine C3 ?_)
   refine RE.nilx ?_
   refine ⟨i + 1,by omega,rfl,⟨rfl,rfl,rfl,trivial⟩,he.trans (Ext.drew _),?_,by omega⟩
   rw [← hf]
   conv => rhs; rw [fnd,if_pos h1',if_neg h2]
 ·repeat(first|refine C0 ?_|refine C1 ?_|refine X0 rfl rfl ?_|refine C2 ?_|refine CE.exit (show CE _ _ _ _ _ _ _ from ?_))
  (refine CE.ret ?_;(try dsimp only);refine ret1 rfl rfl ?_)
  refine ⟨?_,he⟩
  rw [← hf,fnd,if_neg (by omega)]
theorem hasP_fn {L ib B : Nat} {t p : List UInt8} {c : LC} {w : World} {v : Value} (h : Lx L ib B t c w) (hv : HB w v p) :
  Fn PT 96 [Ptr L 0,v] w (fun u w' => u = .bool (pre p (t.drop c.pos)) ∧ Ext w w'):=by
 refine fn_of Tryz.func96 rfl Tryz.ntmps96 rfl ?_
 have hB:=h.at_
 unfold AtL at hB
 have hil:=h.il
 have hps:=h.pos
 repeat(first|refine C0 ?_|refine C1 ?_|refine X0 rfl rfl ?_|refine C2 ?_)
 refine CE.draw [0,0,0,0,0,0,0,0,0,0,2,0] mixed (by decide +kernel) ?_
 repeat(first|refine Y1 rfl rfl ?_|refine Y2 rfl rfl ?_|refine Y3 rfl rfl rfl ?_|refine Y22 rfl rfl hB rfl rfl ?_)
 refine RE.d1 (op_slice_l rfl rfl rfl (by omega) (by omega)) rfl ?_
 repeat (refine Y1 rfl rfl ?_)
 have hdrop:=(hb_drop h.inp hps).ext (Ext.drew w)
 refine RE.ec1 en116 rfl rfl (hasPrefix_fn (l:=t.drop c.pos) (l':=p) ⟨ib,hdrop⟩ (hv.ext (Ext.drew w))) ?_
 rintro _ w1 ⟨rfl,rfl⟩
 repeat(first|refine Y0 rfl rfl ?_|refine C2 ?_)
 skip
 (refine CE.ret ?_;(try dsimp only);refine ret1 rfl rfl ?_)
 exact ⟨rfl,Ext.drew w⟩
theorem indexL_fn {L ib B : Nat} {t p : List UInt8} {c : LC} {w : World} {v : Value} (h : Lx L ib B t c w) (hv : HB w v p) (hp : p.length ≤ 1000000) :
  Fn PT 119 [Ptr L 0,v] w (fun u w' => u = I (fnd p (t.drop c.pos) 0) ∧ Ext w w'):=by
 refine fn_of Tryz.func119 rfl Tryz.ntmps119 rfl ?_
 have hB:=h.at_
 unfold AtL at hB
 have hil:=h.il
 have hps:=h.pos
 have hsm:=h.small
 repeat(first|refine C0 ?_|refine C1 ?_|refine X0 rfl rfl ?_|refine C2 ?_)
 refine CE.draw [0,0,0,0,0,0,0,0,0,0,2,0] mixed (by decide +kernel) ?_
 repeat(first|refine Y1 rfl rfl ?_|refine Y2 rfl rfl ?_|refine Y3 rfl rfl rfl ?_|refine Y22 rfl rfl hB rfl rfl ?_)
 refine RE.d1 (op_slice_l rfl rfl rfl (by omega) (by omega)) rfl ?_
 repeat (refine Y1 rfl rfl ?_)
 have hdrop:=(hb_drop h.inp hps).ext (Ext.drew w)
 refine RE.ec1 en136 rfl rfl (indexBytes_fn (l:=t.drop c.pos) (sep:=p) ⟨ib,hdrop⟩ (hv.ext (Ext.drew w)) (by simp; omega) hp) ?_
 rintro _ w1 ⟨rfl,e1⟩
 repeat(first|refine Y0 rfl rfl ?_|refine C2 ?_)
 skip
 (refine CE.ret ?_;(try dsimp only);refine ret1 rfl rfl ?_)
 exact ⟨rfl,(Ext.drew w).trans e1⟩
def leftD (ld : Int) : List UInt8:=if ld = 10 then bs124 else bs137
def rightD (rd : Int) : List UInt8:=if rd = 11 then bs165 else bs166
theorem leftD_fn {L : Nat} {c : LC} {w : World} (h : AtL L c w) : Fn PT 140 [Ptr L 0] w (Fresh (leftD c.ld) w):=by
 refine fn_of Tryz.func140 rfl Tryz.ntmps140 rfl ?_
 have hB:=h
 unfold AtL at hB
 repeat(first|refine C0 ?_|refine C1 ?_|refine X1 rfl rfl ?_|refine X0 rfl rfl ?_|refine X2 rfl rfl ?_|refine X3 rfl rfl rfl ?_|refine X4 rfl rfl rfl ?_|refine X22 rfl rfl hB rfl rfl ?_|refine X5 rfl rfl rfl ?_|refine C2 ?_)
 refine CE.cond_d rfl (fun h1 => ?_) (fun h1 => ?_)
 ·repeat(first|refine C0 ?_|refine C1 ?_)
  refine RE.xc en124 rfl rfl (delim124_fn _) ?_
  rintro v w1 hf
  repeat(first|refine X0 rfl rfl ?_|refine C2 ?_)
  (refine CE.ret ?_;(try dsimp only);refine ret1 rfl rfl ?_)
  unfold leftD; rw [if_pos h1]; exact hf
 ·repeat(first|refine C0 ?_|refine C1 ?_|refine C3 ?_)
  refine RE.xc en137 rfl rfl (delim137_fn _) ?_
  rintro v w1 hf
  repeat(first|refine X0 rfl rfl ?_|refine C2 ?_)
  (refine CE.ret ?_;(try dsimp only);refine ret1 rfl rfl ?_)
  unfold leftD; rw [if_neg h1]; exact hf
theorem rightD_fn {L : Nat} {c : LC} {w : World} (h : AtL L c w) : Fn PT 153 [Ptr L 0] w (Fresh (rightD c.rd) w):=by
 refine fn_of Tryz.func153 rfl Tryz.ntmps153 rfl ?_
 have hB:=h
 unfold AtL at hB
 repeat(first|refine C0 ?_|refine C1 ?_|refine X1 rfl rfl ?_|refine X0 rfl rfl ?_|refine X2 rfl rfl ?_|refine X3 rfl rfl rfl ?_|refine X4 rfl rfl rfl ?_|refine X22 rfl rfl hB rfl rfl ?_|refine X5 rfl rfl rfl ?_|refine C2 ?_)
 refine CE.cond_d rfl (fun h1 => ?_) (fun h1 => ?_)
 ·repeat(first|refine C0 ?_|refine C1 ?_)
  refine RE.xc en165 rfl rfl (delim165_fn _) ?_
  rintro v w1 hf
  repeat(first|refine X0 rfl rfl ?_|refine C2 ?_)
  (refine CE.ret ?_;(try dsimp only);refine ret1 rfl rfl ?_)
  unfold rightD; rw [if_pos h1]; exact hf
 ·repeat(first|refine C0 ?_|refine C1 ?_|refine C3 ?_)
  refine RE.xc en166 rfl rfl (delim166_fn _) ?_
  rintro v w1 hf
  repeat(first|refine X0 rfl rfl ?_|refine C2 ?_)
  (refine CE.ret ?_;(try dsimp only);refine ret1 rfl rfl ?_)
  unfold rightD; rw [if_neg h1]; exact hf
theorem leftI_fn {L : Nat} {c : LC} {w : World} (h : AtL L c w) : Fn PT 143 [Ptr L 0] w (fun u w' => u = I c.ld ∧ w' = w):=by
 refine fn_of Tryz.func143 rfl Tryz.ntmps143 rfl ?_
 have hB:=h
 unfold AtL at hB
 repeat(first|refine C0 ?_|refine C1 ?_|refine X1 rfl rfl ?_|refine X0 rfl rfl ?_|refine X2 rfl rfl ?_|refine X3 rfl rfl rfl ?_|refine X4 rfl rfl rfl ?_|refine X22 rfl rfl hB rfl rfl ?_|refine C2 ?_)
 (refine CE.ret ?_;(try dsimp only);refine ret1 rfl rfl ?_)
 exact ⟨rfl,rfl⟩
theorem rightI_fn {L : Nat} {c : LC} {w : World} (h : AtL L c w) : Fn PT 167 [Ptr L 0] w (fun u w' => u = I c.rd ∧ w' = w):=by
 refine fn_of Tryz.func167 rfl Tryz.ntmps167 rfl ?_
 have hB:=h
 unfold AtL at hB
 repeat(first|refine C0 ?_|refine C1 ?_|refine X1 rfl rfl ?_|refine X0 rfl rfl ?_|refine X2 rfl rfl ?_|refine X3 rfl rfl rfl ?_|refine X4 rfl rfl rfl ?_|refine X22 rfl rfl hB rfl rfl ?_|refine C2 ?_)
 (refine CE.ret ?_;(try dsimp only);refine ret1 rfl rfl ?_)
 exact ⟨rfl,rfl⟩
theorem current_fn {L ib B : Nat} {t : List UInt8} {c : LC} {w : World} (h : Lx L ib B t c w) (hs : c.start ≤ c.pos) :
  Fn PT 168 [Ptr L 0] w (fun _ w' => Ext w w'):=by
 refine fn_of Tryz.func168 rfl Tryz.ntmps168 rfl ?_
 have hB:=h.at_
 unfold AtL at hB
 have hil:=h.il
 have hps:=h.pos
 repeat(first|refine C0 ?_|refine C1 ?_|refine X0 rfl rfl ?_|refine C2 ?_)
 refine CE.draw [0,0,0,0,0,0,0,0,0,0,0,0,0,0] mixed (by decide +kernel) ?_
 repeat(first|refine Y1 rfl rfl ?_|refine Y2 rfl rfl ?_|refine Y3 rfl rfl rfl ?_|refine Y22 rfl rfl hB rfl rfl ?_)
 refine RE.d1 (op_slice_lh rfl rfl rfl rfl (by omega) (by omega) (by omega)) rfl ?_
 repeat(first|refine Y0 rfl rfl ?_|refine C2 ?_)
 skip
 (refine CE.ret ?_;(try dsimp only);refine ret1 rfl rfl ?_)
 exact Ext.drew w
def isSC (t : List UInt8) (p : Nat) : Bool:=pre bs124 (t.drop p) || pre bs137 (t.drop p)
theorem isSC_fn {L ib B : Nat} {t : List UInt8} {c : LC} {w : World} (h : Lx L ib B t c w) :
  Fn PT 122 [Ptr L 0] w (fun u w' => u = .bool (isSC t c.pos) ∧ Ext w w'):=by
 refine fn_of Tryz.func122 rfl Tryz.ntmps122 rfl ?_
 repeat(first|refine C0 ?_|refine C1 ?_|refine X1 rfl rfl ?_|refine X0 rfl rfl ?_|refine C2 ?_)
 refine RE.xc en124 rfl rfl (delim124_fn _) ?_
 rintro v w1 ⟨b1,hb1,_,e1⟩
 skip
 refine RE.xc en96 rfl rfl (hasP_fn (h.ext e1) hb1.hb) ?_
 rintro _ w2 ⟨rfl,e2⟩
 repeat (refine X1 rfl rfl ?_)
 refine RE.splitH (fun h2 => ?_) (fun h2 => ?_)
 ·repeat(first|refine X0 rfl rfl ?_|refine X16 rfl rfl rfl rfl ?_|refine RE.nox rfl rfl rfl rfl ?_|refine C2 ?_)
  (refine CE.ret ?_;(try dsimp only);refine ret1 rfl rfl ?_)
  exact ⟨by simp [isSC,h2],e1.trans e2⟩
 ·repeat(first|refine X1 rfl rfl ?_|refine RE.want rfl rfl ?_)
  refine RE.xc en137 rfl rfl (delim137_fn _) ?_
  rintro v3 w3 ⟨b3,hb3,_,e3⟩
  repeat (refine RE.want rfl rfl ?_)
  refine RE.xc en96 rfl rfl (hasP_fn (h.ext ((e1.trans e2).trans e3)) hb3.hb) ?_
  rintro _ w4 ⟨rfl,e4⟩
  repeat(first|refine X0 rfl rfl ?_|refine X17 rfl rfl rfl ?_|refine C2 ?_)
  (refine CE.ret ?_;(try dsimp only);refine ret1 rfl rfl ?_)
  exact ⟨by simp [isSC,h2],((e1.trans e2).trans e3).trans e4⟩
def crStep (t : List UInt8) (r : Int) (x : LC × Bool) : LC × Bool:=if (nx t x.1.pos).1 = r then (x.1.nxt t,true) else (x.1.at t x.1.pos,x.2)
def crlf (t : List UInt8) (c : LC) : LC × Bool:=crStep t 10 (crStep t 13 (c,false))
theorem crStep_lx {L ib B : Nat} {t : List UInt8} {x : LC × Bool} {w w' : World} {r : Int} (h : Lx L ib B t x.1 w) (hm : LM L (crStep t r x).1 w w') : Lx L ib B t (crStep t r x).1 w':=by
 unfold crStep at *
 split at hm
 ·rename_i h1; rw [if_pos h1]; exact h.next hm
 ·rename_i h1; rw [if_neg h1]; exact h.lm hm rfl h.pos
theorem crLf_fn (w : World) : Fn PT 115 [] w (fun v w' => ∃ b,v = Sl b 0 2 2 ∧ w'.heap[b]? = some (.cells #[.int .i32 13,.int .i32 10] 21 (0,0)) ∧ w.heap.size ≤ b ∧ Ext w w'):=by
 refine fn_of Tryz.func115 rfl Tryz.ntmps115 rfl ?_
 repeat(first|refine C0 ?_|refine C1 ?_|refine X0 rfl rfl ?_|refine C2 ?_)
 refine RE.xe (e_buildSlice (cells:=#[.int .i32 13,.int .i32 10]) (e:=21) rfl (by kernel_rfl) (by kernel_rfl)) rfl ?_
 rintro _ w1 ⟨b,rfl,hn⟩
 repeat(first|refine X0 rfl rfl ?_|refine C2 ?_)
 (refine CE.ret ?_;(try dsimp only);refine ret1 rfl rfl ?_)
 exact ⟨b,rfl,hn.here,by have:=hn.num; omega,hn.ext⟩
theorem crlf_fn {L ib B : Nat} {t : List UInt8} {c : LC} {w : World} (h : Lx L ib B t c w) :
  Fn PT 94 [Ptr L 0] w (fun u w' => u = .bool (crlf t c).2 ∧ LM L (crlf t c).1 w w'):=by
 refine fn_of Tryz.func94 rfl Tryz.ntmps94 rfl ?_
 repeat(first|refine C0 ?_|refine C1 ?_|refine X0 rfl rfl ?_|refine C2 ?_)
 refine RE.xc en115 rfl rfl (crLf_fn _) ?_
 rintro _ w1 ⟨b,rfl,hb,hlt,e1⟩
 have hLb : ¬ (b = L):=by have:=h.at_.lt; omega
 repeat(first|refine X1 rfl rfl ?_|refine X13 rfl rfl rfl ?_|refine C2 ?_|refine CE.block ?_)
 refine CE.loop (α:=Nat × (LC × Bool)) (fun x => [(8,I x.1),(7,I (2 : Nat)),(6,Sl b 0 2 2),(3,.bool x.2.2),(0,Ptr L 0)])
  (fun x w' => Lx L ib B t x.2.1 w' ∧ LM L x.2.1 w w' ∧ w'.heap[b]? = some (.cells #[.int .i32 13,.int .i32 10] 21 (0,0)) ∧
   (x = (0,(c,false)) ∨ x = (1,crStep t 13 (c,false)) ∨ x = (2,crlf t c)))
  (fun x => 3 - x.1) (0,(c,false)) ⟨rfl,rfl,rfl,rfl,rfl,trivial⟩ ⟨h.ext e1,(LM.refl h.at_).trans (LM.ext e1 (LM.refl (h.at_.ext e1))),hb,Or.inl rfl⟩ ?_
 have round : ∀ (k : Nat) (x : LC × Bool) (r : Int) (w0 : World),(k = 0 ∧ r = 13 ∨ k = 1 ∧ r = 10) → Lx L ib B t x.1 w0 → w0.heap[b]? = some (.cells #[.int .i32 13,.int .i32 10] 21 (0,0)) → True:=fun _ _ _ _ _ _ _ => trivial
 clear round
 rintro ⟨k,x⟩ w0 ⟨hx,hm,hb0,hk⟩
 have hk3 : k = 0 ∨ k = 1 ∨ k = 2:=by
  rcases hk with hk | hk | hk <;> (have:=congrArg Prod.fst hk; simp at this; omega)
 rcases hk3 with rfl | rfl | rfl
 ·have hxe : x = (c,false):=by rcases hk with hk | hk | hk <;> first | (have:=congrArg Prod.fst hk; simp at this; done)|exact congrArg Prod.snd hk
  repeat(first|refine C0 ?_|refine C1 ?_|refine X7 rfl rfl rfl ?_|refine C2 ?_|refine CE.block ?_|refine C3 ?_|refine CE.cond_t rfl ?_)
  refine RE.x (op_indexAddr rfl rfl rfl (show (0 : Int) ≤ ((0 : Nat) : Int) by decide) (show ((0 : Nat) : Int) < ((2 : Nat) : Int) by decide)) rfl ?_
  repeat(first|refine C0 ?_|refine C1 ?_|refine X1 rfl rfl ?_|refine X0 rfl rfl ?_|refine X22 rfl rfl hb0 rfl rfl ?_|refine C2 ?_)
  refine RE.xc en68 rfl rfl (next_fn hx) ?_
  rintro _ w2 ⟨rfl,h2⟩
  have hb2:=h2.fr.block hb0 hLb
  repeat(first|refine X1 rfl rfl ?_|refine X6 rfl rfl rfl ?_|refine C2 ?_)
  refine CE.cond_d rfl (fun h3 => ?_) (fun h3 => ?_)
  ·repeat(first|refine C1 ?_|refine X1 rfl rfl ?_)
   refine RE.xc en98 rfl rfl (backNext_fn (hx.next h2)) ?_
   rintro _ w3 ⟨rfl,h4⟩
   have hst : crStep t 13 x = (x.1.at t x.1.pos,x.2):=if_neg h3
   repeat(first|refine C1 ?_|refine X1 rfl rfl ?_|refine X18 rfl rfl (by omega) (by omega) rfl ?_|refine C2 ?_)
   refine RE.nilx ?_
   refine ⟨(1,crStep t 13 x),(show 3 - 1 < 3 - 0 by decide),rfl,⟨rfl,rfl,rfl,by rw [hst]; rfl,rfl,trivial⟩,?_,?_,h4.fr.block hb2 hLb,Or.inr (Or.inl (by rw [hxe]))⟩
   ·exact crStep_lx hx (by rw [hst]; exact h2.trans h4)
   ·rw [hst]; exact (hm.trans h2).trans h4
  ·have h3' : (nx t x.1.pos).1 = 13:=Classical.byContradiction h3
   have hst : crStep t 13 x = (x.1.nxt t,true):=if_pos h3'
   repeat(first|refine C1 ?_|refine X1 rfl rfl ?_|refine X0 rfl rfl ?_|refine X18 rfl rfl (by omega) (by omega) rfl ?_|refine C2 ?_)
   refine RE.nilx ?_
   refine ⟨(1,crStep t 13 x),(show 3 - 1 < 3 - 0 by decide),rfl,⟨rfl,rfl,rfl,by rw [hst]; rfl,rfl,trivial⟩,?_,?_,hb2,Or.inr (Or.inl (by rw [hxe]))⟩
   ·exact crStep_lx hx (by rw [hst]; exact h2)
   ·rw [hst]; exact hm.trans h2
 ·have hxe : x = crStep t 13 (c,false):=by rcases hk with hk | hk | hk <;> first | (have:=congrArg Prod.fst hk; simp at this; done)|exact congrArg Prod.snd hk
  repeat(first|refine C0 ?_|refine C1 ?_|refine X7 rfl rfl rfl ?_|refine C2 ?_|refine CE.block ?_|refine C3 ?_|refine CE.cond_t rfl ?_)
  refine RE.x (op_indexAddr rfl rfl rfl (show (0 : Int) ≤ ((1 : Nat) : Int) by decide) (show ((1 : Nat) : Int) < ((2 : Nat) : Int) by decide)) rfl ?_
  repeat(first|refine C0 ?_|refine C1 ?_|refine X1 rfl rfl ?_|refine X0 rfl rfl ?_|refine X22 rfl rfl hb0 rfl rfl ?_|refine C2 ?_)
  refine RE.xc en68 rfl rfl (next_fn hx) ?_
  rintro _ w2 ⟨rfl,h2⟩
  have hb2:=h2.fr.block hb0 hLb
  repeat(first|refine X1 rfl rfl ?_|refine X6 rfl rfl rfl ?_|refine C2 ?_)
  refine CE.cond_d rfl (fun h3 => ?_) (fun h3 => ?_)
  ·repeat(first|refine C1 ?_|refine X1 rfl rfl ?_)
   refine RE.xc en98 rfl rfl (backNext_fn (hx.next h2)) ?_
   rintro _ w3 ⟨rfl,h4⟩
   have hst : crStep t 10 x = (x.1.at t x.1.pos,x.2):=if_neg h3
   repeat(first|refine C1 ?_|refine X1 rfl rfl ?_|refine X18 rfl rfl (by omega) (by omega) rfl ?_|refine C2 ?_)
   refine RE.nilx ?_
   refine ⟨(2,crStep t 10 x),(show 3 - 2 < 3 - 1 by decide),rfl,⟨rfl,rfl,rfl,by rw [hst]; rfl,rfl,trivial⟩,?_,?_,h4.fr.block hb2 hLb,Or.inr (Or.inr (by rw [hxe]; rfl))⟩
   ·exact crStep_lx hx (by rw [hst]; exact h2.trans h4)
   ·rw [hst]; exact (hm.trans h2).trans h4
  ·have h3' : (nx t x.1.pos).1 = 10:=Classical.byContradiction h3
   have hst : crStep t 10 x = (x.1.nxt t,true):=if_pos h3'
   repeat(first|refine C1 ?_|refine X1 rfl rfl ?_|refine X0 rfl rfl ?_|refine X18 rfl rfl (by omega) (by omega) rfl ?_|refine C2 ?_)
   refine RE.nilx ?_
   refine ⟨(2,crStep t 10 x),(show 3 - 2 < 3 - 1 by decide),rfl,⟨rfl,rfl,rfl,by rw [hst]; rfl,rfl,trivial⟩,?_,?_,hb2,Or.inr (Or.inr (by rw [hxe]; rfl))⟩
   ·exact crStep_lx hx (by rw [hst]; exact h2)
   ·rw [hst]; exact hm.trans h2
 ·have hxe : x = crlf t c:=by rcases hk with hk | hk | hk <;> first | (have:=congrArg Prod.fst hk; simp at this; done)|exact congrArg Prod.snd hk
  repeat(first|refine C0 ?_|refine C1 ?_|refine X1 rfl rfl ?_|refine X0 rfl rfl ?_|refine X7 rfl rfl rfl ?_|refine C2 ?_|refine CE.exit (show CE _ _ _ _ _ _ _ from ?_)|refine CE.cond_f rfl ?_)
  (refine CE.ret ?_;(try dsimp only);refine ret1 rfl rfl ?_)
  subst hxe
  exact ⟨rfl,hm⟩
end Go.Wk
namespace Go.Wk
open Go Go.RowKit
section core
variable {P : Program} {R : World → World → Prop} {ops : Array Oper} {md : Region.Mode}
def segQ : List Nat → List Nat → Array Bool → List Nat × Array Bool
 | 0 :: m,k :: π,listed => segQ m π (listed.setIfInBounds k true)
 | 1 :: m,k :: π,listed => segQ m π (listed.setIfInBounds k true)
 | _,π,listed => (π,listed)
def chkQ (md : Region.Mode) (ops : Array Oper) : List Nat → List Nat → Array Bool → Bool
 | [],π,listed => (Region.ready md ops listed).isEmpty && π.isEmpty
 | 0 :: m,k :: π,listed => (Region.ready md ops listed).contains k && Region.free md ops listed k &&
   (let t:=segQ m π (listed.setIfInBounds k true); sinkB md ops (t.1.headD 0) t.2 k) && chkQ md ops m π (listed.setIfInBounds k true)
 | 1 :: m,k :: π,listed => decide (Region.ready md ops listed = [k]) && chkQ md ops m π (listed.setIfInBounds k true)
 | (_ + 2) :: m,k :: π,listed => decide (Region.ready md ops listed = [k]) && chkQ md ops m π (listed.setIfInBounds k true)
 | _ :: _,[],_ => false
theorem chkQ_seg : ∀ (m π : List Nat) (listed : Array Bool),chkQ md ops m π listed = true → chkQ md ops (segM m) (segQ m π listed).1 (segQ m π listed).2 = true
 | [],π,listed,h => by simpa [segM,segQ] using h
 | 0 :: m,k :: π,listed,h => by
  simp only [chkQ,Bool.and_eq_true] at h
  simpa [segM,segQ] using chkQ_seg m π _ h.2
 | 1 :: m,k :: π,listed,h => by
  simp only [chkQ,Bool.and_eq_true] at h
  simpa [segM,segQ] using chkQ_seg m π _ h.2
 | (x + 2) :: m,π,listed,h => by simpa [segM,segQ] using h
 | 0 :: m,[],listed,h => by simp [chkQ] at h
 | 1 :: m,[],listed,h => by simp [chkQ] at h
def OrdL (ops : Array Oper) (π : List Nat) (l : List Oper) : Prop:=∀ j : Nat,l[j]? = (π[j]?).bind fun i => ops[i]?
theorem OrdL.tail {k : Nat} {π : List Nat} {o : Oper} {r : List Oper} (h : OrdL ops (k :: π) (o :: r)) : OrdL ops π r:=fun j => by simpa using h (j + 1)
theorem OrdL.head {k : Nat} {π : List Nat} {o : Oper} {r : List Oper} (h : OrdL ops (k :: π) (o :: r)) : ops[k]? = some o:=by simpa using (h 0).symm
theorem OrdL.ne {k : Nat} {π : List Nat} (h : OrdL ops (k :: π) []) : ops[k]? = none:=by simpa using (h 0).symm
theorem segQ_of_RW {Q : Exit → Act → World → Prop} (hrefl : ∀ w,R w w) (hsel : ∀ (j : Nat) (o : Oper) cs b,ops[j]? = some o → o.op ≠ .select cs b) :
  ∀ (m π : List Nat) (l : List Oper) (listed : Array Bool) (C : World → Prop) (a : Act),OrdL ops π l → chkQ md ops m π listed = true →
   Closed md ops listed → (∃ w,C w) → RW P R Q ops m l C a →
   wpS P R md ops (fun listed' C' a' => listed' = (segQ m π listed).2 ∧ RW P R Q ops (segM m) (segL m l) C' a') (segN m) listed C a
 | [],π,l,listed,C,a,hl,hc,hcl,hne,h => by exact ⟨by simp [segQ],h⟩
 | (x + 2) :: m,π,l,listed,C,a,hl,hc,hcl,hne,h => by exact ⟨by simp [segQ],h⟩
 | 0 :: m,[],l,listed,C,a,hl,hc,hcl,hne,h => by simp [chkQ] at hc
 | 1 :: m,[],l,listed,C,a,hl,hc,hcl,hne,h => by simp [chkQ] at hc
 | 0 :: m,k :: π,[],listed,C,a,hl,hc,hcl,hne,h => by
  exfalso
  simp only [chkQ,Bool.and_eq_true] at hc
  have hk : k ∈ Region.ready md ops listed:=by simpa using hc.1.1.1
  obtain ⟨_,o,ho,_⟩:=mem_ready.1 hk
  rw [hl.ne] at ho
  cases ho
 | 1 :: m,k :: π,[],listed,C,a,hl,hc,hcl,hne,h => by
  exfalso
  simp only [chkQ,Bool.and_eq_true,decide_eq_true_eq] at hc
  have hk : k ∈ Region.ready md ops listed:=by rw [hc.1]; simp
  obtain ⟨_,o,ho,_⟩:=mem_ready.1 hk
  rw [hl.ne] at ho
  cases ho
 | 0 :: m,k :: π,o :: r,listed,C,a,hl,hc,hcl,hne,h => by
  simp only [chkQ,Bool.and_eq_true] at hc
  obtain ⟨⟨⟨hrd,hfr⟩,hsk⟩,hrest⟩:=hc
  have hk : k ∈ Region.ready md ops listed:=by simpa using hrd
  have h0:=hl.head
  rw [RW_zero] at h
  obtain ⟨v,hy,hrw⟩:=h
  have hl':=hl.tail
  refine wpS_first (i:=k) (oi:=o) (v:=v) h0 hsel ?_ (segN m) listed C a hcl hne (Region.free_spec h0 hfr) hk hy ?_
  ·intro listed' C' a' hcl' hi' hL
   exact sink_only hcl' hi' hL.1 hsk
  ·rintro u ⟨w,hw,rfl⟩
   have hcls : (fun w => C w ∧ u = u) = C:=by
    funext w; exact propext ⟨fun h => h.1,fun h => ⟨h,rfl⟩⟩
   rw [hcls]
   exact segQ_of_RW hrefl hsel m π r _ C _ hl' hrest (hcl.set hk) hne hrw
 | 1 :: m,k :: π,o :: r,listed,C,a,hl,hc,hcl,hne,h => by
  simp only [chkQ,Bool.and_eq_true,decide_eq_true_eq] at hc
  obtain ⟨hrd,hrest⟩:=hc
  have hk : k ∈ Region.ready md ops listed:=by rw [hrd]; simp
  have h0:=hl.head
  rw [RW_one] at h
  obtain ⟨φ,hφ,hy,hrw⟩:=h
  refine ⟨by rw [hrd]; simp,fun i hi => ?_⟩
  rw [hrd] at hi
  have hik : i = k:=by simpa using hi
  subst hik
  refine ⟨o,φ,h0,hφ,hy,fun v hv => ?_⟩
  exact segQ_of_RW hrefl hsel m π r _ _ _ hl.tail hrest (hcl.set hk) hv (hrw v hv)
theorem segQ_closed : ∀ (m π : List Nat) (listed : Array Bool),chkQ md ops m π listed = true → Closed md ops listed → Closed md ops (segQ m π listed).2
 | [],π,listed,h,hcl => by simpa [segQ] using hcl
 | 0 :: m,k :: π,listed,h,hcl => by
  simp only [chkQ,Bool.and_eq_true] at h
  simpa [segQ] using segQ_closed m π _ h.2 (hcl.set (by simpa using h.1.1.1))
 | 1 :: m,k :: π,listed,h,hcl => by
  simp only [chkQ,Bool.and_eq_true,decide_eq_true_eq] at h
  simpa [segQ] using segQ_closed m π _ h.2 (hcl.set (by rw [h.1]; simp))
 | (x + 2) :: m,π,listed,h,hcl => by simpa [segQ] using hcl
 | 0 :: m,[],listed,h,hcl => by simp [chkQ] at h
 | 1 :: m,[],listed,h,hcl => by simp [chkQ] at h
theorem segQ_ord : ∀ (m π : List Nat) (l : List Oper) (listed : Array Bool),chkQ md ops m π listed = true → OrdL ops π l → OrdL ops (segQ m π listed).1 (segL m l)
 | [],π,l,listed,hc,h => by simpa [segL,segQ] using h
 | (x + 2) :: m,π,l,listed,hc,h => by simpa [segL,segQ] using h
 | 0 :: m,[],l,listed,hc,h => by simp [chkQ] at hc
 | 1 :: m,[],l,listed,hc,h => by simp [chkQ] at hc
 | 0 :: m,k :: π,l,listed,hc,h => by
  simp only [chkQ,Bool.and_eq_true] at hc
  simp only [segL,segQ]
  refine segQ_ord m π l.tail _ hc.2 fun j => ?_
  have:=h (j + 1)
  cases l <;> simpa using this
 | 1 :: m,k :: π,l,listed,hc,h => by
  simp only [chkQ,Bool.and_eq_true] at hc
  simp only [segL,segQ]
  refine segQ_ord m π l.tail _ hc.2 fun j => ?_
  have:=h (j + 1)
  cases l <;> simpa using this
theorem any_of_RWQ {Q : Exit → Act → World → Prop} (hrefl : ∀ w,R w w) (htrans : ∀ a b c,R a b → R b c → R a c)
  (hsel : ∀ (j : Nat) (o : Oper) cs b,ops[j]? = some o → o.op ≠ .select cs b) :
  ∀ (n : Nat) (m π : List Nat) (l : List Oper) (listed : Array Bool) (C : World → Prop) (a : Act) (w : World),m.length ≤ n → OrdL ops π l →
   chkQ md ops m π listed = true → Closed md ops listed → (∀ w w',C w → R w w' → C w') → C w → RW P R Q ops m l C a → wpAny P md ops Q m.length listed a w:=by
 intro n
 induction n with
 | zero =>
  intro m π l listed C a w hm hl hc hcl hup hC h
  have hm0 : m = []:=List.eq_nil_of_length_eq_zero (by omega)
  subst hm0
  simp only [chkQ,Bool.and_eq_true,List.isEmpty_iff] at hc
  have hl0 : l = []:=by
   cases l with
   | nil => rfl
   | cons o r => have:=hl 0; rw [hc.2] at this; simp at this
  subst hl0
  rw [RW_nil] at h
  exact ⟨hc.1,h w hC⟩
 | succ n ih =>
  intro m π l listed C a w hm hl hc hcl hup hC h
  have hs:=segQ_of_RW (Q:=Q) hrefl hsel m π l listed C a hl hc hcl ⟨w,hC⟩ h
  have hc2:=chkQ_seg m π listed hc
  have hcl2:=segQ_closed m π listed hc hcl
  have hl2:=segQ_ord (md:=md) (ops:=ops) m π l listed hc hl
  have hlen:=segN_len m
  have hL : ∀ (listed' : Array Bool) (C' : World → Prop) (a' : Act) (w' : World),(∀ w w',C' w → R w w' → C' w') → C' w' →
    (listed' = (segQ m π listed).2 ∧ RW P R Q ops (segM m) (segL m l) C' a') → wpAny P md ops Q (segM m).length listed' a' w':=by
   rintro listed' C' a' w' hup' hC' ⟨rfl,hrw⟩
   generalize (segQ m π listed).2 = tg at *
   generalize (segQ m π listed).1 = pk at *
   generalize segL m l = l2 at *
   have hform:=segM_form m
   rcases hform with he | ⟨x,m',he⟩
   ·rw [he] at hc2 hrw ⊢
    simp only [chkQ,Bool.and_eq_true,List.isEmpty_iff] at hc2
    have hl0 : l2 = []:=by
     cases l2 with
     | nil => rfl
     | cons o r => have:=hl2 0; rw [hc2.2] at this; simp at this
    subst hl0
    rw [RW_nil] at hrw
    exact ⟨hc2.1,hrw w' hC'⟩
   ·rw [he] at hc2 hrw hlen ⊢
    cases pk with
    | nil => simp [chkQ] at hc2
    | cons kk pk =>
    simp only [chkQ,Bool.and_eq_true,decide_eq_true_eq] at hc2
    have hkk : kk ∈ Region.ready md ops tg:=by rw [hc2.1]; simp
    obtain ⟨_,o,ho,_⟩:=mem_ready.1 hkk
    cases l2 with
    | nil => rw [hl2.ne] at ho; cases ho
    | cons o' r =>
     have hoo : o' = o:=by have:=hl2.head; rw [ho] at this; exact (Option.some.inj this).symm
     subst hoo
     rw [RW_any] at hrw
     simp only [List.length_cons]
     refine ⟨fun h0 => (by rw [hc2.1] at h0; cases h0),fun i hi => ?_⟩
     rw [hc2.1] at hi
     have hik : i = kk:=by simpa using hi
     subst hik
     have hop:=hrw w' hC'
     unfold wpOp
     simp only [ho]
     unfold opE at hop
     have hstep : ∀ a2 w2,RW P R Q ops m' r (R w2) a2 → wpAny P md ops Q m'.length (tg.setIfInBounds i true) a2 w2:=fun a2 w2 h2 =>
      ih m' pk r _ (R w2) a2 w2 (by simp only [List.length_cons] at hlen; omega)
       hl2.tail hc2.2 (hcl2.set hkk)
       (fun w3 w4 h3 h4 => htrans _ _ _ h3 h4) (hrefl w2) h2
     split
     ·rename_i hw
      rw [if_pos hw] at hop
      exact Or.inl (Oper.wp_mono hstep hop)
     ·rename_i hw
      rw [if_neg hw] at hop
      exact hstep _ _ hop
  have main:=wpS_sound (Q:=Q) (g:=(segM m).length) hrefl (L:=fun listed' C' a' => listed' = (segQ m π listed).2 ∧ RW P R Q ops (segM m) (segL m l) C' a') hL
   (segN m) listed C a w hup hC hs
  rw [hlen] at main
  exact main
def nthO : List Oper → Nat → List Oper
 | [],_ => []
 | o :: _,0 => [o]
 | _ :: r,i + 1 => nthO r i
def pick : List Oper → List Nat → List Oper
 | _,[] => []
 | l,i :: π => nthO l i ++ pick l π
theorem nthO_get : ∀ (l : List Oper) (i : Nat),nthO l i = (match l[i]? with | some o => [o] | none => [])
 | [],i => by simp [nthO]
 | o :: r,0 => rfl
 | o :: r,i + 1 => by simpa [nthO] using nthO_get r i
theorem ordL_pick {l : List Oper} : ∀ (π : List Nat),(∀ i ∈ π,i < l.length) → OrdL l.toArray π (pick l π)
 | [],_,j => by simp [pick]
 | i :: π,h,j => by
  have hi : i < l.length:=h i (by simp)
  have ih:=ordL_pick π (fun k hk => h k (by simp [hk]))
  simp only [pick,nthO_get,List.getElem?_eq_getElem hi]
  cases j with
  | zero => simp [hi]
  | succ j => simpa using ih j
def chkF (md : Region.Mode) (ops : Array Oper) : List Nat → Array Bool → Option (Array Bool)
 | [],listed => some listed
 | k :: q,listed => if (Region.ready md ops listed).contains k && Region.free md ops listed k then chkF md ops q (listed.setIfInBounds k true) else none
def chkA (l : List Oper) (q m π : List Nat) : Bool:=
 Region.noSelect l.toArray && (q ++ π).all (fun i => Nat.blt i l.length) && Nat.beq m.length π.length && Nat.beq (q.length + π.length) l.length &&
 (match chkF .any l.toArray q (Array.replicate l.toArray.size false) with
  | some listed => chkQ .any l.toArray m π listed
  | none => false)
def PW (P : Program) (n : Nat) (ds : List Deferred) : List Oper → (Act → Prop) → Act → Prop
 | [],Z,a => Z a
 | o :: r,Z,a => o.guard = none ∧ ∃ v,(∀ w,(execOp a.eval o).run P w = .ok (.value v) w) ∧ PW P n ds r Z (a.put o.dst v)
theorem any_of_PW {Q : Exit → Act → World → Prop} (hp : ∀ c a w,¬ Q (.panic c) a w) (hsel : Region.noSelect ops = true) (n : Nat) (ds : List Deferred) (fuel : Nat) (w : World) :
  ∀ (q : List Nat) (l : List Oper) (listed listed' : Array Bool) (a : Act),OrdL ops q l → chkF md ops q listed = some listed' → l.length = q.length → Closed md ops listed →
   PW P n ds l (fun a' => Closed md ops listed' → wpAny P md ops Q fuel listed' a' w) a → wpAny P md ops Q (q.length + fuel) listed a w
 | [],[],listed,listed',a,ho,hc,hl,hcl,h => by
  simp only [chkF,Option.some.injEq] at hc
  subst hc
  simpa using h hcl
 | [],_ :: _,_,_,_,_,_,hl,_,_ => by simp at hl
 | _ :: _,[],_,_,_,_,_,hl,_,_ => by simp at hl
 | k :: q,o :: r,listed,listed',a,ho,hc,hl,hcl,h => by
  simp only [chkF] at hc
  split at hc
  ·rename_i hk
   simp only [Bool.and_eq_true] at hk
   obtain ⟨hg,v,hv,hr⟩:=h
   have hkr : k ∈ Region.ready md ops listed:=by simpa using hk.1
   have:=any_of_PW hp hsel n ds fuel w q r _ listed' (a.put o.dst v) ho.tail hc (by simpa using hl) (hcl.set hkr) hr
   rw [List.length_cons,show q.length + 1 + fuel = (q.length + fuel) + 1 by omega]
   exact wpAny_take ho.head hsel hk.2 hk.1 (fun c a w h => absurd h (hp c _ w)) (Or.inl ⟨by simp [Region.wanted,hg],hv⟩) this
  ·cases hc
end core
structure PR (P : Program) (n : Nat) (l : List Oper) (K : Slots → Prop) (s : Slots) (ds : List Deferred) : Prop where
 out : ∀ (Z : Act → Prop),(∀ s a,Has n s ds a → K s → Z a) → ∀ a,Has n s ds a → PW P n ds l Z a
section pr
variable {P : Program} {n : Nat} {r : List Oper} {K : Slots → Prop} {s : Slots} {ds : List Deferred} {d : Nat} {op : Op} {ty : TypeId} {pos : String} {af : Array Edge} {v : Value}
theorem PR.nil (h : K s) : PR P n [] K s ds:=⟨fun _ hZ a ha => hZ s a ha h⟩
theorem PR.p (h : ∀ w,Op1 P ⟨some d,op,ty,pos,af,none⟩ n s v w) (hd : Nat.blt d n = true) (h2 : PR P n r K ((d,v) :: s) ds) : PR P n (⟨some d,op,ty,pos,af,none⟩ :: r) K s ds:=
 ⟨fun Z hZ a ha => ⟨rfl,v,fun w => (h w).out ds a ha,h2.out Z hZ _ (ha.put hd v)⟩⟩
end pr
section gx
variable {P : Program} {R : World → World → Prop} {n : Nat} {k : Ks} {ops : Array Oper} {m : List Nat} {r : List Oper} {C : World → Prop} {s : Slots} {ds : List Deferred}
 {d : Nat} {op : Op} {ty : TypeId} {pos : String} {af : Array Edge}
theorem RE.gcx {f : FuncId} {args : List Operand} {ats : Array TypeId} {vs : List Value} {φ : Value → World → Prop} (hf : Enters P f) (hx : evs s args = some vs) (hd : Nat.blt d n = true)
  (hφ : ∀ v w w',φ v w → R w w' → φ v w')
  (h : ∀ w,C w → Fn P f vs w (fun u w' => φ u w' ∧ R w w')) (h2 : ∀ v,(∃ w,C w ∧ φ v w) → RE P R n k ops m r (fun w => C w ∧ φ v w) ((d,v) :: s) ds) :
  RE P R n k ops (1 :: m) (⟨some d,.call { callee:=.value (.func f),args:=args.toArray,argTypes:=ats },ty,pos,af,none⟩ :: r) C s ds:=by
 refine ⟨fun a ha => ?_⟩
 rw [RW_one]
 refine ⟨φ,hφ,⟨fun _ w hw => ?_,fun hf => ?_⟩,fun v hv => (h2 v hv).out _ (ha.put hd v)⟩
 ·rw [run_call hf ha hx]
  refine Calls.mono (h w hw).out ?_
  rintro e w' ⟨u,rfl,hu,hR⟩
  exact ⟨_,rfl,hR,hu⟩
 ·simp [Region.wanted] at hf
theorem RE.gex {φ : Value → World → Prop} (hd : Nat.blt d n = true)
  (hφ : ∀ v w w',φ v w → R w w' → φ v w')
  (h : ∀ w,C w → OpE P ⟨some d,op,ty,pos,af,none⟩ n s w (fun u w' => φ u w' ∧ R w w')) (h2 : ∀ v,(∃ w,C w ∧ φ v w) → RE P R n k ops m r (fun w => C w ∧ φ v w) ((d,v) :: s) ds) :
  RE P R n k ops (1 :: m) (⟨some d,op,ty,pos,af,none⟩ :: r) C s ds:=by
 refine ⟨fun a ha => ?_⟩
 rw [RW_one]
 refine ⟨φ,hφ,⟨fun _ w hw => ?_,fun hf => ?_⟩,fun v hv => (h2 v hv).out _ (ha.put hd v)⟩
 ·obtain ⟨v,w',hr,hv,hR⟩:=(h w hw).out ds a ha
  rcases hr with hr | ⟨hr,rfl⟩ <;> rw [hr]
  ·exact ⟨hR,hv⟩
  ·exact ⟨hR,hv⟩
 ·simp [Region.wanted] at hf
end gx
theorem CE.drawA {P : Program} {n : Nat} {k : Ks} {l : List Oper} {s : Slots} {ds : List Deferred} {w : World} {id : Nat} (R : World → World → Prop) (q m π : List Nat)
  (hm : P.follows .mixedOrders = true) (hr : ∀ w,R w w) (ht : ∀ a b c,R a b → R b c → R a c) (hc : chkA l q m π = true)
  (h : PR P n (pick l q) (fun s' => RE P R n k l.toArray m (pick l π) (R w.drew) s' ds) s ds) :
  CE P n (.region id l.toArray true) k s ds w:=by
 refine ⟨fun a ha => wp_region_any hm ?_⟩
 simp only [chkA,Bool.and_eq_true] at hc
 obtain ⟨⟨⟨⟨hsel,hall⟩,hml⟩,hqp⟩,hc⟩:=hc
 have hml:=Nat.eq_of_beq_eq_true hml
 have hqp:=Nat.eq_of_beq_eq_true hqp
 split at hc
 ·rename_i listed hf
  have hb : ∀ i ∈ q ++ π,i < l.length:=fun i hi => by
   have:=List.all_eq_true.1 hall i hi
   simpa [Nat.blt_eq] using this
  have hlen : (pick l q).length = q.length:=by
   have : ∀ (q : List Nat),(∀ i ∈ q,i < l.length) → (pick l q).length = q.length:=by
    intro q
    induction q with
    | nil => intro _; rfl
    | cons i q ih =>
     intro h
     simp [pick,nthO_get,List.getElem?_eq_getElem (h i (by simp)),ih (fun j hj => h j (by simp [hj]))]
   exact this q (fun i hi => hb i (by simp [hi]))
  have key:=any_of_PW (P:=P) (md:=.any) (ops:=l.toArray) (Q:=k.Q n) (fun c a w h => h) hsel n ds m.length w.drew q (pick l q) (Array.replicate l.toArray.size false) listed a
   (ordL_pick q (fun i hi => hb i (by simp [hi]))) hf hlen (Closed.init _)
   (h.out _ (fun s' a' ha' hre hcl => any_of_RWQ (R:=R) hr ht (Region.noSelect_spec hsel) m.length m π (pick l π) listed (R w.drew) a' w.drew (Nat.le_refl _)
    (ordL_pick π (fun i hi => hb i (by simp [hi]))) hc hcl (fun w1 w2 h1 h2 => ht _ _ _ h1 h2) (hr _) (hre.out a' ha')) a ha)
  rw [show q.length + m.length = l.toArray.size by simp; omega] at key
  exact key
 ·cases hc
end Go.Wk
