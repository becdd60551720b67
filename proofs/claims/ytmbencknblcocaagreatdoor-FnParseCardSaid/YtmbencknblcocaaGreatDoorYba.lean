/- The specification's lexer as plain functions of its data. -/
import Derived.Test.YtmbencknblcocaaGreatDoorYaz
namespace Go.Wk
open Go Go.RowKit Go.Proofs
set_option maxRecDepth 100000
section cut
variable {P : Program} {R : World → World → Prop} {n : Nat} {k : Ks} {ops : Array Oper} {s : Slots} {ds : List Deferred}
theorem opE_mono {Q Q' : Exit → Act → World → Prop} {o : Oper} {a : Act} {w : World} {K K' : Act → World → Prop} (hq : ∀ e a w,Q e a w → Q' e a w) (hl : LetsOut Q → LetsOut Q') (hk : ∀ a w,K a w → K' a w) (h : opE P ops Q o a w K) : opE P ops Q' o a w K':=by
 unfold opE at *
 split
 ·rename_i h1
  rw [if_pos h1] at h
  unfold Oper.wp at *
  generalize (execOp a.eval o).run P w = r at *
  cases r with
  | ok nx w' =>
   cases nx <;> simp only [Oper.upon] at h ⊢ <;>
    first
    |exact hk _ _ h
    |exact Calls.mono h (fun e w'' he => by cases e <;> first|exact hk _ _ he|exact hq _ _ _ he|exact hl he)
    |exact Rows.mono h (fun _ _ he => hk _ _ he)
  | halt x w' => cases x <;> simp only [Oper.upon] at h ⊢ <;> first|exact h|exact hq _ _ _ h
 ·rename_i h1
  rw [if_neg h1] at h
  exact hk _ _ h
theorem RW_mono {Q Q' : Exit → Act → World → Prop} (hq : ∀ e a w,Q e a w → Q' e a w) (hl : LetsOut Q → LetsOut Q') : ∀ (l : List Oper) (m : List Nat) (C : World → Prop) (a : Act),RW P R Q ops m l C a → RW P R Q' ops m l C a
 | [],m,C,a,h => by rw [RW_nil] at *; exact fun w hw => hq _ _ _ (h w hw)
 | o :: r,m,C,a,h => by
  match m with
  | 0 :: m =>
   rw [RW_zero] at *
   obtain ⟨v,h1,h2⟩:=h
   exact ⟨v,h1,RW_mono hq hl r m C _ h2⟩
  | 1 :: m =>
   rw [RW_one] at *
   obtain ⟨φ,h0,h1,h2⟩:=h
   exact ⟨φ,h0,h1,fun v hv => RW_mono hq hl r m _ _ (h2 v hv)⟩
  | (x + 2) :: m =>
   rw [RW_any] at *
   exact fun w hw => opE_mono hq hl (fun a' w' => RW_mono hq hl r m _ _) (h w hw)
  | [] =>
   rw [RW_none] at *
   exact fun w hw => opE_mono hq hl (fun a' w' => RW_mono hq hl r [] _ _) (h w hw)
theorem RE.cut {m : List Nat} {l : List Oper} {C : World → Prop} (J : Slots → List Deferred → World → Prop) (h : RE P R n ⟨J,k.r,k.x⟩ ops m l C s ds) (hJ : ∀ s ds w,J s ds w → k.n s ds w) : RE P R n k ops m l C s ds:=by
 refine ⟨fun a ha => RW_mono (fun e a' w' hq => ?_) (fun hl => ?_) l m C a (h.out a ha)⟩
 ·cases e with
  | normal => obtain ⟨s',ds',h1,h2⟩:=hq; exact ⟨s',ds',h1,hJ _ _ _ h2⟩
  | _ => exact hq
 ·exact hl
theorem RE.nou0 {m : List Nat} {r : List Oper} {C : World → Prop} {g : Nat} {t d : Tmp} {b' : Bool} {op : Op} {ty : TypeId} {pos : String} {af : Array Edge} (hg : gslot ops g = some t) (ht : look s t = some undef) (hd : Nat.blt d n = true)
  (h : RE P R n k ops m r C ((d,undef) :: s) ds) : RE P R n k ops (0 :: m) (⟨some d,op,ty,pos,af,some (g,b')⟩ :: r) C s ds:=by
 refine ⟨fun a ha => ?_⟩
 have hw : Region.wanted ⟨some d,op,ty,pos,af,some (g,b')⟩ (yielded ops a.tmps) = false:=by
  have h1:=ha.val t _ ht
  unfold gslot at hg
  unfold Region.wanted yielded
  simp only [hg]
  rw [Array.getD_eq_getD_getElem?] at h1
  simp only [Option.bind_some]
  cases hx : a.tmps[t]? with
  | none => rfl
  | some v => rw [hx] at h1; have h3 : v = undef:=h1; subst h3; rfl
 rw [RW_zero]
 exact ⟨undef,⟨fun h1 => (by rw [hw] at h1; cases h1),fun _ _ _ => rfl⟩,h.out _ (ha.put hd undef)⟩
end cut
def gt3 : List UInt8:=[62,125,125]
def chr (t : List UInt8) (i : Nat) : Nat:=(t.getD i 0).toNat
theorem chr_of {t : List UInt8} {i : Nat} {b : UInt8} (h : t[i]? = some b) : chr t i = b.toNat:=by
 unfold chr
 rw [List.getD_eq_getElem?_getD,h]
 rfl
theorem getD_of {t : List UInt8} {i : Nat} {b : UInt8} (h : t[i]? = some b) : t.getD i 0 = b:=by
 rw [List.getD_eq_getElem?_getD,h]
 rfl
def loneCR (t : List UInt8) (i : Nat) : Bool:=decide (t[i]? = some 13) && !begS t i [13,10]
def freshB (t : List UInt8) (fr n i : Nat) : Bool:=(decide (i = fr) && decide (0 < n)) || (decide (fr < i) && decide (t[i - 1]? = some 10))
def fnGo (t three : List UInt8) (fr n i : Nat) : Option (Option Nat):=
 if _h : i ≤ t.length then
  if loneCR t i = true then some none else
  if freshB t fr n i = true ∧ begS t i three = true then some (some i) else fnGo t three fr n (i + 1)
 else none
termination_by t.length + 1 - i
def QP.fenced (t : List UInt8) (p : QP) (kind : Int) (three : List UInt8) : QP:=
 if begS t p.pos three = false then p.fail else
 match fnGo t three (p.pos + 3 + eolN t (p.pos + 3)) (eolN t (p.pos + 3)) (p.pos + 3 + eolN t (p.pos + 3)) with
 | none => p.fail
 | some none => { p with opn:=true }
 | some (some i) => { p.put kind (p.pos + 3 + eolN t (p.pos + 3)) (wordA t (p.pos + 3 + eolN t (p.pos + 3)) i) with pos:=i + 3 + eolN t (i + 3) }
def QP.opened (p : QP) : QP:={ p with opn:=true }
def QP.loosed (p : QP) : QP:=({ p with loose:=true } : QP).fail
def toS (x t : List UInt8) (p : Nat) : Nat:=
 if _h : p < t.length then (if begS t p x = true then p else toS x t (p + 1)) else p
termination_by t.length - p
def comEnd (t : List UInt8) (i : Nat) : List UInt8:=if chr t (i + 2) = 37 then [42,47,37,125,125] else [42,47,62,125,125]
def QP.commentK (t : List UInt8) (p : QP) (k : Nat) : QP:=
 if begS t (p.pos + 4) (comEnd t p.pos) = true ∨ p.inl ≠ [] then p.opened else
 if t.length ≤ k then p.loosed else
 { (((p.put 18 p.pos (wordA t p.pos (p.pos + 3))).text t (p.pos + 5) k true).put 18 (k + 2) (wordA t (k + 2) (k + 5))) with pos:=k + 5 }
def QP.comment (t : List UInt8) (p : QP) : QP:=p.commentK t (toS (comEnd t p.pos) t (p.pos + 5))
def inlSp : List UInt8:=[46,105,110,108,105,110,101,32]
def QP.nameK (t : List UInt8) (p : QP) (k : Nat) : Bool × QP:=
 if k < t.length ∧ 128 ≤ chr t k then (false,p.opened) else
 if begS t k inlSp = true ∧ k + 7 < t.length then
  (true,{ p.put 14 p.pos (wordA t p.pos (k + 7)) with inl:=wordA t p.pos (k + 7),nms:=p.nms ++ [wordA t p.pos (k + 7)],pos:=k + 7 }) else
 if begS t k [46] = true then (false,p.fail) else
 if k = t.length then (false,p.loosed) else
 if whiteB (t.getD k 0) = false ∧ begS t k gt3 = false ∧ begS t k pct3 = false then (false,p.opened) else
 (true,{ p.put 13 p.pos (wordA t p.pos k) with nms:=p.nms ++ [wordA t p.pos k],pos:=k })
def QP.name (t : List UInt8) (p : QP) : Bool × QP:=p.nameK t (runTo notWd t p.pos)
def clBad (t right : List UInt8) (within : Bool) (k : Nat) : Bool:=
 decide (t.length ≤ k) || decide (128 ≤ chr t k) || (within && decide (chr t k ≠ 32)) || (!within && (!whiteB (t.getD k 0) && !begS t k right))
def QP.closingN (t right : List UInt8) (p : QP) (slash a k : Nat) (kind : Int) : QP:=
 if clBad t right (decide (kind = 14) || decide (p.inl ≠ [])) k = true then { p with pos:=a,opn:=true } else
 if p.inl ≠ [] ∧ p.inl ≠ wordA t a k then { p with pos:=a,opn:=true } else
 if p.nms.elem (wordA t a k) = false then ({ p with pos:=a } : QP).loosed else
 if begS t (runTo notW t k) right = false then ({ (p.put 12 slash [47]).put kind a (wordA t a k) with pos:=runTo notW t k } : QP).loosed else
 ({ (p.put 12 slash [47]).put kind a (wordA t a k) with pos:=runTo notW t k,inl:=[] } : QP).fin right
def QP.closingA (t right : List UInt8) (p : QP) (slash a : Nat) : QP:=
 if t.length ≤ a ∨ wordB (t.getD a 0) = false ∨ chr t a = 45 then { p with pos:=a,opn:=true } else
 if begS t (runTo notWd t a) inlS = true then p.closingN t right slash a (runTo notWd t a + 7) 14 else p.closingN t right slash a (runTo notWd t a) 13
def QP.closing (t right : List UInt8) (p : QP) : QP:=p.closingA t right p.pos (runTo notW t (p.pos + 1))
def quGo (t : List UInt8) (q fr i : Nat) (tx : List UInt8) : Option (Option (Nat × List UInt8)):=
 if _h : i < t.length then
  if t[i].toNat = 92 ∧ (q = 96 ∨ i = fr ∨ begS t (i + 1) [34] = false) then some none else
  if t[i].toNat = 92 then quGo t q fr (i + 2) (tx ++ [34]) else
  if t[i].toNat = q then some (some (i,tx)) else
  if t[i].toNat = 10 ∧ q = 34 then none else quGo t q fr (i + 1) (tx ++ [t[i]])
 else none
termination_by t.length - i
def QP.quoted (t : List UInt8) (p : QP) (kind : Int) : QP:=
 match quGo t (chr t p.pos) (p.pos + 1) (p.pos + 1) [] with
 | none => p.fail
 | some none => p.opened
 | some (some (i,tx)) => { p.put kind (p.pos + 1) tx with pos:=i + 1 }
def valC (b : UInt8) : Bool:=wordB b || decide (b.toNat = 46) || decide (b.toNat = 47) || decide (b.toNat = 58) || decide (b.toNat = 35)
def stopV (b : UInt8) : Bool:=whiteB b || !valC b
def QP.valueK (t : List UInt8) (p : QP) (k : Nat) : QP:=
 if k = t.length ∨ k = p.pos ∨ whiteB (t.getD k 0) = false then p.opened else { p.put 16 p.pos (wordA t p.pos k) with pos:=k }
def QP.value (t : List UInt8) (p : QP) : QP:=
 if p.pos < t.length ∧ (chr t p.pos = 34 ∨ chr t p.pos = 96) then p.quoted t 16 else p.valueK t (runTo stopV t p.pos)
def notPar (b : UInt8) : Bool:=!(wordB b || decide (b.toNat = 46))
def QP.parameterK (t : List UInt8) (nm po : Bool) (p : QP) (k : Nat) : Bool × Bool × QP:=
 if k = p.pos ∨ k = t.length ∨ chr t p.pos = 46 ∨ chr t p.pos = 45 then (nm,po,p.opened) else
 if chr t k = 61 then
  (if po = true then (nm,po,p.fail) else (true,po,({ p.put 15 p.pos (wordA t p.pos k) with pos:=runTo notW t (k + 1) } : QP).value t)) else
 if whiteB (t.getD k 0) = false ∧ begS t k gt3 = false ∧ begS t k pct3 = false then (nm,po,p.opened) else
 if k < runTo notW t k ∧ begS t (runTo notW t k) [61] = true then (nm,po,p.opened) else
 if nm = true then (nm,po,p.fail) else (nm,true,{ p.put 15 p.pos (wordA t p.pos k) with pos:=k })
def QP.parameter (t : List UInt8) (nm po : Bool) (p : QP) : Bool × Bool × QP:=p.parameterK t nm po (runTo notPar t p.pos)
def parN (t right : List UInt8) (inline : Bool) : Nat → Bool → Bool → Bool → QP → QP
 | 0,_,_,_,p => p
 | n + 1,nm,po,ap,p =>
  if p.wrong = true ∨ p.opn = true then p else
  if runTo notW t p.pos = t.length then ({ p with pos:=runTo notW t p.pos } : QP).fail else
  if begS t (runTo notW t p.pos) right = true then ({ p with pos:=runTo notW t p.pos } : QP).fin right else
  if begS t (runTo notW t p.pos) gt3 = true ∨ begS t (runTo notW t p.pos) pct3 = true then ({ p with pos:=runTo notW t p.pos } : QP).fail else
  if inline = true ∨ (decide (p.pos < runTo notW t p.pos) || (!nm && !po && ap)) = false then { p with pos:=runTo notW t p.pos,opn:=true } else
  if begS t (runTo notW t p.pos) [47] = true then
   (if begS t (runTo notW t (runTo notW t p.pos + 1)) right = false then { p.put 12 (runTo notW t p.pos) [47] with pos:=runTo notW t (runTo notW t p.pos + 1),opn:=true }
    else ({ p.put 12 (runTo notW t p.pos) [47] with pos:=runTo notW t (runTo notW t p.pos + 1) } : QP).fin right) else
  if chr t (runTo notW t p.pos) = 34 ∨ chr t (runTo notW t p.pos) = 96 then
   (if nm = true then ({ p with pos:=runTo notW t p.pos } : QP).loosed else parN t right inline n nm true false (({ p with pos:=runTo notW t p.pos } : QP).quoted t 15)) else
  parN t right inline n (({ p with pos:=runTo notW t p.pos } : QP).parameter t nm po).1 (({ p with pos:=runTo notW t p.pos } : QP).parameter t nm po).2.1 false (({ p with pos:=runTo notW t p.pos } : QP).parameter t nm po).2.2
def QP.parameters (t right : List UInt8) (p : QP) : QP:=parN t right (decide (p.inl ≠ [])) (t.length + 1 - p.pos) false false true p
def QP.shortA (t right : List UInt8) (p : QP) : QP:=
 if p.pos = t.length then p.fail else
 if begS t p.pos [47] = true then p.closing t right else
 if begS t p.pos right = true then (if p.inl ≠ [] then p.opened else p).fin right else
 if wordB (t.getD p.pos 0) = false ∨ chr t p.pos = 45 then ({ p with opn:=decide (128 ≤ chr t p.pos) || (!begS t p.pos gt3 && !begS t p.pos pct3) } : QP).fail else
 if p.inl ≠ [] then p.opened else
 if (p.name t).1 = true then (p.name t).2.parameters t right else (p.name t).2
def rightOf (t : List UInt8) (i : Nat) : List UInt8:=if chr t (i + 2) = 37 then pct3 else gt3
def QP.shortcode (t : List UInt8) (p : QP) : QP:=
 ({ p.put (if chr t (p.pos + 2) = 37 then 10 else 8) p.pos (wordA t p.pos (p.pos + 3)) with pos:=runTo notW t (p.pos + 3) } : QP).shortA t (rightOf t p.pos)
def cm1 : List UInt8:=[123,123,60,47,42]
def cm2 : List UInt8:=[123,123,37,47,42]
def mainN (t : List UInt8) : Nat → Nat → QP → QP
 | 0,_,p => p
 | n + 1,fr,p =>
  if p.wrong = true ∨ p.opn = true then p else
  if t.length ≤ p.pos then (p.text t fr t.length false).put 1 t.length [] else
  if begS t p.pos [123,123,123] = true then p.opened else
  if begS t p.pos cm1 = true ∨ begS t p.pos cm2 = true then mainN t n ((p.text t fr p.pos false).comment t).pos ((p.text t fr p.pos false).comment t) else
  if begS t p.pos bs137 = true ∨ begS t p.pos bs124 = true then mainN t n ((p.text t fr p.pos false).shortcode t).pos ((p.text t fr p.pos false).shortcode t) else
  if begS t p.pos bs120 = true then mainN t n p.pos { p.text t fr p.pos false with pos:=p.pos + 2 } else
  if p.dv ≠ [] ∧ begS t p.pos p.dv = true then
   mainN t n (runTo notW t (p.pos + p.dv.length)) { (p.text t fr p.pos false).put 2 p.pos (wordA t p.pos (runTo notW t (p.pos + p.dv.length))) with pos:=runTo notW t (p.pos + p.dv.length),dv:=[] }
  else mainN t n fr { p with pos:=p.pos + 1 }
def QP.frontA (t : List UInt8) (p : QP) : Nat × QP:=
 if p.pos = t.length then (0,p) else
 if chr t p.pos = 45 then ((p.fenced t 3 [45,45,45]).pos,p.fenced t 3 [45,45,45]) else
 if chr t p.pos = 43 then ((p.fenced t 4 [43,43,43]).pos,p.fenced t 4 [43,43,43]) else
 if chr t p.pos = 123 then ((p.brace t).pos,p.brace t) else
 if begS t p.pos [35,43] = true then ((p.kws t).pos,{ p.kws t with dv:=if p.dv ≠ [] then bs100 else [] }) else
 (0,{ p with pos:=p.pos + 1,opn:=p.opn || (decide (p.dv ≠ []) && begS t p.pos p.dv) })
def QP.front (t : List UInt8) (p : QP) : Nat × QP:=({ p with pos:=runTo notW t p.pos } : QP).frontA t
def qp0 (divider : Bool) : QP:=⟨0,if divider then bs103 else [],[],[],[],false,false,false⟩
def readA (t : List UInt8) (fr : Nat) (p : QP) : QP:=if p.wrong = true ∨ p.opn = true then p else mainN t (t.length + 1 - p.pos) fr p
def readQ (t : List UInt8) (front divider : Bool) : QP:=
 if front = true then readA t ((qp0 divider).front t).1 ((qp0 divider).front t).2 else readA t 0 (qp0 divider)
set_option maxHeartbeats 4000000 in
theorem fenced_qfn {X B : Nat} {t three : List UInt8} {v : QV} {p : QP} {w : World} {kind : Int} (h : QS X B t v p w) (ht : t.length ≤ 100000) (hn : p.rs.length ≤ 900000) (hp : p.pos ≤ t.length) (h3 : three.length = 3) :
  QF X B t v w 61 [I kind,S three] (.tuple #[]) (p.fenced t kind three):=by
 refine fn_of Tryz.func61 rfl Tryz.ntmps61 rfl ?_
 have hX : HX X w.drew t p.pos p.dv v.l v.nm p.inl p.wrong p.opn p.loose:=h.at_
 repeat refine C0 ?_
 refine CE.drawR Ext [0,0,0,0,0,0,0,0,0,0,0] mixed Ext.refl (fun _ _ _ => Ext.trans) (by decide +kernel) ?_
 repeat(first|refine Z1 rfl rfl ?_|refine Z2 rfl rfl ?_|refine Z3 rfl rfl rfl ?_|refine Z22 rfl rfl hX rfl rfl ?_)
 refine RE.dc en34 rfl rfl (fun w2 _ => Fn.mono (pageHas_fn (i:=p.pos) (x:=three) (by omega) (by omega) (by omega)) (by rintro _ w3 ⟨rfl,rfl⟩; exact ⟨rfl,Ext.refl _⟩)) ?_
 repeat (refine Z11 rfl rfl ?_)
 refine C4 (fun w1 hw1 => ?_)
 have e1:=(Ext.drew w).trans hw1
 have g1:=h.ext e1
 unfold QP.fenced
 refine CE.cond_s rfl (fun h4 => ?_) (fun h4 => ?_)
 ·rw [if_pos (by simpa using h4)]
  repeat(first|refine C0 ?_|refine C1 ?_|refine X1 rfl rfl ?_)
  refine RE.xc en84 rfl rfl (qfail_fn g1 (by omega)) ?_
  rintro _ w2 ⟨rfl,v2,g2,i2⟩
  repeat (refine C2 ?_)
  (refine CE.ret ?_; (try dsimp only); refine ret0 rfl ?_)
  exact ⟨rfl,_,g2,i2.ext_l e1⟩
 have hb : begS t p.pos three = true:=by simpa using h4
 have hb2:=(begS_at hb).1
 rw [if_neg (by rw [hb]; simp)]
 refine C3 ?_
 have hX1 : HX X w1 t p.pos p.dv v.l v.nm p.inl p.wrong p.opn p.loose:=g1.at_
 repeat(first|refine C0 ?_|refine C1 ?_|refine X1 rfl rfl ?_|refine X0 rfl rfl ?_|refine X2 rfl rfl ?_|refine X3 rfl rfl rfl ?_|refine X22 rfl rfl hX1 rfl rfl ?_|refine X18 rfl rfl (by omega) (by omega) rfl ?_|refine C2 ?_)
 refine RE.xc en85 rfl rfl (lineEnd_fn (i:=p.pos + 3) g1 (by omega) (by omega)) ?_
 rintro _ w2 ⟨rfl,hw⟩
 subst hw
 have hle:=eolN_le (t:=t) (i:=p.pos + 3) (by omega)
 have hfr : ∃ fr n,fr = p.pos + 3 + n ∧ n = eolN t (p.pos + 3):=⟨_,_,rfl,rfl⟩
 obtain ⟨fr,n,hfe,hne⟩:=hfr
 rw [← hne] at hle ⊢
 rw [← hfe] at hle ⊢
 repeat(first|refine C0 ?_|refine C1 ?_|refine X1 rfl rfl ?_|refine X0 rfl rfl ?_|refine X18 rfl rfl (by omega) (by omega) rfl ?_|refine C2 ?_)
 have hc : (p.pos : Int) + 3 + n = (fr : Int):=by omega
 rw [hc]
 skip
 refine CE.cut (fun s ds w' => ds = [] ∧ w' = w2 ∧ fnGo t three fr n fr = none ∧ SubL [(0,Ptr X 0)] s) ?_ ?_
 ·refine CE.block ?_
  refine CE.loop (α:=Nat) (fun i => [(9,I i),(8,I fr),(7,I n),(2,S three),(1,I kind),(0,Ptr X 0)]) (fun i w' => w' = w2 ∧ fr ≤ i ∧ i ≤ t.length + 1 ∧ fnGo t three fr n fr = fnGo t three fr n i) (fun i => t.length + 1 - i) fr (by repeat first | trivial|refine ⟨rfl,?_⟩) ⟨rfl,Nat.le_refl _,by omega,rfl⟩ ?_
  rintro i w3 ⟨hw,hfi,hi,hrun⟩
  subst hw
  have hgo:=fnGo.eq_def t three fr n i
  repeat(first|refine C0 ?_|refine C1 ?_|refine X1 rfl rfl ?_|refine X2 rfl rfl ?_|refine X3 rfl rfl rfl ?_|refine X22 rfl rfl hX1 rfl rfl ?_|refine X8 rfl rfl rfl ?_|refine X14 rfl Tryz.underlying9 rfl ?_|refine C2 ?_)
  refine CE.cond_d rfl (fun h5 => ?_) (fun h5 => ?_)
  ·have hil : i ≤ t.length:=by omega
   rw [dif_pos hil] at hgo
   refine C3 ?_
   repeat refine C0 ?_
   refine CE.block ?_
   repeat refine C0 ?_
   refine CE.cut (fun s ds w' => ds = [] ∧ w' = w3 ∧ SubL [(69,.bool (loneCR t i)),(9,I i),(8,I fr),(7,I n),(2,S three),(1,I kind),(0,Ptr X 0)] s) ?_ ?_
   ·repeat(first|refine C1 ?_|refine X1 rfl rfl ?_|refine X2 rfl rfl ?_|refine X3 rfl rfl rfl ?_|refine X22 rfl rfl hX1 rfl rfl ?_|refine X7 rfl rfl rfl ?_|refine X14 rfl Tryz.underlying9 rfl ?_)
    refine RE.splitD (fun h6 => ?_) (fun h6 => ?_)
    ·have hil' : i < t.length:=by omega
     have hix : t[((i : Nat) : Int).toNat]? = some t[i]:=by rw [Int.toNat_natCast]; exact List.getElem?_eq_getElem hil'
     have h13 : t[i]? = some t[i]:=List.getElem?_eq_getElem hil'
     repeat(first|refine X1 rfl rfl ?_|refine X2 rfl rfl ?_|refine X3 rfl rfl rfl ?_|refine X22 rfl rfl hX1 rfl rfl ?_|refine RE.want rfl rfl ?_)
     refine RE.x (op_index_s (b:=t[i]) rfl rfl Tryz.underlying9 (by omega) hix) rfl ?_
     repeat(first|refine X1 rfl rfl ?_|refine X5 rfl rfl rfl ?_|refine X16 rfl rfl rfl rfl ?_|refine RE.want rfl rfl ?_)
     refine RE.splitD (fun h7 => ?_) (fun h7 => ?_)
     ·have h7' : t[i]? = some 13:=by rw [h13]; congr 1; exact UInt8.toNat_inj.1 (by show _ = 13; omega)
      have hl : loneCR t i = !begS t i [13,10]:=by unfold loneCR; rw [decide_eq_true h7']; rfl
      rw [hl]
      repeat(first|refine X1 rfl rfl ?_|refine X2 rfl rfl ?_|refine X3 rfl rfl rfl ?_|refine X22 rfl rfl hX1 rfl rfl ?_|refine RE.want rfl rfl ?_)
      refine RE.xc en34 rfl rfl (pageHas_fn (i:=i) (x:=[13,10]) (by omega) (by decide) (by omega)) ?_
      rintro _ w4 ⟨rfl,hw⟩
      subst hw
      repeat(first|refine X11 rfl rfl ?_|refine X16 rfl rfl rfl rfl ?_|refine RE.want rfl rfl ?_)
      refine RE.nilx ?_
      exact ⟨rfl,rfl,(by repeat first | trivial|refine ⟨rfl,?_⟩)⟩
     ·have h7' : ¬ t[i]? = some 13:=by
       rw [h13]
       intro e
       have e1 : t[i] = 13:=by injection e
       rw [e1] at h7
       exact h7 rfl
      have hl : loneCR t i = false:=by unfold loneCR; rw [decide_eq_false h7']; rfl
      rw [hl]
      repeat(first|refine X17 rfl rfl rfl ?_|refine RE.nox rfl rfl rfl rfl ?_)
      refine RE.nilx ?_
      exact ⟨rfl,rfl,(by repeat first | trivial|refine ⟨rfl,?_⟩)⟩
    ·have h7' : ¬ t[i]? = some 13:=by
      rw [List.getElem?_eq_none (by omega)]
      simp
     have hl : loneCR t i = false:=by unfold loneCR; rw [decide_eq_false h7']; rfl
     rw [hl]
     repeat(first|refine X1 rfl rfl ?_|refine X17 rfl rfl rfl ?_|refine RE.nox rfl rfl rfl rfl ?_)
     refine RE.nilx ?_
     exact ⟨rfl,rfl,(by repeat first | trivial|refine ⟨rfl,?_⟩)⟩
   rintro s _ w4 ⟨rfl,hw,hs⟩
   subst hw
   refine CE.sub hs ?_
   refine CE.cond_s rfl (fun h6 => ?_) (fun h6 => ?_)
   ·rw [if_pos h6] at hgo
    rw [hrun.trans hgo]
    repeat(first|refine C0 ?_|refine C1 ?_|refine X1 rfl rfl ?_|refine X2 rfl rfl ?_|refine X3 rfl rfl rfl ?_)
    refine RE.xs (e_store rfl rfl rfl hX1 rfl rfl) ?_
    rintro _ w5 hu5
    obtain ⟨g5,i5⟩:=QS.upd (p':={ p with opn:=true }) g1 hu5 rfl rfl
    repeat (refine C2 ?_)
    (refine CE.ret ?_; (try dsimp only); refine ret0 rfl ?_)
    exact ⟨rfl,_,g5,i5.ext_l e1⟩
   rw [if_neg (by rw [h6]; simp)] at hgo
   refine C3 ?_
   repeat refine C0 ?_
   refine CE.cut (fun s ds w' => ds = [] ∧ w' = w4 ∧ SubL [(10,.bool (freshB t fr n i)),(9,I i),(8,I fr),(7,I n),(2,S three),(1,I kind),(0,Ptr X 0)] s) ?_ ?_
   ·repeat(first|refine C1 ?_|refine X1 rfl rfl ?_|refine X5 rfl rfl rfl ?_)
    refine RE.splitD (fun h7 => ?_) (fun h7 => ?_)
    ·have h7' : i = fr:=by omega
     repeat(first|refine X1 rfl rfl ?_|refine X9 rfl rfl rfl ?_|refine X16 rfl rfl rfl rfl ?_|refine RE.want rfl rfl ?_)
     refine RE.splitD (fun h8 => ?_) (fun h8 => ?_)
     ·have hb8 : freshB t fr n i = true:=by unfold freshB; rw [decide_eq_true h7',decide_eq_true (show 0 < n by omega)]; rfl
      rw [hb8]
      repeat(first|refine X0 rfl rfl ?_|refine X16 rfl rfl rfl rfl ?_|refine RE.nox rfl rfl rfl rfl ?_|refine RE.nou rfl rfl rfl ?_)
      refine RE.nilx ?_
      exact ⟨rfl,rfl,(by repeat first | trivial|refine ⟨rfl,?_⟩)⟩
     ·have hb8 : freshB t fr n i = false:=by unfold freshB; rw [decide_eq_false (show ¬ 0 < n by omega),decide_eq_false (show ¬ fr < i by omega),Bool.and_false]; rfl
      rw [hb8]
      repeat(first|refine X1 rfl rfl ?_|refine X9 rfl rfl rfl ?_|refine RE.want rfl rfl ?_)
      refine RE.splitD (fun h9 => (by omega : False).elim) (fun h9 => ?_)
      repeat(first|refine X0 rfl rfl ?_|refine X17 rfl rfl rfl ?_|refine RE.want rfl rfl ?_|refine RE.nox rfl rfl rfl rfl ?_)
      refine RE.nilx ?_
      exact ⟨rfl,rfl,(by repeat first | trivial|refine ⟨rfl,?_⟩)⟩
    ·repeat(first|refine X1 rfl rfl ?_|refine X9 rfl rfl rfl ?_|refine X17 rfl rfl rfl ?_|refine RE.want rfl rfl ?_|refine RE.nox rfl rfl rfl rfl ?_)
     refine RE.splitD (fun h9 => ?_) (fun h9 => (by omega : False).elim)
     obtain ⟨b,hb⟩ : ∃ b,t[i - 1]? = some b:=⟨t[i - 1]'(by omega),List.getElem?_eq_getElem _⟩
     have hbi : t[((i : Int) - 1).toNat]? = some b:=by rw [show ((i : Int) - 1).toNat = i - 1 by omega]; exact hb
     have hb8 : freshB t fr n i = decide ((b.toNat : Int) = 10):=by
      unfold freshB
      rw [decide_eq_false (show ¬ i = fr by omega),decide_eq_true (show fr < i by omega),Bool.false_and,Bool.false_or,Bool.true_and,hb]
      refine decide_eq_decide.2 ⟨fun e => ?_,fun e => ?_⟩
      ·injection e with e1; rw [e1]; rfl
      ·congr 1; exact UInt8.toNat_inj.1 (by show _ = 10; omega)
     rw [hb8]
     repeat(first|refine X1 rfl rfl ?_|refine X2 rfl rfl ?_|refine X3 rfl rfl rfl ?_|refine X22 rfl rfl hX1 rfl rfl ?_|refine X19 rfl rfl (by omega) (by omega) rfl ?_|refine RE.want rfl rfl ?_)
     refine RE.x (op_index_s (b:=b) rfl rfl Tryz.underlying9 (by omega) hbi) rfl ?_
     repeat(first|refine X0 rfl rfl ?_|refine X5 rfl rfl rfl ?_|refine X16 rfl rfl rfl rfl ?_|refine X17 rfl rfl rfl ?_|refine RE.want rfl rfl ?_)
     refine RE.nilx ?_
     exact ⟨rfl,rfl,(by repeat first | trivial|refine ⟨rfl,?_⟩)⟩
   rintro s _ w5 ⟨rfl,hw,hs⟩
   subst hw
   refine CE.sub hs ?_
   repeat(first|refine C0 ?_|refine C1 ?_|refine X1 rfl rfl ?_)
   refine RE.cut (fun s ds w' => ds = [] ∧ w' = w5 ∧ SubL [(104,.bool (freshB t fr n i && begS t i three)),(9,I i),(8,I fr),(7,I n),(2,S three),(1,I kind),(0,Ptr X 0)] s) ?_ ?_
   ·refine RE.splitH (fun h7 => ?_) (fun h7 => ?_)
    ·rw [h7]
     repeat(first|refine X1 rfl rfl ?_|refine X2 rfl rfl ?_|refine X3 rfl rfl rfl ?_|refine X22 rfl rfl hX1 rfl rfl ?_|refine RE.want rfl rfl ?_)
     refine RE.xc en34 rfl rfl (pageHas_fn (i:=i) (x:=three) (by omega) (by omega) (by omega)) ?_
     rintro _ w6 ⟨rfl,hw⟩
     subst hw
     repeat (refine X16 rfl rfl rfl rfl ?_)
     refine RE.nilx ?_
     exact ⟨rfl,rfl,(by repeat first | trivial|refine ⟨rfl,?_⟩)⟩
    ·rw [h7]
     repeat(first|refine X17 rfl rfl rfl ?_|refine RE.nox rfl rfl rfl rfl ?_)
     refine RE.nilx ?_
     exact ⟨rfl,rfl,(by repeat first | trivial|refine ⟨rfl,?_⟩)⟩
   rintro s _ w6 ⟨rfl,hw,hs⟩
   subst hw
   refine CE.sub hs ?_
   refine CE.cond_s rfl (fun h7 => ?_) (fun h7 => ?_)
   ·rw [if_pos (by simpa using h7)] at hgo
    rw [hrun.trans hgo]
    have hle2:=eolN_le (t:=t) (i:=i + 3) (by have:=(begS_at (t:=t) (p:=i) (x:=three) (by simp at h7; exact h7.2)).1; omega)
    repeat(first|refine C0 ?_|refine C1 ?_|refine X1 rfl rfl ?_|refine X2 rfl rfl ?_|refine X3 rfl rfl rfl ?_|refine X22 rfl rfl hX1 rfl rfl ?_)
    refine RE.x (op_str_lh rfl rfl rfl Tryz.underlying9 (by omega) (by omega) (by omega)) rfl ?_
    rw [show ((i : Int)).toNat - ((fr : Int)).toNat = i - fr by omega,Int.toNat_natCast]
    refine RE.xc en65 rfl rfl (qput_fn (tx:=wordA t fr i) g1 (by omega) (by have:=word_len t fr i; omega)) ?_
    rintro _ w7 ⟨rfl,v7,g7,i7⟩
    have hX7 : HX X w7 t p.pos p.dv v7.l v7.nm p.inl p.wrong p.opn p.loose:=g7.at_
    repeat(first|refine C0 ?_|refine C1 ?_|refine X1 rfl rfl ?_|refine X18 rfl rfl (by omega) (by omega) rfl ?_|refine C2 ?_)
    refine RE.xc en85 rfl rfl (lineEnd_fn (i:=i + 3) g7 (by omega) (by omega)) ?_
    rintro _ w8 ⟨rfl,hw⟩
    subst hw
    repeat(first|refine X2 rfl rfl ?_|refine X3 rfl rfl rfl ?_|refine X18 rfl rfl (by omega) (by omega) rfl ?_)
    refine RE.xs (e_store rfl rfl rfl hX7 rfl rfl) ?_
    rintro _ w9 hu9
    obtain ⟨g9,i9⟩:=QS.upd (p':={ p.put kind fr (wordA t fr i) with pos:=i + 3 + eolN t (i + 3) }) g7 hu9 rfl rfl
    repeat (refine C2 ?_)
    (refine CE.ret ?_; (try dsimp only); refine ret0 rfl ?_)
    exact ⟨rfl,_,g9,(i7.trans i9).ext_l e1⟩
   ·rw [if_neg (by simpa using h7)] at hgo
    refine C3 ?_
    repeat(first|refine C1 ?_|refine X1 rfl rfl ?_|refine X0 rfl rfl ?_|refine X18 rfl rfl (by omega) (by omega) rfl ?_)
    refine RE.nilx ?_
    exact ⟨i + 1,by show t.length + 1 - (i + 1) < t.length + 1 - i; omega,rfl,(by repeat first | trivial|refine ⟨rfl,?_⟩),rfl,by omega,by omega,hrun.trans hgo⟩
  ·refine CE.exit ?_
   rw [dif_neg (by omega)] at hgo
   exact ⟨rfl,rfl,hrun.trans hgo,(by repeat first | trivial|refine ⟨rfl,?_⟩)⟩
 rintro s _ w3 ⟨rfl,hw,hnone,hs⟩
 subst hw
 refine CE.sub hs ?_
 rw [hnone]
 repeat(first|refine C1 ?_|refine X1 rfl rfl ?_)
 refine RE.xc en84 rfl rfl (qfail_fn g1 (by omega)) ?_
 rintro _ w4 ⟨rfl,v4,g4,i4⟩
 (refine RE.nilx ?_; (try dsimp only); refine end0 rfl ?_)
 exact ⟨rfl,_,g4,i4.ext_l e1⟩
end Go.Wk
