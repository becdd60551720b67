/- The specification's lexer: a named parameter's value. -/
import Derived.Test.YtmbencknblcocaaGreatDoorYbc
namespace Go.Wk
open Go Go.RowKit Go.Proofs
set_option maxRecDepth 100000
set_option maxHeartbeats 8000000 in
theorem value_qfn {X B : Nat} {t : List UInt8} {v : QV} {p : QP} {w : World} (h : QS X B t v p w) (ht : t.length ≤ 100000) (hn : p.rs.length ≤ 700000) (hp : p.pos ≤ t.length) :
  QF X B t v w 134 [] (.tuple #[]) (p.value t):=by
 refine fn_of Tryz.func134 rfl Tryz.ntmps134 rfl ?_
 have e1 : Ext w w.drew:=Ext.drew w
 have g1:=h.ext e1
 have hX1 : HX X w.drew t p.pos p.dv v.l v.nm p.inl p.wrong p.opn p.loose:=g1.at_
 unfold QP.value
 repeat refine C0 ?_
 refine CE.draw [0,0,0,0,0,0,0,0,0,0,0,0,0,0,0,0,0,0,0,0,0,0,0,0,0,0,0,0,0,0,0,0,0,0] mixed (by decide +kernel) ?_
 repeat(first|refine Y1 rfl rfl ?_|refine Y2 rfl rfl ?_|refine Y3 rfl rfl rfl ?_|refine Y22 rfl rfl hX1 rfl rfl ?_|refine Y7 rfl rfl rfl ?_|refine Y14 rfl Tryz.underlying9 rfl ?_)
 refine RE.cut (fun s ds w' => ds = [] ∧ w' = w.drew ∧ SubL [(37,.bool (decide (p.pos < t.length ∧ (chr t p.pos = 34 ∨ chr t p.pos = 96)))),(0,Ptr X 0)] s) ?_ ?_
 ·refine RE.splitD (fun h1 => ?_) (fun h1 => ?_)
  ·have hp' : p.pos < t.length:=by omega
   have hbi : t[((p.pos : Nat) : Int).toNat]? = some t[p.pos]:=by rw [Int.toNat_natCast]; exact List.getElem?_eq_getElem hp'
   have hch:=chr_at hp'
   generalize t[p.pos] = b at hbi hch
   repeat(first|refine Y1 rfl rfl ?_|refine Y2 rfl rfl ?_|refine Y3 rfl rfl rfl ?_|refine Y22 rfl rfl hX1 rfl rfl ?_|refine RE.want rfl rfl ?_)
   refine RE.d1 (op_index_s (b:=b) rfl rfl Tryz.underlying9 (by omega) hbi) rfl ?_
   repeat(first|refine Y1 rfl rfl ?_|refine Y5 rfl rfl rfl ?_|refine RE.want rfl rfl ?_)
   refine RE.splitD (fun h2 => ?_) (fun h2 => ?_)
   ·rw [decide_eq_true (show p.pos < t.length ∧ (chr t p.pos = 34 ∨ chr t p.pos = 96) by omega)]
    repeat(first|refine Y16 rfl rfl rfl rfl ?_|refine RE.want rfl rfl ?_|refine RE.no0 rfl rfl rfl rfl ?_)
    refine RE.nilx ?_
    exact ⟨rfl,rfl,(by repeat first | trivial|refine ⟨rfl,?_⟩)⟩
   ·have hcb : decide (p.pos < t.length ∧ (chr t p.pos = 34 ∨ chr t p.pos = 96)) = decide ((b.toNat : Int) = 96):=decide_eq_decide.2 (by omega)
    rw [hcb]
    repeat(first|refine Y1 rfl rfl ?_|refine Y2 rfl rfl ?_|refine Y3 rfl rfl rfl ?_|refine Y22 rfl rfl hX1 rfl rfl ?_|refine RE.want rfl rfl ?_)
    refine RE.d1 (op_index_s (b:=b) rfl rfl Tryz.underlying9 (by omega) hbi) rfl ?_
    repeat(first|refine Y5 rfl rfl rfl ?_|refine Y16 rfl rfl rfl rfl ?_|refine Y17 rfl rfl rfl ?_|refine RE.want rfl rfl ?_)
    refine RE.nilx ?_
    exact ⟨rfl,rfl,(by repeat first | trivial|refine ⟨rfl,?_⟩)⟩
  ·rw [decide_eq_false (show ¬ (p.pos < t.length ∧ (chr t p.pos = 34 ∨ chr t p.pos = 96)) by omega)]
   repeat(first|refine Y17 rfl rfl rfl ?_|refine RE.no0 rfl rfl rfl rfl ?_|refine RE.nou0 rfl rfl rfl ?_)
   refine RE.nilx ?_
   exact ⟨rfl,rfl,(by repeat first | trivial|refine ⟨rfl,?_⟩)⟩
 rintro s _ w2 ⟨rfl,hw,hs⟩
 subst hw
 refine CE.sub hs ?_
 generalize w.drew = w1 at e1 g1 hX1
 refine CE.cond_d rfl (fun h1 => ?_) (fun h1 => ?_)
 ·rw [if_pos h1]
  repeat(first|refine C0 ?_|refine C1 ?_|refine X1 rfl rfl ?_)
  refine RE.xc en110 rfl rfl (quoted_qfn g1 ht (by omega) h1.1) ?_
  rintro _ w2 ⟨rfl,v2,g2,i2⟩
  repeat (refine C2 ?_)
  (refine CE.ret ?_; (try dsimp only); refine ret0 rfl ?_)
  exact ⟨rfl,_,g2,i2.ext_l e1⟩
 rw [if_neg h1]
 refine C3 ?_
 have hkl:=runTo_le (stop:=stopV) (t:=t) _ p.pos rfl hp
 repeat(first|refine C0 ?_|refine C1 ?_|refine X1 rfl rfl ?_|refine X0 rfl rfl ?_|refine X2 rfl rfl ?_|refine X3 rfl rfl rfl ?_|refine X22 rfl rfl hX1 rfl rfl ?_|refine C2 ?_)
 refine CE.cut (fun s ds w' => ds = [] ∧ w' = w1 ∧ (runTo stopV t p.pos = t.length ∨ whiteB (t.getD (runTo stopV t p.pos) 0) = true) ∧ SubL [(2,I (runTo stopV t p.pos)),(0,Ptr X 0)] s) ?_ ?_
 ·refine CE.block ?_
  refine CE.loop (α:=Nat) (fun k => [(2,I k),(0,Ptr X 0)]) (fun k w' => w' = w1 ∧ k ≤ t.length ∧ runTo stopV t p.pos = runTo stopV t k) (fun k => t.length - k) p.pos (by repeat first | trivial|refine ⟨rfl,?_⟩) ⟨rfl,hp,rfl⟩ ?_
  rintro k w2 ⟨hw,hk,hrun⟩
  subst hw
  repeat(first|refine C0 ?_|refine C1 ?_|refine X1 rfl rfl ?_|refine X2 rfl rfl ?_|refine X3 rfl rfl rfl ?_|refine X22 rfl rfl hX1 rfl rfl ?_|refine X7 rfl rfl rfl ?_|refine X14 rfl Tryz.underlying9 rfl ?_)
  refine RE.splitD (fun h2 => ?_) (fun h2 => ?_)
  ·have hk' : k < t.length:=by omega
   have hix : t[((k : Nat) : Int).toNat]? = some t[k]:=by rw [Int.toNat_natCast]; exact List.getElem?_eq_getElem hk'
   have hgd : t.getD k 0 = t[k]:=getD_of (List.getElem?_eq_getElem hk')
   have hgo : stopV t[k] = false → runTo stopV t k = runTo stopV t (k + 1):=fun e => runTo_go hk' e
   have hat : stopV t[k] = true → runTo stopV t k = k:=fun e => runTo_at hk' e
   generalize t[k] = b at hix hgd hgo hat
   repeat(first|refine X1 rfl rfl ?_|refine X2 rfl rfl ?_|refine X3 rfl rfl rfl ?_|refine X22 rfl rfl hX1 rfl rfl ?_|refine RE.want rfl rfl ?_)
   refine RE.x (op_index_s (b:=b) rfl rfl Tryz.underlying9 (by omega) hix) rfl ?_
   refine RE.want rfl rfl ?_
   refine RE.xc en37 rfl rfl (pageWhite_fn b w2) ?_
   rintro _ w3 ⟨rfl,hw⟩
   subst hw
   repeat(first|refine X11 rfl rfl ?_|refine X16 rfl rfl rfl rfl ?_|refine RE.want rfl rfl ?_|refine C2 ?_)
   refine CE.cond_s rfl (fun h3 => ?_) (fun h3 => ?_)
   ·have h3' : whiteB b = false:=by simpa using h3
    refine C3 ?_
    refine CE.block ?_
    repeat(first|refine C0 ?_|refine C1 ?_|refine X1 rfl rfl ?_|refine X2 rfl rfl ?_|refine X3 rfl rfl rfl ?_|refine X22 rfl rfl hX1 rfl rfl ?_)
    refine RE.x (op_index_s (b:=b) rfl rfl Tryz.underlying9 (by omega) hix) rfl ?_
    repeat(first|refine C0 ?_|refine C1 ?_|refine X1 rfl rfl ?_|refine X0 rfl rfl ?_|refine C2 ?_)
    refine RE.cut (fun s ds w' => ds = [] ∧ w' = w3 ∧ SubL [(85,.bool (!valC b)),(2,I k),(0,Ptr X 0)] s) ?_ ?_
    ·refine RE.xc en89 rfl rfl (pageWord_fn b w3) ?_
     rintro _ w4 ⟨rfl,hw⟩
     subst hw
     repeat(first|refine X1 rfl rfl ?_|refine X11 rfl rfl ?_)
     cases h4 : wordB b with
     | true =>
      have hv : valC b = true:=by unfold valC; rw [h4]; rfl
      rw [hv]
      repeat(first|refine X1 rfl rfl ?_|refine X17 rfl rfl rfl ?_|refine RE.nox rfl rfl rfl rfl ?_)
      refine RE.nilx ?_
      exact ⟨rfl,rfl,(by repeat first | trivial|refine ⟨rfl,?_⟩)⟩
     | false =>
      have hv : valC b = (decide (b.toNat = 46) || decide (b.toNat = 47) || decide (b.toNat = 58) || decide (b.toNat = 35)):=by unfold valC; rw [h4,Bool.false_or]
      rw [hv]
      repeat(first|refine X1 rfl rfl ?_|refine X6 rfl rfl rfl ?_|refine X16 rfl rfl rfl rfl ?_|refine RE.want rfl rfl ?_)
      refine RE.splitD (fun h5 => ?_) (fun h5 => ?_)
      ·rw [decide_eq_false (show ¬ b.toNat = 46 by omega),Bool.false_or]
       repeat(first|refine X1 rfl rfl ?_|refine X6 rfl rfl rfl ?_|refine X16 rfl rfl rfl rfl ?_|refine RE.want rfl rfl ?_)
       refine RE.splitD (fun h6 => ?_) (fun h6 => ?_)
       ·rw [decide_eq_false (show ¬ b.toNat = 47 by omega),Bool.false_or]
        repeat(first|refine X1 rfl rfl ?_|refine X6 rfl rfl rfl ?_|refine X16 rfl rfl rfl rfl ?_|refine RE.want rfl rfl ?_)
        refine RE.splitD (fun h7 => ?_) (fun h7 => ?_)
        ·rw [decide_eq_false (show ¬ b.toNat = 58 by omega),Bool.false_or]
         have hcb : (!decide (b.toNat = 35)) = decide ((b.toNat : Int) ≠ 35):=by
          by_cases h8 : b.toNat = 35
          ·rw [decide_eq_true h8,decide_eq_false (by omega)]; rfl
          ·rw [decide_eq_false h8,decide_eq_true (by omega)]; rfl
         rw [hcb]
         repeat(first|refine X1 rfl rfl ?_|refine X6 rfl rfl rfl ?_|refine X16 rfl rfl rfl rfl ?_|refine RE.want rfl rfl ?_)
         refine RE.nilx ?_
         exact ⟨rfl,rfl,(by repeat first | trivial|refine ⟨rfl,?_⟩)⟩
        ·rw [decide_eq_true (show b.toNat = 58 by omega)]
         repeat(first|refine X17 rfl rfl rfl ?_|refine RE.nox rfl rfl rfl rfl ?_)
         refine RE.nilx ?_
         exact ⟨rfl,rfl,(by repeat first | trivial|refine ⟨rfl,?_⟩)⟩
       ·rw [decide_eq_true (show b.toNat = 47 by omega)]
        repeat(first|refine X1 rfl rfl ?_|refine X17 rfl rfl rfl ?_|refine RE.nox rfl rfl rfl rfl ?_)
        refine RE.nilx ?_
        exact ⟨rfl,rfl,(by repeat first | trivial|refine ⟨rfl,?_⟩)⟩
      ·rw [decide_eq_true (show b.toNat = 46 by omega)]
       repeat(first|refine X1 rfl rfl ?_|refine X17 rfl rfl rfl ?_|refine RE.nox rfl rfl rfl rfl ?_)
       refine RE.nilx ?_
       exact ⟨rfl,rfl,(by repeat first | trivial|refine ⟨rfl,?_⟩)⟩
    rintro s _ w4 ⟨rfl,hw,hs⟩
    subst hw
    refine CE.sub hs ?_
    refine CE.cond_s rfl (fun h4 => ?_) (fun h4 => ?_)
    ·have hst : stopV b = true:=by unfold stopV; rw [h4,Bool.or_true]
     have hr:=hrun.trans (hat hst)
     have hpq : p.valueK t (runTo stopV t p.pos) = p.opened:=by unfold QP.valueK; rw [hr,hgd,if_pos (Or.inr (Or.inr h3'))]
     rw [hpq]
     repeat(first|refine C0 ?_|refine C1 ?_|refine X1 rfl rfl ?_|refine X2 rfl rfl ?_|refine X3 rfl rfl rfl ?_)
     refine RE.xs (e_store rfl rfl rfl hX1 rfl rfl) ?_
     rintro _ w5 hu5
     obtain ⟨g5,i5⟩:=QS.upd (p':=p.opened) g1 hu5 rfl rfl
     repeat (refine C2 ?_)
     (refine CE.ret ?_; (try dsimp only); refine ret0 rfl ?_)
     exact ⟨rfl,_,g5,i5.ext_l e1⟩
    ·have hst : stopV b = false:=by unfold stopV; rw [h3',h4]; rfl
     refine C3 ?_
     repeat(first|refine C1 ?_|refine X1 rfl rfl ?_|refine X0 rfl rfl ?_|refine X18 rfl rfl (by omega) (by omega) rfl ?_)
     refine RE.nilx ?_
     exact ⟨k + 1,by show t.length - (k + 1) < t.length - k; omega,rfl,(by repeat first | trivial|refine ⟨rfl,?_⟩),rfl,hk',hrun.trans (hgo hst)⟩
   ·have h3' : whiteB b = true:=by simpa using h3
    have hr:=hrun.trans (hat (by unfold stopV; rw [h3']; rfl))
    refine CE.exit ?_
    rw [hr]
    exact ⟨rfl,rfl,Or.inr (by rw [hgd]; exact h3'),(by repeat first | trivial|refine ⟨rfl,?_⟩)⟩
  ·repeat(first|refine X17 rfl rfl rfl ?_|refine RE.nox rfl rfl rfl rfl ?_|refine C2 ?_)
   refine CE.cond_f rfl ?_
   refine CE.exit ?_
   have hr:=hrun.trans (runTo_end (stop:=stopV) (t:=t) (p:=k) (by omega))
   rw [hr]
   exact ⟨rfl,rfl,Or.inl (by omega),(by repeat first | trivial|refine ⟨rfl,?_⟩)⟩
 rintro s _ w2 ⟨rfl,hw,hwh,hs⟩
 subst hw
 refine CE.sub hs ?_
 generalize runTo stopV t p.pos = k at hkl hwh
 unfold QP.valueK
 repeat(first|refine C0 ?_|refine C1 ?_|refine X1 rfl rfl ?_|refine X2 rfl rfl ?_|refine X3 rfl rfl rfl ?_|refine X22 rfl rfl hX1 rfl rfl ?_|refine X5 rfl rfl rfl ?_|refine X14 rfl Tryz.underlying9 rfl ?_)
 refine RE.cut (fun s ds w' => ds = [] ∧ w' = w2 ∧ SubL [(105,.bool (decide (k = t.length ∨ k = p.pos ∨ whiteB (t.getD k 0) = false))),(2,I k),(0,Ptr X 0)] s) ?_ ?_
 ·refine RE.splitD (fun h2 => ?_) (fun h2 => ?_)
  ·rw [decide_eq_true (show k = t.length ∨ k = p.pos ∨ whiteB (t.getD k 0) = false from Or.inl (by omega))]
   repeat(first|refine X16 rfl rfl rfl rfl ?_|refine RE.nox rfl rfl rfl rfl ?_)
   refine RE.nilx ?_
   exact ⟨rfl,rfl,(by repeat first | trivial|refine ⟨rfl,?_⟩)⟩
  ·have hwt : whiteB (t.getD k 0) = true:=hwh.resolve_left (by omega)
   have hcb : decide (k = t.length ∨ k = p.pos ∨ whiteB (t.getD k 0) = false) = decide ((k : Int) = p.pos):=by
    refine decide_eq_decide.2 ⟨fun e => ?_,fun e => Or.inr (Or.inl (by omega))⟩
    rcases e with e | e | e
    ·omega
    ·omega
    ·rw [hwt] at e; cases e
   rw [hcb]
   repeat(first|refine X1 rfl rfl ?_|refine X2 rfl rfl ?_|refine X3 rfl rfl rfl ?_|refine X22 rfl rfl hX1 rfl rfl ?_|refine X5 rfl rfl rfl ?_|refine X17 rfl rfl rfl ?_|refine RE.want rfl rfl ?_)
   refine RE.nilx ?_
   exact ⟨rfl,rfl,(by repeat first | trivial|refine ⟨rfl,?_⟩)⟩
 rintro s _ w3 ⟨rfl,hw,hs⟩
 subst hw
 refine CE.sub hs ?_
 refine CE.cond_d rfl (fun h2 => ?_) (fun h2 => ?_)
 ·rw [if_pos h2]
  repeat(first|refine C0 ?_|refine C1 ?_|refine X1 rfl rfl ?_|refine X2 rfl rfl ?_|refine X3 rfl rfl rfl ?_)
  refine RE.xs (e_store rfl rfl rfl hX1 rfl rfl) ?_
  rintro _ w4 hu4
  obtain ⟨g4,i4⟩:=QS.upd (p':=p.opened) g1 hu4 rfl rfl
  repeat (refine C2 ?_)
  (refine CE.ret ?_; (try dsimp only); refine ret0 rfl ?_)
  exact ⟨rfl,_,g4,i4.ext_l e1⟩
 rw [if_neg h2]
 refine C3 ?_
 have hXd : w3.drew.heap[X]? = _:=hX1
 repeat refine C0 ?_
 refine CE.drawR Ext [0,0,0,0,0,0,0,0,0,0,0,0,0,0,0,2] mixed Ext.refl (fun _ _ _ => Ext.trans) (by decide +kernel) ?_
 repeat(first|refine Z1 rfl rfl ?_|refine Z2 rfl rfl ?_|refine Z3 rfl rfl rfl ?_|refine Z22 rfl rfl hXd rfl rfl ?_)
 refine RE.dd (fun _ _ => op_str_lh rfl rfl rfl Tryz.underlying9 (by omega) (by omega) (by omega)) rfl Ext.refl ?_
 rw [show ((k : Int)).toNat - ((p.pos : Int)).toNat = k - p.pos by omega,Int.toNat_natCast]
 refine RE.ec en65 rfl rfl (fun w4 hw4 => qput_fn (tx:=wordA t p.pos k) (g1.ext ((Ext.drew _).trans hw4)) (by omega) (by have:=word_len t p.pos k; omega)) ?_
 rintro w4 hw4 _ w5 ⟨rfl,v5,g5,i5⟩
 refine C4 (fun w6 hw6 => ?_)
 have g6:=g5.ext hw6
 have i6:=(i5.ext_l (e1.trans ((Ext.drew _).trans hw4))).ext_r hw6
 have hX6 : HX X w6 t p.pos p.dv v5.l v5.nm p.inl p.wrong p.opn p.loose:=g6.at_
 repeat(first|refine C1 ?_|refine X1 rfl rfl ?_|refine X2 rfl rfl ?_|refine X3 rfl rfl rfl ?_)
 refine RE.xs (e_store rfl rfl rfl hX6 rfl rfl) ?_
 rintro _ w7 hu7
 obtain ⟨g7,i7⟩:=QS.upd (p':={ p.put 16 p.pos (wordA t p.pos k) with pos:=k }) g6 hu7 rfl rfl
 (refine RE.nilx ?_; (try dsimp only); refine end0 rfl ?_)
 exact ⟨rfl,_,g7,i6.trans i7⟩
end Go.Wk
