/- The specification's lexer: front matter. -/
import Derived.Test.YtmbencknblcocaaGreatDoorYbh
namespace Go.Wk
open Go Go.RowKit Go.Proofs
set_option maxRecDepth 100000
set_option maxHeartbeats 16000000 in
theorem front_qfn {X B : Nat} {t : List UInt8} {v : QV} {p : QP} {w : World} (h : QS X B t v p w) (ht : t.length ≤ 30000) (hn : p.rs.length ≤ 1000) (hp : p.pos ≤ t.length) (hd : p.dv.length ≤ 1000) :
  Fn PT 38 [Ptr X 0] w (fun u w' => u = I (p.front t).1 ∧ ∃ v',QS X B t v' (p.front t).2 w' ∧ QI X v v' w w'):=by
 refine fn_of Tryz.func38 rfl Tryz.ntmps38 rfl ?_
 unfold QP.front
 have hal:=runTo_le (stop:=notW) (t:=t) _ p.pos rfl hp
 repeat(first|refine C0 ?_|refine C1 ?_|refine X0 rfl rfl ?_|refine C2 ?_)
 refine CE.cut (fun s ds w' => ds = [] ∧ (∃ v',QS X B t v' { p with pos:=runTo notW t p.pos } w' ∧ QI X v v' w w') ∧ SubL [(0,Ptr X 0)] s) ?_ ?_
 ·refine CE.block ?_
  refine CE.loop (α:=Nat) (fun k => [(0,Ptr X 0)]) (fun k w' => QS X B t v { p with pos:=k } w' ∧ QI X v v w w' ∧ k ≤ t.length ∧ runTo notW t p.pos = runTo notW t k) (fun k => t.length - k) p.pos (by repeat first | trivial|refine ⟨rfl,?_⟩) ⟨h,QI.refl _ _ _,hp,rfl⟩ ?_
  rintro k w1 ⟨h1,i1,hk,hrun⟩
  have hX1 : HX X w1.drew t k p.dv v.l v.nm p.inl p.wrong p.opn p.loose:=h1.at_
  have h2:=h1.ext (Ext.drew w1)
  have i2:=i1.ext_r (Ext.drew w1)
  repeat refine C0 ?_
  refine CE.draw [0,0,0,0,0,0,0,0,0,0,0,0,0,0,0,0,0,0,0,0,0,0] mixed (by decide +kernel) ?_
  repeat(first|refine Y1 rfl rfl ?_|refine Y2 rfl rfl ?_|refine Y3 rfl rfl rfl ?_|refine Y22 rfl rfl hX1 rfl rfl ?_|refine Y7 rfl rfl rfl ?_|refine Y14 rfl Tryz.underlying9 rfl ?_)
  refine RE.splitD (fun hlt => ?_) (fun hlt => ?_)
  ·have hlt' : k < t.length:=by omega
   have hix : t[((k : Nat) : Int).toNat]? = some t[k]:=by rw [Int.toNat_natCast]; exact List.getElem?_eq_getElem hlt'
   have hgo : notW t[k] = false → runTo notW t k = runTo notW t (k + 1):=fun e => runTo_go hlt' e
   have hat : notW t[k] = true → runTo notW t k = k:=fun e => runTo_at hlt' e
   generalize t[k] = b at hix hgo hat
   repeat(first|refine Y1 rfl rfl ?_|refine Y2 rfl rfl ?_|refine Y3 rfl rfl rfl ?_|refine Y22 rfl rfl hX1 rfl rfl ?_|refine RE.want rfl rfl ?_)
   refine RE.d1 (op_index_s (b:=b) rfl rfl Tryz.underlying9 (by omega) hix) rfl ?_
   refine RE.want rfl rfl ?_
   refine RE.dc en37 rfl rfl (fun w2 _ => Fn.mono (pageWhite_fn b w2) (by rintro _ w3 ⟨rfl,rfl⟩; exact ⟨rfl,rfl⟩)) ?_
   repeat(first|refine Y16 rfl rfl rfl rfl ?_|refine C2 ?_)
   generalize w1.drew = w2 at hX1 h2 i2
   refine CE.cond_s rfl (fun h3 => ?_) (fun h3 => ?_)
   ·refine C3 ?_
    refine CE.block ?_
    repeat(first|refine C1 ?_|refine X1 rfl rfl ?_|refine X2 rfl rfl ?_|refine X3 rfl rfl rfl ?_|refine X22 rfl rfl hX1 rfl rfl ?_|refine X18 rfl rfl (by omega) (by omega) rfl ?_)
    refine RE.xs (e_store rfl rfl rfl hX1 rfl rfl) ?_
    rintro _ w3 hu3
    obtain ⟨g3,i3⟩:=QS.upd (p':={ p with pos:=k + 1 }) h2 hu3 rfl rfl
    refine RE.nilx ?_
    exact ⟨k + 1,by show t.length - (k + 1) < t.length - k; omega,rfl,(by repeat first | trivial|refine ⟨rfl,?_⟩),g3,i2.trans i3,hlt',hrun.trans (hgo (by unfold notW; rw [h3]; rfl))⟩
   ·refine CE.exit ?_
    have hr:=hrun.trans (hat (by unfold notW; rw [h3]; rfl))
    rw [hr]
    exact ⟨rfl,⟨_,h2,i2⟩,(by repeat first | trivial|refine ⟨rfl,?_⟩)⟩
  ·repeat(first|refine Y17 rfl rfl rfl ?_|refine RE.no0 rfl rfl rfl rfl ?_|refine C2 ?_)
   generalize w1.drew = w2 at hX1 h2 i2
   refine CE.cond_f rfl ?_
   refine CE.exit ?_
   have hr:=hrun.trans (runTo_end (stop:=notW) (t:=t) (p:=k) (by omega))
   rw [hr]
   exact ⟨rfl,⟨_,h2,i2⟩,(by repeat first | trivial|refine ⟨rfl,?_⟩)⟩
 rintro s _ w1 ⟨rfl,⟨v1,g1,i1⟩,hs⟩
 refine CE.sub hs ?_
 have hq1 : ∃ q1 : QP,q1 = { p with pos:=runTo notW t p.pos }:=⟨_,rfl⟩
 obtain ⟨q1,hq1⟩:=hq1
 have hq1r : q1.rs.length ≤ 1000:=by rw [hq1]; exact hn
 have hq1l : q1.pos ≤ t.length:=by rw [hq1]; exact hal.2
 have hq1d : q1.dv.length ≤ 1000:=by rw [hq1]; exact hd
 rw [← hq1] at g1 ⊢
 clear hq1
 unfold QP.frontA
 have hX1 : HX X w1.drew t q1.pos q1.dv v1.l v1.nm q1.inl q1.wrong q1.opn q1.loose:=g1.at_
 have g2:=g1.ext (Ext.drew w1)
 have i2:=i1.ext_r (Ext.drew w1)
 repeat (refine C0 ?_)
 refine CE.cut (fun s ds w' => ds = [] ∧ ∃ q' v',QS X B t v' q' w' ∧ QI X v v' w w' ∧ q1.frontA t = (q'.pos,q') ∧ SubL [(0,Ptr X 0)] s) ?_ ?_
 ·refine CE.block ?_
  repeat refine C0 ?_
  refine CE.draw [0,0,0,0,0,0,0,0,0,0,0] mixed (by decide +kernel) ?_
  repeat(first|refine Y1 rfl rfl ?_|refine Y0 rfl rfl ?_|refine Y2 rfl rfl ?_|refine Y3 rfl rfl rfl ?_|refine Y22 rfl rfl hX1 rfl rfl ?_|refine Y5 rfl rfl rfl ?_|refine Y14 rfl Tryz.underlying9 rfl ?_|refine C2 ?_)
  generalize w1.drew = w2 at hX1 g2 i2
  refine CE.cond_d rfl (fun h1 => ?_) (fun h1 => ?_)
  ·rw [if_pos (show q1.pos = t.length by omega)]
   repeat(first|refine C0 ?_|refine C1 ?_|refine X0 rfl rfl ?_|refine C2 ?_)
   (refine CE.ret ?_;(try dsimp only);refine ret1 rfl rfl ?_)
   exact ⟨rfl,_,g2,i2⟩
  have hq1t : q1.pos < t.length:=by omega
  rw [if_neg (show ¬ q1.pos = t.length by omega)]
  have hfa : q1.frontA t = _:=rfl
  unfold QP.frontA at hfa
  rw [if_neg (show ¬ q1.pos = t.length by omega)] at hfa
  have hix : t[((q1.pos : Nat) : Int).toNat]? = some t[q1.pos]:=by rw [Int.toNat_natCast]; exact List.getElem?_eq_getElem hq1t
  have hck:=chr_at hq1t
  generalize t[q1.pos] = b at hix hck
  have hX2 : HX X w2.drew t q1.pos q1.dv v1.l v1.nm q1.inl q1.wrong q1.opn q1.loose:=hX1
  have g3:=g2.ext (Ext.drew w2)
  have i3:=i2.ext_r (Ext.drew w2)
  repeat refine C0 ?_
  refine CE.draw [0,0,0,0,0,0,0,0,0,0,0] mixed (by decide +kernel) ?_
  repeat(first|refine Y1 rfl rfl ?_|refine Y2 rfl rfl ?_|refine Y3 rfl rfl rfl ?_|refine Y22 rfl rfl hX2 rfl rfl ?_)
  refine RE.d1 (op_index_s (b:=b) rfl rfl Tryz.underlying9 (by omega) hix) rfl ?_
  repeat(first|refine Y0 rfl rfl ?_|refine Y5 rfl rfl rfl ?_|refine C2 ?_)
  generalize w2.drew = w3 at hX2 g3 i3
  refine CE.cond_d rfl (fun h2 => ?_) (fun h2 => ?_)
  ·repeat(first|refine C1 ?_|refine X1 rfl rfl ?_)
   refine RE.xc en61 rfl rfl (fenced_qfn (kind:=3) (three:=[45,45,45]) g3 (by omega) (by omega) hq1l rfl) ?_
   rintro _ w4 ⟨rfl,v4,g4,i4⟩
   refine RE.nilx ?_
   exact ⟨rfl,_,_,g4,i3.trans i4,by unfold QP.frontA; rw [if_neg (show ¬ q1.pos = t.length by omega),if_pos (show chr t q1.pos = 45 by omega)],(by repeat first | trivial|refine ⟨rfl,?_⟩)⟩
  rw [if_neg (show ¬ chr t q1.pos = 45 by omega)]
  have hX3 : HX X w3.drew t q1.pos q1.dv v1.l v1.nm q1.inl q1.wrong q1.opn q1.loose:=hX2
  have g4:=g3.ext (Ext.drew w3)
  have i4:=i3.ext_r (Ext.drew w3)
  repeat refine C0 ?_
  refine CE.draw [0,0,0,0,0,0,0,0,0,0,0] mixed (by decide +kernel) ?_
  repeat(first|refine Y1 rfl rfl ?_|refine Y2 rfl rfl ?_|refine Y3 rfl rfl rfl ?_|refine Y22 rfl rfl hX3 rfl rfl ?_)
  refine RE.d1 (op_index_s (b:=b) rfl rfl Tryz.underlying9 (by omega) hix) rfl ?_
  repeat(first|refine Y0 rfl rfl ?_|refine Y5 rfl rfl rfl ?_|refine C2 ?_)
  generalize w3.drew = w4 at hX3 g4 i4
  refine CE.cond_d rfl (fun h3 => ?_) (fun h3 => ?_)
  ·repeat(first|refine C1 ?_|refine X1 rfl rfl ?_)
   refine RE.xc en61 rfl rfl (fenced_qfn (kind:=4) (three:=[43,43,43]) g4 (by omega) (by omega) hq1l rfl) ?_
   rintro _ w5 ⟨rfl,v5,g5,i5⟩
   refine RE.nilx ?_
   exact ⟨rfl,_,_,g5,i4.trans i5,by unfold QP.frontA; rw [if_neg (show ¬ q1.pos = t.length by omega),if_neg (show ¬ chr t q1.pos = 45 by omega),if_pos (show chr t q1.pos = 43 by omega)],(by repeat first | trivial|refine ⟨rfl,?_⟩)⟩
  rw [if_neg (show ¬ chr t q1.pos = 43 by omega)]
  have hX4 : HX X w4.drew t q1.pos q1.dv v1.l v1.nm q1.inl q1.wrong q1.opn q1.loose:=hX3
  have g5:=g4.ext (Ext.drew w4)
  have i5:=i4.ext_r (Ext.drew w4)
  repeat refine C0 ?_
  refine CE.draw [0,0,0,0,0,0,0,0,0,0,0] mixed (by decide +kernel) ?_
  repeat(first|refine Y1 rfl rfl ?_|refine Y2 rfl rfl ?_|refine Y3 rfl rfl rfl ?_|refine Y22 rfl rfl hX4 rfl rfl ?_)
  refine RE.d1 (op_index_s (b:=b) rfl rfl Tryz.underlying9 (by omega) hix) rfl ?_
  repeat(first|refine Y0 rfl rfl ?_|refine Y5 rfl rfl rfl ?_|refine C2 ?_)
  generalize w4.drew = w5 at hX4 g5 i5
  refine CE.cond_d rfl (fun h4 => ?_) (fun h4 => ?_)
  ·repeat(first|refine C1 ?_|refine X1 rfl rfl ?_)
   refine RE.xc en62 rfl rfl (braced_qfn g5 (by omega) (by omega) hq1l) ?_
   rintro _ w6 ⟨rfl,v6,g6,i6⟩
   refine RE.nilx ?_
   exact ⟨rfl,_,_,g6,i5.trans i6,by unfold QP.frontA; rw [if_neg (show ¬ q1.pos = t.length by omega),if_neg (show ¬ chr t q1.pos = 45 by omega),if_neg (show ¬ chr t q1.pos = 43 by omega),if_pos (show chr t q1.pos = 123 by omega)],(by repeat first | trivial|refine ⟨rfl,?_⟩)⟩
  rw [if_neg (show ¬ chr t q1.pos = 123 by omega)]
  have hX5 : HX X w5.drew t q1.pos q1.dv v1.l v1.nm q1.inl q1.wrong q1.opn q1.loose:=hX4
  have g6:=g5.ext (Ext.drew w5)
  have i6:=i5.ext_r (Ext.drew w5)
  repeat refine C0 ?_
  refine CE.draw [0,0,0,0,0,0,0,0,0,0] mixed (by decide +kernel) ?_
  repeat(first|refine Y1 rfl rfl ?_|refine Y2 rfl rfl ?_|refine Y3 rfl rfl rfl ?_|refine Y22 rfl rfl hX5 rfl rfl ?_)
  refine RE.dc en34 rfl rfl (fun w11 _ => pageHasE (i:=q1.pos) (x:=[35,43]) (by omega) (by decide) (by omega)) ?_
  repeat(first|refine Y0 rfl rfl ?_|refine C2 ?_)
  generalize w5.drew = w6 at hX5 g6 i6
  refine CE.cond_s rfl (fun h5 => ?_) (fun h5 => ?_)
  ·have hfb : q1.frontA t = ((q1.kws t).pos,{ q1.kws t with dv:=if q1.dv ≠ [] then bs100 else [] }):=by
    unfold QP.frontA
    rw [if_neg (show ¬ q1.pos = t.length by omega),if_neg (show ¬ chr t q1.pos = 45 by omega),if_neg (show ¬ chr t q1.pos = 43 by omega),if_neg (show ¬ chr t q1.pos = 123 by omega),if_pos h5]
   repeat(first|refine C0 ?_|refine C1 ?_|refine X1 rfl rfl ?_)
   refine RE.xc en63 rfl rfl (keywords_qfn g6 (by omega) (by omega) hq1l) ?_
   rintro _ w7 ⟨rfl,v7,g7,i7⟩
   have hkd : (q1.kws t).dv = q1.dv:=rfl
   have hX7 : w7.heap[X]? = some (.cells #[S t,I (q1.kws t).pos,S q1.dv,v7.l,v7.nm,S (q1.kws t).inl,.bool (q1.kws t).wrong,.bool (q1.kws t).opn,.bool (q1.kws t).loose] 48 (0,0)):=g7.at_
   repeat(first|refine C0 ?_|refine C1 ?_|refine X1 rfl rfl ?_|refine X2 rfl rfl ?_|refine X3 rfl rfl rfl ?_|refine X22 rfl rfl hX7 rfl rfl ?_|refine X21 rfl rfl rfl ?_|refine C2 ?_)
   refine CE.cond_d rfl (fun h6 => ?_) (fun h6 => ?_)
   ·rw [if_pos h6] at hfb
    repeat(first|refine C1 ?_|refine X1 rfl rfl ?_|refine X2 rfl rfl ?_|refine X3 rfl rfl rfl ?_)
    refine RE.xs (e_store rfl rfl rfl hX7 rfl rfl) ?_
    rintro _ w8 hu8
    obtain ⟨g8,i8⟩:=QS.upd (p':={ q1.kws t with dv:=bs100 }) g7 hu8 rfl rfl
    refine RE.nilx ?_
    exact ⟨rfl,_,_,g8,(i6.trans i7).trans i8,hfb,(by repeat first | trivial|refine ⟨rfl,?_⟩)⟩
   ·rw [if_neg h6] at hfb
    have hd0 : q1.dv = []:=Classical.not_not.1 h6
    refine CE.skip ?_
    refine ⟨rfl,q1.kws t,_,g7,i6.trans i7,?_,(by repeat first | trivial|refine ⟨rfl,?_⟩)⟩
    rw [hfb]
    congr 1
    rw [← hd0,← hkd]
  rw [if_neg (by rw [h5]; simp)]
  have hX6 : HX X w6.drew t q1.pos q1.dv v1.l v1.nm q1.inl q1.wrong q1.opn q1.loose:=hX5
  have g7:=g6.ext (Ext.drew w6)
  have i7:=i6.ext_r (Ext.drew w6)
  repeat refine C0 ?_
  refine CE.cut (fun s ds w' => ds = [] ∧ w' = w6.drew ∧ SubL [(51,.bool (decide (q1.dv ≠ []) && begS t q1.pos q1.dv)),(0,Ptr X 0)] s) ?_ ?_
  ·refine CE.draw [0,0,0,0,0,0,0,0,0,0,0,0,0,0,0,0,0,0,0,0] mixed (by decide +kernel) ?_
   repeat(first|refine Y1 rfl rfl ?_|refine Y2 rfl rfl ?_|refine Y3 rfl rfl rfl ?_|refine Y22 rfl rfl hX6 rfl rfl ?_|refine Y21 rfl rfl rfl ?_)
   refine RE.splitD (fun h6 => ?_) (fun h6 => ?_)
   ·rw [decide_eq_true h6,Bool.true_and]
    repeat(first|refine Y1 rfl rfl ?_|refine Y2 rfl rfl ?_|refine Y3 rfl rfl rfl ?_|refine Y22 rfl rfl hX6 rfl rfl ?_|refine RE.want rfl rfl ?_)
    refine RE.dc en34 rfl rfl (fun w11 _ => pageHasE (i:=q1.pos) (x:=q1.dv) (by omega) (by omega) (by omega)) ?_
    repeat (refine Y16 rfl rfl rfl rfl ?_)
    refine RE.nilx ?_
    exact ⟨rfl,rfl,(by repeat first | trivial|refine ⟨rfl,?_⟩)⟩
   ·rw [decide_eq_false h6,Bool.false_and]
    repeat(first|refine Y17 rfl rfl rfl ?_|refine RE.no0 rfl rfl rfl rfl ?_)
    refine RE.nilx ?_
    exact ⟨rfl,rfl,(by repeat first | trivial|refine ⟨rfl,?_⟩)⟩
  rintro s _ w7 ⟨rfl,hw,hs⟩
  subst hw
  refine CE.sub hs ?_
  generalize w6.drew = w7 at hX6 g7 i7
  refine CE.cut (fun s ds w' => ds = [] ∧ (∃ v',QS X B t v' { q1 with opn:=q1.opn || (decide (q1.dv ≠ []) && begS t q1.pos q1.dv) } w' ∧ QI X v v' w w') ∧ SubL [(0,Ptr X 0)] s) ?_ ?_
  ·refine CE.cond_s rfl (fun h6 => ?_) (fun h6 => ?_)
   ·rw [h6,Bool.or_true]
    repeat(first|refine C1 ?_|refine X1 rfl rfl ?_|refine X2 rfl rfl ?_|refine X3 rfl rfl rfl ?_)
    refine RE.xs (e_store rfl rfl rfl hX6 rfl rfl) ?_
    rintro _ w8 hu8
    obtain ⟨g8,i8⟩:=QS.upd (p':={ q1 with opn:=true }) g7 hu8 rfl rfl
    refine RE.nilx ?_
    exact ⟨rfl,⟨_,g8,i7.trans i8⟩,(by repeat first | trivial|refine ⟨rfl,?_⟩)⟩
   ·rw [h6,Bool.or_false]
    exact CE.skip ⟨rfl,⟨_,g7,i7⟩,(by repeat first | trivial|refine ⟨rfl,?_⟩)⟩
  rintro s _ w8 ⟨rfl,⟨v8,g8,i8⟩,hs⟩
  refine CE.sub hs ?_
  generalize (q1.opn || (decide (q1.dv ≠ []) && begS t q1.pos q1.dv)) = op at g8
  have hX8 : HX X w8 t q1.pos q1.dv v8.l v8.nm q1.inl q1.wrong op q1.loose:=g8.at_
  repeat(first|refine C0 ?_|refine C1 ?_|refine X1 rfl rfl ?_|refine X2 rfl rfl ?_|refine X3 rfl rfl rfl ?_|refine X22 rfl rfl hX8 rfl rfl ?_|refine X18 rfl rfl (by omega) (by omega) rfl ?_)
  refine RE.xs (e_store rfl rfl rfl hX8 rfl rfl) ?_
  rintro _ w9 hu9
  obtain ⟨g9,i9⟩:=QS.upd (p':={ q1 with pos:=q1.pos + 1,opn:=op }) g8 hu9 rfl rfl
  repeat(first|refine C0 ?_|refine C1 ?_|refine X0 rfl rfl ?_|refine C2 ?_)
  (refine CE.ret ?_;(try dsimp only);refine ret1 rfl rfl ?_)
  exact ⟨rfl,_,g9,i8.trans i9⟩
 rintro s _ w2 ⟨rfl,q',v2,g2,i2,hfa,hs⟩
 refine CE.sub hs ?_
 have hfa' : q1.frontA t = (q'.pos,q'):=hfa
 unfold QP.frontA at hfa'
 rw [hfa']
 have hX2 : HX X w2 t q'.pos q'.dv v2.l v2.nm q'.inl q'.wrong q'.opn q'.loose:=g2.at_
 repeat(first|refine C0 ?_|refine C1 ?_|refine X1 rfl rfl ?_|refine X0 rfl rfl ?_|refine X2 rfl rfl ?_|refine X3 rfl rfl rfl ?_|refine X22 rfl rfl hX2 rfl rfl ?_|refine C2 ?_)
 (refine CE.ret ?_;(try dsimp only);refine ret1 rfl rfl ?_)
 exact ⟨rfl,_,g2,i2⟩
end Go.Wk
