/- The specification's lexer: a shortcode. -/
import Derived.Test.YtmbencknblcocaaGreatDoorYbg
namespace Go.Wk
open Go Go.RowKit Go.Proofs
set_option maxRecDepth 100000
set_option maxHeartbeats 16000000 in
theorem shortcode_qfn {X B : Nat} {t : List UInt8} {v : QV} {p : QP} {w : World} (h : QS X B t v p w) (ht : t.length ≤ 30000) (hn : p.rs.length ≤ 8 * p.pos + 8) (hm : p.nms.length ≤ p.pos) (hp : p.pos + 3 ≤ t.length) :
  QF X B t v w 67 [] (.tuple #[]) (p.shortcode t):=by
 refine fn_of Tryz.func67 rfl Tryz.ntmps67 rfl ?_
 have hX : HX X w.drew t p.pos p.dv v.l v.nm p.inl p.wrong p.opn p.loose:=h.at_
 obtain ⟨b,hb⟩ : ∃ b,t[p.pos + 2]? = some b:=⟨t[p.pos + 2]'(by omega),List.getElem?_eq_getElem _⟩
 have hbi : t[((p.pos : Int) + 2).toNat]? = some b:=by rw [show ((p.pos : Int) + 2).toNat = p.pos + 2 by omega]; exact hb
 have hck:=chr_of hb
 have hrl:=right_len t p.pos
 unfold QP.shortcode
 have hsel : rightOf t p.pos = if chr t (p.pos + 2) = 37 then pct3 else gt3:=rfl
 repeat(first|refine C0 ?_|refine C1 ?_|refine X0 rfl rfl ?_|refine C2 ?_)
 repeat refine C0 ?_
 refine CE.draw [0,0,0,0,0,0,0,0,0,0,0] mixed (by decide +kernel) ?_
 repeat(first|refine Y1 rfl rfl ?_|refine Y2 rfl rfl ?_|refine Y3 rfl rfl rfl ?_|refine Y22 rfl rfl hX rfl rfl ?_|refine Y18 rfl rfl (by omega) (by omega) rfl ?_)
 refine RE.d1 (op_index_s (b:=b) rfl rfl Tryz.underlying9 (by omega) hbi) rfl ?_
 repeat(first|refine Y5 rfl rfl rfl ?_|refine C2 ?_)
 have e0 : Ext w w.drew:=Ext.drew w
 have g0:=h.ext e0
 generalize w.drew = w1 at hX e0 g0
 refine CE.cut (fun s ds w' => ds = [] ∧ w' = w1 ∧ SubL [(3,S (rightOf t p.pos)),(2,I (if chr t (p.pos + 2) = 37 then 10 else 8)),(0,Ptr X 0)] s) ?_ ?_
 ·rw [hsel]
  refine CE.cond_d rfl (fun h1 => ?_) (fun h1 => ?_)
  ·rw [if_pos (show chr t (p.pos + 2) = 37 by omega),if_pos (show chr t (p.pos + 2) = 37 by omega)]
   repeat(first|refine C1 ?_|refine X0 rfl rfl ?_)
   refine RE.nilx ?_
   exact ⟨rfl,rfl,(by repeat first | trivial|refine ⟨rfl,?_⟩)⟩
  ·rw [if_neg (show ¬ chr t (p.pos + 2) = 37 by omega),if_neg (show ¬ chr t (p.pos + 2) = 37 by omega)]
   exact CE.skip ⟨rfl,rfl,(by repeat first | trivial|refine ⟨rfl,?_⟩)⟩
 rintro s _ w2 ⟨rfl,hw,hs⟩
 subst hw
 refine CE.sub hs ?_
 generalize (if chr t (p.pos + 2) = 37 then 10 else 8 : Int) = kind
 generalize rightOf t p.pos = right at hrl
 have hXd : w2.drew.heap[X]? = _:=hX
 repeat refine C0 ?_
 refine CE.drawR Ext [0,0,0,0,0,0,0,0,0,0,0,0,0,0,0,0,0,0,0,0,2] mixed Ext.refl (fun _ _ _ => Ext.trans) (by decide +kernel) ?_
 repeat(first|refine Z1 rfl rfl ?_|refine Z2 rfl rfl ?_|refine Z3 rfl rfl rfl ?_|refine Z22 rfl rfl hXd rfl rfl ?_|refine Z18 rfl rfl (by omega) (by omega) rfl ?_)
 refine RE.dd (fun _ _ => op_str_lh rfl rfl rfl Tryz.underlying9 (by omega) (by omega) (by omega)) rfl Ext.refl ?_
 rw [show ((p.pos : Int) + 3).toNat - ((p.pos : Int)).toNat = p.pos + 3 - p.pos by omega,Int.toNat_natCast]
 refine RE.ec en65 rfl rfl (fun w3 hw3 => qput_fn (tx:=wordA t p.pos (p.pos + 3)) (g0.ext ((Ext.drew _).trans hw3)) (by omega) (by have:=word_len t p.pos (p.pos + 3); omega)) ?_
 rintro w3 hw3 _ w4 ⟨rfl,v4,g4,i4⟩
 refine C4 (fun w5 hw5 => ?_)
 have g5:=g4.ext hw5
 have i5:=(i4.ext_l (e0.trans ((Ext.drew _).trans hw3))).ext_r hw5
 have hX5 : HX X w5 t p.pos p.dv v4.l v4.nm p.inl p.wrong p.opn p.loose:=g5.at_
 have hl5 : (p.put kind p.pos (wordA t p.pos (p.pos + 3))).rs.length = p.rs.length + 1:=put_len ..
 repeat(first|refine C0 ?_|refine C1 ?_|refine X1 rfl rfl ?_|refine X2 rfl rfl ?_|refine X3 rfl rfl rfl ?_|refine X22 rfl rfl hX5 rfl rfl ?_|refine X18 rfl rfl (by omega) (by omega) rfl ?_)
 refine RE.xs (e_store rfl rfl rfl hX5 rfl rfl) ?_
 rintro _ w6 hu6
 obtain ⟨g6,i6⟩:=QS.upd (p':={ p.put kind p.pos (wordA t p.pos (p.pos + 3)) with pos:=p.pos + 3 }) g5 hu6 rfl rfl
 have hal:=runTo_le (stop:=notW) (t:=t) _ (p.pos + 3) rfl hp
 repeat(first|refine C0 ?_|refine C1 ?_|refine X1 rfl rfl ?_|refine C2 ?_)
 refine RE.xc en86 rfl rfl (skip_qfn g6 (by omega) (by show p.pos + 3 ≤ _; omega)) ?_
 rintro _ w7 ⟨rfl,v7,g7,i7⟩
 have g7' : QS X B t v7 { p.put kind p.pos (wordA t p.pos (p.pos + 3)) with pos:=runTo notW t (p.pos + 3) } w7:=g7
 clear g7
 have i07:=(i5.trans i6).trans i7
 refine (show RE _ _ _ _ _ _ _ _ _ _ from ?_)
 have hq1 : ∃ q1 : QP,q1 = { p.put kind p.pos (wordA t p.pos (p.pos + 3)) with pos:=runTo notW t (p.pos + 3) }:=⟨_,rfl⟩
 obtain ⟨q1,hq1⟩:=hq1
 have hq1r : q1.rs.length ≤ 8 * q1.pos:=by rw [hq1]; show (p.put kind p.pos (wordA t p.pos (p.pos + 3))).rs.length ≤ 8 * runTo notW t (p.pos + 3); omega
 have hq1m : q1.nms.length ≤ q1.pos:=by rw [hq1]; show p.nms.length ≤ runTo notW t (p.pos + 3); omega
 have hq1l : q1.pos ≤ t.length:=by rw [hq1]; exact hal.2
 rw [← hq1] at g7' ⊢
 clear hq1
 have hX7 : HX X w7.drew t q1.pos q1.dv v7.l v7.nm q1.inl q1.wrong q1.opn q1.loose:=g7'.at_
 have i08:=i07.ext_r (Ext.drew w7)
 have g8:=g7'.ext (Ext.drew w7)
 unfold QP.shortA
 repeat (refine C2 ?_)
 refine CE.block ?_
 repeat refine C0 ?_
 refine CE.draw [0,0,0,0,0,0,0,0,0,0,0] mixed (by decide +kernel) ?_
 repeat(first|refine Y1 rfl rfl ?_|refine Y0 rfl rfl ?_|refine Y2 rfl rfl ?_|refine Y3 rfl rfl rfl ?_|refine Y22 rfl rfl hX7 rfl rfl ?_|refine Y5 rfl rfl rfl ?_|refine Y14 rfl Tryz.underlying9 rfl ?_|refine C2 ?_)
 generalize w7.drew = w8 at hX7 i08 g8
 refine CE.cond_d rfl (fun h1 => ?_) (fun h1 => ?_)
 ·rw [if_pos (show q1.pos = t.length by omega)]
  repeat(first|refine C1 ?_|refine X1 rfl rfl ?_)
  refine RE.xc en84 rfl rfl (qfail_fn g8 (by omega)) ?_
  rintro _ w9 ⟨rfl,v9,g9,i9⟩
  (refine RE.nilx ?_; (try dsimp only); refine end0 rfl ?_)
  exact ⟨rfl,_,g9,i08.trans i9⟩
 have hq1t : q1.pos < t.length:=by omega
 rw [if_neg (show ¬ q1.pos = t.length by omega)]
 have hX8 : HX X w8.drew t q1.pos q1.dv v7.l v7.nm q1.inl q1.wrong q1.opn q1.loose:=hX7
 have i09:=i08.ext_r (Ext.drew w8)
 have g9:=g8.ext (Ext.drew w8)
 repeat refine C0 ?_
 refine CE.draw [0,0,0,0,0,0,0,0,0,0] mixed (by decide +kernel) ?_
 repeat(first|refine Y1 rfl rfl ?_|refine Y2 rfl rfl ?_|refine Y3 rfl rfl rfl ?_|refine Y22 rfl rfl hX8 rfl rfl ?_)
 refine RE.dc en34 rfl rfl (fun w11 _ => pageHasE (i:=q1.pos) (x:=[47]) (by omega) (by decide) (by omega)) ?_
 repeat(first|refine Y0 rfl rfl ?_|refine C2 ?_)
 generalize w8.drew = w9 at hX8 i09 g9
 refine CE.cond_s rfl (fun h2 => ?_) (fun h2 => ?_)
 ·rw [if_pos h2]
  repeat(first|refine C1 ?_|refine X1 rfl rfl ?_)
  refine RE.xc en87 rfl rfl (closing_qfn g9 (by omega) (by omega) (by omega) hq1t hrl) ?_
  rintro _ w10 ⟨rfl,v10,g10,i10⟩
  (refine RE.nilx ?_; (try dsimp only); refine end0 rfl ?_)
  exact ⟨rfl,_,g10,i09.trans i10⟩
 rw [if_neg (by rw [h2]; simp)]
 have hX9 : HX X w9.drew t q1.pos q1.dv v7.l v7.nm q1.inl q1.wrong q1.opn q1.loose:=hX8
 have i10:=i09.ext_r (Ext.drew w9)
 have g10:=g9.ext (Ext.drew w9)
 repeat refine C0 ?_
 refine CE.draw [0,0,0,0,0,0,0,0,0,0,0] mixed (by decide +kernel) ?_
 repeat(first|refine Y1 rfl rfl ?_|refine Y2 rfl rfl ?_|refine Y3 rfl rfl rfl ?_|refine Y22 rfl rfl hX9 rfl rfl ?_)
 refine RE.dc en34 rfl rfl (fun w11 _ => pageHasE (i:=q1.pos) (x:=right) (by omega) (by omega) (by omega)) ?_
 repeat(first|refine Y0 rfl rfl ?_|refine C2 ?_)
 generalize w9.drew = w10 at hX9 i10 g10
 refine CE.cond_s rfl (fun h3 => ?_) (fun h3 => ?_)
 ·rw [if_pos h3]
  repeat(first|refine C0 ?_|refine C1 ?_|refine X1 rfl rfl ?_|refine X2 rfl rfl ?_|refine X3 rfl rfl rfl ?_|refine X22 rfl rfl hX9 rfl rfl ?_|refine X21 rfl rfl rfl ?_|refine C2 ?_)
  refine CE.cut (fun s ds w' => ds = [] ∧ (∃ v',QS X B t v' (if q1.inl ≠ [] then q1.opened else q1) w' ∧ QI X v v' w w') ∧ SubL [(3,S right),(0,Ptr X 0)] s) ?_ ?_
  ·refine CE.cond_d rfl (fun h4 => ?_) (fun h4 => ?_)
   ·rw [if_pos h4]
    repeat(first|refine C1 ?_|refine X1 rfl rfl ?_|refine X2 rfl rfl ?_|refine X3 rfl rfl rfl ?_)
    refine RE.xs (e_store rfl rfl rfl hX9 rfl rfl) ?_
    rintro _ w11 hu11
    obtain ⟨g11,i11⟩:=QS.upd (p':=q1.opened) g10 hu11 rfl rfl
    refine RE.nilx ?_
    exact ⟨rfl,⟨_,g11,i10.trans i11⟩,(by repeat first | trivial|refine ⟨rfl,?_⟩)⟩
   ·rw [if_neg h4]
    exact CE.skip ⟨rfl,⟨_,g10,i10⟩,(by repeat first | trivial|refine ⟨rfl,?_⟩)⟩
  rintro s _ w11 ⟨rfl,⟨v11,g11,i11⟩,hs⟩
  refine CE.sub hs ?_
  have hr2 : (if q1.inl ≠ [] then q1.opened else q1).rs = q1.rs:=by split <;> rfl
  have hp2 : (if q1.inl ≠ [] then q1.opened else q1).pos = q1.pos:=by split <;> rfl
  repeat(first|refine C1 ?_|refine X1 rfl rfl ?_)
  refine RE.xc en88 rfl rfl (finish_qfn g11 (by rw [hr2]; omega) (by rw [hp2]; omega) (by omega)) ?_
  rintro _ w12 ⟨rfl,v12,g12,i12⟩
  (refine RE.nilx ?_; (try dsimp only); refine end0 rfl ?_)
  exact ⟨rfl,_,g12,i11.trans i12⟩
 rw [if_neg (by rw [h3]; simp)]
 have hix : t[((q1.pos : Nat) : Int).toNat]? = some t[q1.pos]:=by rw [Int.toNat_natCast]; exact List.getElem?_eq_getElem hq1t
 have hgd : t.getD q1.pos 0 = t[q1.pos]:=getD_of (List.getElem?_eq_getElem hq1t)
 have hck1:=chr_at hq1t
 rw [hgd]
 generalize t[q1.pos] = c at hix hgd hck1
 have hX10 : HX X w10.drew t q1.pos q1.dv v7.l v7.nm q1.inl q1.wrong q1.opn q1.loose:=hX9
 have i11:=i10.ext_r (Ext.drew w10)
 have g11:=g10.ext (Ext.drew w10)
 repeat refine C0 ?_
 refine CE.cut (fun s ds w' => ds = [] ∧ w' = w10.drew ∧ SubL [(98,.bool (decide (wordB c = false ∨ chr t q1.pos = 45))),(3,S right),(0,Ptr X 0)] s) ?_ ?_
 ·refine CE.draw [0,0,0,0,0,0,0,0,0,0,0,0,0,0,0,0,0,0,0,0,0,0,0,0] mixed (by decide +kernel) ?_
  repeat(first|refine Y1 rfl rfl ?_|refine Y2 rfl rfl ?_|refine Y3 rfl rfl rfl ?_|refine Y22 rfl rfl hX10 rfl rfl ?_)
  refine RE.d1 (op_index_s (b:=c) rfl rfl Tryz.underlying9 (by omega) hix) rfl ?_
  refine RE.dc en89 rfl rfl (fun w12 _ => Fn.mono (pageWord_fn c w12) (by rintro _ w13 ⟨rfl,rfl⟩; exact ⟨rfl,rfl⟩)) ?_
  repeat(first|refine Y1 rfl rfl ?_|refine Y11 rfl rfl ?_)
  cases h4 : wordB c with
  | false =>
   rw [decide_eq_true (show false = false ∨ chr t q1.pos = 45 from Or.inl rfl)]
   repeat(first|refine Y0 rfl rfl ?_|refine Y16 rfl rfl rfl rfl ?_|refine RE.no0 rfl rfl rfl rfl ?_)
   refine RE.nilx ?_
   exact ⟨rfl,rfl,(by repeat first | trivial|refine ⟨rfl,?_⟩)⟩
  | true =>
   have hcb : decide (true = false ∨ chr t q1.pos = 45) = decide ((c.toNat : Int) = 45):=by
    refine decide_eq_decide.2 ⟨?_,fun e => Or.inr (by omega)⟩
    rintro (e | e)
    ·cases e
    ·omega
   rw [hcb]
   repeat(first|refine Y1 rfl rfl ?_|refine Y2 rfl rfl ?_|refine Y3 rfl rfl rfl ?_|refine Y22 rfl rfl hX10 rfl rfl ?_|refine RE.want rfl rfl ?_)
   refine RE.d1 (op_index_s (b:=c) rfl rfl Tryz.underlying9 (by omega) hix) rfl ?_
   repeat(first|refine Y0 rfl rfl ?_|refine Y5 rfl rfl rfl ?_|refine Y17 rfl rfl rfl ?_|refine RE.want rfl rfl ?_)
   refine RE.nilx ?_
   exact ⟨rfl,rfl,(by repeat first | trivial|refine ⟨rfl,?_⟩)⟩
 rintro s _ w11 ⟨rfl,hw,hs⟩
 subst hw
 refine CE.sub hs ?_
 generalize w10.drew = w11 at hX10 i11 g11
 refine CE.cond_d rfl (fun h4 => ?_) (fun h4 => ?_)
 ·rw [if_pos h4]
  have hX11 : HX X w11.drew t q1.pos q1.dv v7.l v7.nm q1.inl q1.wrong q1.opn q1.loose:=hX10
  repeat refine C0 ?_
  (refine CE.drawA Ext [0] [0,0,0,0,0,0,0,0,0,0,0,0,0,0,0,0,0,0,0,0,0,0,0,0,0,0,0,0,0,0,0,0,0,0,0,0,2] [1,2,3,4,5,6,7,8,9,10,11,12,13,14,15,16,17,18,19,20,21,22,23,24,25,26,27,28,29,30,31,32,33,34,35,36,37] mixed Ext.refl (fun _ _ _ => Ext.trans) (by decide +kernel) ?_); (simp only [pick,nthO,List.cons_append,List.nil_append]); (repeat(first|refine PR.p (fun _ => op_move rfl) rfl ?_|refine PR.p (fun _ => op_nil rfl) rfl ?_|refine PR.p (fun _ => op_fieldAddr0 rfl rfl) rfl ?_|refine PR.p (fun _ => op_fieldAddr rfl rfl) rfl ?_)); refine PR.nil ?_
  repeat(first|refine Z1 rfl rfl ?_|refine Z2 rfl rfl ?_|refine Z3 rfl rfl rfl ?_|refine Z22 rfl rfl hX11 rfl rfl ?_)
  refine RE.dd (fun _ _ => op_index_s (b:=c) rfl rfl Tryz.underlying9 (by omega) hix) rfl Ext.refl ?_
  repeat(first|refine Z1 rfl rfl ?_|refine Z10 rfl rfl rfl ?_)
  refine RE.cut (fun s ds w' => ds = [] ∧ (∃ v',QS X B t v' { q1 with opn:=decide (128 ≤ chr t q1.pos) || (!begS t q1.pos gt3 && !begS t q1.pos pct3) } w' ∧ QI X v v' w w') ∧ SubL [(0,Ptr X 0)] s) ?_ ?_
  rotate_left
  ·rintro s _ w12 ⟨rfl,⟨v12,g12,i12⟩,hs⟩
   refine CE.sub hs ?_
   repeat(first|refine C1 ?_|refine X1 rfl rfl ?_)
   refine RE.xc en84 rfl rfl (qfail_fn g12 (by show q1.rs.length ≤ _; omega)) ?_
   rintro _ w13 ⟨rfl,v13,g13,i13⟩
   (refine RE.nilx ?_; (try dsimp only); refine end0 rfl ?_)
   exact ⟨rfl,_,g13,i12.trans i13⟩
  have fin : ∀ (x : Bool),(decide (128 ≤ chr t q1.pos) || (!begS t q1.pos gt3 && !begS t q1.pos pct3)) = x → ∀ w12,Ext w11.drew w12 → ∀ w13,Upd w12 X (.cells (({ q1 with opn:=x } : QP).arr t v7) 48 (0,0)) w13 → ∀ w14,Ext w13 w14 →
    ∃ v',QS X B t v' { q1 with opn:=decide (128 ≤ chr t q1.pos) || (!begS t q1.pos gt3 && !begS t q1.pos pct3) } w14 ∧ QI X v v' w w14:=by
   intro x hx w12 hw12 w13 hu13 w14 hw14
   rw [hx]
   have e12:=(Ext.drew w11).trans hw12
   obtain ⟨g13,i13⟩:=QS.upd (p':={ q1 with opn:=x }) (g11.ext e12) hu13 rfl rfl
   exact ⟨_,g13.ext hw14,((i11.ext_r e12).trans i13).ext_r hw14⟩
  refine RE.splitD (fun h5 => ?_) (fun h5 => ?_)
  ·repeat(first|refine Z2 rfl rfl ?_|refine Z3 rfl rfl rfl ?_|refine Z16 rfl rfl rfl rfl ?_|refine RE.no0 rfl rfl rfl rfl ?_|refine RE.nou0 rfl rfl rfl ?_)
   refine RE.es (fun _ hw => e_store rfl rfl rfl (hw.block hX11) rfl rfl) ?_
   rintro w12 hw12 _ w13 hu13
   refine RE.nil (fun w14 hw14 => ?_)
   exact ⟨rfl,fin true (by rw [decide_eq_true (show 128 ≤ chr t q1.pos by omega),Bool.true_or]) w12 hw12 w13 hu13 w14 hw14,(by repeat first | trivial|refine ⟨rfl,?_⟩)⟩
  have hx0 : decide (128 ≤ chr t q1.pos) = false:=decide_eq_false (by omega)
  repeat(first|refine Z1 rfl rfl ?_|refine Z2 rfl rfl ?_|refine Z3 rfl rfl rfl ?_|refine Z22 rfl rfl hX11 rfl rfl ?_|refine RE.want rfl rfl ?_)
  refine RE.dc en34 rfl rfl (fun w12 _ => Fn.mono (pageHas_fn (i:=q1.pos) (x:=gt3) (by omega) (by decide) (by omega)) (by rintro _ w13 ⟨rfl,rfl⟩; exact ⟨rfl,Ext.refl _⟩)) ?_
  cases h6 : begS t q1.pos gt3 with
  | true =>
   rw [h6] at fin
   repeat(first|refine Z1 rfl rfl ?_|refine Z2 rfl rfl ?_|refine Z3 rfl rfl rfl ?_|refine Z11 rfl rfl ?_|refine Z17 rfl rfl rfl ?_|refine RE.want rfl rfl ?_|refine RE.no0 rfl rfl rfl rfl ?_)
   refine RE.es (fun _ hw => e_store rfl rfl rfl (hw.block hX11) rfl rfl) ?_
   rintro w12 hw12 _ w13 hu13
   refine RE.nil (fun w14 hw14 => ?_)
   exact ⟨rfl,fin false (by rw [hx0]; rfl) w12 hw12 w13 hu13 w14 hw14,(by repeat first | trivial|refine ⟨rfl,?_⟩)⟩
  | false =>
   rw [h6] at fin
   repeat(first|refine Z1 rfl rfl ?_|refine Z2 rfl rfl ?_|refine Z3 rfl rfl rfl ?_|refine Z22 rfl rfl hX11 rfl rfl ?_|refine Z11 rfl rfl ?_|refine RE.want rfl rfl ?_)
   refine RE.dc en34 rfl rfl (fun w12 _ => Fn.mono (pageHas_fn (i:=q1.pos) (x:=pct3) (by omega) (by decide) (by omega)) (by rintro _ w13 ⟨rfl,rfl⟩; exact ⟨rfl,Ext.refl _⟩)) ?_
   repeat(first|refine Z2 rfl rfl ?_|refine Z3 rfl rfl rfl ?_|refine Z11 rfl rfl ?_|refine Z16 rfl rfl rfl rfl ?_|refine Z17 rfl rfl rfl ?_|refine RE.want rfl rfl ?_)
   refine RE.es (fun _ hw => e_store rfl rfl rfl (hw.block hX11) rfl rfl) ?_
   rintro w12 hw12 _ w13 hu13
   refine RE.nil (fun w14 hw14 => ?_)
   exact ⟨rfl,fin (!begS t q1.pos pct3) (by rw [hx0]; rfl) w12 hw12 w13 hu13 w14 hw14,(by repeat first | trivial|refine ⟨rfl,?_⟩)⟩
 rw [if_neg h4]
 repeat(first|refine C0 ?_|refine C1 ?_|refine X1 rfl rfl ?_|refine X0 rfl rfl ?_|refine X2 rfl rfl ?_|refine X3 rfl rfl rfl ?_|refine X22 rfl rfl hX10 rfl rfl ?_|refine X21 rfl rfl rfl ?_|refine C2 ?_)
 refine CE.cond_d rfl (fun h5 => ?_) (fun h5 => ?_)
 ·rw [if_pos h5]
  repeat(first|refine C1 ?_|refine X1 rfl rfl ?_|refine X2 rfl rfl ?_|refine X3 rfl rfl rfl ?_)
  refine RE.xs (e_store rfl rfl rfl hX10 rfl rfl) ?_
  rintro _ w12 hu12
  obtain ⟨g12,i12⟩:=QS.upd (p':=q1.opened) g11 hu12 rfl rfl
  (refine RE.nilx ?_; (try dsimp only); refine end0 rfl ?_)
  exact ⟨rfl,_,g12,i11.trans i12⟩
 rw [if_neg h5]
 repeat(first|refine C0 ?_|refine C1 ?_|refine X1 rfl rfl ?_)
 refine RE.xc en90 rfl rfl (name_qfn g11 (by omega) (by omega) (by omega) hq1l) ?_
 rintro _ w12 ⟨rfl,v12,g12,i12⟩
 repeat (refine C2 ?_)
 refine CE.cond_s rfl (fun h6 => ?_) (fun h6 => ?_)
 ·rw [if_pos h6]
  repeat(first|refine C1 ?_|refine X1 rfl rfl ?_)
  have hgn:=name_fwd (t:=t) (p:=q1) hq1t (by rw [hgd]; cases hx : wordB c with | true => rfl | false => exact absurd (Or.inl hx) h4) h6
  have:=hgn.rs; have:=hgn.le; have:=hgn.lt
  refine RE.xc en91 rfl rfl (parameters_qfn g12 ht (by omega) hgn.le hrl) ?_
  rintro _ w13 ⟨rfl,v13,g13,i13⟩
  (refine RE.nilx ?_; (try dsimp only); refine end0 rfl ?_)
  exact ⟨rfl,_,g13,(i11.trans i12).trans i13⟩
 ·rw [if_neg (by rw [h6]; simp)]
  refine CE.skip ?_
  (try dsimp only)
  refine end0 rfl ?_
  exact ⟨rfl,_,g12,i11.trans i12⟩
end Go.Wk
