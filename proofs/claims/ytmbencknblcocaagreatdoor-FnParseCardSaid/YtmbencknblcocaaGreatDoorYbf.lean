/- The specification's lexer: a closing shortcode. -/
import Derived.Test.YtmbencknblcocaaGreatDoorYbe
namespace Go.Wk
open Go Go.RowKit Go.Proofs
set_option maxRecDepth 100000
theorem on_len {B n : Nat} {w : World} {v : Value} {xs : List Value} (h : w.ownsRow B 9 1 v n xs) : ∃ a cap,v = .slice a n cap:=by
 rcases h.2 with ⟨rfl,h0⟩ | ⟨g,cap,cur,rfl,_⟩
 ·exact ⟨none,0,by rw [h0]⟩
 ·exact ⟨_,_,rfl⟩
theorem on_item {B : Nat} {w : World} {v : Value} {xs : List (List UInt8)} (h : w.ownsRow B 9 1 v xs.length (xs.map S)) {k : Nat} (hk : k < xs.length) :
  ∃ g cap cur,v = Sl g 0 xs.length cap ∧ w.heap[g]? = some (.cells cur 9 (0,0)) ∧ nth cur.toList k = some (S xs[k]):=by
 rcases h.2 with ⟨_,h0⟩ | ⟨g,cap,cur,rfl,hb,hg,hnc,hcm,hcs,ht⟩
 ·omega
 ·refine ⟨g,cap,cur,rfl,hg,?_⟩
  rw [nth_get]
  have h1 : (cur.toList.take (xs.length * 1))[k]? = some (S xs[k]):=by
   rw [ht,List.getElem?_map,List.getElem?_eq_getElem hk]; rfl
  rw [List.getElem?_take,if_pos (by omega)] at h1
  exact h1
theorem elem_take {xs : List (List UInt8)} {x : List UInt8} {k : Nat} (hk : k < xs.length) : (xs.take (k + 1)).elem x = ((xs.take k).elem x || decide (xs[k] = x)):=by
 rw [List.take_add_one,List.getElem?_eq_getElem hk]
 simp only [List.elem_eq_mem,List.mem_append,Option.toList_some,List.mem_singleton]
 by_cases h1 : x ∈ xs.take k
 ·simp [h1]
 ·by_cases h2 : xs[k] = x
  ·simp [h1,h2]
  ·have h3 : ¬ x = xs[k]:=fun e => h2 e.symm
   simp [h1,h2,h3]
set_option maxHeartbeats 16000000 in
theorem closing_qfn {X B : Nat} {t right : List UInt8} {v : QV} {p : QP} {w : World} (h : QS X B t v p w) (ht : t.length ≤ 100000) (hn : p.rs.length ≤ 600000) (hm : p.nms.length ≤ 600000) (hp : p.pos < t.length) (h3 : right.length = 3) :
  QF X B t v w 87 [S right] (.tuple #[]) (p.closing t right):=by
 have hX : HX X w t p.pos p.dv v.l v.nm p.inl p.wrong p.opn p.loose:=h.at_
 refine fn_of Tryz.func87 rfl Tryz.ntmps87 rfl ?_
 unfold QP.closing
 repeat(first|refine C0 ?_|refine C1 ?_|refine X1 rfl rfl ?_|refine X0 rfl rfl ?_|refine X2 rfl rfl ?_|refine X3 rfl rfl rfl ?_|refine X22 rfl rfl hX rfl rfl ?_|refine X18 rfl rfl (by omega) (by omega) rfl ?_|refine C2 ?_)
 refine RE.xs (e_store rfl rfl rfl hX rfl rfl) ?_
 rintro _ w1 hu1
 obtain ⟨g1,i1⟩:=QS.upd (p':={ p with pos:=p.pos + 1 }) h hu1 rfl rfl
 repeat(first|refine C0 ?_|refine C1 ?_|refine X1 rfl rfl ?_|refine C2 ?_)
 refine RE.xc en86 rfl rfl (skip_qfn g1 (by omega) (by show p.pos + 1 ≤ _; omega)) ?_
 rintro _ w2 ⟨rfl,v2,g2,i2⟩
 have hal:=runTo_le (stop:=notW) (t:=t) _ (p.pos + 1) rfl hp
 have i02:=i1.trans i2
 have g2' : QS X B t v2 { p with pos:=runTo notW t (p.pos + 1) } w2:=g2
 clear g2
 generalize runTo notW t (p.pos + 1) = a at g2' hal
 unfold QP.closingA
 have hXd : HX X w2.drew t a p.dv v2.l v2.nm p.inl p.wrong p.opn p.loose:=g2'.at_
 have e3 : Ext w2 w2.drew:=Ext.drew w2
 have g3:=g2'.ext e3
 repeat(first|refine C0 ?_|refine C2 ?_)
 repeat refine C0 ?_
 refine CE.cut (fun s ds w' => ds = [] ∧ w' = w2.drew ∧ SubL [(59,.bool (decide (t.length ≤ a ∨ wordB (t.getD a 0) = false ∨ chr t a = 45))),(4,I p.pos),(1,S right),(0,Ptr X 0)] s) ?_ ?_
 ·refine CE.draw [0,0,0,0,0,0,0,0,0,0,0,0,0,0,0,0,0,0,0,0,0,0,0,0,0,0,0,0,0,0,0,0,0,0,0] mixed (by decide +kernel) ?_
  repeat(first|refine Y1 rfl rfl ?_|refine Y2 rfl rfl ?_|refine Y3 rfl rfl rfl ?_|refine Y22 rfl rfl hXd rfl rfl ?_|refine Y5 rfl rfl rfl ?_|refine Y14 rfl Tryz.underlying9 rfl ?_)
  refine RE.splitD (fun h4 => ?_) (fun h4 => ?_)
  ·rw [decide_eq_true (show t.length ≤ a ∨ wordB (t.getD a 0) = false ∨ chr t a = 45 from Or.inl (by omega))]
   repeat(first|refine Y1 rfl rfl ?_|refine Y16 rfl rfl rfl rfl ?_|refine RE.no0 rfl rfl rfl rfl ?_)
   refine RE.nilx ?_
   exact ⟨rfl,rfl,(by repeat first | trivial|refine ⟨rfl,?_⟩)⟩
  ·have ha' : a < t.length:=by omega
   have hix : t[((a : Nat) : Int).toNat]? = some t[a]:=by rw [Int.toNat_natCast]; exact List.getElem?_eq_getElem ha'
   have hgd : t.getD a 0 = t[a]:=getD_of (List.getElem?_eq_getElem ha')
   have hck:=chr_at ha'
   rw [hgd]
   generalize t[a] = b at hix hgd hck
   repeat(first|refine Y1 rfl rfl ?_|refine Y2 rfl rfl ?_|refine Y3 rfl rfl rfl ?_|refine Y22 rfl rfl hXd rfl rfl ?_|refine RE.want rfl rfl ?_)
   refine RE.d1 (op_index_s (b:=b) rfl rfl Tryz.underlying9 (by omega) hix) rfl ?_
   refine RE.want rfl rfl ?_
   refine RE.dc en89 rfl rfl (fun w4 _ => Fn.mono (pageWord_fn b w4) (by rintro _ w5 ⟨rfl,rfl⟩; exact ⟨rfl,rfl⟩)) ?_
   repeat(first|refine Y1 rfl rfl ?_|refine Y11 rfl rfl ?_|refine Y17 rfl rfl rfl ?_|refine RE.want rfl rfl ?_)
   cases h5 : wordB b with
   | false =>
    rw [decide_eq_true (show t.length ≤ a ∨ false = false ∨ chr t a = 45 from Or.inr (Or.inl rfl))]
    repeat(first|refine Y16 rfl rfl rfl rfl ?_|refine RE.no0 rfl rfl rfl rfl ?_)
    refine RE.nilx ?_
    exact ⟨rfl,rfl,(by repeat first | trivial|refine ⟨rfl,?_⟩)⟩
   | true =>
    have hcb : decide (t.length ≤ a ∨ true = false ∨ chr t a = 45) = decide ((b.toNat : Int) = 45):=by
     refine decide_eq_decide.2 ⟨?_,fun e => Or.inr (Or.inr (by omega))⟩
     rintro (e | e | e)
     ·omega
     ·cases e
     ·omega
    rw [hcb]
    repeat(first|refine Y1 rfl rfl ?_|refine Y2 rfl rfl ?_|refine Y3 rfl rfl rfl ?_|refine Y22 rfl rfl hXd rfl rfl ?_|refine RE.want rfl rfl ?_)
    refine RE.d1 (op_index_s (b:=b) rfl rfl Tryz.underlying9 (by omega) hix) rfl ?_
    repeat(first|refine Y5 rfl rfl rfl ?_|refine Y17 rfl rfl rfl ?_|refine RE.want rfl rfl ?_)
    refine RE.nilx ?_
    exact ⟨rfl,rfl,(by repeat first | trivial|refine ⟨rfl,?_⟩)⟩
 rintro s _ w3 ⟨rfl,hw,hs⟩
 subst hw
 refine CE.sub hs ?_
 have i03:=i02.ext_r e3
 generalize w2.drew = w3 at e3 g3 hXd i03
 refine CE.cond_d rfl (fun h4 => ?_) (fun h4 => ?_)
 ·rw [if_pos h4]
  repeat(first|refine C0 ?_|refine C1 ?_|refine X1 rfl rfl ?_|refine X2 rfl rfl ?_|refine X3 rfl rfl rfl ?_)
  refine RE.xs (e_store rfl rfl rfl hXd rfl rfl) ?_
  rintro _ w4 hu4
  obtain ⟨g4,i4⟩:=QS.upd (p':={ p with pos:=a,opn:=true }) g3 hu4 rfl rfl
  repeat (refine C2 ?_)
  (refine CE.ret ?_; (try dsimp only); refine ret0 rfl ?_)
  exact ⟨rfl,_,g4,i03.trans i4⟩
 rw [if_neg h4]
 refine C3 ?_
 have ha' : a < t.length:=by omega
 have hkl:=runTo_le (stop:=notWd) (t:=t) _ a rfl (by omega)
 repeat(first|refine C0 ?_|refine C1 ?_|refine X1 rfl rfl ?_)
 refine RE.xc en109 rfl rfl (word_qfn g3 (by omega) (by show a ≤ _; omega)) ?_
 rintro _ w4 ⟨rfl,e4⟩
 have g4:=g3.ext e4
 have i04:=i03.ext_r e4
 have hX4 : HX X w4 t a p.dv v2.l v2.nm p.inl p.wrong p.opn p.loose:=g4.at_
 refine (show RE _ _ _ _ _ _ _ _ ((_,I (runTo notWd t a)) :: _) _ from ?_)
 generalize runTo notWd t a = k0 at hkl
 repeat(first|refine C0 ?_|refine C1 ?_|refine X1 rfl rfl ?_|refine X0 rfl rfl ?_|refine X2 rfl rfl ?_|refine X3 rfl rfl rfl ?_|refine X22 rfl rfl hX4 rfl rfl ?_|refine C2 ?_)
 refine RE.xc en34 rfl rfl (pageHas_fn (i:=k0) (x:=inlS) (by omega) (by decide) (by omega)) ?_
 rintro _ w5 ⟨rfl,hw⟩
 subst hw
 repeat (refine C2 ?_)
 have hsel : (if begS t k0 inlS = true then ({ p with pos:=p.pos } : QP).closingN t right p.pos a (k0 + 7) 14 else ({ p with pos:=p.pos } : QP).closingN t right p.pos a k0 13) = p.closingN t right p.pos a (if begS t k0 inlS = true then k0 + 7 else k0) (if begS t k0 inlS = true then 14 else 13):=by split <;> rfl
 have hsel' : (if begS t k0 inlS = true then p.closingN t right p.pos a (k0 + 7) 14 else p.closingN t right p.pos a k0 13) = p.closingN t right p.pos a (if begS t k0 inlS = true then k0 + 7 else k0) (if begS t k0 inlS = true then 14 else 13):=hsel
 rw [hsel']
 refine CE.cut (fun s ds w' => ds = [] ∧ w' = w5 ∧ SubL [(6,I (if begS t k0 inlS = true then 14 else 13)),(5,I (if begS t k0 inlS = true then k0 + 7 else k0 : Nat)),(4,I p.pos),(1,S right),(0,Ptr X 0)] s) ?_ ?_
 ·refine CE.cond_s rfl (fun h5 => ?_) (fun h5 => ?_)
  ·rw [if_pos h5,if_pos h5]
   repeat(first|refine C1 ?_|refine X1 rfl rfl ?_|refine X0 rfl rfl ?_|refine X18 rfl rfl (by omega) (by omega) rfl ?_)
   refine RE.nilx ?_
   exact ⟨rfl,rfl,(by repeat first | trivial|refine ⟨rfl,?_⟩)⟩
  ·rw [if_neg (by rw [h5]; simp),if_neg (by rw [h5]; simp)]
   exact CE.skip ⟨rfl,rfl,(by repeat first | trivial|refine ⟨rfl,?_⟩)⟩
 rintro s _ w6 ⟨rfl,hw,hs⟩
 subst hw
 refine CE.sub hs ?_
 have hkk : ∃ (k : Nat) (kind : Int),k = (if begS t k0 inlS = true then k0 + 7 else k0) ∧ kind = (if begS t k0 inlS = true then 14 else 13) ∧ a ≤ k ∧ k ≤ t.length + 7:=⟨_,_,rfl,rfl,by split <;> omega,by split <;> omega⟩
 obtain ⟨k,kind,hke,hkd,hak,hk7⟩:=hkk
 rw [← hke,← hkd]
 clear hke hkd hsel hsel'
 unfold QP.closingN
 repeat(first|refine C0 ?_|refine C1 ?_|refine X1 rfl rfl ?_|refine X5 rfl rfl rfl ?_)
 refine RE.cut (fun s ds w' => ds = [] ∧ w' = w6 ∧ SubL [(7,.bool (decide (kind = 14) || decide (p.inl ≠ []))),(6,I kind),(5,I k),(4,I p.pos),(1,S right),(0,Ptr X 0)] s) ?_ ?_
 ·refine RE.splitD (fun h5 => ?_) (fun h5 => ?_)
  ·rw [decide_eq_true (show kind = 14 from h5),Bool.true_or]
   repeat(first|refine X0 rfl rfl ?_|refine X16 rfl rfl rfl rfl ?_|refine RE.nox rfl rfl rfl rfl ?_)
   refine RE.nilx ?_
   exact ⟨rfl,rfl,(by repeat first | trivial|refine ⟨rfl,?_⟩)⟩
  ·rw [decide_eq_false (show ¬ kind = 14 from h5),Bool.false_or]
   repeat(first|refine X1 rfl rfl ?_|refine X0 rfl rfl ?_|refine X2 rfl rfl ?_|refine X3 rfl rfl rfl ?_|refine X22 rfl rfl hX4 rfl rfl ?_|refine X17 rfl rfl rfl ?_|refine X21 rfl rfl rfl ?_|refine RE.want rfl rfl ?_)
   refine RE.nilx ?_
   exact ⟨rfl,rfl,(by repeat first | trivial|refine ⟨rfl,?_⟩)⟩
 rintro s _ w7 ⟨rfl,hw,hs⟩
 subst hw
 refine CE.sub hs ?_
 generalize (decide (kind = 14) || decide (p.inl ≠ [])) = wi
 repeat(first|refine C0 ?_|refine C1 ?_|refine X1 rfl rfl ?_|refine X2 rfl rfl ?_|refine X3 rfl rfl rfl ?_|refine X22 rfl rfl hX4 rfl rfl ?_|refine X10 rfl rfl rfl ?_|refine X14 rfl Tryz.underlying9 rfl ?_)
 refine RE.cut (fun s ds w' => ds = [] ∧ w' = w7 ∧ SubL [(133,.bool (clBad t right wi k)),(6,I kind),(5,I k),(4,I p.pos),(1,S right),(0,Ptr X 0)] s) ?_ ?_
 ·unfold clBad
  refine RE.splitD (fun h5 => ?_) (fun h5 => ?_)
  ·rw [decide_eq_true (show t.length ≤ k by omega),Bool.true_or,Bool.true_or,Bool.true_or]
   repeat(first|refine X1 rfl rfl ?_|refine X16 rfl rfl rfl rfl ?_|refine RE.nox rfl rfl rfl rfl ?_|refine RE.nou rfl rfl rfl ?_)
   refine RE.nilx ?_
   exact ⟨rfl,rfl,(by repeat first | trivial|refine ⟨rfl,?_⟩)⟩
  have hkt : k < t.length:=by omega
  have hix : t[((k : Nat) : Int).toNat]? = some t[k]:=by rw [Int.toNat_natCast]; exact List.getElem?_eq_getElem hkt
  have hgd : t.getD k 0 = t[k]:=getD_of (List.getElem?_eq_getElem hkt)
  have hck:=chr_at hkt
  rw [decide_eq_false (show ¬ t.length ≤ k by omega),Bool.false_or,hgd]
  generalize t[k] = b at hix hgd hck
  repeat(first|refine X1 rfl rfl ?_|refine X2 rfl rfl ?_|refine X3 rfl rfl rfl ?_|refine X22 rfl rfl hX4 rfl rfl ?_|refine RE.want rfl rfl ?_)
  refine RE.x (op_index_s (b:=b) rfl rfl Tryz.underlying9 (by omega) hix) rfl ?_
  repeat(first|refine X1 rfl rfl ?_|refine X10 rfl rfl rfl ?_|refine X17 rfl rfl rfl ?_|refine RE.want rfl rfl ?_)
  refine RE.splitD (fun h6 => ?_) (fun h6 => ?_)
  ·rw [decide_eq_true (show 128 ≤ chr t k by omega),Bool.true_or,Bool.true_or]
   repeat(first|refine X1 rfl rfl ?_|refine X16 rfl rfl rfl rfl ?_|refine RE.nox rfl rfl rfl rfl ?_|refine RE.nou rfl rfl rfl ?_)
   refine RE.nilx ?_
   exact ⟨rfl,rfl,(by repeat first | trivial|refine ⟨rfl,?_⟩)⟩
  rw [decide_eq_false (show ¬ 128 ≤ chr t k by omega),Bool.false_or]
  cases wi with
  | true =>
   repeat(first|refine X1 rfl rfl ?_|refine X2 rfl rfl ?_|refine X3 rfl rfl rfl ?_|refine X22 rfl rfl hX4 rfl rfl ?_|refine RE.want rfl rfl ?_)
   refine RE.x (op_index_s (b:=b) rfl rfl Tryz.underlying9 (by omega) hix) rfl ?_
   repeat(first|refine X1 rfl rfl ?_|refine X6 rfl rfl rfl ?_|refine X16 rfl rfl rfl rfl ?_|refine X17 rfl rfl rfl ?_|refine RE.want rfl rfl ?_)
   refine RE.splitD (fun h7 => ?_) (fun h7 => ?_)
   ·rw [decide_eq_true (show chr t k ≠ 32 by omega)]
    repeat(first|refine X16 rfl rfl rfl rfl ?_|refine RE.nox rfl rfl rfl rfl ?_|refine RE.nou rfl rfl rfl ?_)
    refine RE.nilx ?_
    exact ⟨rfl,rfl,(by repeat first | trivial|refine ⟨rfl,?_⟩)⟩
   ·rw [decide_eq_false (show ¬ chr t k ≠ 32 by omega)]
    repeat(first|refine X1 rfl rfl ?_|refine X11 rfl rfl ?_|refine X17 rfl rfl rfl ?_|refine RE.want rfl rfl ?_|refine RE.nox rfl rfl rfl rfl ?_)
    refine RE.nilx ?_
    exact ⟨rfl,rfl,(by repeat first | trivial|refine ⟨rfl,?_⟩)⟩
  | false =>
   rw [Bool.false_and,Bool.false_or,Bool.not_false,Bool.true_and]
   repeat(first|refine X1 rfl rfl ?_|refine X2 rfl rfl ?_|refine X3 rfl rfl rfl ?_|refine X22 rfl rfl hX4 rfl rfl ?_|refine X11 rfl rfl ?_|refine X17 rfl rfl rfl ?_|refine RE.want rfl rfl ?_|refine RE.nox rfl rfl rfl rfl ?_)
   refine RE.x (op_index_s (b:=b) rfl rfl Tryz.underlying9 (by omega) hix) rfl ?_
   refine RE.want rfl rfl ?_
   refine RE.xc en37 rfl rfl (pageWhite_fn b w7) ?_
   rintro _ w8 ⟨rfl,hw⟩
   subst hw
   repeat(first|refine X1 rfl rfl ?_|refine X11 rfl rfl ?_|refine X16 rfl rfl rfl rfl ?_|refine RE.want rfl rfl ?_)
   cases h7 : whiteB b with
   | true =>
    repeat(first|refine X17 rfl rfl rfl ?_|refine RE.want rfl rfl ?_|refine RE.nox rfl rfl rfl rfl ?_)
    refine RE.nilx ?_
    exact ⟨rfl,rfl,(by repeat first | trivial|refine ⟨rfl,?_⟩)⟩
   | false =>
    repeat(first|refine X1 rfl rfl ?_|refine X2 rfl rfl ?_|refine X3 rfl rfl rfl ?_|refine X22 rfl rfl hX4 rfl rfl ?_|refine RE.want rfl rfl ?_)
    refine RE.xc en34 rfl rfl (pageHas_fn (i:=k) (x:=right) (by omega) (by omega) (by omega)) ?_
    rintro _ w9 ⟨rfl,hw⟩
    subst hw
    repeat(first|refine X11 rfl rfl ?_|refine X16 rfl rfl rfl rfl ?_|refine X17 rfl rfl rfl ?_|refine RE.want rfl rfl ?_)
    refine RE.nilx ?_
    exact ⟨rfl,rfl,(by repeat first | trivial|refine ⟨rfl,?_⟩)⟩
 rintro s _ w8 ⟨rfl,hw,hs⟩
 subst hw
 refine CE.sub hs ?_
 refine CE.cond_s rfl (fun h5 => ?_) (fun h5 => ?_)
 ·rw [if_pos h5]
  repeat(first|refine C0 ?_|refine C1 ?_|refine X1 rfl rfl ?_|refine X2 rfl rfl ?_|refine X3 rfl rfl rfl ?_)
  refine RE.xs (e_store rfl rfl rfl hX4 rfl rfl) ?_
  rintro _ w9 hu9
  obtain ⟨g9,i9⟩:=QS.upd (p':={ p with pos:=a,opn:=true }) g4 hu9 rfl rfl
  repeat (refine C2 ?_)
  (refine CE.ret ?_; (try dsimp only); refine ret0 rfl ?_)
  exact ⟨rfl,_,g9,i04.trans i9⟩
 have hkt : k < t.length:=by
  rcases Nat.lt_or_ge k t.length with h6 | h6
  ·exact h6
  ·exfalso
   unfold clBad at h5
   rw [decide_eq_true h6,Bool.true_or,Bool.true_or,Bool.true_or] at h5
   cases h5
 rw [if_neg (by rw [h5]; simp)]
 refine C3 ?_
 have hXe : w8.drew.heap[X]? = _:=hX4
 have e9 : Ext w8 w8.drew:=Ext.drew w8
 repeat refine C0 ?_
 refine CE.draw [0,0,0,0,0,0,0,0,0,0,0] mixed (by decide +kernel) ?_
 repeat(first|refine Y1 rfl rfl ?_|refine Y2 rfl rfl ?_|refine Y3 rfl rfl rfl ?_|refine Y22 rfl rfl hXe rfl rfl ?_)
 refine RE.d1 (op_str_lh rfl rfl rfl Tryz.underlying9 (by omega) (by omega) (by omega)) rfl ?_
 rw [show ((k : Int)).toNat - ((a : Int)).toNat = k - a by omega,Int.toNat_natCast]
 have hnl : (wordA t a k).length ≤ 1000000:=by have:=word_len t a k; omega
 refine (show RE _ _ _ _ _ _ _ _ ((_,S (wordA t a k)) :: _) _ from ?_)
 generalize wordA t a k = name at hnl
 repeat(first|refine Y0 rfl rfl ?_|refine C2 ?_)
 have g9:=g4.ext e9
 have i09:=i04.ext_r e9
 generalize w8.drew = w9 at e9 g9 hXe i09
 obtain ⟨n0,c0,hv0⟩:=on_len g9.on
 have hX9 : HX X w9 t a p.dv v2.l (.slice n0 p.nms.length c0) p.inl p.wrong p.opn p.loose:=by
  have hv0' : v2.nm = .slice n0 p.nms.length c0:=hv0
  rw [← hv0']; exact hXe
 have hmax : maxLen = 9223372036854775807:=rfl
 repeat(first|refine C0 ?_|refine C1 ?_|refine X1 rfl rfl ?_|refine X0 rfl rfl ?_|refine X2 rfl rfl ?_|refine X3 rfl rfl rfl ?_|refine X22 rfl rfl hX9 rfl rfl ?_|refine X13 rfl rfl rfl ?_|refine C2 ?_)
 refine CE.cut (fun s ds w' => ds = [] ∧ w' = w9 ∧ SubL [(9,.bool (p.nms.elem name)),(8,S name),(6,I kind),(5,I k),(4,I p.pos),(1,S right),(0,Ptr X 0)] s) ?_ ?_
 ·refine CE.block ?_
  refine CE.loop (α:=Nat) (fun j => [(152,I j),(151,I p.nms.length),(150,.slice n0 p.nms.length c0),(9,.bool ((p.nms.take j).elem name)),(8,S name),(6,I kind),(5,I k),(4,I p.pos),(1,S right),(0,Ptr X 0)])
   (fun j w' => w' = w9 ∧ j ≤ p.nms.length) (fun j => p.nms.length - j) 0 (by repeat first | trivial|refine ⟨rfl,?_⟩) ⟨rfl,Nat.zero_le _⟩ ?_
  rintro j w10 ⟨hw,hj⟩
  subst hw
  repeat(first|refine C0 ?_|refine C1 ?_|refine X7 rfl rfl rfl ?_|refine C2 ?_)
  refine CE.cond_d rfl (fun hlt => ?_) (fun hlt => ?_)
  ·have hj' : j < p.nms.length:=by omega
   obtain ⟨g,cap,cur,hv,hg,hcur⟩:=on_item (k:=j) g9.on hj'
   have hv1 : Value.slice n0 p.nms.length c0 = Sl g 0 p.nms.length cap:=hv0.symm.trans hv
   cases hv1
   have het:=elem_take (x:=name) hj'
   have hcur' : nth cur.toList j = some (S p.nms[j]):=hcur
   generalize p.nms[j] = nj at het hcur'
   repeat(first|refine C0 ?_|refine C1 ?_|refine CE.block ?_|refine C3 ?_)
   refine RE.x (op_indexAddr rfl rfl rfl (by omega) (by omega)) rfl ?_
   have e0 : 0 + (j : Int).toNat * 1 = j:=by omega
   rw [e0]
   refine X22 rfl rfl hg hcur' rfl ?_
   repeat(first|refine C1 ?_|refine X1 rfl rfl ?_|refine X0 rfl rfl ?_|refine C2 ?_)
   refine RE.cut (fun s ds w' => ds = [] ∧ w' = w10 ∧ SubL [(9,.bool ((p.nms.take (j + 1)).elem name)),(152,I j),(151,I p.nms.length),(150,.slice (some ⟨g,0,none⟩) p.nms.length c0),(8,S name),(6,I kind),(5,I k),(4,I p.pos),(1,S right),(0,Ptr X 0)] s) ?_ ?_
   ·rw [het]
    cases h6 : (p.nms.take j).elem name with
    | true =>
     rw [Bool.true_or]
     repeat(first|refine X0 rfl rfl ?_|refine X16 rfl rfl rfl rfl ?_|refine RE.nox rfl rfl rfl rfl ?_)
     refine RE.nilx ?_
     exact ⟨rfl,rfl,(by repeat first | trivial|refine ⟨rfl,?_⟩)⟩
    | false =>
     rw [Bool.false_or]
     repeat(first|refine X1 rfl rfl ?_|refine X0 rfl rfl ?_|refine X17 rfl rfl rfl ?_|refine X20 rfl rfl rfl ?_|refine RE.want rfl rfl ?_)
     refine RE.nilx ?_
     exact ⟨rfl,rfl,(by repeat first | trivial|refine ⟨rfl,?_⟩)⟩
   rintro s _ w11 ⟨rfl,hw,hs⟩
   subst hw
   refine CE.sub hs ?_
   repeat(first|refine C1 ?_|refine X1 rfl rfl ?_|refine X18 rfl rfl (by omega) (by omega) rfl ?_)
   refine RE.nilx ?_
   exact ⟨j + 1,by show p.nms.length - (j + 1) < p.nms.length - j; omega,rfl,(by repeat first | trivial|refine ⟨rfl,?_⟩),rfl,hj'⟩
  ·refine CE.exit ?_
   have hje : j = p.nms.length:=by omega
   have het : (p.nms.take j).elem name = p.nms.elem name:=by rw [hje,List.take_length]
   refine ⟨rfl,rfl,?_⟩
   rw [← het]
   exact ⟨rfl,rfl,(by repeat first | trivial|refine ⟨rfl,?_⟩)⟩
 rintro s _ w10 ⟨rfl,hw,hs⟩
 subst hw
 refine CE.sub hs ?_
 repeat(first|refine C0 ?_|refine C1 ?_|refine X1 rfl rfl ?_|refine X2 rfl rfl ?_|refine X3 rfl rfl rfl ?_|refine X22 rfl rfl hX9 rfl rfl ?_|refine X21 rfl rfl rfl ?_)
 refine RE.cut (fun s ds w' => ds = [] ∧ w' = w10 ∧ SubL [(175,.bool (decide (p.inl ≠ [] ∧ p.inl ≠ name))),(9,.bool (p.nms.elem name)),(8,S name),(6,I kind),(5,I k),(4,I p.pos),(1,S right),(0,Ptr X 0)] s) ?_ ?_
 ·refine RE.splitD (fun h6 => ?_) (fun h6 => ?_)
  ·have hcb : decide (p.inl ≠ [] ∧ p.inl ≠ name) = decide (p.inl ≠ name):=decide_eq_decide.2 ⟨fun e => e.2,fun e => ⟨h6,e⟩⟩
   rw [hcb]
   repeat(first|refine X1 rfl rfl ?_|refine X2 rfl rfl ?_|refine X3 rfl rfl rfl ?_|refine X22 rfl rfl hX9 rfl rfl ?_|refine X16 rfl rfl rfl rfl ?_|refine X21 rfl rfl rfl ?_|refine RE.want rfl rfl ?_)
   refine RE.nilx ?_
   exact ⟨rfl,rfl,(by repeat first | trivial|refine ⟨rfl,?_⟩)⟩
  ·rw [decide_eq_false (fun e => h6 e.1)]
   repeat(first|refine X17 rfl rfl rfl ?_|refine RE.nox rfl rfl rfl rfl ?_)
   refine RE.nilx ?_
   exact ⟨rfl,rfl,(by repeat first | trivial|refine ⟨rfl,?_⟩)⟩
 rintro s _ w11 ⟨rfl,hw,hs⟩
 subst hw
 refine CE.sub hs ?_
 refine CE.cond_d rfl (fun h6 => ?_) (fun h6 => ?_)
 ·rw [if_pos h6]
  repeat(first|refine C0 ?_|refine C1 ?_|refine X1 rfl rfl ?_|refine X2 rfl rfl ?_|refine X3 rfl rfl rfl ?_)
  refine RE.xs (e_store rfl rfl rfl hXe rfl rfl) ?_
  rintro _ w12 hu12
  obtain ⟨g12,i12⟩:=QS.upd (p':={ p with pos:=a,opn:=true }) g9 hu12 rfl rfl
  repeat (refine C2 ?_)
  (refine CE.ret ?_; (try dsimp only); refine ret0 rfl ?_)
  exact ⟨rfl,_,g12,i09.trans i12⟩
 rw [if_neg h6]
 refine C3 ?_
 repeat(first|refine C0 ?_|refine C1 ?_|refine X1 rfl rfl ?_|refine X11 rfl rfl ?_|refine C2 ?_)
 refine CE.cond_s rfl (fun h7 => ?_) (fun h7 => ?_)
 ·rw [if_pos (by simpa using h7)]
  repeat(first|refine C0 ?_|refine C1 ?_|refine X1 rfl rfl ?_|refine X2 rfl rfl ?_|refine X3 rfl rfl rfl ?_)
  refine RE.xs (e_store rfl rfl rfl hXe rfl rfl) ?_
  rintro _ w12 hu12
  obtain ⟨g12,i12⟩:=QS.upd (p':={ p with pos:=a,loose:=true }) g9 hu12 rfl rfl
  repeat(first|refine C0 ?_|refine C1 ?_|refine X1 rfl rfl ?_|refine C2 ?_)
  refine RE.xc en84 rfl rfl (qfail_fn g12 (by show p.rs.length ≤ _; omega)) ?_
  rintro _ w13 ⟨rfl,v13,g13,i13⟩
  repeat (refine C2 ?_)
  (refine CE.ret ?_; (try dsimp only); refine ret0 rfl ?_)
  exact ⟨rfl,_,g13,(i09.trans i12).trans i13⟩
 rw [if_neg (by simpa using h7)]
 refine C3 ?_
 repeat(first|refine C0 ?_|refine C1 ?_|refine X1 rfl rfl ?_)
 refine RE.xc en65 rfl rfl (qput_fn (kind:=12) (fr:=p.pos) (tx:=[47]) g9 (by show p.rs.length ≤ _; omega) (by decide)) ?_
 rintro _ w12 ⟨rfl,v12,g12,i12⟩
 have hX12 : HX X w12 t a p.dv v12.l v12.nm p.inl p.wrong p.opn p.loose:=g12.at_
 have hl12 : (p.put 12 p.pos [47]).rs.length = p.rs.length + 1:=put_len ..
 repeat(first|refine C0 ?_|refine C1 ?_|refine X1 rfl rfl ?_|refine X2 rfl rfl ?_|refine X3 rfl rfl rfl ?_|refine X22 rfl rfl hX12 rfl rfl ?_|refine C2 ?_)
 refine RE.xc en65 rfl rfl (qput_fn (kind:=kind) (fr:=a) (tx:=name) g12 (by show (p.put 12 p.pos [47]).rs.length ≤ _; omega) hnl) ?_
 rintro _ w13 ⟨rfl,v13,g13,i13⟩
 have hX13 : HX X w13 t a p.dv v13.l v13.nm p.inl p.wrong p.opn p.loose:=g13.at_
 repeat(first|refine C0 ?_|refine C1 ?_|refine X1 rfl rfl ?_|refine X2 rfl rfl ?_|refine X3 rfl rfl rfl ?_|refine C2 ?_)
 refine RE.xs (e_store rfl rfl rfl hX13 rfl rfl) ?_
 rintro _ w14 hu14
 obtain ⟨g14,i14⟩:=QS.upd (p':={ (p.put 12 p.pos [47]).put kind a name with pos:=k }) g13 hu14 rfl rfl
 have hl14 : ((p.put 12 p.pos [47]).put kind a name).rs.length = p.rs.length + 2:=by rw [put_len,put_len]
 have hbl:=runTo_le (stop:=notW) (t:=t) _ k rfl (by omega)
 repeat(first|refine C0 ?_|refine C1 ?_|refine X1 rfl rfl ?_|refine C2 ?_)
 refine RE.xc en86 rfl rfl (skip_qfn g14 (by omega) (by show k ≤ _; omega)) ?_
 rintro _ w15 ⟨rfl,v15,g15,i15⟩
 have g15' : QS X B t v15 { (p.put 12 p.pos [47]).put kind a name with pos:=runTo notW t k } w15:=g15
 clear g15
 refine (show RE _ _ _ _ _ _ _ _ _ _ from ?_)
 generalize runTo notW t k = m at g15' hbl
 have i15':=(((i09.trans i12).trans i13).trans i14).trans i15
 have hX15 : HX X w15.drew t m p.dv v15.l v15.nm p.inl p.wrong p.opn p.loose:=g15'.at_
 have e16 : Ext w15 w15.drew:=Ext.drew w15
 repeat(first|refine C0 ?_|refine C2 ?_)
 repeat refine C0 ?_
 refine CE.draw [0,0,0,0,0,0,0,0,0,0,0] mixed (by decide +kernel) ?_
 repeat(first|refine Y1 rfl rfl ?_|refine Y2 rfl rfl ?_|refine Y3 rfl rfl rfl ?_|refine Y22 rfl rfl hX15 rfl rfl ?_)
 refine RE.dc en34 rfl rfl (fun w16 _ => Fn.mono (pageHas_fn (i:=m) (x:=right) (by omega) (by omega) (by omega)) (by rintro _ w17 ⟨rfl,rfl⟩; exact ⟨rfl,rfl⟩)) ?_
 repeat(first|refine Y11 rfl rfl ?_|refine C2 ?_)
 have g16:=g15'.ext e16
 have i16:=i15'.ext_r e16
 generalize w15.drew = w16 at e16 g16 hX15 i16
 refine CE.cond_s rfl (fun h8 => ?_) (fun h8 => ?_)
 ·rw [if_pos (by simpa using h8)]
  repeat(first|refine C0 ?_|refine C1 ?_|refine X1 rfl rfl ?_|refine X2 rfl rfl ?_|refine X3 rfl rfl rfl ?_)
  refine RE.xs (e_store rfl rfl rfl hX15 rfl rfl) ?_
  rintro _ w17 hu17
  obtain ⟨g17,i17⟩:=QS.upd (p':={ (p.put 12 p.pos [47]).put kind a name with pos:=m,loose:=true }) g16 hu17 rfl rfl
  repeat(first|refine C0 ?_|refine C1 ?_|refine X1 rfl rfl ?_|refine C2 ?_)
  refine RE.xc en84 rfl rfl (qfail_fn g17 (by show ((p.put 12 p.pos [47]).put kind a name).rs.length ≤ _; omega)) ?_
  rintro _ w18 ⟨rfl,v18,g18,i18⟩
  repeat (refine C2 ?_)
  (refine CE.ret ?_; (try dsimp only); refine ret0 rfl ?_)
  exact ⟨rfl,_,g18,(i16.trans i17).trans i18⟩
 have hbg : begS t m right = true:=by simpa using h8
 rw [if_neg (by rw [hbg]; simp)]
 refine C3 ?_
 repeat(first|refine C0 ?_|refine C1 ?_|refine X1 rfl rfl ?_|refine X2 rfl rfl ?_|refine X3 rfl rfl rfl ?_)
 refine RE.xs (e_store rfl rfl rfl hX15 rfl rfl) ?_
 rintro _ w17 hu17
 obtain ⟨g17,i17⟩:=QS.upd (p':={ (p.put 12 p.pos [47]).put kind a name with pos:=m,inl:=[] }) g16 hu17 rfl rfl
 repeat(first|refine C1 ?_|refine X1 rfl rfl ?_|refine C2 ?_)
 refine RE.xc en88 rfl rfl (finish_qfn g17 (by show ((p.put 12 p.pos [47]).put kind a name).rs.length ≤ _; omega) (by show m ≤ _; omega) (by omega)) ?_
 rintro _ w18 ⟨rfl,v18,g18,i18⟩
 (refine RE.nilx ?_; (try dsimp only); refine end0 rfl ?_)
 exact ⟨rfl,_,g18,(i16.trans i17).trans i18⟩
end Go.Wk
