/- The specification's lexer: a word, finish; is a text ASCII? -/
import Derived.Test.YtmbencknblcocaaGreatDoorYax
import Derived.Test.YtmbencknblcocaaGreatDoorYan
namespace Go.Wk
open Go Go.RowKit Go.Proofs
set_option maxRecDepth 100000
theorem word_qfn {X B : Nat} {t : List UInt8} {v : QV} {p : QP} {w : World} (h : QS X B t v p w) (ht : t.length ≤ 1000000) (hp : p.pos ≤ t.length) :
  Fn PT 109 [Ptr X 0] w (fun u w' => u = I (runTo notWd t p.pos) ∧ Ext w w'):=by
 have hX:=h.at_
 refine fn_of Tryz.func109 rfl Tryz.ntmps109 rfl ?_
 repeat(first|refine C0 ?_|refine C1 ?_|refine X1 rfl rfl ?_|refine X0 rfl rfl ?_|refine X2 rfl rfl ?_|refine X3 rfl rfl rfl ?_|refine X22 rfl rfl hX rfl rfl ?_|refine C2 ?_)
 refine CE.cut (fun s ds w' => ds = [] ∧ Ext w w' ∧ SubL [(3,I (runTo notWd t p.pos))] s) ?_ ?_
 ·refine CE.block ?_
  refine CE.loop (α:=Nat) (fun k => [(3,I k),(0,Ptr X 0)])
   (fun k w' => Ext w w' ∧ k ≤ t.length ∧ runTo notWd t p.pos = runTo notWd t k) (fun k => t.length - k) p.pos ⟨rfl,rfl,trivial⟩ ⟨Ext.refl _,hp,rfl⟩ ?_
  rintro k w1 ⟨e1,hk,hrun⟩
  have hX1:=(h.ext e1).at_
  repeat(first|refine C0 ?_|refine C1 ?_|refine X1 rfl rfl ?_|refine X2 rfl rfl ?_|refine X3 rfl rfl rfl ?_|refine X22 rfl rfl hX1 rfl rfl ?_|refine X7 rfl rfl rfl ?_|refine X14 rfl Tryz.underlying9 rfl ?_)
  refine RE.splitD (fun hlt => ?_) (fun hlt => ?_)
  ·have hlt' : k < t.length:=by
    have : (k : Int) < t.length:=hlt
    omega
   have hix : t[((k : Nat) : Int).toNat]? = some t[k]:=by rw [Int.toNat_natCast]; exact List.getElem?_eq_getElem hlt'
   repeat(first|refine X1 rfl rfl ?_|refine X2 rfl rfl ?_|refine X3 rfl rfl rfl ?_|refine X22 rfl rfl hX1 rfl rfl ?_|refine RE.want rfl rfl ?_)
   refine RE.x (op_index_s (b:=t[k]) rfl rfl Tryz.underlying9 (by omega) hix) rfl ?_
   refine RE.want rfl rfl ?_
   refine RE.xc en89 rfl rfl (pageWord_fn t[k] w1) ?_
   rintro _ w2 ⟨rfl,hw⟩
   subst hw
   repeat(first|refine X1 rfl rfl ?_|refine RE.want rfl rfl ?_)
   refine RE.splitH (fun h2 => ?_) (fun h2 => ?_)
   ·repeat(first|refine X16 rfl rfl rfl rfl ?_|refine RE.want rfl rfl ?_|refine RE.nox rfl rfl rfl rfl ?_|refine C2 ?_)
    refine CE.cond_t rfl ?_
    refine C3 ?_
    refine CE.block ?_
    repeat(first|refine C1 ?_|refine X1 rfl rfl ?_|refine X0 rfl rfl ?_|refine X18 rfl rfl (by omega) (by omega) rfl ?_)
    refine RE.nilx ?_
    refine ⟨k + 1,by show t.length - (k + 1) < t.length - k; omega,rfl,⟨rfl,rfl,trivial⟩,e1,hlt',?_⟩
    rw [hrun,runTo_go hlt' (by unfold notWd; rw [h2]; rfl)]
   ·repeat(first|refine X1 rfl rfl ?_|refine X2 rfl rfl ?_|refine X3 rfl rfl rfl ?_|refine X22 rfl rfl hX1 rfl rfl ?_|refine RE.want rfl rfl ?_)
    refine RE.x (op_index_s (b:=t[k]) rfl rfl Tryz.underlying9 (by omega) hix) rfl ?_
    repeat(first|refine X5 rfl rfl rfl ?_|refine X16 rfl rfl rfl rfl ?_|refine X17 rfl rfl rfl ?_|refine RE.want rfl rfl ?_|refine C2 ?_)
    refine CE.cond_d rfl (fun h3 => ?_) (fun h3 => ?_)
    ·refine C3 ?_
     refine CE.block ?_
     repeat(first|refine C1 ?_|refine X1 rfl rfl ?_|refine X0 rfl rfl ?_|refine X18 rfl rfl (by omega) (by omega) rfl ?_)
     refine RE.nilx ?_
     refine ⟨k + 1,by show t.length - (k + 1) < t.length - k; omega,rfl,⟨rfl,rfl,trivial⟩,e1,hlt',?_⟩
     rw [hrun,runTo_go hlt' (by unfold notWd; rw [h2,decide_eq_true (show t[k].toNat = 47 by omega)]; rfl)]
    ·refine CE.exit ?_
     refine ⟨rfl,e1,?_,trivial⟩
     rw [hrun,runTo_at hlt' (by unfold notWd; rw [h2,decide_eq_false (show ¬ t[k].toNat = 47 by omega)]; rfl)]
     rfl
  ·have hlt' : ¬ k < t.length:=by
    have : ¬ (k : Int) < t.length:=hlt
    omega
   repeat(first|refine X17 rfl rfl rfl ?_|refine RE.nox rfl rfl rfl rfl ?_|refine RE.nou rfl rfl rfl ?_|refine C2 ?_)
   refine CE.cond_f rfl ?_
   refine CE.exit ?_
   refine ⟨rfl,e1,?_,trivial⟩
   rw [hrun,runTo_end hlt']
   rfl
 ·rintro s _ w1 ⟨rfl,e1,hs⟩
  refine CE.sub hs ?_
  repeat(first|refine C0 ?_|refine C1 ?_|refine X1 rfl rfl ?_|refine X0 rfl rfl ?_|refine C2 ?_)
  (refine CE.ret ?_;(try dsimp only);refine ret1 rfl rfl ?_)
  exact ⟨rfl,e1⟩
def pct3 : List UInt8:=[37,125,125]
def QP.fin (p : QP) (right : List UInt8) : QP:={ p.put (if right = pct3 then 11 else 9) p.pos right with pos:=p.pos + 3 }
theorem finish_qfn {X B : Nat} {t right : List UInt8} {v : QV} {p : QP} {w : World} (h : QS X B t v p w) (hn : p.rs.length ≤ 1000000) (hp : p.pos ≤ 1000000) (hr : right.length ≤ 1000000) :
  QF X B t v w 88 [S right] (.tuple #[]) (p.fin right):=by
 refine fn_of Tryz.func88 rfl Tryz.ntmps88 rfl ?_
 repeat(first|refine C0 ?_|refine C1 ?_|refine X1 rfl rfl ?_|refine X0 rfl rfl ?_|refine X20 rfl rfl rfl ?_|refine C2 ?_)
 refine CE.cut (fun s ds w' => ds = [] ∧ w' = w ∧ SubL [(4,I (if right = pct3 then 11 else 9)),(1,S right),(0,Ptr X 0)] s) ?_ ?_
 ·refine CE.cond_d rfl (fun h1 => ?_) (fun h1 => ?_)
  ·repeat(first|refine C1 ?_|refine X0 rfl rfl ?_)
   refine RE.nilx ?_
   rw [if_pos (show right = pct3 from h1)]
   exact ⟨rfl,rfl,rfl,rfl,rfl,trivial⟩
  ·rw [if_neg (show ¬ right = pct3 from h1)]
   exact CE.skip ⟨rfl,rfl,rfl,rfl,rfl,trivial⟩
 rintro s _ w1 ⟨rfl,hw,hs⟩
 subst hw
 refine CE.sub hs ?_
 have hX:=h.at_
 repeat(first|refine C0 ?_|refine C1 ?_|refine X1 rfl rfl ?_|refine X2 rfl rfl ?_|refine X3 rfl rfl rfl ?_|refine X22 rfl rfl hX rfl rfl ?_)
 refine RE.xc en65 rfl rfl (qput_fn h hn hr) ?_
 rintro _ w2 ⟨rfl,v2,h2,i2⟩
 have hX2 : HX X w2 t p.pos p.dv v2.l v2.nm p.inl p.wrong p.opn p.loose:=h2.at_
 repeat(first|refine C1 ?_|refine X1 rfl rfl ?_|refine X2 rfl rfl ?_|refine X3 rfl rfl rfl ?_|refine X22 rfl rfl hX2 rfl rfl ?_|refine X18 rfl rfl (by omega) (by omega) rfl ?_|refine C2 ?_)
 refine RE.xs (e_store rfl rfl rfl hX2 rfl rfl) ?_
 rintro _ w3 hu3
 obtain ⟨g3,i3⟩:=QS.upd (p':=p.fin right) h2 hu3 rfl rfl
 refine RE.nilx ?_
 exact end0 rfl ⟨rfl,_,g3,i2.trans i3⟩
def asciiB (t : List UInt8) : Bool:=t.all fun b => decide (b.toNat ≤ 127)
theorem ascii_fn {t : List UInt8} {w : World} (ht : t.length ≤ 1000000) : Fn PT 28 [S t] w (fun u w' => u = .bool (asciiB t) ∧ w' = w):=by
 refine fn_of Tryz.func28 rfl Tryz.ntmps28 rfl ?_
 repeat(first|refine C0 ?_|refine C1 ?_|refine X0 rfl rfl ?_|refine C2 ?_)
 refine CE.cut (fun s ds w' => ds = [] ∧ w' = w ∧ asciiB t = true) ?_ ?_
 ·refine CE.block ?_
  refine CE.loop (α:=Nat) (fun k => [(3,I k),(0,S t)]) (fun k w' => w' = w ∧ k ≤ t.length ∧ asciiB t = (t.drop k).all fun b => decide (b.toNat ≤ 127)) (fun k => t.length - k) 0 ⟨rfl,rfl,trivial⟩ ⟨rfl,Nat.zero_le _,rfl⟩ ?_
  rintro k w1 ⟨hw,hk,hal⟩
  subst hw
  repeat(first|refine C0 ?_|refine C1 ?_|refine X1 rfl rfl ?_|refine X7 rfl rfl rfl ?_|refine X14 rfl Tryz.underlying9 rfl ?_|refine C2 ?_)
  refine CE.cond_d rfl (fun hlt => ?_) (fun hlt => ?_)
  ·have hlt' : k < t.length:=by omega
   have hix : t[((k : Nat) : Int).toNat]? = some t[k]:=by rw [Int.toNat_natCast]; exact List.getElem?_eq_getElem hlt'
   rw [List.drop_eq_getElem_cons hlt',List.all_cons] at hal
   repeat(first|refine C0 ?_|refine C1 ?_|refine X1 rfl rfl ?_|refine CE.block ?_|refine C3 ?_)
   refine RE.x (op_index_s (b:=t[k]) rfl rfl Tryz.underlying9 (by omega) hix) rfl ?_
   repeat(first|refine X9 rfl rfl rfl ?_|refine C2 ?_)
   refine CE.cond_d rfl (fun h1 => ?_) (fun h1 => ?_)
   ·repeat(first|refine C0 ?_|refine C1 ?_|refine X0 rfl rfl ?_|refine C2 ?_)
    (refine CE.ret ?_;(try dsimp only);refine ret1 rfl rfl ?_)
    rw [hal,decide_eq_false (by omega)]
    exact ⟨rfl,rfl⟩
   ·refine C3 ?_
    repeat(first|refine C1 ?_|refine X1 rfl rfl ?_|refine X0 rfl rfl ?_|refine X18 rfl rfl (by omega) (by omega) rfl ?_)
    refine RE.nilx ?_
    refine ⟨k + 1,by show t.length - (k + 1) < t.length - k; omega,rfl,⟨rfl,rfl,trivial⟩,rfl,hlt',?_⟩
    rw [hal,decide_eq_true (by omega),Bool.true_and]
  ·refine CE.exit ?_
   refine ⟨rfl,rfl,?_⟩
   rw [hal,List.drop_of_length_le (by omega)]
   rfl
 ·rintro s _ w1 ⟨rfl,hw,hal⟩
  subst hw
  repeat(first|refine C0 ?_|refine C1 ?_|refine X0 rfl rfl ?_|refine C2 ?_)
  (refine CE.ret ?_;(try dsimp only);refine ret1 rfl rfl ?_)
  exact ⟨by rw [hal],rfl⟩
def blankB (b : UInt8) : Bool:=decide (b.toNat = 32) || decide (b.toNat = 9) || decide (b.toNat = 13)
def bk (t : List UInt8) (fr : Nat) : Nat → Nat
 | 0 => 0
 | k + 1 => if fr < k + 1 ∧ blankB (t.getD k 0) = true then bk t fr k else k + 1
def QP.text (t : List UInt8) (p : QP) (fr to : Nat) (empty : Bool) : QP:=
 if fr = to then (if empty = true then p.put 18 fr [] else p) else
 if bk t fr to = fr then p.put 17 fr (wordA t fr to) else
 if bk t fr to < to ∧ t.getD (bk t fr to - 1) 0 = 10 then (p.put 18 fr (wordA t fr (bk t fr to))).put 17 (bk t fr to) (wordA t (bk t fr to) to)
 else p.put 18 fr (wordA t fr to)
theorem bk_le (t : List UInt8) (fr : Nat) : ∀ k,fr ≤ k → fr ≤ bk t fr k ∧ bk t fr k ≤ k
 | 0,h => by simp [bk]; omega
 | k + 1,h => by
  rw [bk]
  split
  ·rename_i hc
   have:=bk_le t fr k (by omega)
   omega
  ·omega
theorem bk_go {t : List UInt8} {fr k : Nat} {b : UInt8} (h : fr < k) (hb : t[k - 1]? = some b) (hk : blankB b = true) : bk t fr k = bk t fr (k - 1):=by
 obtain ⟨j,rfl⟩ : ∃ j,k = j + 1:=⟨k - 1,by omega⟩
 rw [Nat.add_sub_cancel] at hb ⊢
 have e : t.getD j 0 = b:=by simp [List.getD,hb]
 rw [bk,e,if_pos ⟨h,hk⟩]
theorem bk_stop {t : List UInt8} {fr k : Nat} {b : UInt8} (hb : t[k - 1]? = some b) (hk : blankB b = false) : bk t fr k = k:=by
 cases k with
 | zero => rfl
 | succ j =>
  rw [Nat.add_sub_cancel] at hb
  have e : t.getD j 0 = b:=by simp [List.getD,hb]
  rw [bk,e,if_neg (by rw [hk]; simp)]
theorem bk_end {t : List UInt8} {fr k : Nat} (h : ¬ fr < k) : bk t fr k = k:=by
 cases k with
 | zero => rfl
 | succ j => rw [bk,if_neg (fun hc => h hc.1)]
theorem word_len (t : List UInt8) (lo hi : Nat) : (wordA t lo hi).length ≤ t.length:=by unfold wordA; simp; omega
set_option maxHeartbeats 2000000 in
theorem text_qfn {X B : Nat} {t : List UInt8} {v : QV} {p : QP} {w : World} {fr to : Nat} {empty : Bool} (h : QS X B t v p w) (ht : t.length ≤ 100000) (hn : p.rs.length ≤ 900000) (h1 : fr ≤ to) (h2 : to ≤ t.length) :
  QF X B t v w 64 [I fr,I to,.bool empty] (.tuple #[]) (p.text t fr to empty):=by
 refine fn_of Tryz.func64 rfl Tryz.ntmps64 rfl ?_
 unfold QP.text
 have hX:=h.at_
 repeat(first|refine C0 ?_|refine C1 ?_|refine X1 rfl rfl ?_|refine X5 rfl rfl rfl ?_|refine C2 ?_)
 refine CE.cond_d rfl (fun h3 => ?_) (fun h3 => ?_)
 ·rw [if_pos (show fr = to by omega)]
  repeat(first|refine C0 ?_|refine C1 ?_|refine X1 rfl rfl ?_|refine C2 ?_)
  refine CE.cond_s rfl (fun h4 => ?_) (fun h4 => ?_)
  ·rw [if_pos h4]
   repeat(first|refine C1 ?_|refine X1 rfl rfl ?_)
   refine RE.xc en65 rfl rfl (qput_fn h (by omega) (by simp)) ?_
   rintro _ w2 ⟨rfl,v2,g2,i2⟩
   repeat (refine C2 ?_)
   (refine CE.ret ?_; (try dsimp only); refine ret0 rfl ?_)
   exact ⟨rfl,_,g2,i2⟩
  ·rw [if_neg (by rw [h4]; simp)]
   refine C3 ?_
   (refine CE.ret ?_; (try dsimp only); refine ret0 rfl ?_)
   exact ⟨rfl,_,h,QI.refl _ _ _⟩
 rw [if_neg (show ¬ fr = to by omega)]
 refine C3 ?_
 have hbk:=bk_le t fr to h1
 repeat(first|refine C0 ?_|refine C1 ?_|refine X1 rfl rfl ?_|refine X0 rfl rfl ?_|refine C2 ?_)
 refine CE.cut (fun s ds w' => ds = [] ∧ w' = w ∧ SubL [(8,I (bk t fr to)),(2,I to),(1,I fr),(0,Ptr X 0)] s) ?_ ?_
 ·refine CE.block ?_
  refine CE.loop (α:=Nat) (fun k => [(8,I k),(2,I to),(1,I fr),(0,Ptr X 0)]) (fun k w' => w' = w ∧ fr ≤ k ∧ k ≤ to ∧ bk t fr to = bk t fr k) (fun k => k) to ⟨rfl,rfl,rfl,rfl,trivial⟩ ⟨rfl,h1,Nat.le_refl _,rfl⟩ ?_
  rintro k w1 ⟨hw,hk1,hk2,hrun⟩
  subst hw
  have out : bk t fr k = k → SubL [(8,I (bk t fr to)),(2,I to),(1,I fr),(0,Ptr X 0)] [(8,I k),(2,I to),(1,I fr),(0,Ptr X 0)]:=by
   intro e
   rw [hrun,e]
   exact ⟨rfl,rfl,rfl,rfl,trivial⟩
  repeat(first|refine C0 ?_|refine C1 ?_|refine X1 rfl rfl ?_|refine X9 rfl rfl rfl ?_)
  refine RE.splitD (fun hlt => ?_) (fun hlt => ?_)
  ·have hlt' : fr < k:=by omega
   obtain ⟨b,hb⟩ : ∃ b,t[k - 1]? = some b:=⟨t[k - 1]'(by omega),List.getElem?_eq_getElem _⟩
   have hbi : t[((k : Int) - 1).toNat]? = some b:=by rw [show ((k : Int) - 1).toNat = k - 1 by omega]; exact hb
   have hcast : I ((k : Int) - 1) = I ((k - 1 : Nat) : Int):=by rw [show (k : Int) - 1 = ((k - 1 : Nat) : Int) by omega]
   repeat(first|refine X1 rfl rfl ?_|refine X2 rfl rfl ?_|refine X3 rfl rfl rfl ?_|refine X22 rfl rfl hX rfl rfl ?_|refine X19 rfl rfl (by omega) (by omega) rfl ?_|refine RE.want rfl rfl ?_)
   refine RE.x (op_index_s (b:=b) rfl rfl Tryz.underlying9 (by omega) hbi) rfl ?_
   repeat(first|refine X1 rfl rfl ?_|refine X5 rfl rfl rfl ?_|refine RE.want rfl rfl ?_)
   refine RE.splitD (fun h5 => ?_) (fun h5 => ?_)
   ·repeat(first|refine X1 rfl rfl ?_|refine X16 rfl rfl rfl rfl ?_|refine RE.want rfl rfl ?_|refine RE.nox rfl rfl rfl rfl ?_|refine C2 ?_)
    refine CE.cond_t rfl ?_
    refine C3 ?_
    refine CE.block ?_
    repeat(first|refine C1 ?_|refine X1 rfl rfl ?_|refine X0 rfl rfl ?_|refine X19 rfl rfl (by omega) (by omega) rfl ?_)
    refine RE.nilx ?_
    exact ⟨k - 1,by omega,rfl,⟨congrArg some hcast,rfl,rfl,rfl,trivial⟩,rfl,by omega,by omega,hrun.trans (bk_go hlt' hb (by unfold blankB; rw [decide_eq_true (show b.toNat = 32 by omega)]; rfl))⟩
   repeat(first|refine X1 rfl rfl ?_|refine X2 rfl rfl ?_|refine X3 rfl rfl rfl ?_|refine X22 rfl rfl hX rfl rfl ?_|refine X19 rfl rfl (by omega) (by omega) rfl ?_|refine RE.want rfl rfl ?_)
   refine RE.x (op_index_s (b:=b) rfl rfl Tryz.underlying9 (by omega) hbi) rfl ?_
   repeat(first|refine X1 rfl rfl ?_|refine X5 rfl rfl rfl ?_|refine X17 rfl rfl rfl ?_|refine RE.want rfl rfl ?_)
   refine RE.splitD (fun h6 => ?_) (fun h6 => ?_)
   ·repeat(first|refine X16 rfl rfl rfl rfl ?_|refine RE.want rfl rfl ?_|refine RE.nox rfl rfl rfl rfl ?_|refine C2 ?_)
    refine CE.cond_t rfl ?_
    refine C3 ?_
    refine CE.block ?_
    repeat(first|refine C1 ?_|refine X1 rfl rfl ?_|refine X0 rfl rfl ?_|refine X19 rfl rfl (by omega) (by omega) rfl ?_)
    refine RE.nilx ?_
    exact ⟨k - 1,by omega,rfl,⟨congrArg some hcast,rfl,rfl,rfl,trivial⟩,rfl,by omega,by omega,hrun.trans (bk_go hlt' hb (by unfold blankB; rw [decide_eq_true (show b.toNat = 9 by omega),Bool.or_true]; rfl))⟩
   repeat(first|refine X1 rfl rfl ?_|refine X2 rfl rfl ?_|refine X3 rfl rfl rfl ?_|refine X22 rfl rfl hX rfl rfl ?_|refine X19 rfl rfl (by omega) (by omega) rfl ?_|refine RE.want rfl rfl ?_)
   refine RE.x (op_index_s (b:=b) rfl rfl Tryz.underlying9 (by omega) hbi) rfl ?_
   repeat(first|refine X5 rfl rfl rfl ?_|refine X16 rfl rfl rfl rfl ?_|refine X17 rfl rfl rfl ?_|refine RE.want rfl rfl ?_|refine C2 ?_)
   refine CE.cond_d rfl (fun h7 => ?_) (fun h7 => ?_)
   ·refine C3 ?_
    refine CE.block ?_
    repeat(first|refine C1 ?_|refine X1 rfl rfl ?_|refine X0 rfl rfl ?_|refine X19 rfl rfl (by omega) (by omega) rfl ?_)
    refine RE.nilx ?_
    exact ⟨k - 1,by omega,rfl,⟨congrArg some hcast,rfl,rfl,rfl,trivial⟩,rfl,by omega,by omega,hrun.trans (bk_go hlt' hb (by unfold blankB; rw [decide_eq_true (show b.toNat = 13 by omega),Bool.or_true]))⟩
   ·refine CE.exit ?_
    exact ⟨rfl,rfl,out (bk_stop hb (by unfold blankB; rw [decide_eq_false (show ¬ b.toNat = 32 by omega),decide_eq_false (show ¬ b.toNat = 9 by omega),decide_eq_false (show ¬ b.toNat = 13 by omega)]; rfl))⟩
  ·repeat(first|refine X17 rfl rfl rfl ?_|refine RE.nox rfl rfl rfl rfl ?_|refine RE.nou rfl rfl rfl ?_|refine C2 ?_)
   refine CE.cond_f rfl ?_
   refine CE.exit ?_
   exact ⟨rfl,rfl,out (bk_end (by omega))⟩
 rintro s _ w1 ⟨rfl,hw,hs⟩
 subst hw
 refine CE.sub hs ?_
 generalize bk t fr to = k at hbk
 refine CE.block ?_
 repeat(first|refine C0 ?_|refine C1 ?_|refine X1 rfl rfl ?_|refine X0 rfl rfl ?_|refine X5 rfl rfl rfl ?_|refine C2 ?_)
 refine CE.cond_d rfl (fun h5 => ?_) (fun h5 => ?_)
 ·have h5' : k = fr:=by omega
  rw [if_pos h5']
  repeat(first|refine C1 ?_|refine X1 rfl rfl ?_|refine X2 rfl rfl ?_|refine X3 rfl rfl rfl ?_|refine X22 rfl rfl hX rfl rfl ?_)
  refine RE.x (op_str_lh rfl rfl rfl Tryz.underlying9 (by omega) (by omega) (by omega)) rfl ?_
  rw [show ((to : Int)).toNat - ((fr : Int)).toNat = to - fr by omega,Int.toNat_natCast]
  refine RE.xc en65 rfl rfl (qput_fn (tx:=wordA t fr to) h (by omega) (by have:=word_len t fr to; omega)) ?_
  rintro _ w2 ⟨rfl,v2,g2,i2⟩
  (refine RE.nilx ?_; (try dsimp only); refine end0 rfl ?_)
  exact ⟨rfl,_,g2,i2⟩
 rw [if_neg (show ¬ k = fr by omega)]
 repeat(first|refine C0 ?_|refine C1 ?_|refine X1 rfl rfl ?_|refine X7 rfl rfl rfl ?_)
 refine RE.splitD (fun h6 => ?_) (fun h6 => ?_)
 ·obtain ⟨b,hb⟩ : ∃ b,t[k - 1]? = some b:=⟨t[k - 1]'(by omega),List.getElem?_eq_getElem _⟩
  have hbi : t[((k : Int) - 1).toNat]? = some b:=by rw [show ((k : Int) - 1).toNat = k - 1 by omega]; exact hb
  have hbd : t.getD (k - 1) 0 = b:=by simp [List.getD,hb]
  rw [hbd]
  repeat(first|refine X1 rfl rfl ?_|refine X2 rfl rfl ?_|refine X3 rfl rfl rfl ?_|refine X22 rfl rfl hX rfl rfl ?_|refine X19 rfl rfl (by omega) (by omega) rfl ?_|refine RE.want rfl rfl ?_)
  refine RE.x (op_index_s (b:=b) rfl rfl Tryz.underlying9 (by omega) hbi) rfl ?_
  repeat(first|refine X0 rfl rfl ?_|refine X5 rfl rfl rfl ?_|refine X16 rfl rfl rfl rfl ?_|refine RE.want rfl rfl ?_|refine C2 ?_)
  refine CE.cond_d rfl (fun h7 => ?_) (fun h7 => ?_)
  ·rw [if_pos ⟨by omega,UInt8.toNat_inj.1 (by show b.toNat = 10; omega)⟩]
   repeat(first|refine C0 ?_|refine C1 ?_|refine X1 rfl rfl ?_|refine X2 rfl rfl ?_|refine X3 rfl rfl rfl ?_|refine X22 rfl rfl hX rfl rfl ?_)
   refine RE.x (op_str_lh rfl rfl rfl Tryz.underlying9 (by omega) (by omega) (by omega)) rfl ?_
   rw [show ((k : Int)).toNat - ((fr : Int)).toNat = k - fr by omega,Int.toNat_natCast]
   refine RE.xc en65 rfl rfl (qput_fn (tx:=wordA t fr k) h (by omega) (by have:=word_len t fr k; omega)) ?_
   rintro _ w2 ⟨rfl,v2,g2,i2⟩
   have hX2 : HX X w2 t p.pos p.dv v2.l v2.nm p.inl p.wrong p.opn p.loose:=g2.at_
   repeat(first|refine C1 ?_|refine X1 rfl rfl ?_|refine X2 rfl rfl ?_|refine X3 rfl rfl rfl ?_|refine X22 rfl rfl hX2 rfl rfl ?_|refine C2 ?_)
   refine RE.x (op_str_lh rfl rfl rfl Tryz.underlying9 (by omega) (by omega) (by omega)) rfl ?_
   rw [show ((to : Int)).toNat - ((k : Int)).toNat = to - k by omega,Int.toNat_natCast]
   refine RE.xc en65 rfl rfl (qput_fn (tx:=wordA t k to) g2 (by show (p.rs ++ [_]).length ≤ _; simp; omega) (by have:=word_len t k to; omega)) ?_
   rintro _ w3 ⟨rfl,v3,g3,i3⟩
   (refine RE.nilx ?_; (try dsimp only); refine end0 rfl ?_)
   exact ⟨rfl,_,g3,i2.trans i3⟩
  ·rw [if_neg (fun hc => h7 (by rw [hc.2]; rfl))]
   repeat(first|refine C1 ?_|refine X1 rfl rfl ?_|refine X2 rfl rfl ?_|refine X3 rfl rfl rfl ?_|refine X22 rfl rfl hX rfl rfl ?_)
   refine RE.x (op_str_lh rfl rfl rfl Tryz.underlying9 (by omega) (by omega) (by omega)) rfl ?_
   rw [show ((to : Int)).toNat - ((fr : Int)).toNat = to - fr by omega,Int.toNat_natCast]
   refine RE.xc en65 rfl rfl (qput_fn (tx:=wordA t fr to) h (by omega) (by have:=word_len t fr to; omega)) ?_
   rintro _ w2 ⟨rfl,v2,g2,i2⟩
   (refine RE.nilx ?_; (try dsimp only); refine end0 rfl ?_)
   exact ⟨rfl,_,g2,i2⟩
 ·rw [if_neg (fun hc => h6 (by omega))]
  repeat(first|refine X0 rfl rfl ?_|refine X17 rfl rfl rfl ?_|refine RE.nox rfl rfl rfl rfl ?_|refine C2 ?_)
  refine CE.cond_f rfl ?_
  repeat(first|refine C1 ?_|refine X1 rfl rfl ?_|refine X2 rfl rfl ?_|refine X3 rfl rfl rfl ?_|refine X22 rfl rfl hX rfl rfl ?_)
  refine RE.x (op_str_lh rfl rfl rfl Tryz.underlying9 (by omega) (by omega) (by omega)) rfl ?_
  rw [show ((to : Int)).toNat - ((fr : Int)).toNat = to - fr by omega,Int.toNat_natCast]
  refine RE.xc en65 rfl rfl (qput_fn (tx:=wordA t fr to) h (by omega) (by have:=word_len t fr to; omega)) ?_
  rintro _ w2 ⟨rfl,v2,g2,i2⟩
  (refine RE.nilx ?_; (try dsimp only); refine end0 rfl ?_)
  exact ⟨rfl,_,g2,i2⟩
end Go.Wk
