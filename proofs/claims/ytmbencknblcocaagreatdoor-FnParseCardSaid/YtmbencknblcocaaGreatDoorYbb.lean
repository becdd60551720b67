/- The specification's lexer: a comment. -/
import Derived.Test.YtmbencknblcocaaGreatDoorYba
namespace Go.Wk
open Go Go.RowKit Go.Proofs
set_option maxRecDepth 100000
theorem toS_go {x t : List UInt8} {p : Nat} (h : p < t.length) (hs : begS t p x = false) : toS x t p = toS x t (p + 1):=by
 rw [toS,dif_pos h,if_neg (by rw [hs]; simp)]
theorem toS_at {x t : List UInt8} {p : Nat} (h : p < t.length) (hs : begS t p x = true) : toS x t p = p:=by
 rw [toS,dif_pos h,if_pos hs]
theorem toS_end {x t : List UInt8} {p : Nat} (h : ¬ p < t.length) : toS x t p = p:=by
 rw [toS,dif_neg h]
theorem toS_le {x t : List UInt8} : ∀ (n p : Nat),t.length - p = n → p ≤ t.length → p ≤ toS x t p ∧ toS x t p ≤ t.length:=by
 intro n
 induction n using Nat.strongRecOn with
 | _ n ih =>
  intro p hn hp
  by_cases h : p < t.length
  ·cases hs : begS t p x with
   | true => rw [toS_at h hs]; exact ⟨Nat.le_refl _,hp⟩
   | false =>
    rw [toS_go h hs]
    have:=ih _ (by omega) (p + 1) rfl (by omega)
    omega
  ·rw [toS_end h]; exact ⟨Nat.le_refl _,hp⟩
theorem toS_beg {x t : List UInt8} : ∀ (n p : Nat),t.length - p = n → toS x t p < t.length → begS t (toS x t p) x = true:=by
 intro n
 induction n using Nat.strongRecOn with
 | _ n ih =>
  intro p hn hlt
  by_cases h : p < t.length
  ·cases hs : begS t p x with
   | true => rw [toS_at h hs]; exact hs
   | false =>
    rw [toS_go h hs] at hlt ⊢
    exact ih _ (by omega) (p + 1) rfl hlt
  ·rw [toS_end h] at hlt; exact absurd hlt h
theorem comEnd_len (t : List UInt8) (i : Nat) : (comEnd t i).length = 5:=by unfold comEnd; split <;> rfl
theorem put_len (p : QP) (k : Int) (f : Nat) (x : List UInt8) : (p.put k f x).rs.length = p.rs.length + 1:=by simp
theorem text_len (t : List UInt8) (p : QP) (fr to : Nat) (e : Bool) : (p.text t fr to e).rs.length ≤ p.rs.length + 2:=by
 unfold QP.text
 repeat' split
 all_goals first | omega | (simp only [List.length_append,List.length_cons,List.length_nil]; omega)
theorem text_same (t : List UInt8) (p : QP) (fr to : Nat) (e : Bool) : ∃ rs,p.text t fr to e = { p with rs:=rs }:=by
 unfold QP.text
 repeat' split
 all_goals exact ⟨_,rfl⟩
set_option maxHeartbeats 4000000 in
theorem comment_qfn {X B : Nat} {t : List UInt8} {v : QV} {p : QP} {w : World} (h : QS X B t v p w) (ht : t.length ≤ 100000) (hn : p.rs.length ≤ 800000) (hp : p.pos + 5 ≤ t.length) :
  QF X B t v w 66 [] (.tuple #[]) (p.comment t):=by
 refine fn_of Tryz.func66 rfl Tryz.ntmps66 rfl ?_
 have hX : HX X w.drew t p.pos p.dv v.l v.nm p.inl p.wrong p.opn p.loose:=h.at_
 obtain ⟨b,hb⟩ : ∃ b,t[p.pos + 2]? = some b:=⟨t[p.pos + 2]'(by omega),List.getElem?_eq_getElem _⟩
 have hbi : t[((p.pos : Int) + 2).toNat]? = some b:=by rw [show ((p.pos : Int) + 2).toNat = p.pos + 2 by omega]; exact hb
 have hce : comEnd t p.pos = if b.toNat = 37 then [42,47,37,125,125] else [42,47,62,125,125]:=by unfold comEnd; rw [chr_of hb]
 repeat(first|refine C0 ?_|refine C1 ?_|refine X0 rfl rfl ?_|refine C2 ?_)
 repeat refine C0 ?_
 refine CE.draw [0,0,0,0,0,0,0,0,0,0,0] mixed (by decide +kernel) ?_
 repeat(first|refine Y1 rfl rfl ?_|refine Y2 rfl rfl ?_|refine Y3 rfl rfl rfl ?_|refine Y22 rfl rfl hX rfl rfl ?_|refine Y18 rfl rfl (by omega) (by omega) rfl ?_)
 refine RE.d1 (op_index_s (b:=b) rfl rfl Tryz.underlying9 (by omega) hbi) rfl ?_
 repeat(first|refine Y5 rfl rfl rfl ?_|refine C2 ?_)
 refine CE.cut (fun s ds w' => ds = [] ∧ w' = w.drew ∧ SubL [(2,S (comEnd t p.pos)),(0,Ptr X 0)] s) ?_ ?_
 ·refine CE.cond_d rfl (fun h1 => ?_) (fun h1 => ?_)
  ·rw [hce,if_pos (show b.toNat = 37 by omega)]
   repeat(first|refine C1 ?_|refine X0 rfl rfl ?_)
   refine RE.nilx ?_
   exact ⟨rfl,rfl,(by repeat first | trivial|refine ⟨rfl,?_⟩)⟩
  ·rw [hce,if_neg (show ¬ b.toNat = 37 by omega)]
   exact CE.skip ⟨rfl,rfl,(by repeat first | trivial|refine ⟨rfl,?_⟩)⟩
 rintro s _ w1 ⟨rfl,hw,hs⟩
 subst hw
 refine CE.sub hs ?_
 have e0 : Ext w w.drew:=Ext.drew w
 have g0:=h.ext e0
 generalize w.drew = w1 at hX e0 g0
 have hel:=comEnd_len t p.pos
 unfold QP.comment
 have hkl:=toS_le (x:=comEnd t p.pos) (t:=t) _ (p.pos + 5) rfl hp
 have hkb:=toS_beg (x:=comEnd t p.pos) (t:=t) _ (p.pos + 5) rfl
 unfold QP.commentK
 generalize comEnd t p.pos = e at hel hkl hkb
 repeat(first|refine C0 ?_|refine C1 ?_|refine X1 rfl rfl ?_|refine X0 rfl rfl ?_|refine X2 rfl rfl ?_|refine X3 rfl rfl rfl ?_|refine X22 rfl rfl hX rfl rfl ?_|refine X18 rfl rfl (by omega) (by omega) rfl ?_|refine C2 ?_)
 refine CE.cut (fun s ds w' => ds = [] ∧ w' = w1 ∧ SubL [(3,I (toS e t (p.pos + 5))),(2,S e),(0,Ptr X 0)] s) ?_ ?_
 ·refine CE.block ?_
  refine CE.loop (α:=Nat) (fun k => [(3,I k),(2,S e),(0,Ptr X 0)]) (fun k w' => w' = w1 ∧ k ≤ t.length ∧ toS e t (p.pos + 5) = toS e t k) (fun k => t.length - k) (p.pos + 5) (by repeat first | trivial|refine ⟨rfl,?_⟩) ⟨rfl,hp,rfl⟩ ?_
  rintro k w2 ⟨hw,hk,hrun⟩
  subst hw
  repeat(first|refine C0 ?_|refine C1 ?_|refine X1 rfl rfl ?_|refine X2 rfl rfl ?_|refine X3 rfl rfl rfl ?_|refine X22 rfl rfl hX rfl rfl ?_|refine X7 rfl rfl rfl ?_|refine X14 rfl Tryz.underlying9 rfl ?_)
  refine RE.splitD (fun h1 => ?_) (fun h1 => ?_)
  ·have hk' : k < t.length:=by omega
   repeat(first|refine X1 rfl rfl ?_|refine X2 rfl rfl ?_|refine X3 rfl rfl rfl ?_|refine X22 rfl rfl hX rfl rfl ?_|refine RE.want rfl rfl ?_)
   refine RE.xc en34 rfl rfl (pageHas_fn (i:=k) (x:=e) (by omega) (by omega) (by omega)) ?_
   rintro _ w3 ⟨rfl,hw⟩
   subst hw
   repeat(first|refine X11 rfl rfl ?_|refine X16 rfl rfl rfl rfl ?_|refine RE.want rfl rfl ?_|refine C2 ?_)
   refine CE.cond_s rfl (fun h2 => ?_) (fun h2 => ?_)
   ·refine C3 ?_
    refine CE.block ?_
    repeat(first|refine C1 ?_|refine X1 rfl rfl ?_|refine X0 rfl rfl ?_|refine X18 rfl rfl (by omega) (by omega) rfl ?_)
    refine RE.nilx ?_
    exact ⟨k + 1,by show t.length - (k + 1) < t.length - k; omega,rfl,(by repeat first | trivial|refine ⟨rfl,?_⟩),rfl,hk',hrun.trans (toS_go hk' (by simpa using h2))⟩
   ·refine CE.exit ?_
    rw [hrun,toS_at hk' (by simpa using h2)]
    exact ⟨rfl,rfl,(by repeat first | trivial|refine ⟨rfl,?_⟩)⟩
  ·repeat(first|refine X17 rfl rfl rfl ?_|refine RE.nox rfl rfl rfl rfl ?_|refine C2 ?_)
   refine CE.cond_f rfl ?_
   refine CE.exit ?_
   rw [hrun,toS_end (by omega)]
   exact ⟨rfl,rfl,(by repeat first | trivial|refine ⟨rfl,?_⟩)⟩
 rintro s _ w2 ⟨rfl,hw,hs⟩
 subst hw
 refine CE.sub hs ?_
 generalize toS e t (p.pos + 5) = k at hkl hkb
 have hXd : w2.drew.heap[X]? = _:=hX
 repeat refine C0 ?_
 refine CE.drawR Ext [0,0,0,0,0,0,0,0,0,0,0,0,0,0,0,0,0,0] mixed Ext.refl (fun _ _ _ => Ext.trans) (by decide +kernel) ?_
 repeat(first|refine Z1 rfl rfl ?_|refine Z2 rfl rfl ?_|refine Z3 rfl rfl rfl ?_|refine Z22 rfl rfl hXd rfl rfl ?_|refine Z18 rfl rfl (by omega) (by omega) rfl ?_)
 refine RE.dc en34 rfl rfl (fun w3 _ => Fn.mono (pageHas_fn (i:=p.pos + 4) (x:=e) (by omega) (by omega) (by omega)) (by rintro _ w4 ⟨rfl,rfl⟩; exact ⟨rfl,Ext.refl _⟩)) ?_
 repeat (refine Z1 rfl rfl ?_)
 refine RE.cut (fun s ds w' => ds = [] ∧ Ext w2.drew w' ∧ SubL [(56,.bool (begS t (p.pos + 4) e || decide (p.inl ≠ []))),(3,I k),(2,S e),(0,Ptr X 0)] s) ?_ ?_
 ·refine RE.splitH (fun h1 => ?_) (fun h1 => ?_)
  ·rw [h1]
   repeat(first|refine Z16 rfl rfl rfl rfl ?_|refine RE.no0 rfl rfl rfl rfl ?_)
   refine RE.nil (fun w3 hw3 => ?_)
   exact ⟨rfl,hw3,(by repeat first | trivial|refine ⟨rfl,?_⟩)⟩
  ·rw [h1]
   repeat(first|refine Z1 rfl rfl ?_|refine Z2 rfl rfl ?_|refine Z3 rfl rfl rfl ?_|refine Z22 rfl rfl hXd rfl rfl ?_|refine Z17 rfl rfl rfl ?_|refine Z21 rfl rfl rfl ?_|refine RE.want rfl rfl ?_)
   refine RE.nil (fun w3 hw3 => ?_)
   exact ⟨rfl,hw3,(by repeat first | trivial|refine ⟨rfl,?_⟩)⟩
 rintro s _ w3 ⟨rfl,e3,hs⟩
 refine CE.sub hs ?_
 have e3':=(e0.trans (Ext.drew _)).trans e3
 have g3:=h.ext e3'
 have hX3 : HX X w3 t p.pos p.dv v.l v.nm p.inl p.wrong p.opn p.loose:=g3.at_
 refine CE.cond_s rfl (fun h1 => ?_) (fun h1 => ?_)
 ·rw [if_pos (by simpa using h1)]
  repeat(first|refine C0 ?_|refine C1 ?_|refine X1 rfl rfl ?_|refine X2 rfl rfl ?_|refine X3 rfl rfl rfl ?_)
  refine RE.xs (e_store rfl rfl rfl hX3 rfl rfl) ?_
  rintro _ w4 hu4
  obtain ⟨g4,i4⟩:=QS.upd (p':=p.opened) g3 hu4 rfl rfl
  repeat (refine C2 ?_)
  (refine CE.ret ?_; (try dsimp only); refine ret0 rfl ?_)
  exact ⟨rfl,_,g4,i4.ext_l e3'⟩
 rw [if_neg (by simpa using h1)]
 refine C3 ?_
 repeat(first|refine C0 ?_|refine C1 ?_|refine X1 rfl rfl ?_|refine X2 rfl rfl ?_|refine X3 rfl rfl rfl ?_|refine X22 rfl rfl hX3 rfl rfl ?_|refine X10 rfl rfl rfl ?_|refine X14 rfl Tryz.underlying9 rfl ?_|refine C2 ?_)
 refine CE.cond_d rfl (fun h2 => ?_) (fun h2 => ?_)
 ·rw [if_pos (by omega)]
  repeat(first|refine C0 ?_|refine C1 ?_|refine X1 rfl rfl ?_|refine X2 rfl rfl ?_|refine X3 rfl rfl rfl ?_)
  refine RE.xs (e_store rfl rfl rfl hX3 rfl rfl) ?_
  rintro _ w4 hu4
  obtain ⟨g4,i4⟩:=QS.upd (p':={ p with loose:=true }) g3 hu4 rfl rfl
  repeat(first|refine C0 ?_|refine C1 ?_|refine X1 rfl rfl ?_|refine C2 ?_)
  refine RE.xc en84 rfl rfl (qfail_fn g4 (by show p.rs.length ≤ _; omega)) ?_
  rintro _ w5 ⟨rfl,v5,g5,i5⟩
  repeat (refine C2 ?_)
  (refine CE.ret ?_; (try dsimp only); refine ret0 rfl ?_)
  exact ⟨rfl,_,g5,(i4.trans i5).ext_l e3'⟩
 have hkl' : k < t.length:=by omega
 have hk5:=(begS_at (hkb hkl')).1
 rw [if_neg (by omega)]
 refine C3 ?_
 have hX3d : w3.drew.heap[X]? = _:=hX3
 repeat refine C0 ?_
 refine CE.drawR Ext [0,0,0,0,0,0,0,0,0,0,0,0,0,0,0,0,0,0,0,2] mixed Ext.refl (fun _ _ _ => Ext.trans) (by decide +kernel) ?_
 repeat(first|refine Z1 rfl rfl ?_|refine Z2 rfl rfl ?_|refine Z3 rfl rfl rfl ?_|refine Z22 rfl rfl hX3d rfl rfl ?_|refine Z18 rfl rfl (by omega) (by omega) rfl ?_)
 refine RE.dd (fun _ _ => op_str_lh rfl rfl rfl Tryz.underlying9 (by omega) (by omega) (by omega)) rfl Ext.refl ?_
 rw [show ((p.pos : Int) + 3).toNat - ((p.pos : Int)).toNat = p.pos + 3 - p.pos by omega,Int.toNat_natCast]
 refine RE.ec en65 rfl rfl (fun w4 hw4 => qput_fn (tx:=wordA t p.pos (p.pos + 3)) (g3.ext ((Ext.drew _).trans hw4)) (by omega) (by have:=word_len t p.pos (p.pos + 3); omega)) ?_
 rintro w4 hw4 _ w5 ⟨rfl,v5,g5,i5⟩
 refine C4 (fun w6 hw6 => ?_)
 have g6:=g5.ext hw6
 have i6:=(i5.ext_l (e3'.trans ((Ext.drew _).trans hw4))).ext_r hw6
 generalize hq1 : p.put 18 p.pos (wordA t p.pos (p.pos + 3)) = q1 at g6
 have hq1p : q1.pos = p.pos:=by rw [← hq1]
 have hq1l : q1.rs.length = p.rs.length + 1:=by rw [← hq1]; exact put_len ..
 have hX6 : HX X w6 t p.pos q1.dv v5.l v5.nm q1.inl q1.wrong q1.opn q1.loose:=by rw [← hq1p]; exact g6.at_
 repeat(first|refine C0 ?_|refine C1 ?_|refine X1 rfl rfl ?_|refine X2 rfl rfl ?_|refine X3 rfl rfl rfl ?_|refine X22 rfl rfl hX6 rfl rfl ?_|refine X18 rfl rfl (by omega) (by omega) rfl ?_)
 refine RE.xc en64 rfl rfl (text_qfn (fr:=p.pos + 5) (to:=k) (empty:=true) g6 ht (by omega) (by omega) (by omega)) ?_
 rintro _ w7 ⟨rfl,v7,g7,i7⟩
 obtain ⟨rs2,hq2⟩:=text_same t q1 (p.pos + 5) k true
 have hq2l:=text_len t q1 (p.pos + 5) k true
 generalize q1.text t (p.pos + 5) k true = q2 at g7 hq2 hq2l
 have hq2p : q2.pos = p.pos:=by rw [hq2]; exact hq1p
 have hX7 : HX X w7 t p.pos q2.dv v7.l v7.nm q2.inl q2.wrong q2.opn q2.loose:=by rw [← hq2p]; exact g7.at_
 repeat(first|refine C0 ?_|refine C1 ?_|refine X1 rfl rfl ?_|refine X2 rfl rfl ?_|refine X3 rfl rfl rfl ?_|refine X22 rfl rfl hX7 rfl rfl ?_|refine X18 rfl rfl (by omega) (by omega) rfl ?_|refine C2 ?_)
 refine RE.x (op_str_lh rfl rfl rfl Tryz.underlying9 (by omega) (by omega) (by omega)) rfl ?_
 rw [show ((k : Int) + 5).toNat - ((k : Int) + 2).toNat = k + 5 - (k + 2) by omega,show ((k : Int) + 2).toNat = k + 2 by omega]
 refine RE.xc en65 rfl rfl (qput_fn (fr:=k + 2) (tx:=wordA t (k + 2) (k + 5)) g7 (by omega) (by have:=word_len t (k + 2) (k + 5); omega)) ?_
 rintro _ w8 ⟨rfl,v8,g8,i8⟩
 have hX8 : HX X w8 t p.pos q2.dv v8.l v8.nm q2.inl q2.wrong q2.opn q2.loose:=by rw [← hq2p]; exact g8.at_
 repeat(first|refine C1 ?_|refine X1 rfl rfl ?_|refine X2 rfl rfl ?_|refine X3 rfl rfl rfl ?_|refine X18 rfl rfl (by omega) (by omega) rfl ?_|refine C2 ?_)
 refine RE.xs (e_store rfl rfl rfl hX8 rfl rfl) ?_
 rintro _ w9 hu9
 obtain ⟨g9,i9⟩:=QS.upd (p':={ q2.put 18 (k + 2) (wordA t (k + 2) (k + 5)) with pos:=k + 5 }) g8 hu9 rfl rfl
 (refine RE.nilx ?_; (try dsimp only); refine end0 rfl ?_)
 exact ⟨rfl,_,g9,((i6.trans i7).trans i8).trans i9⟩
def QP.over (p : QP) : Prop:=p.wrong = true ∨ p.opn = true
structure Fwd1 (t : List UInt8) (p p' : QP) : Prop where
 lt : p.pos < p'.pos
 le : p'.pos ≤ t.length
 rs : p'.rs.length + 8 * p.pos ≤ p.rs.length + 8 * p'.pos
 nm : p'.nms.length + p.pos ≤ p.nms.length + p'.pos
def Gw (t : List UInt8) (p p' : QP) : Prop:=p'.over ∨ Fwd1 t p p'
theorem fail_over (p : QP) : p.fail.over:=by
 unfold QP.fail QP.over
 split
 ·exact Or.inl rfl
 ·rename_i h
  cases h1 : p.wrong with
  | true => exact Or.inl rfl
  | false =>
   cases h2 : p.opn with
   | true => exact Or.inr rfl
   | false => exact absurd ⟨h1,h2⟩ h
theorem opened_over (p : QP) : p.opened.over:=Or.inr rfl
theorem loosed_over (p : QP) : p.loosed.over:=fail_over _
theorem Gw.trans {t : List UInt8} {p p' p'' : QP} (h : Fwd1 t p p') (k : Gw t p' p'') : Gw t p p'':=by
 rcases k with k | k
 ·exact Or.inl k
 ·have:=h.lt; have:=h.rs; have:=h.nm; have:=k.lt; have:=k.le; have:=k.rs; have:=k.nm
  exact Or.inr ⟨by omega,by omega,by omega,by omega⟩
theorem gw_fail (t : List UInt8) (p q : QP) : Gw t p q.fail:=Or.inl (fail_over q)
theorem gw_open (t : List UInt8) (p q : QP) : Gw t p q.opened:=Or.inl (opened_over q)
theorem gw_loose (t : List UInt8) (p q : QP) : Gw t p q.loosed:=Or.inl (loosed_over q)
theorem gw_fin {t right : List UInt8} {p q : QP} (h3 : right.length = 3) (hb : begS t q.pos right = true) (h1 : p.pos ≤ q.pos) (h2 : q.rs.length + 8 * p.pos ≤ p.rs.length + 8 * q.pos + 8) (h4 : q.nms.length + p.pos ≤ p.nms.length + q.pos) : Gw t p (q.fin right):=by
 have hl:=(begS_at hb).1
 rw [h3] at hl
 have e1 : (q.fin right).pos = q.pos + 3:=rfl
 have e2 : (q.fin right).rs.length = q.rs.length + 1:=by show (q.put _ _ _).rs.length = _; rw [put_len]
 have e3 : (q.fin right).nms = q.nms:=rfl
 exact Or.inr ⟨by omega,by omega,by omega,by rw [e3,e1]; omega⟩
theorem quGo_spec {t : List UInt8} {q fr : Nat} : ∀ (n i : Nat) (tx : List UInt8) (j : Nat) (tx' : List UInt8),t.length - i = n → quGo t q fr i tx = some (some (j,tx')) → i ≤ j ∧ j < t.length:=by
 intro n
 induction n using Nat.strongRecOn with
 | _ n ih =>
  intro i tx j tx' hn h
  rw [quGo] at h
  by_cases hi : i < t.length
  ·rw [dif_pos hi] at h
   by_cases h1 : t[i].toNat = 92 ∧ (q = 96 ∨ i = fr ∨ begS t (i + 1) [34] = false)
   ·rw [if_pos h1] at h; cases h
   rw [if_neg h1] at h
   by_cases h2 : t[i].toNat = 92
   ·rw [if_pos h2] at h
    have:=ih _ (by omega) (i + 2) _ _ _ rfl h
    omega
   rw [if_neg h2] at h
   by_cases h3 : t[i].toNat = q
   ·rw [if_pos h3] at h
    injection h with h; injection h with h; injection h with ha hb
    omega
   rw [if_neg h3] at h
   by_cases h4 : t[i].toNat = 10 ∧ q = 34
   ·rw [if_pos h4] at h; cases h
   rw [if_neg h4] at h
   have:=ih _ (by omega) (i + 1) _ _ _ rfl h
   omega
  ·rw [dif_neg hi] at h; cases h
theorem gw_quoted {t : List UInt8} {p : QP} {kind : Int} : Gw t p (p.quoted t kind):=by
 unfold QP.quoted
 split
 ·exact gw_fail t p p
 ·exact gw_open t p p
 ·rename_i i tx h
  obtain ⟨h1,h2⟩:=quGo_spec _ _ _ _ _ rfl h
  have e2 : (p.put kind (p.pos + 1) tx).rs.length = p.rs.length + 1:=put_len ..
  refine Or.inr ⟨by show p.pos < i + 1; omega,by show i + 1 ≤ _; omega,by show (p.put kind (p.pos + 1) tx).rs.length + _ ≤ _ + 8 * (i + 1); omega,by show p.nms.length + _ ≤ _ + (i + 1); omega⟩
theorem gw_value {t : List UInt8} {p : QP} (hp : p.pos ≤ t.length) : Gw t p (p.value t):=by
 unfold QP.value
 split
 ·exact gw_quoted
 ·unfold QP.valueK
  have hk:=runTo_le (stop:=stopV) (t:=t) _ p.pos rfl hp
  generalize runTo stopV t p.pos = k at hk
  split
  ·exact gw_open t p p
  ·rename_i h
   have h1 : ¬ k = p.pos:=fun e => h (Or.inr (Or.inl e))
   have e2 : (p.put 16 p.pos (wordA t p.pos k)).rs.length = p.rs.length + 1:=put_len ..
   refine Or.inr ⟨by show p.pos < k; omega,by show k ≤ _; omega,by show (p.put 16 p.pos (wordA t p.pos k)).rs.length + _ ≤ _ + 8 * k; omega,by show p.nms.length + _ ≤ _ + k; omega⟩
theorem gw_parameter {t : List UInt8} {p : QP} {nm po : Bool} (hp : p.pos ≤ t.length) : Gw t p (p.parameter t nm po).2.2:=by
 unfold QP.parameter QP.parameterK
 have hk:=runTo_le (stop:=notPar) (t:=t) _ p.pos rfl hp
 generalize runTo notPar t p.pos = k at hk
 split
 ·exact gw_open t p p
 rename_i h1
 have hk1 : p.pos < k ∧ k < t.length:=⟨by have : ¬ k = p.pos:=fun e => h1 (Or.inl e); omega,by have : ¬ k = t.length:=fun e => h1 (Or.inr (Or.inl e)); omega⟩
 have e2 : (p.put 15 p.pos (wordA t p.pos k)).rs.length = p.rs.length + 1:=put_len ..
 split
 ·split
  ·exact gw_fail t p p
  ·have hr:=runTo_le (stop:=notW) (t:=t) _ (k + 1) rfl (by omega)
   refine Gw.trans (p':={ p.put 15 p.pos (wordA t p.pos k) with pos:=runTo notW t (k + 1) }) ⟨by show p.pos < runTo notW t (k + 1); omega,by show runTo notW t (k + 1) ≤ _; omega,by show (p.put 15 p.pos (wordA t p.pos k)).rs.length + _ ≤ _ + 8 * runTo notW t (k + 1); omega,by show p.nms.length + _ ≤ _ + runTo notW t (k + 1); omega⟩ (gw_value (by show runTo notW t (k + 1) ≤ _; omega))
 split
 ·exact gw_open t p p
 split
 ·exact gw_open t p p
 split
 ·exact gw_fail t p p
 ·refine Or.inr ⟨by show p.pos < k; omega,by show k ≤ _; omega,by show (p.put 15 p.pos (wordA t p.pos k)).rs.length + _ ≤ _ + 8 * k; omega,by show p.nms.length + _ ≤ _ + k; omega⟩
theorem parN_over {t right : List UInt8} {inl : Bool} {n : Nat} {nm po ap : Bool} {p : QP} (h : p.over) : parN t right inl n nm po ap p = p:=by
 cases n with
 | zero => rfl
 | succ n => rw [parN,if_pos (show p.wrong = true ∨ p.opn = true from h)]
theorem Gw.skip {t : List UInt8} {p p' : QP} {a : Nat} (h1 : p.pos ≤ a) (h : Gw t { p with pos:=a } p') : Gw t p p':=by
 rcases h with h | h
 ·exact Or.inl h
 ·have:=h.lt; have:=h.le; have:=h.rs; have:=h.nm
  refine Or.inr ⟨?_,h.le,?_,?_⟩
  ·have : a < p'.pos:=h.lt
   omega
  ·have h2 : p'.rs.length + 8 * a ≤ p.rs.length + 8 * p'.pos:=h.rs
   omega
  ·have h2 : p'.nms.length + a ≤ p.nms.length + p'.pos:=h.nm
   omega
theorem gw_par {t right : List UInt8} {inl : Bool} (h3 : right.length = 3) : ∀ (n : Nat) (nm po ap : Bool) (p : QP),p.pos ≤ t.length → t.length + 1 ≤ n + p.pos → Gw t p (parN t right inl n nm po ap p):=by
 intro n
 induction n with
 | zero => intro nm po ap p hp hn; omega
 | succ n ih =>
  intro nm po ap p hp hn
  have hr:=runTo_le (stop:=notW) (t:=t) _ p.pos rfl hp
  rw [parN]
  generalize runTo notW t p.pos = a at hr
  split
  ·rename_i h; exact Or.inl h
  split
  ·exact gw_fail t p _
  split
  ·rename_i hb
   exact gw_fin h3 hb hr.1 (by show p.rs.length + _ ≤ _ + 8 * a + 8; omega) (by show p.nms.length + _ ≤ _ + a; omega)
  split
  ·exact gw_fail t p _
  split
  ·exact Or.inl (Or.inr rfl)
  split
  ·rename_i h47
   have hl:=(begS_at h47).1
   simp only [List.length_cons,List.length_nil] at hl
   split
   ·exact Or.inl (Or.inr rfl)
   ·rename_i hb
    have hr2:=runTo_le (stop:=notW) (t:=t) _ (a + 1) rfl (by omega)
    have e2 : (p.put 12 a [47]).rs.length = p.rs.length + 1:=put_len ..
    exact gw_fin (q:={ p.put 12 a [47] with pos:=runTo notW t (a + 1) }) h3 (by simpa using hb) (by show p.pos ≤ runTo notW t (a + 1); omega) (by show (p.put 12 a [47]).rs.length + _ ≤ _ + 8 * runTo notW t (a + 1) + 8; omega) (by show p.nms.length + _ ≤ _ + runTo notW t (a + 1); omega)
  have step : ∀ (q : QP) (x y z : Bool),Gw t p q → Gw t p (parN t right inl n x y z q):=by
   intro q x y z hq
   rcases hq with hq | hq
   ·rw [parN_over hq]; exact Or.inl hq
   ·have:=hq.lt
    exact Gw.trans hq (ih x y z q hq.le (by omega))
  split
  ·split
   ·exact gw_loose t p _
   ·exact step _ _ _ _ (Gw.skip hr.1 gw_quoted)
  ·exact step _ _ _ _ (Gw.skip hr.1 (gw_parameter (by show a ≤ _; omega)))
theorem gw_closing {t right : List UInt8} {p : QP} (h3 : right.length = 3) (hp : p.pos < t.length) : Gw t p (p.closing t right):=by
 have hr:=runTo_le (stop:=notW) (t:=t) _ (p.pos + 1) rfl (by omega)
 have key : ∀ (a k : Nat) (kind : Int),p.pos + 1 ≤ a → a ≤ k → Gw t p (p.closingN t right p.pos a k kind):=by
  intro a k kind ha hk
  unfold QP.closingN
  split
  ·exact Or.inl (Or.inr rfl)
  rename_i h1
  have hkl : k < t.length:=by
   rcases Nat.lt_or_ge k t.length with h | h
   ·exact h
   ·exfalso
    apply h1
    unfold clBad
    rw [decide_eq_true h,Bool.true_or,Bool.true_or,Bool.true_or]
  have hr2:=runTo_le (stop:=notW) (t:=t) _ k rfl (by omega)
  split
  ·exact Or.inl (Or.inr rfl)
  split
  ·exact gw_loose t p _
  have e2 : ((p.put 12 p.pos [47]).put kind a (wordA t a k)).rs.length = p.rs.length + 2:=by rw [put_len,put_len]
  split
  ·exact gw_loose t p _
  ·rename_i hb
   exact gw_fin (q:={ (p.put 12 p.pos [47]).put kind a (wordA t a k) with pos:=runTo notW t k,inl:=[] }) h3 (by simpa using hb) (by show p.pos ≤ runTo notW t k; omega) (by show ((p.put 12 p.pos [47]).put kind a (wordA t a k)).rs.length + _ ≤ _ + 8 * runTo notW t k + 8; omega) (by show p.nms.length + _ ≤ _ + runTo notW t k; omega)
 unfold QP.closing QP.closingA
 generalize runTo notW t (p.pos + 1) = a at hr
 split
 ·exact Or.inl (Or.inr rfl)
 have hr2:=runTo_le (stop:=notWd) (t:=t) _ a rfl hr.2
 split
 ·exact key _ _ _ (by omega) (by omega)
 ·exact key _ _ _ (by omega) (by omega)
theorem gw_name {t : List UInt8} {p : QP} (hp : p.pos < t.length) (hw : wordB (t.getD p.pos 0) = true) : Gw t p (p.name t).2:=by
 unfold QP.name
 have hw0 : notWd t[p.pos] = false:=by
  have : t.getD p.pos 0 = t[p.pos]:=getD_of (List.getElem?_eq_getElem hp)
  rw [this] at hw
  unfold notWd; rw [hw]; rfl
 rw [runTo_go hp hw0]
 have hk:=runTo_le (stop:=notWd) (t:=t) _ (p.pos + 1) rfl hp
 generalize runTo notWd t (p.pos + 1) = k at hk
 unfold QP.nameK
 split
 ·exact gw_open t p p
 split
 ·rename_i h
  have e2 : (p.put 14 p.pos (wordA t p.pos (k + 7))).rs.length = p.rs.length + 1:=put_len ..
  refine Or.inr ⟨by show p.pos < k + 7; omega,by show k + 7 ≤ _; omega,by show (p.put 14 p.pos (wordA t p.pos (k + 7))).rs.length + _ ≤ _ + 8 * (k + 7); omega,by show (p.nms ++ [_]).length + _ ≤ _ + (k + 7); simp; omega⟩
 split
 ·exact gw_fail t p p
 split
 ·exact gw_loose t p p
 split
 ·exact gw_open t p p
 ·have e2 : (p.put 13 p.pos (wordA t p.pos k)).rs.length = p.rs.length + 1:=put_len ..
  refine Or.inr ⟨by show p.pos < k; omega,by show k ≤ _; omega,by show (p.put 13 p.pos (wordA t p.pos k)).rs.length + _ ≤ _ + 8 * k; omega,by show (p.nms ++ [_]).length + _ ≤ _ + k; simp; omega⟩
theorem name_fwd {t : List UInt8} {p : QP} (hp : p.pos < t.length) (hw : wordB (t.getD p.pos 0) = true) (h : (p.name t).1 = true) : Fwd1 t p (p.name t).2:=by
 unfold QP.name at h ⊢
 have hw0 : notWd t[p.pos] = false:=by
  have : t.getD p.pos 0 = t[p.pos]:=getD_of (List.getElem?_eq_getElem hp)
  rw [this] at hw
  unfold notWd; rw [hw]; rfl
 rw [runTo_go hp hw0] at h ⊢
 have hk:=runTo_le (stop:=notWd) (t:=t) _ (p.pos + 1) rfl hp
 generalize runTo notWd t (p.pos + 1) = k at hk h
 unfold QP.nameK at h ⊢
 by_cases h1 : k < t.length ∧ 128 ≤ chr t k
 ·rw [if_pos h1] at h; cases h
 rw [if_neg h1] at h ⊢
 by_cases h2 : begS t k inlSp = true ∧ k + 7 < t.length
 ·rw [if_pos h2]
  have e2 : (p.put 14 p.pos (wordA t p.pos (k + 7))).rs.length = p.rs.length + 1:=put_len ..
  exact ⟨by show p.pos < k + 7; omega,by show k + 7 ≤ _; omega,by show (p.put 14 p.pos (wordA t p.pos (k + 7))).rs.length + _ ≤ _ + 8 * (k + 7); omega,by show (p.nms ++ [_]).length + _ ≤ _ + (k + 7); simp; omega⟩
 rw [if_neg h2] at h ⊢
 by_cases h3 : begS t k [46] = true
 ·rw [if_pos h3] at h; cases h
 rw [if_neg h3] at h ⊢
 by_cases h4 : k = t.length
 ·rw [if_pos h4] at h; cases h
 rw [if_neg h4] at h ⊢
 by_cases h5 : whiteB (t.getD k 0) = false ∧ begS t k gt3 = false ∧ begS t k pct3 = false
 ·rw [if_pos h5] at h; cases h
 rw [if_neg h5]
 have e2 : (p.put 13 p.pos (wordA t p.pos k)).rs.length = p.rs.length + 1:=put_len ..
 exact ⟨by show p.pos < k; omega,by show k ≤ _; omega,by show (p.put 13 p.pos (wordA t p.pos k)).rs.length + _ ≤ _ + 8 * k; omega,by show (p.nms ++ [_]).length + _ ≤ _ + k; simp; omega⟩
theorem name_false {t : List UInt8} {p : QP} (h : (p.name t).1 = false) : (p.name t).2.over:=by
 unfold QP.name QP.nameK at h ⊢
 generalize runTo notWd t p.pos = k at h
 revert h
 repeat' split
 all_goals first | (intro _; exact opened_over p) | (intro _; exact fail_over p) | (intro _; exact loosed_over p) | (intro h; cases h)
theorem gw_shortA {t right : List UInt8} {p : QP} (h3 : right.length = 3) (hp : p.pos ≤ t.length) : Gw t p (p.shortA t right):=by
 unfold QP.shortA
 split
 ·exact gw_fail t p p
 rename_i h0
 split
 ·exact gw_closing h3 (by omega)
 split
 ·rename_i hb
  split
  ·exact Or.inl (Or.inr rfl)
  ·exact gw_fin h3 hb (Nat.le_refl _) (by omega) (by omega)
 split
 ·exact gw_fail t p _
 rename_i hw
 split
 ·exact gw_open t p p
 split
 ·have hg:=gw_name (t:=t) (p:=p) (by omega) (by cases hx : wordB (t.getD p.pos 0) with | true => rfl | false => exact absurd (Or.inl hx) hw)
  rcases hg with hg | hg
  ·unfold QP.parameters
   rw [parN_over hg]
   exact Or.inl hg
  ·have:=hg.le; have:=hg.lt
   exact Gw.trans hg (gw_par h3 _ _ _ _ _ hg.le (by omega))
 ·rename_i hn
  exact Or.inl (name_false (by simpa using hn))
theorem right_len (t : List UInt8) (i : Nat) : (rightOf t i).length = 3:=by unfold rightOf; split <;> rfl
theorem gw_shortcode {t : List UInt8} {p : QP} (hp : p.pos + 3 ≤ t.length) : Gw t p (p.shortcode t):=by
 unfold QP.shortcode
 have hr:=runTo_le (stop:=notW) (t:=t) _ (p.pos + 3) rfl hp
 generalize (if chr t (p.pos + 2) = 37 then 10 else 8 : Int) = kind
 have e2 : (p.put kind p.pos (wordA t p.pos (p.pos + 3))).rs.length = p.rs.length + 1:=put_len ..
 refine Gw.trans (p':={ p.put kind p.pos (wordA t p.pos (p.pos + 3)) with pos:=runTo notW t (p.pos + 3) }) ⟨by show p.pos < runTo notW t (p.pos + 3); omega,hr.2,by show (p.put kind p.pos (wordA t p.pos (p.pos + 3))).rs.length + _ ≤ _ + 8 * runTo notW t (p.pos + 3); omega,by show p.nms.length + _ ≤ _ + runTo notW t (p.pos + 3); omega⟩ (gw_shortA (right_len t p.pos) hr.2)
theorem gw_comment {t : List UInt8} {p : QP} (hp : p.pos + 5 ≤ t.length) : Gw t p (p.comment t):=by
 unfold QP.comment QP.commentK
 have hkl:=toS_le (x:=comEnd t p.pos) (t:=t) _ (p.pos + 5) rfl hp
 have hkb:=toS_beg (x:=comEnd t p.pos) (t:=t) _ (p.pos + 5) rfl
 have hel:=comEnd_len t p.pos
 generalize comEnd t p.pos = e at hkl hkb hel
 generalize toS e t (p.pos + 5) = k at hkl hkb
 split
 ·exact gw_open t p p
 split
 ·exact gw_loose t p p
 ·have hk5:=(begS_at (hkb (by omega))).1
  have e1:=put_len p 18 p.pos (wordA t p.pos (p.pos + 3))
  have e2:=text_len t (p.put 18 p.pos (wordA t p.pos (p.pos + 3))) (p.pos + 5) k true
  have e3:=put_len ((p.put 18 p.pos (wordA t p.pos (p.pos + 3))).text t (p.pos + 5) k true) 18 (k + 2) (wordA t (k + 2) (k + 5))
  obtain ⟨rs,e4⟩:=text_same t (p.put 18 p.pos (wordA t p.pos (p.pos + 3))) (p.pos + 5) k true
  refine Or.inr ⟨by show p.pos < k + 5; omega,by show k + 5 ≤ _; omega,?_,?_⟩
  ·show (((p.put 18 p.pos (wordA t p.pos (p.pos + 3))).text t (p.pos + 5) k true).put 18 (k + 2) (wordA t (k + 2) (k + 5))).rs.length + _ ≤ _ + 8 * (k + 5)
   omega
  ·show ((p.put 18 p.pos (wordA t p.pos (p.pos + 3))).text t (p.pos + 5) k true).nms.length + _ ≤ _ + (k + 5)
   rw [e4]
   show p.nms.length + _ ≤ _
   omega
theorem fail_dv (p : QP) : p.fail.dv = p.dv:=by unfold QP.fail; split <;> rfl
theorem loosed_dv (p : QP) : p.loosed.dv = p.dv:=fail_dv _
theorem quoted_dv (t : List UInt8) (p : QP) (k : Int) : (p.quoted t k).dv = p.dv:=by
 unfold QP.quoted
 split <;> first | rfl|exact fail_dv _
theorem value_dv (t : List UInt8) (p : QP) : (p.value t).dv = p.dv:=by
 unfold QP.value
 split
 ·exact quoted_dv _ _ _
 ·unfold QP.valueK
  split <;> rfl
theorem parameter_dv (t : List UInt8) (nm po : Bool) (p : QP) : (p.parameter t nm po).2.2.dv = p.dv:=by
 unfold QP.parameter QP.parameterK
 repeat' split
 all_goals first | rfl|exact fail_dv _|exact value_dv _ _
theorem parN_dv (t right : List UInt8) (inl : Bool) : ∀ (n : Nat) (nm po ap : Bool) (p : QP),(parN t right inl n nm po ap p).dv = p.dv
 | 0,_,_,_,_ => rfl
 | n + 1,nm,po,ap,p => by
  rw [parN]
  repeat' split
  all_goals first | rfl|exact fail_dv _|exact loosed_dv _ | (rw [parN_dv]; exact quoted_dv _ _ _) | (rw [parN_dv]; exact parameter_dv _ _ _ _)
theorem closing_dv (t right : List UInt8) (p : QP) : (p.closing t right).dv = p.dv:=by
 unfold QP.closing QP.closingA QP.closingN
 repeat' split
 all_goals first | rfl|exact loosed_dv _
theorem name_dv (t : List UInt8) (p : QP) : (p.name t).2.dv = p.dv:=by
 unfold QP.name QP.nameK
 repeat' split
 all_goals first | rfl|exact loosed_dv _|exact fail_dv _
theorem shortcode_dv (t : List UInt8) (p : QP) : (p.shortcode t).dv = p.dv:=by
 unfold QP.shortcode QP.shortA
 repeat' split
 all_goals first | rfl|exact fail_dv _|exact closing_dv _ _ _|exact name_dv _ _ | (unfold QP.parameters; rw [parN_dv]; exact name_dv _ _)
theorem comment_dv (t : List UInt8) (p : QP) : (p.comment t).dv = p.dv:=by
 unfold QP.comment QP.commentK
 repeat' split
 ·rfl
 ·exact loosed_dv _
 ·obtain ⟨rs,e⟩:=text_same t (p.put 18 p.pos (wordA t p.pos (p.pos + 3))) (p.pos + 5) (toS (comEnd t p.pos) t (p.pos + 5)) true
  show ((p.put 18 p.pos (wordA t p.pos (p.pos + 3))).text t (p.pos + 5) (toS (comEnd t p.pos) t (p.pos + 5)) true).dv = _
  rw [e]
theorem text_len0 (t : List UInt8) (p : QP) {fr to : Nat} (h : fr ≤ to) : (p.text t fr to false).rs.length ≤ p.rs.length + 8 * (to - fr):=by
 by_cases e : fr = to
 ·unfold QP.text
  rw [if_pos e,if_neg (by simp)]
  omega
 ·have:=text_len t p fr to false
  omega
theorem mainN_over {t : List UInt8} {n fr : Nat} {p : QP} (h : p.over) : mainN t n fr p = p:=by
 cases n with
 | zero => rfl
 | succ n => rw [mainN,if_pos (show p.wrong = true ∨ p.opn = true from h)]
end Go.Wk
