/- The specification's lexer: a name. -/
import Derived.Test.YtmbencknblcocaaGreatDoorYbb
namespace Go.Wk
open Go Go.RowKit Go.Proofs
set_option maxRecDepth 100000
theorem grownN {X B : Nat} {t : List UInt8} {v : QV} {p : QP} {w w1 w2 w3 : World} {n' : Value} {x : List UInt8} (h : QS X B t v p w) (he : Ext w w1)
  (ho : w2.ownsRow B 9 1 n' (p.nms.length + 1) (p.nms.map S ++ [S x])) (hf : Fr (fun q => v.nm.ownBlock = some q) w1 w2) (hn : ∀ q,n'.ownBlock = some q → v.nm.ownBlock = some q ∨ w1.heap.size ≤ q)
  (hu : Upd w2 X (.cells (({ p with nms:=p.nms ++ [x] } : QP).arr t ⟨v.l,n'⟩) 48 (0,0)) w3) : QS X B t ⟨v.l,n'⟩ { p with nms:=p.nms ++ [x] } w3 ∧ QI X v ⟨v.l,n'⟩ w w3:=by
 have h1:=h.ext he
 have hf3 : Fr (fun q => q = X) w2 w3:=Fr.of_upd hu rfl
 have hnX : ∀ q,n'.ownBlock = some q → q ≠ X:=by
  intro q hq e
  subst e
  rcases hn q hq with h2 | h2
  ·exact h.noX (Or.inr h2)
  ·have:=h1.lt; omega
 have hlX : ∀ q,v.l.ownBlock = some q → q ≠ X:=fun q hq e => h.noX (Or.inl (e ▸ hq))
 have hol : OwnR B w2 v.l p.rs:=ownsRow_fr h1.ol hf fun q hq hq' => h.noL hq hq'
 refine ⟨⟨hu.here,ownsRow_fr hol hf3 hlX,?_,h.base⟩,⟨(Fr.of_ext he).trans ((hf.mono fun _ _ hk => Or.inr (Or.inr hk)).trans (hf3.mono fun _ _ hk => Or.inl hk)),?_⟩⟩
 ·have h5 : w2.ownsRow B 9 1 n' (p.nms ++ [x]).length ((p.nms ++ [x]).map S):=by
   rw [List.map_append,List.length_append]
   simpa using ho
  exact ownsRow_fr h5 hf3 hnX
 ·rintro q (hq | hq)
  ·exact Or.inl (Or.inl hq)
  ·rcases hn q hq with h2 | h2
   ·exact Or.inl (Or.inr h2)
   ·exact Or.inr (Nat.le_trans he.size h2)
set_option maxHeartbeats 8000000 in
theorem name_qfn {X B : Nat} {t : List UInt8} {v : QV} {p : QP} {w : World} (h : QS X B t v p w) (ht : t.length ≤ 100000) (hn : p.rs.length ≤ 800000) (hm : p.nms.length ≤ 800000) (hp : p.pos ≤ t.length) :
  QF X B t v w 90 [] (.bool (p.name t).1) (p.name t).2:=by
 have hmax : maxLen = 9223372036854775807:=rfl
 refine fn_of Tryz.func90 rfl Tryz.ntmps90 rfl ?_
 unfold QP.name
 have hkl:=runTo_le (stop:=notWd) (t:=t) _ p.pos rfl hp
 repeat(first|refine C0 ?_|refine C1 ?_|refine X1 rfl rfl ?_|refine X0 rfl rfl ?_|refine C2 ?_)
 refine RE.xc en109 rfl rfl (word_qfn h (by omega) hp) ?_
 rintro _ w1 ⟨rfl,e1⟩
 have g1:=h.ext e1
 have hX1 : HX X w1 t p.pos p.dv v.l v.nm p.inl p.wrong p.opn p.loose:=g1.at_
 generalize runTo notWd t p.pos = k at hkl
 unfold QP.nameK
 repeat(first|refine C0 ?_|refine X0 rfl rfl ?_|refine C2 ?_)
 refine CE.cut (fun s ds w' => ds = [] ∧ w' = w1 ∧ ¬ (k < t.length ∧ 128 ≤ chr t k) ∧ ¬ (begS t k inlSp = true ∧ k + 7 < t.length) ∧ ¬ begS t k [46] = true ∧ ¬ k = t.length ∧ ¬ (whiteB (t.getD k 0) = false ∧ begS t k gt3 = false ∧ begS t k pct3 = false) ∧ SubL [(3,I k),(0,Ptr X 0)] s) ?_ ?_
 ·refine CE.block ?_
  repeat(first|refine C0 ?_|refine C1 ?_|refine X1 rfl rfl ?_|refine X2 rfl rfl ?_|refine X3 rfl rfl rfl ?_|refine X22 rfl rfl hX1 rfl rfl ?_|refine X7 rfl rfl rfl ?_|refine X14 rfl Tryz.underlying9 rfl ?_)
  refine RE.cut (fun s ds w' => ds = [] ∧ w' = w1 ∧ SubL [(6,.bool (decide (k < t.length ∧ 128 ≤ chr t k))),(3,I k),(0,Ptr X 0)] s) ?_ ?_
  ·refine RE.splitD (fun h1 => ?_) (fun h1 => ?_)
   ·have hk' : k < t.length:=by omega
    have hix : t[((k : Nat) : Int).toNat]? = some t[k]:=by rw [Int.toNat_natCast]; exact List.getElem?_eq_getElem hk'
    have hcb : decide (k < t.length ∧ 128 ≤ chr t k) = decide ((t[k].toNat : Int) ≥ 128):=by
     refine decide_eq_decide.2 ?_
     rw [chr_of (List.getElem?_eq_getElem hk')]
     omega
    rw [hcb]
    repeat(first|refine X1 rfl rfl ?_|refine X2 rfl rfl ?_|refine X3 rfl rfl rfl ?_|refine X22 rfl rfl hX1 rfl rfl ?_|refine RE.want rfl rfl ?_)
    refine RE.x (op_index_s (b:=t[k]) rfl rfl Tryz.underlying9 (by omega) hix) rfl ?_
    repeat(first|refine X0 rfl rfl ?_|refine X10 rfl rfl rfl ?_|refine X16 rfl rfl rfl rfl ?_|refine RE.want rfl rfl ?_)
    refine RE.nilx ?_
    exact ⟨rfl,rfl,(by repeat first | trivial|refine ⟨rfl,?_⟩)⟩
   ·rw [decide_eq_false (show ¬ (k < t.length ∧ 128 ≤ chr t k) by omega)]
    repeat(first|refine X0 rfl rfl ?_|refine X17 rfl rfl rfl ?_|refine RE.nox rfl rfl rfl rfl ?_)
    refine RE.nilx ?_
    exact ⟨rfl,rfl,(by repeat first | trivial|refine ⟨rfl,?_⟩)⟩
  rintro s _ w2 ⟨rfl,hw,hs⟩
  subst hw
  refine CE.sub hs ?_
  refine CE.cond_d rfl (fun h1 => ?_) (fun h1 => ?_)
  ·rw [if_pos h1]
   repeat(first|refine C0 ?_|refine C1 ?_|refine X1 rfl rfl ?_|refine X2 rfl rfl ?_|refine X3 rfl rfl rfl ?_)
   refine RE.xs (e_store rfl rfl rfl hX1 rfl rfl) ?_
   rintro _ w3 hu3
   obtain ⟨g3,i3⟩:=QS.upd (p':=p.opened) g1 hu3 rfl rfl
   repeat(first|refine C0 ?_|refine C1 ?_|refine X0 rfl rfl ?_|refine C2 ?_)
   (refine CE.ret ?_;(try dsimp only);refine ret1 rfl rfl ?_)
   exact ⟨rfl,_,g3,i3.ext_l e1⟩
  rw [if_neg h1]
  repeat(first|refine C0 ?_|refine C1 ?_|refine X1 rfl rfl ?_|refine X2 rfl rfl ?_|refine X3 rfl rfl rfl ?_|refine X22 rfl rfl hX1 rfl rfl ?_)
  refine RE.cut (fun s ds w' => ds = [] ∧ w' = w2 ∧ SubL [(26,.bool (decide (begS t k inlSp = true ∧ k + 7 < t.length))),(3,I k),(0,Ptr X 0)] s) ?_ ?_
  ·refine RE.xc en34 rfl rfl (pageHas_fn (i:=k) (x:=inlSp) (by omega) (by decide) (by omega)) ?_
   rintro _ w3 ⟨rfl,hw⟩
   subst hw
   repeat (refine X1 rfl rfl ?_)
   refine RE.splitH (fun h2 => ?_) (fun h2 => ?_)
   ·have hcb : decide (begS t k inlSp = true ∧ k + 7 < t.length) = decide ((k : Int) + 7 < t.length):=by
     refine decide_eq_decide.2 ?_
     rw [h2]
     simp only [true_and]
     omega
    rw [hcb]
    repeat(first|refine X1 rfl rfl ?_|refine X0 rfl rfl ?_|refine X2 rfl rfl ?_|refine X3 rfl rfl rfl ?_|refine X22 rfl rfl hX1 rfl rfl ?_|refine X7 rfl rfl rfl ?_|refine X14 rfl Tryz.underlying9 rfl ?_|refine X16 rfl rfl rfl rfl ?_|refine X18 rfl rfl (by omega) (by omega) rfl ?_|refine RE.want rfl rfl ?_)
    refine RE.nilx ?_
    exact ⟨rfl,rfl,(by repeat first | trivial|refine ⟨rfl,?_⟩)⟩
   ·rw [decide_eq_false (show ¬ (begS t k inlSp = true ∧ k + 7 < t.length) by rw [h2]; simp)]
    repeat(first|refine X0 rfl rfl ?_|refine X17 rfl rfl rfl ?_|refine RE.nox rfl rfl rfl rfl ?_)
    refine RE.nilx ?_
    exact ⟨rfl,rfl,(by repeat first | trivial|refine ⟨rfl,?_⟩)⟩
  rintro s _ w3 ⟨rfl,hw,hs⟩
  subst hw
  refine CE.sub hs ?_
  refine CE.cond_d rfl (fun h2 => ?_) (fun h2 => ?_)
  ·rw [if_pos h2]
   have hXd : w3.drew.heap[X]? = _:=hX1
   repeat refine C0 ?_
   refine CE.drawR Ext [0,0,0,0,0,0,0,0,0,0,0,0,0,0,2] mixed Ext.refl (fun _ _ _ => Ext.trans) (by decide +kernel) ?_
   repeat(first|refine Z1 rfl rfl ?_|refine Z2 rfl rfl ?_|refine Z3 rfl rfl rfl ?_|refine Z22 rfl rfl hXd rfl rfl ?_|refine Z18 rfl rfl (by omega) (by omega) rfl ?_)
   refine RE.dd (fun _ _ => op_str_lh rfl rfl rfl Tryz.underlying9 (by omega) (by omega) (by omega)) rfl Ext.refl ?_
   rw [show ((k : Int) + 7).toNat - ((p.pos : Int)).toNat = k + 7 - p.pos by omega,Int.toNat_natCast]
   refine (show RE _ _ _ _ _ _ _ _ ((_,S (wordA t p.pos (k + 7))) :: _) _ from ?_)
   have hnl : (wordA t p.pos (k + 7)).length ≤ 1000000:=by have:=word_len t p.pos (k + 7); omega
   generalize wordA t p.pos (k + 7) = nmx at hnl
   repeat(first|refine Z2 rfl rfl ?_|refine Z3 rfl rfl rfl ?_)
   refine RE.es (fun _ hw => e_store rfl rfl rfl (hw.block hXd) rfl rfl) ?_
   rintro w4 hw4 _ w5 hu5
   refine C4 (fun w6 hw6 => ?_)
   have e4:=(Ext.drew _).trans hw4
   obtain ⟨g5,i5⟩:=QS.upd (p':={ p with inl:=nmx }) (g1.ext e4) hu5 rfl rfl
   have g6:=g5.ext hw6
   have i6:=(i5.ext_l (e1.trans e4)).ext_r hw6
   have hX6 : HX X w6.drew t p.pos p.dv v.l v.nm nmx p.wrong p.opn p.loose:=g6.at_
   repeat refine C0 ?_
   refine CE.drawR Ext [0,0,0,0,0,0,0,0,0,2] mixed Ext.refl (fun _ _ _ => Ext.trans) (by decide +kernel) ?_
   repeat(first|refine Z1 rfl rfl ?_|refine Z2 rfl rfl ?_|refine Z3 rfl rfl rfl ?_|refine Z22 rfl rfl hX6 rfl rfl ?_)
   refine RE.ec en65 rfl rfl (fun w7 hw7 => qput_fn (tx:=nmx) (g6.ext ((Ext.drew _).trans hw7)) (by show p.rs.length ≤ _; omega) hnl) ?_
   rintro w7 hw7 _ w8 ⟨rfl,v8,g8,i8⟩
   refine C4 (fun w9 hw9 => ?_)
   have g9:=g8.ext hw9
   have i9:=i6.trans ((i8.ext_l ((Ext.drew _).trans hw7)).ext_r hw9)
   refine (show CE _ _ _ _ _ _ _ from ?_)
   have hX9 : HX X w9.drew t p.pos p.dv v8.l v8.nm nmx p.wrong p.opn p.loose:=g9.at_
   repeat refine C0 ?_
   (refine CE.drawA Ext [0] [0,0,0,0,0,0,0,0,1,2,0,0,2] [1,2,3,4,5,6,7,8,9,10,11,12,13] mixed Ext.refl (fun _ _ _ => Ext.trans) (by decide +kernel) ?_); (simp only [pick,nthO,List.cons_append,List.nil_append]); (repeat(first|refine PR.p (fun _ => op_move rfl) rfl ?_|refine PR.p (fun _ => op_nil rfl) rfl ?_|refine PR.p (fun _ => op_fieldAddr0 rfl rfl) rfl ?_|refine PR.p (fun _ => op_fieldAddr rfl rfl) rfl ?_)); refine PR.nil ?_
   repeat(first|refine Z1 rfl rfl ?_|refine Z2 rfl rfl ?_|refine Z3 rfl rfl rfl ?_|refine Z22 rfl rfl hX9 rfl rfl ?_)
   refine RE.ge (φ:=fun u w' => ∃ b,u = Sl b 0 1 1 ∧ w'.heap[b]? = some (.cells #[S nmx] 9 (0,0))) rfl (fun v w4 w5 ⟨b,h1,h2⟩ h3 => ⟨b,h1,h3.block h2⟩)
    (fun w4 hw4 => OpE.mono (e_buildSlice (vs:=[(0,S nmx)]) (cells:=#[S nmx]) (e:=9) rfl (by kernel_rfl) (by kernel_rfl)) fun v w' ⟨b,h2,h3⟩ => ⟨⟨b,h2,h3.here⟩,h3.ext⟩) ?_
   intro _
   refine RE.ee (Φ:=fun w4 v' w' => w'.ownsRow B 9 1 v' (p.nms.length + 1) (p.nms.map S ++ [S nmx]) ∧ Fr (fun q => v8.nm.ownBlock = some q) w4 w' ∧ ∀ q,v'.ownBlock = some q → v8.nm.ownBlock = some q ∨ w4.heap.size ≤ q)
    ?_ rfl ?_
   ·rintro w10 ⟨hw10,b,rfl,hbb⟩
    have e10 : Ext w9 w10:=(Ext.drew _).trans hw10
    exact e_append B (e:=9) (size:=1) (z:=S []) (bytes:=16) (m:=1) (c:=1) (ab:=b) (news:=[S nmx]) rfl (by kernel_rfl) rfl (by decide) rfl
     (ownsRow_ext g9.on e10) rfl (by decide) rfl (fun j u hj => cell_of hbb (by simpa using hj)) (by simp [Value.oneCell']) (by show p.nms.length + 1 ≤ _; omega) (by show (p.nms.length + 1) * 16 ≤ _; omega) (by have:=g9.lt; have:=g9.base; have:=e10.size; omega)
   rintro w10 ⟨hw10,b,rfl,hbb⟩ n' w11 ⟨ho11,hf11,hn11⟩
   have e10 : Ext w9 w10:=(Ext.drew _).trans hw10
   have hX11 : HX X w11 t p.pos p.dv v8.l v8.nm nmx p.wrong p.opn p.loose:=hf11.block (hw10.block hX9) (fun e => g9.noX (Or.inr e))
   repeat(first|refine Z2 rfl rfl ?_|refine Z3 rfl rfl rfl ?_)
   refine RE.es (fun _ hw => e_store rfl rfl rfl (hw.block hX11) rfl ?_) ?_
   ·exact ownsRow_one ho11
   rintro w12 hw12 _ w13 hu13
   refine C4 (fun w15 hw15 => ?_)
   obtain ⟨g13,i13⟩:=grownN (x:=nmx) g9 e10 (ownsRow_ext ho11 hw12) (hf11.trans (Fr.of_ext hw12)) hn11 hu13
   have g15:=g13.ext hw15
   have i15:=i13.ext_r hw15
   have hX15 : HX X w15 t p.pos p.dv v8.l n' nmx p.wrong p.opn p.loose:=g15.at_
   repeat(first|refine C0 ?_|refine C1 ?_|refine X1 rfl rfl ?_|refine X2 rfl rfl ?_|refine X3 rfl rfl rfl ?_|refine X18 rfl rfl (by omega) (by omega) rfl ?_)
   refine RE.xs (e_store rfl rfl rfl hX15 rfl rfl) ?_
   rintro _ w16 hu16
   obtain ⟨g16,i16⟩:=QS.upd (p':={ p.put 14 p.pos nmx with inl:=nmx,nms:=p.nms ++ [nmx],pos:=k + 7 }) g15 hu16 rfl rfl
   repeat(first|refine C0 ?_|refine C1 ?_|refine X0 rfl rfl ?_|refine C2 ?_)
   (refine CE.ret ?_;(try dsimp only);refine ret1 rfl rfl ?_)
   exact ⟨rfl,_,g16,(i9.trans i15).trans i16⟩
  rw [if_neg h2]
  repeat(first|refine C0 ?_|refine C1 ?_|refine X1 rfl rfl ?_|refine X2 rfl rfl ?_|refine X3 rfl rfl rfl ?_|refine X22 rfl rfl hX1 rfl rfl ?_)
  refine RE.xc en34 rfl rfl (pageHas_fn (i:=k) (x:=[46]) (by omega) (by decide) (by omega)) ?_
  rintro _ w4 ⟨rfl,hw⟩
  subst hw
  repeat(first|refine X0 rfl rfl ?_|refine C2 ?_)
  refine CE.cond_s rfl (fun h3 => ?_) (fun h3 => ?_)
  ·rw [if_pos h3]
   repeat(first|refine C0 ?_|refine C1 ?_|refine X1 rfl rfl ?_)
   refine RE.xc en84 rfl rfl (qfail_fn g1 (by omega)) ?_
   rintro _ w5 ⟨rfl,v5,g5,i5⟩
   repeat(first|refine C0 ?_|refine C1 ?_|refine X0 rfl rfl ?_|refine C2 ?_)
   (refine CE.ret ?_;(try dsimp only);refine ret1 rfl rfl ?_)
   exact ⟨rfl,_,g5,i5.ext_l e1⟩
  rw [if_neg (by rw [h3]; simp)]
  repeat(first|refine C0 ?_|refine C1 ?_|refine X1 rfl rfl ?_|refine X0 rfl rfl ?_|refine X2 rfl rfl ?_|refine X3 rfl rfl rfl ?_|refine X22 rfl rfl hX1 rfl rfl ?_|refine X5 rfl rfl rfl ?_|refine X14 rfl Tryz.underlying9 rfl ?_|refine C2 ?_)
  refine CE.cond_d rfl (fun h4 => ?_) (fun h4 => ?_)
  ·rw [if_pos (show k = t.length by omega)]
   repeat(first|refine C0 ?_|refine C1 ?_|refine X1 rfl rfl ?_|refine X2 rfl rfl ?_|refine X3 rfl rfl rfl ?_)
   refine RE.xs (e_store rfl rfl rfl hX1 rfl rfl) ?_
   rintro _ w5 hu5
   obtain ⟨g5,i5⟩:=QS.upd (p':={ p with loose:=true }) g1 hu5 rfl rfl
   repeat(first|refine C0 ?_|refine C1 ?_|refine X1 rfl rfl ?_|refine C2 ?_)
   refine RE.xc en84 rfl rfl (qfail_fn g5 (by show p.rs.length ≤ _; omega)) ?_
   rintro _ w6 ⟨rfl,v6,g6,i6⟩
   repeat(first|refine C0 ?_|refine C1 ?_|refine X0 rfl rfl ?_|refine C2 ?_)
   (refine CE.ret ?_;(try dsimp only);refine ret1 rfl rfl ?_)
   exact ⟨rfl,_,g6,(i5.trans i6).ext_l e1⟩
  rw [if_neg (show ¬ k = t.length by omega)]
  have hk' : k < t.length:=by omega
  have hix : t[((k : Nat) : Int).toNat]? = some t[k]:=by rw [Int.toNat_natCast]; exact List.getElem?_eq_getElem hk'
  have hgd : t.getD k 0 = t[k]:=getD_of (List.getElem?_eq_getElem hk')
  rw [hgd]
  generalize t[k] = b at hix hgd
  repeat(first|refine C0 ?_|refine C1 ?_|refine X1 rfl rfl ?_|refine X2 rfl rfl ?_|refine X3 rfl rfl rfl ?_|refine X22 rfl rfl hX1 rfl rfl ?_)
  refine RE.cut (fun s ds w' => ds = [] ∧ w' = w4 ∧ SubL [(107,.bool (decide (whiteB b = false ∧ begS t k gt3 = false ∧ begS t k pct3 = false))),(3,I k),(0,Ptr X 0)] s) ?_ ?_
  ·refine RE.x (op_index_s (b:=b) rfl rfl Tryz.underlying9 (by omega) hix) rfl ?_
   refine RE.xc en37 rfl rfl (pageWhite_fn b w4) ?_
   rintro _ w5 ⟨rfl,hw⟩
   subst hw
   repeat(first|refine X1 rfl rfl ?_|refine X11 rfl rfl ?_)
   cases h5 : whiteB b with
   | true =>
    rw [decide_eq_false (by simp)]
    repeat(first|refine X1 rfl rfl ?_|refine X0 rfl rfl ?_|refine X17 rfl rfl rfl ?_|refine RE.nox rfl rfl rfl rfl ?_)
    refine RE.nilx ?_
    exact ⟨rfl,rfl,(by repeat first | trivial|refine ⟨rfl,?_⟩)⟩
   | false =>
    repeat(first|refine X1 rfl rfl ?_|refine X2 rfl rfl ?_|refine X3 rfl rfl rfl ?_|refine X22 rfl rfl hX1 rfl rfl ?_|refine RE.want rfl rfl ?_)
    refine RE.xc en34 rfl rfl (pageHas_fn (i:=k) (x:=gt3) (by omega) (by decide) (by omega)) ?_
    rintro _ w6 ⟨rfl,hw⟩
    subst hw
    cases h6 : begS t k gt3 with
    | true =>
     rw [decide_eq_false (by simp)]
     repeat(first|refine X1 rfl rfl ?_|refine X0 rfl rfl ?_|refine X11 rfl rfl ?_|refine X16 rfl rfl rfl rfl ?_|refine X17 rfl rfl rfl ?_|refine RE.want rfl rfl ?_|refine RE.nox rfl rfl rfl rfl ?_)
     refine RE.nilx ?_
     exact ⟨rfl,rfl,(by repeat first | trivial|refine ⟨rfl,?_⟩)⟩
    | false =>
     repeat(first|refine X1 rfl rfl ?_|refine X2 rfl rfl ?_|refine X3 rfl rfl rfl ?_|refine X22 rfl rfl hX1 rfl rfl ?_|refine X11 rfl rfl ?_|refine X16 rfl rfl rfl rfl ?_|refine RE.want rfl rfl ?_)
     refine RE.xc en34 rfl rfl (pageHas_fn (i:=k) (x:=pct3) (by omega) (by decide) (by omega)) ?_
     rintro _ w7 ⟨rfl,hw⟩
     subst hw
     have hcb : decide (false = false ∧ false = false ∧ begS t k pct3 = false) = !begS t k pct3:=by cases begS t k pct3 <;> rfl
     rw [hcb]
     repeat(first|refine X0 rfl rfl ?_|refine X11 rfl rfl ?_|refine X16 rfl rfl rfl rfl ?_|refine RE.want rfl rfl ?_)
     refine RE.nilx ?_
     exact ⟨rfl,rfl,(by repeat first | trivial|refine ⟨rfl,?_⟩)⟩
  rintro s _ w5 ⟨rfl,hw,hs⟩
  subst hw
  refine CE.sub hs ?_
  refine CE.cond_d rfl (fun h5 => ?_) (fun h5 => ?_)
  ·rw [if_pos h5]
   repeat(first|refine C0 ?_|refine C1 ?_|refine X1 rfl rfl ?_|refine X2 rfl rfl ?_|refine X3 rfl rfl rfl ?_)
   refine RE.xs (e_store rfl rfl rfl hX1 rfl rfl) ?_
   rintro _ w6 hu6
   obtain ⟨g6,i6⟩:=QS.upd (p':=p.opened) g1 hu6 rfl rfl
   repeat(first|refine C0 ?_|refine C1 ?_|refine X0 rfl rfl ?_|refine C2 ?_)
   (refine CE.ret ?_;(try dsimp only);refine ret1 rfl rfl ?_)
   exact ⟨rfl,_,g6,i6.ext_l e1⟩
  refine CE.skip ?_
  exact ⟨rfl,rfl,h1,h2,by rw [h3]; simp,by omega,h5,(by repeat first | trivial|refine ⟨rfl,?_⟩)⟩
 rintro s _ w2 ⟨rfl,hw,k1,k2,k3,k4,k5,hs⟩
 subst hw
 refine CE.sub hs ?_
 rw [if_neg k1,if_neg k2,if_neg k3,if_neg k4,if_neg k5]
 have hnl : (wordA t p.pos k).length ≤ 1000000:=by have:=word_len t p.pos k; omega
 have hXd : w2.drew.heap[X]? = _:=hX1
 repeat refine C0 ?_
 refine CE.drawR Ext [0,0,0,0,0,0,0,0,0,0,0,0,0,0,0,2] mixed Ext.refl (fun _ _ _ => Ext.trans) (by decide +kernel) ?_
 repeat(first|refine Z1 rfl rfl ?_|refine Z2 rfl rfl ?_|refine Z3 rfl rfl rfl ?_|refine Z22 rfl rfl hXd rfl rfl ?_)
 refine RE.dd (fun _ _ => op_str_lh rfl rfl rfl Tryz.underlying9 (by omega) (by omega) (by omega)) rfl Ext.refl ?_
 rw [show ((k : Int)).toNat - ((p.pos : Int)).toNat = k - p.pos by omega,Int.toNat_natCast]
 refine RE.ec en65 rfl rfl (fun w7 hw7 => qput_fn (tx:=wordA t p.pos k) (g1.ext ((Ext.drew _).trans hw7)) (by omega) hnl) ?_
 rintro w7 hw7 _ w8 ⟨rfl,v8,g8,i8⟩
 refine C4 (fun w9 hw9 => ?_)
 have g9:=g8.ext hw9
 have i9:=(i8.ext_l (e1.trans ((Ext.drew _).trans hw7))).ext_r hw9
 have hX9 : HX X w9.drew t p.pos p.dv v8.l v8.nm p.inl p.wrong p.opn p.loose:=g9.at_
 repeat refine C0 ?_
 (refine CE.drawA Ext [0] [0,0,0,0,0,0,0,0,0,0,0,0,0,0,1,2,0,0,2] [1,2,3,4,5,6,7,8,9,10,11,12,13,14,15,16,17,18,19] mixed Ext.refl (fun _ _ _ => Ext.trans) (by decide +kernel) ?_); (simp only [pick,nthO,List.cons_append,List.nil_append]); (repeat(first|refine PR.p (fun _ => op_move rfl) rfl ?_|refine PR.p (fun _ => op_nil rfl) rfl ?_|refine PR.p (fun _ => op_fieldAddr0 rfl rfl) rfl ?_|refine PR.p (fun _ => op_fieldAddr rfl rfl) rfl ?_)); refine PR.nil ?_
 repeat(first|refine Z1 rfl rfl ?_|refine Z2 rfl rfl ?_|refine Z3 rfl rfl rfl ?_|refine Z22 rfl rfl hX9 rfl rfl ?_)
 refine RE.dd (fun _ _ => op_str_lh rfl rfl rfl Tryz.underlying9 (by omega) (by omega) (by omega)) rfl Ext.refl ?_
 rw [show ((k : Int)).toNat - ((p.pos : Int)).toNat = k - p.pos by omega,Int.toNat_natCast]
 refine (show RE _ _ _ _ _ _ _ _ ((_,S (wordA t p.pos k)) :: _) _ from ?_)
 refine RE.ge (φ:=fun u w' => ∃ b,u = Sl b 0 1 1 ∧ w'.heap[b]? = some (.cells #[S (wordA t p.pos k)] 9 (0,0))) rfl (fun v w4 w5 ⟨b,h1,h2⟩ h3 => ⟨b,h1,h3.block h2⟩)
  (fun w4 hw4 => OpE.mono (e_buildSlice (vs:=[(0,S (wordA t p.pos k))]) (cells:=#[S (wordA t p.pos k)]) (e:=9) rfl (by kernel_rfl) (by kernel_rfl)) fun v w' ⟨b,h2,h3⟩ => ⟨⟨b,h2,h3.here⟩,h3.ext⟩) ?_
 intro _
 refine RE.ee (Φ:=fun w4 v' w' => w'.ownsRow B 9 1 v' (p.nms.length + 1) (p.nms.map S ++ [S (wordA t p.pos k)]) ∧ Fr (fun q => v8.nm.ownBlock = some q) w4 w' ∧ ∀ q,v'.ownBlock = some q → v8.nm.ownBlock = some q ∨ w4.heap.size ≤ q)
  ?_ rfl ?_
 ·rintro w10 ⟨hw10,b,rfl,hbb⟩
  have e10 : Ext w9 w10:=(Ext.drew _).trans hw10
  exact e_append B (e:=9) (size:=1) (z:=S []) (bytes:=16) (m:=1) (c:=1) (ab:=b) (news:=[S (wordA t p.pos k)]) rfl (by kernel_rfl) rfl (by decide) rfl
   (ownsRow_ext g9.on e10) rfl (by decide) rfl (fun j u hj => cell_of hbb (by simpa using hj)) (by simp [Value.oneCell']) (by show p.nms.length + 1 ≤ _; omega) (by show (p.nms.length + 1) * 16 ≤ _; omega) (by have:=g9.lt; have:=g9.base; have:=e10.size; omega)
 rintro w10 ⟨hw10,b,rfl,hbb⟩ n' w11 ⟨ho11,hf11,hn11⟩
 have e10 : Ext w9 w10:=(Ext.drew _).trans hw10
 have hX11 : HX X w11 t p.pos p.dv v8.l v8.nm p.inl p.wrong p.opn p.loose:=hf11.block (hw10.block hX9) (fun e => g9.noX (Or.inr e))
 repeat(first|refine Z2 rfl rfl ?_|refine Z3 rfl rfl rfl ?_)
 refine RE.es (fun _ hw => e_store rfl rfl rfl (hw.block hX11) rfl ?_) ?_
 ·exact ownsRow_one ho11
 rintro w12 hw12 _ w13 hu13
 refine C4 (fun w15 hw15 => ?_)
 obtain ⟨g13,i13⟩:=grownN (x:=(wordA t p.pos k)) g9 e10 (ownsRow_ext ho11 hw12) (hf11.trans (Fr.of_ext hw12)) hn11 hu13
 have g15:=g13.ext hw15
 have i15:=i13.ext_r hw15
 have hX15 : HX X w15 t p.pos p.dv v8.l n' p.inl p.wrong p.opn p.loose:=g15.at_
 repeat(first|refine C0 ?_|refine C1 ?_|refine X1 rfl rfl ?_|refine X2 rfl rfl ?_|refine X3 rfl rfl rfl ?_)
 refine RE.xs (e_store rfl rfl rfl hX15 rfl rfl) ?_
 rintro _ w16 hu16
 obtain ⟨g16,i16⟩:=QS.upd (p':={ p.put 13 p.pos (wordA t p.pos k) with nms:=p.nms ++ [wordA t p.pos k],pos:=k }) g15 hu16 rfl rfl
 repeat(first|refine C0 ?_|refine C1 ?_|refine X0 rfl rfl ?_|refine C2 ?_)
 (refine CE.ret ?_;(try dsimp only);refine ret1 rfl rfl ?_)
 exact ⟨rfl,_,g16,(i9.trans i15).trans i16⟩
theorem one_at {t : List UInt8} {i : Nat} {b : UInt8} (h : t[i]? = some b) : (t.drop i).take (i + 1 - i) = [b]:=by
 obtain ⟨h1,h2⟩:=List.getElem?_eq_some_iff.1 h
 rw [List.drop_eq_getElem_cons h1,h2,show i + 1 - i = 1 by omega]
 rfl
theorem chr_at {t : List UInt8} {i : Nat} (h : i < t.length) : chr t i = t[i].toNat:=chr_of (List.getElem?_eq_getElem h)
set_option maxHeartbeats 8000000 in
theorem quoted_qfn {X B : Nat} {t : List UInt8} {v : QV} {p : QP} {w : World} {kind : Int} (h : QS X B t v p w) (ht : t.length ≤ 100000) (hn : p.rs.length ≤ 800000) (hp : p.pos < t.length) :
  QF X B t v w 110 [I kind] (.tuple #[]) (p.quoted t kind):=by
 refine fn_of Tryz.func110 rfl Tryz.ntmps110 rfl ?_
 have e1 : Ext w w.drew:=Ext.drew w
 have g1:=h.ext e1
 have hX1 : HX X w.drew t p.pos p.dv v.l v.nm p.inl p.wrong p.opn p.loose:=g1.at_
 obtain ⟨b,hb⟩ : ∃ b,t[p.pos]? = some b:=⟨t[p.pos],List.getElem?_eq_getElem hp⟩
 have hbi : t[((p.pos : Nat) : Int).toNat]? = some b:=by rw [Int.toNat_natCast]; exact hb
 have hq : p.quoted t kind = (match quGo t b.toNat (p.pos + 1) (p.pos + 1) [] with
  | none => p.fail
  | some none => p.opened
  | some (some (i,tx)) => { p.put kind (p.pos + 1) tx with pos:=i + 1 }):=by unfold QP.quoted; rw [chr_of hb]; rfl
 repeat refine C0 ?_
 refine CE.draw [0,0,0,0,0,0,0,0,0,0] mixed (by decide +kernel) ?_
 repeat(first|refine Y1 rfl rfl ?_|refine Y2 rfl rfl ?_|refine Y3 rfl rfl rfl ?_|refine Y22 rfl rfl hX1 rfl rfl ?_)
 refine RE.d1 (op_index_s (b:=b) rfl rfl Tryz.underlying9 (by omega) hbi) rfl ?_
 repeat(first|refine Y0 rfl rfl ?_|refine C2 ?_)
 generalize w.drew = w1 at e1 g1 hX1
 repeat(first|refine C0 ?_|refine C1 ?_|refine X1 rfl rfl ?_|refine X0 rfl rfl ?_|refine X2 rfl rfl ?_|refine X3 rfl rfl rfl ?_|refine X22 rfl rfl hX1 rfl rfl ?_|refine X18 rfl rfl (by omega) (by omega) rfl ?_|refine C2 ?_)
 refine CE.cut (fun s ds w' => ds = [] ∧ w' = w1 ∧ quGo t b.toNat (p.pos + 1) (p.pos + 1) [] = none ∧ SubL [(0,Ptr X 0)] s) ?_ ?_
 ·refine CE.block ?_
  refine CE.loop (α:=Nat × List UInt8) (fun x => [(7,I x.1),(6,S x.2),(5,I ((p.pos : Int) + 1)),(4,Wk.B b),(1,I kind),(0,Ptr X 0)])
   (fun x w' => w' = w1 ∧ p.pos + 1 ≤ x.1 ∧ x.1 ≤ t.length ∧ x.2.length ≤ x.1 ∧ quGo t b.toNat (p.pos + 1) (p.pos + 1) [] = quGo t b.toNat (p.pos + 1) x.1 x.2) (fun x => t.length - x.1) (p.pos + 1,[]) (by repeat first | trivial|refine ⟨rfl,?_⟩) ⟨rfl,Nat.le_refl _,hp,Nat.zero_le _,rfl⟩ ?_
  rintro ⟨i,tx⟩ w2 ⟨hw,hi0,hi,htx,hrun⟩
  subst hw
  dsimp only at hi0 hi htx hrun
  refine (show CE _ _ _ _ [(7,I i),(6,S tx),(5,I ((p.pos : Int) + 1)),(4,Wk.B b),(1,I kind),(0,Ptr X 0)] _ _ from ?_)
  have hgo:=quGo.eq_def t b.toNat (p.pos + 1) i tx
  repeat(first|refine C0 ?_|refine C1 ?_|refine X1 rfl rfl ?_|refine X2 rfl rfl ?_|refine X3 rfl rfl rfl ?_|refine X22 rfl rfl hX1 rfl rfl ?_|refine X7 rfl rfl rfl ?_|refine X14 rfl Tryz.underlying9 rfl ?_|refine C2 ?_)
  refine CE.cond_d rfl (fun h1 => ?_) (fun h1 => ?_)
  ·have hil : i < t.length:=by omega
   have hix : t[((i : Nat) : Int).toNat]? = some t[i]:=by rw [Int.toNat_natCast]; exact List.getElem?_eq_getElem hil
   have hone:=one_at (List.getElem?_eq_getElem hil)
   rw [dif_pos hil] at hgo
   generalize t[i] = c at hix hgo hone
   refine C3 ?_
   repeat refine C0 ?_
   refine CE.block ?_
   repeat(first|refine C0 ?_|refine C1 ?_|refine X1 rfl rfl ?_|refine X2 rfl rfl ?_|refine X3 rfl rfl rfl ?_|refine X22 rfl rfl hX1 rfl rfl ?_)
   refine RE.x (op_index_s (b:=c) rfl rfl Tryz.underlying9 (by omega) hix) rfl ?_
   repeat(first|refine X0 rfl rfl ?_|refine C2 ?_)
   refine CE.block ?_
   repeat(first|refine C0 ?_|refine C1 ?_|refine X1 rfl rfl ?_|refine X5 rfl rfl rfl ?_)
   refine RE.cut (fun s ds w' => ds = [] ∧ w' = w2 ∧ SubL [(49,.bool (decide (c.toNat = 92 ∧ (b.toNat = 96 ∨ i = p.pos + 1 ∨ begS t (i + 1) [34] = false)))),(8,Wk.B c),(7,I i),(6,S tx),(5,I ((p.pos : Int) + 1)),(4,Wk.B b),(1,I kind),(0,Ptr X 0)] s) ?_ ?_
   ·refine RE.splitD (fun h2 => ?_) (fun h2 => ?_)
    ·have h2' : c.toNat = 92:=by omega
     repeat(first|refine X1 rfl rfl ?_|refine X5 rfl rfl rfl ?_|refine RE.want rfl rfl ?_)
     refine RE.splitD (fun h3 => ?_) (fun h3 => ?_)
     ·rw [decide_eq_true (show c.toNat = 92 ∧ (b.toNat = 96 ∨ i = p.pos + 1 ∨ begS t (i + 1) [34] = false) from ⟨h2',Or.inl (by omega)⟩)]
      repeat(first|refine X1 rfl rfl ?_|refine X0 rfl rfl ?_|refine X16 rfl rfl rfl rfl ?_|refine RE.want rfl rfl ?_|refine RE.nox rfl rfl rfl rfl ?_)
      refine RE.nilx ?_
      exact ⟨rfl,rfl,(by repeat first | trivial|refine ⟨rfl,?_⟩)⟩
     ·repeat(first|refine X1 rfl rfl ?_|refine X5 rfl rfl rfl ?_|refine X17 rfl rfl rfl ?_|refine RE.want rfl rfl ?_)
      refine RE.splitD (fun h4 => ?_) (fun h4 => ?_)
      ·rw [decide_eq_true (show c.toNat = 92 ∧ (b.toNat = 96 ∨ i = p.pos + 1 ∨ begS t (i + 1) [34] = false) from ⟨h2',Or.inr (Or.inl (by omega))⟩)]
       repeat(first|refine X0 rfl rfl ?_|refine X16 rfl rfl rfl rfl ?_|refine RE.want rfl rfl ?_|refine RE.nox rfl rfl rfl rfl ?_)
       refine RE.nilx ?_
       exact ⟨rfl,rfl,(by repeat first | trivial|refine ⟨rfl,?_⟩)⟩
      ·have hcb : decide (c.toNat = 92 ∧ (b.toNat = 96 ∨ i = p.pos + 1 ∨ begS t (i + 1) [34] = false)) = !begS t (i + 1) [34]:=by
        cases hbg : begS t (i + 1) [34] with
        | true => exact decide_eq_false (by rintro ⟨_,h | h | h⟩; exact h3 (by omega); exact h4 (by omega); cases h)
        | false => exact decide_eq_true ⟨h2',Or.inr (Or.inr rfl)⟩
       rw [hcb]
       repeat(first|refine X1 rfl rfl ?_|refine X2 rfl rfl ?_|refine X3 rfl rfl rfl ?_|refine X22 rfl rfl hX1 rfl rfl ?_|refine X18 rfl rfl (by omega) (by omega) rfl ?_|refine RE.want rfl rfl ?_)
       refine RE.xc en34 rfl rfl (pageHas_fn (i:=i + 1) (x:=[34]) (by omega) (by decide) (by omega)) ?_
       rintro _ w3 ⟨rfl,hw⟩
       subst hw
       repeat(first|refine X0 rfl rfl ?_|refine X11 rfl rfl ?_|refine X16 rfl rfl rfl rfl ?_|refine X17 rfl rfl rfl ?_|refine RE.want rfl rfl ?_)
       refine RE.nilx ?_
       exact ⟨rfl,rfl,(by repeat first | trivial|refine ⟨rfl,?_⟩)⟩
    ·rw [decide_eq_false (show ¬ (c.toNat = 92 ∧ (b.toNat = 96 ∨ i = p.pos + 1 ∨ begS t (i + 1) [34] = false)) by omega)]
     repeat(first|refine X0 rfl rfl ?_|refine X17 rfl rfl rfl ?_|refine RE.nox rfl rfl rfl rfl ?_|refine RE.nou rfl rfl rfl ?_)
     refine RE.nilx ?_
     exact ⟨rfl,rfl,(by repeat first | trivial|refine ⟨rfl,?_⟩)⟩
   rintro s _ w3 ⟨rfl,hw,hs⟩
   subst hw
   refine CE.sub hs ?_
   refine CE.cond_d rfl (fun h2 => ?_) (fun h2 => ?_)
   ·rw [if_pos h2] at hgo
    rw [hq,hrun.trans hgo]
    repeat(first|refine C0 ?_|refine C1 ?_|refine X1 rfl rfl ?_|refine X2 rfl rfl ?_|refine X3 rfl rfl rfl ?_)
    refine RE.xs (e_store rfl rfl rfl hX1 rfl rfl) ?_
    rintro _ w4 hu4
    obtain ⟨g4,i4⟩:=QS.upd (p':=p.opened) g1 hu4 rfl rfl
    repeat (refine C2 ?_)
    (refine CE.ret ?_; (try dsimp only); refine ret0 rfl ?_)
    exact ⟨rfl,_,g4,i4.ext_l e1⟩
   rw [if_neg h2] at hgo
   repeat(first|refine C0 ?_|refine C1 ?_|refine X1 rfl rfl ?_|refine X0 rfl rfl ?_|refine X5 rfl rfl rfl ?_|refine C2 ?_)
   refine CE.cond_d rfl (fun h3 => ?_) (fun h3 => ?_)
   ·have h3' : c.toNat = 92:=by omega
    rw [if_pos h3'] at hgo
    have hbg : begS t (i + 1) [34] = true:=by
     cases hbg : begS t (i + 1) [34] with
     | true => rfl
     | false => exact absurd ⟨h3',Or.inr (Or.inr hbg)⟩ h2
    have hle:=(begS_at hbg).1
    simp only [List.length_cons,List.length_nil] at hle
    repeat(first|refine C0 ?_|refine C1 ?_|refine X1 rfl rfl ?_)
    refine RE.x (op_add_s (b:=[34]) rfl rfl (by show tx.length + 1 ≤ _; omega)) rfl ?_
    repeat(first|refine C1 ?_|refine X1 rfl rfl ?_|refine X0 rfl rfl ?_|refine X18 rfl rfl (by omega) (by omega) rfl ?_|refine C2 ?_)
    refine RE.nilx ?_
    exact ⟨(i + 2,tx ++ [34]),by show t.length - (i + 2) < t.length - i; omega,rfl,(by repeat first | trivial|refine ⟨rfl,?_⟩),rfl,by show p.pos + 1 ≤ i + 2; omega,by show i + 2 ≤ _; omega,by show (tx ++ [34]).length ≤ i + 2; simp; omega,hrun.trans hgo⟩
   rw [if_neg (show ¬ c.toNat = 92 by omega)] at hgo
   repeat(first|refine C0 ?_|refine C1 ?_|refine X1 rfl rfl ?_|refine X0 rfl rfl ?_|refine X5 rfl rfl rfl ?_|refine C2 ?_)
   refine CE.cond_d rfl (fun h4 => ?_) (fun h4 => ?_)
   ·rw [if_pos (show c.toNat = b.toNat by omega)] at hgo
    rw [hq,hrun.trans hgo]
    repeat(first|refine C0 ?_|refine C1 ?_|refine X1 rfl rfl ?_)
    refine RE.xc en65 rfl rfl (qput_fn (fr:=p.pos + 1) (tx:=tx) g1 (by omega) (by omega)) ?_
    rintro _ w4 ⟨rfl,v4,g4,i4⟩
    have hX4 : HX X w4 t p.pos p.dv v4.l v4.nm p.inl p.wrong p.opn p.loose:=g4.at_
    repeat(first|refine C0 ?_|refine C1 ?_|refine X1 rfl rfl ?_|refine X2 rfl rfl ?_|refine X3 rfl rfl rfl ?_|refine X18 rfl rfl (by omega) (by omega) rfl ?_|refine C2 ?_)
    refine RE.xs (e_store rfl rfl rfl hX4 rfl rfl) ?_
    rintro _ w5 hu5
    obtain ⟨g5,i5⟩:=QS.upd (p':={ p.put kind (p.pos + 1) tx with pos:=i + 1 }) g4 hu5 rfl rfl
    repeat (refine C2 ?_)
    (refine CE.ret ?_; (try dsimp only); refine ret0 rfl ?_)
    exact ⟨rfl,_,g5,(i4.trans i5).ext_l e1⟩
   rw [if_neg (show ¬ c.toNat = b.toNat by omega)] at hgo
   repeat(first|refine C0 ?_|refine C1 ?_|refine X1 rfl rfl ?_|refine X5 rfl rfl rfl ?_)
   refine RE.cut (fun s ds w' => ds = [] ∧ w' = w3 ∧ SubL [(95,.bool (decide (c.toNat = 10 ∧ b.toNat = 34))),(8,Wk.B c),(7,I i),(6,S tx),(5,I ((p.pos : Int) + 1)),(4,Wk.B b),(1,I kind),(0,Ptr X 0)] s) ?_ ?_
   ·refine RE.splitD (fun h5 => ?_) (fun h5 => ?_)
    ·have hcb : decide (c.toNat = 10 ∧ b.toNat = 34) = decide ((b.toNat : Int) = 34):=decide_eq_decide.2 (by omega)
     rw [hcb]
     repeat(first|refine X1 rfl rfl ?_|refine X0 rfl rfl ?_|refine X5 rfl rfl rfl ?_|refine X16 rfl rfl rfl rfl ?_|refine RE.want rfl rfl ?_)
     refine RE.nilx ?_
     exact ⟨rfl,rfl,(by repeat first | trivial|refine ⟨rfl,?_⟩)⟩
    ·rw [decide_eq_false (show ¬ (c.toNat = 10 ∧ b.toNat = 34) by omega)]
     repeat(first|refine X0 rfl rfl ?_|refine X17 rfl rfl rfl ?_|refine RE.nox rfl rfl rfl rfl ?_)
     refine RE.nilx ?_
     exact ⟨rfl,rfl,(by repeat first | trivial|refine ⟨rfl,?_⟩)⟩
   rintro s _ w4 ⟨rfl,hw,hs⟩
   subst hw
   refine CE.sub hs ?_
   refine CE.cond_d rfl (fun h5 => ?_) (fun h5 => ?_)
   ·rw [if_pos h5] at hgo
    rw [hq,hrun.trans hgo]
    repeat(first|refine C0 ?_|refine C1 ?_|refine X1 rfl rfl ?_)
    refine RE.xc en84 rfl rfl (qfail_fn g1 (by omega)) ?_
    rintro _ w5 ⟨rfl,v5,g5,i5⟩
    repeat (refine C2 ?_)
    (refine CE.ret ?_; (try dsimp only); refine ret0 rfl ?_)
    exact ⟨rfl,_,g5,i5.ext_l e1⟩
   rw [if_neg h5] at hgo
   repeat(first|refine C1 ?_|refine X1 rfl rfl ?_|refine X2 rfl rfl ?_|refine X3 rfl rfl rfl ?_|refine X22 rfl rfl hX1 rfl rfl ?_|refine X18 rfl rfl (by omega) (by omega) rfl ?_)
   refine RE.x (op_str_lh rfl rfl rfl Tryz.underlying9 (by omega) (by omega) (by omega)) rfl ?_
   rw [show ((i : Int) + 1).toNat - ((i : Int)).toNat = i + 1 - i by omega,Int.toNat_natCast,hone]
   refine RE.x (op_add_s (a:=tx) (b:=[c]) rfl rfl (by show tx.length + 1 ≤ _; omega)) rfl ?_
   repeat(first|refine C1 ?_|refine X1 rfl rfl ?_|refine X0 rfl rfl ?_|refine X18 rfl rfl (by omega) (by omega) rfl ?_|refine C2 ?_)
   refine RE.nilx ?_
   exact ⟨(i + 1,tx ++ [c]),by show t.length - (i + 1) < t.length - i; omega,rfl,(by repeat first | trivial|refine ⟨rfl,?_⟩),rfl,by show p.pos + 1 ≤ i + 1; omega,hil,by show (tx ++ [c]).length ≤ i + 1; simp; omega,hrun.trans hgo⟩
  ·refine CE.exit ?_
   rw [dif_neg (by omega)] at hgo
   exact ⟨rfl,rfl,hrun.trans hgo,(by repeat first | trivial|refine ⟨rfl,?_⟩)⟩
 rintro s _ w2 ⟨rfl,hw,hnone,hs⟩
 subst hw
 refine CE.sub hs ?_
 rw [hq,hnone]
 repeat(first|refine C1 ?_|refine X1 rfl rfl ?_)
 refine RE.xc en84 rfl rfl (qfail_fn g1 (by omega)) ?_
 rintro _ w3 ⟨rfl,v3,g3,i3⟩
 (refine RE.nilx ?_; (try dsimp only); refine end0 rfl ?_)
 exact ⟨rfl,_,g3,i3.ext_l e1⟩
end Go.Wk
