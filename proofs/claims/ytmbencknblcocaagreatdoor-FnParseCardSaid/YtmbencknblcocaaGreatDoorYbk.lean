/- The specification reads a page; items compared. -/
import Derived.Test.YtmbencknblcocaaGreatDoorYbj
import Derived.Test.YtmbencknblcocaaGreatDoorYaj
namespace Go.Wk
open Go Go.RowKit Go.Proofs
set_option maxRecDepth 100000
theorem fnGo_spec {t three : List UInt8} {fr n : Nat} : ∀ (m i j : Nat),t.length + 1 - i = m → fnGo t three fr n i = some (some j) → i ≤ j ∧ begS t j three = true ∧ loneCR t j = false:=by
 intro m
 induction m using Nat.strongRecOn with
 | _ m ih =>
  intro i j hm h
  rw [fnGo] at h
  by_cases h1 : i ≤ t.length
  ·rw [dif_pos h1] at h
   cases h2 : loneCR t i with
   | true => rw [if_pos h2] at h; cases h
   | false =>
    rw [if_neg (by rw [h2]; simp)] at h
    by_cases h3 : freshB t fr n i = true ∧ begS t i three = true
    ·rw [if_pos h3] at h
     injection h with h; injection h with h
     subst h
     exact ⟨Nat.le_refl _,h3.2,h2⟩
    ·rw [if_neg h3] at h
     have:=ih _ (by omega) (i + 1) j rfl h
     exact ⟨by omega,this.2⟩
  ·rw [dif_neg h1] at h; cases h
theorem brGo_spec {t : List UInt8} : ∀ (m : Nat) (q : Bool) (lv : Int) (i j : Nat),t.length - i = m → brGo t q lv i = some j → i ≤ j ∧ j < t.length:=by
 intro m
 induction m using Nat.strongRecOn with
 | _ m ih =>
  intro q lv i j hm h
  rw [brGo] at h
  by_cases h1 : i < t.length
  ·rw [dif_pos h1] at h
   revert h
   repeat' split
   all_goals first
    | (intro h; have:=ih _ (by omega) _ _ (i + 1) j rfl h; omega)
    | (intro h; have:=ih _ (by omega) _ _ (i + 2) j rfl h; omega)
    | (intro h; injection h with h; omega)
  ·rw [dif_neg h1] at h; cases h
theorem kwGo_le {t : List UInt8} : ∀ (m i : Nat),t.length - i = m → i ≤ t.length → i ≤ kwGo t i ∧ kwGo t i ≤ t.length:=by
 intro m
 induction m using Nat.strongRecOn with
 | _ m ih =>
  intro i hm hi
  rw [kwGo]
  split
  ·rename_i h
   have:=kw_lt h
   split
   ·have:=ih _ (by omega) (runTo isNl t i + 1) rfl (by omega); omega
   ·have:=ih _ (by omega) (runTo isNl t i) rfl (by omega); omega
  ·omega
theorem mb_of {t : List UInt8} {p : QP} {fr : Nat} (h1 : fr ≤ p.pos) (h2 : p.pos ≤ t.length) (h3 : p.rs.length ≤ 8) (h4 : p.nms = []) (h5 : p.dv.length ≤ 1000) : MB t (t.length + 1 - p.pos) fr p:=
 ⟨h1,h2,by omega,by omega,by rw [h4]; exact Nat.zero_le _,h5⟩
theorem fenced_mb {t three : List UInt8} {p : QP} {k : Int} (h3 : three.length = 3) (hr : p.rs = []) (hm : p.nms = []) (hd : p.dv.length ≤ 1000) : (p.fenced t k three).over ∨ MB t (t.length + 1 - (p.fenced t k three).pos) (p.fenced t k three).pos (p.fenced t k three):=by
 unfold QP.fenced
 split
 ·exact Or.inl (fail_over p)
 split
 ·exact Or.inl (fail_over p)
 ·exact Or.inl (Or.inr rfl)
 ·rename_i i h
  have hb:=(fnGo_spec _ _ _ rfl h).2.1
  have hl:=(begS_at hb).1
  have he:=eolN_le (t:=t) (i:=i + 3) (by omega)
  refine Or.inr (mb_of (Nat.le_refl _) he ?_ hm hd)
  show (p.rs ++ [_]).length ≤ 8
  rw [hr]
  simp
theorem front_mb {t : List UInt8} {d : Bool} : ((qp0 d).front t).2.over ∨ MB t (t.length + 1 - ((qp0 d).front t).2.pos) ((qp0 d).front t).1 ((qp0 d).front t).2:=by
 have hdv : (qp0 d).dv.length ≤ 11:=by cases d <;> decide
 have hrs : (qp0 d).rs = []:=rfl
 have hnm : (qp0 d).nms = []:=rfl
 have hps : (qp0 d).pos = 0:=rfl
 generalize qp0 d = p at hdv hrs hnm hps
 have hal:=runTo_le (stop:=notW) (t:=t) _ p.pos rfl (by omega)
 unfold QP.front
 have hq : ∃ q : QP,q = { p with pos:=runTo notW t p.pos }:=⟨_,rfl⟩
 obtain ⟨q,hq⟩:=hq
 have hql : q.pos ≤ t.length:=by rw [hq]; exact hal.2
 have hqr : q.rs = []:=by rw [hq]; exact hrs
 have hqm : q.nms = []:=by rw [hq]; exact hnm
 have hqd : q.dv.length ≤ 1000:=by rw [hq]; show p.dv.length ≤ _; omega
 rw [← hq]
 clear hq
 unfold QP.frontA
 split
 ·exact Or.inr (mb_of (Nat.zero_le _) hql (by show q.rs.length ≤ 8; rw [hqr]; decide) hqm hqd)
 split
 ·exact fenced_mb rfl hqr hqm hqd
 split
 ·exact fenced_mb rfl hqr hqm hqd
 split
 ·unfold QP.brace
  split
  ·exact Or.inl (fail_over q)
  ·rename_i i h
   have hi:=brGo_spec _ _ _ _ _ rfl h
   have he:=eolN_le (t:=t) (i:=i + 1) (by omega)
   exact Or.inr (mb_of (Nat.le_refl _) he (by show (q.rs ++ [_]).length ≤ 8; rw [hqr]; simp) hqm hqd)
 split
 ·have hk:=kwGo_le (t:=t) _ q.pos rfl hql
  refine Or.inr (mb_of (Nat.le_refl _) hk.2 (by show (q.rs ++ [_]).length ≤ 8; rw [hqr]; simp) hqm ?_)
  show (if q.dv ≠ [] then bs100 else []).length ≤ 1000
  split
  ·decide
  ·exact Nat.zero_le _
 ·rename_i h _ _ _ _
  exact Or.inr (mb_of (Nat.zero_le _) (by show q.pos + 1 ≤ _; omega) (by show q.rs.length ≤ 8; rw [hqr]; decide) hqm hqd)
theorem sameItem_fn (x : RI) (w : World) : Fn PT 30 [x.val,x.val] w (fun u w' => u = .bool true ∧ Ext w w'):=by
 refine fn_of Tryz.func30 rfl Tryz.ntmps30 rfl ?_
 repeat(first|refine C0 ?_|refine C1 ?_)
 refine RE.xe (e_box (cells:=x.lst.toArray) rfl rfl) rfl ?_
 rintro _ w1 ⟨b1,rfl,hn1⟩
 refine RE.xe (e_box (cells:=x.lst.toArray) rfl rfl) rfl ?_
 rintro _ w2 ⟨b2,rfl,hn2⟩
 have hb1 : w2.heap[b1]? = some (.cells #[I x.ty,I x.pos,S x.text,.bool x.failed,.int .u16 x.is] 31 (0,0)):=hn2.ext.block hn1.here
 have hb2 : w2.heap[b2]? = some (.cells #[I x.ty,I x.pos,S x.text,.bool x.failed,.int .u16 x.is] 31 (0,0)):=hn2.here
 have e2 : Ext w w2:=hn1.ext.trans hn2.ext
 repeat(first|refine C0 ?_|refine C1 ?_|refine X1 rfl rfl ?_|refine X0 rfl rfl ?_|refine X3 rfl rfl rfl ?_|refine X22 rfl rfl hb1 rfl rfl ?_|refine X5 rfl rfl rfl ?_|refine C2 ?_)
 refine RE.splitD (fun h1 => ?_) (fun h1 => ?_)
 ·repeat(first|refine X3 rfl rfl rfl ?_|refine X22 rfl rfl hb2 rfl rfl ?_|refine X5 rfl rfl rfl ?_|refine X16 rfl rfl rfl rfl ?_|refine RE.want rfl rfl ?_|refine C2 ?_)
  refine CE.cond_d rfl (fun h2 => ?_) (fun h2 => absurd h1 h2)
  repeat(first|refine C0 ?_|refine C1 ?_|refine X3 rfl rfl rfl ?_|refine X22 rfl rfl hb1 rfl rfl ?_|refine X22 rfl rfl hb2 rfl rfl ?_)
  refine RE.x (op_eql_b rfl rfl Tryz.underlying4) rfl ?_
  repeat(first|refine X0 rfl rfl ?_|refine C2 ?_)
  (refine CE.ret ?_;(try dsimp only);refine ret1 rfl rfl ?_)
  exact ⟨by simp,e2⟩
 ·repeat(first|refine X17 rfl rfl rfl ?_|refine RE.nox rfl rfl rfl rfl ?_|refine C2 ?_)
  refine CE.cond_f rfl ?_
  refine C3 ?_
  repeat(first|refine C0 ?_|refine C1 ?_)
  refine X23 (kk:=5) (vs:=x.lst) rfl rfl hb1 rfl rfl rfl ?_
  refine X23 (kk:=5) (vs:=x.lst) rfl rfl hb2 rfl rfl rfl ?_
  refine RE.x (op_eql31 (a:=x) (b:=x) rfl rfl) rfl ?_
  repeat(first|refine X0 rfl rfl ?_|refine C2 ?_)
  (refine CE.ret ?_;(try dsimp only);refine ret1 rfl rfl ?_)
  exact ⟨by simp,e2⟩
theorem sameItems_fn {rs : List RI} {v v' : Value} {w : World} (h : RowR w v rs) (h' : RowR w v' rs) (hn : rs.length ≤ 20000000) :
  Fn PT 21 [v,v'] w (fun u w' => u = .bool true ∧ Ext w w'):=by
 obtain ⟨a0,cap0,hv,h⟩:=h
 subst hv
 obtain ⟨a1,cap1,hv,h'⟩:=h'
 subst hv
 have hmax : maxLen = 9223372036854775807:=rfl
 refine fn_of Tryz.func21 rfl Tryz.ntmps21 rfl ?_
 repeat(first|refine C0 ?_|refine C1 ?_|refine X1 rfl rfl ?_|refine X0 rfl rfl ?_|refine X6 rfl rfl rfl ?_|refine X13 rfl rfl rfl ?_|refine C2 ?_)
 refine CE.cond_d rfl (fun h0 => ?_) (fun _ => ?_)
 ·exact absurd rfl h0
 refine C3 ?_
 repeat(first|refine C0 ?_|refine C1 ?_|refine X1 rfl rfl ?_|refine X13 rfl rfl rfl ?_|refine C2 ?_)
 refine CE.cut (fun s ds w' => ds = [] ∧ Ext w w') ?_ ?_
 ·refine CE.block ?_
  refine CE.loop (α:=Nat) (fun k => [(13,I k),(12,I rs.length),(1,.slice a1 rs.length cap1),(0,.slice a0 rs.length cap0)])
   (fun k w' => Ext w w' ∧ k ≤ rs.length) (fun k => rs.length - k) 0 (by repeat first | trivial|refine ⟨rfl,?_⟩) ⟨Ext.refl _,Nat.zero_le _⟩ ?_
  rintro k w2 ⟨e2,hk⟩
  repeat(first|refine C0 ?_|refine C1 ?_|refine X7 rfl rfl rfl ?_|refine C2 ?_)
  refine CE.cond_d rfl (fun hlt => ?_) (fun hlt => ?_)
  ·have hkx : k < rs.length:=by omega
   obtain ⟨g,o,cur,rfl,hg,hcur⟩:=h k hkx
   obtain ⟨g',o',cur',rfl,hg',hcur'⟩:=h' k hkx
   have hg2 : w2.drew.heap[g]? = _:=e2.block hg
   have hg2' : w2.drew.heap[g']? = _:=e2.block hg'
   generalize rs[k] = x at hcur hcur'
   have e0 : o + (k : Int).toNat * 5 = o + k * 5:=by omega
   have e0' : o' + (k : Int).toNat * 5 = o' + k * 5:=by omega
   repeat(first|refine C0 ?_|refine C1 ?_|refine X1 rfl rfl ?_|refine X0 rfl rfl ?_|refine C2 ?_|refine CE.block ?_|refine C3 ?_)
   repeat refine C0 ?_
   refine CE.drawR Ext [0,0,0,0,0,0,0,0,0,0] mixed Ext.refl (fun _ _ _ => Ext.trans) (by decide +kernel) ?_
   repeat (refine Z1 rfl rfl ?_)
   refine RE.dd (fun _ _ => op_indexAddr rfl rfl rfl (by omega) (by omega)) rfl Ext.refl ?_
   rw [e0]
   refine RE.dd (fun _ hw => op_loadA (k:=5) (vs:=x.lst) rfl rfl (hw.block hg2) hcur rfl) rfl Ext.refl ?_
   repeat (refine Z1 rfl rfl ?_)
   refine RE.dd (fun _ _ => op_indexAddr rfl rfl rfl (by omega) (by omega)) rfl Ext.refl ?_
   rw [e0']
   refine RE.dd (fun _ hw => op_loadA (k:=5) (vs:=x.lst) rfl rfl (hw.block hg2') hcur' rfl) rfl Ext.refl ?_
   refine RE.dc en30 rfl rfl (fun w3 _ => sameItem_fn x w3) ?_
   repeat (refine Z11 rfl rfl ?_)
   refine C4 (fun w8 hw8 => ?_)
   refine CE.cond_f rfl ?_
   refine C3 ?_
   repeat(first|refine C1 ?_|refine X1 rfl rfl ?_|refine X18 rfl rfl (by omega) (by omega) rfl ?_)
   refine RE.nilx ?_
   exact ⟨k + 1,by show rs.length - (k + 1) < rs.length - k; omega,rfl,(by repeat first | trivial|refine ⟨rfl,?_⟩),e2.trans ((Ext.drew _).trans hw8),hkx⟩
  ·refine CE.exit ?_
   exact ⟨rfl,e2⟩
 rintro s _ w2 ⟨rfl,e2⟩
 repeat(first|refine C0 ?_|refine C1 ?_|refine X0 rfl rfl ?_|refine C2 ?_)
 (refine CE.ret ?_;(try dsimp only);refine ret1 rfl rfl ?_)
 exact ⟨rfl,e2⟩
theorem pageRead_fn {B : Nat} {t : List UInt8} {f d : Bool} {w : World} (ht : t.length ≤ 30000) (hB : B ≤ w.heap.size) :
  Fn PT 29 [S t,.bool f,.bool d] w (fun u w' => ∃ X v',u = Ptr X 0 ∧ QS X B t v' (readQ t f d) w' ∧ Ext w w'):=by
 refine fn_of Tryz.func29 rfl Tryz.ntmps29 rfl ?_
 repeat(first|refine C0 ?_|refine C1 ?_|refine X1 rfl rfl ?_|refine X0 rfl rfl ?_|refine C2 ?_)
 refine RE.x (op_build (cells:=(⟨0,[],[],[],[],false,false,false⟩ : QP).arr t ⟨.slice none 0 0,.slice none 0 0⟩) rfl (by kernel_rfl)) rfl ?_
 refine RE.xe (e_box (cells:=(⟨0,[],[],[],[],false,false,false⟩ : QP).arr t ⟨.slice none 0 0,.slice none 0 0⟩) rfl rfl) rfl ?_
 rintro _ w1 ⟨X,rfl,hn1⟩
 have g1 : QS X B t ⟨.slice none 0 0,.slice none 0 0⟩ ⟨0,[],[],[],[],false,false,false⟩ w1:=⟨hn1.here,⟨rfl,Or.inl ⟨rfl,rfl⟩⟩,⟨rfl,Or.inl ⟨rfl,rfl⟩⟩,by rw [hn1.num]; exact hB⟩
 have hX1 : w1.heap[X]? = some (.cells #[S t,I 0,S [],.slice none 0 0,.slice none 0 0,S [],.bool false,.bool false,.bool false] 48 (0,0)):=g1.at_
 have fin : ∀ {v' : QV} {p' : QP} {w' : World},QS X B t v' p' w' → QI X ⟨.slice none 0 0,.slice none 0 0⟩ v' w1 w' → ∃ X v',Ptr X 0 = Ptr X 0 ∧ QS X B t v' p' w' ∧ Ext w w':=by
  intro v' p' w' g i
  refine ⟨X,v',rfl,g,hn1.ext.fr i.fr ?_⟩
  rintro q (e | e | e)
  ·subst e; have:=hn1.num; omega
  ·cases e
  ·cases e
 repeat(first|refine C0 ?_|refine C1 ?_|refine X1 rfl rfl ?_|refine X0 rfl rfl ?_|refine C2 ?_)
 refine CE.cut (fun s ds w' => ds = [] ∧ QS X B t ⟨.slice none 0 0,.slice none 0 0⟩ (qp0 d) w' ∧ QI X ⟨.slice none 0 0,.slice none 0 0⟩ ⟨.slice none 0 0,.slice none 0 0⟩ w1 w' ∧ SubL [(7,Ptr X 0),(1,.bool f)] s) ?_ ?_
 ·refine CE.cond_s rfl (fun h1 => ?_) (fun h1 => ?_)
  ·subst h1
   repeat(first|refine C1 ?_|refine X1 rfl rfl ?_|refine X2 rfl rfl ?_|refine X3 rfl rfl rfl ?_)
   refine RE.xs (e_store rfl rfl rfl hX1 rfl rfl) ?_
   rintro _ w2 hu2
   obtain ⟨g2,i2⟩:=QS.upd (p':=qp0 true) g1 hu2 rfl rfl
   refine RE.nilx ?_
   exact ⟨rfl,g2,i2,(by repeat first | trivial|refine ⟨rfl,?_⟩)⟩
  ·subst h1
   exact CE.skip ⟨rfl,g1,QI.refl _ _ _,(by repeat first | trivial|refine ⟨rfl,?_⟩)⟩
 rintro s _ w2 ⟨rfl,g2,i2,hs⟩
 refine CE.sub hs ?_
 repeat(first|refine C0 ?_|refine C1 ?_|refine X1 rfl rfl ?_|refine X0 rfl rfl ?_|refine C2 ?_)
 refine CE.cut (fun s ds w' => ds = [] ∧ ∃ fr q v',QS X B t v' q w' ∧ QI X ⟨.slice none 0 0,.slice none 0 0⟩ v' w1 w' ∧ (q.over ∨ MB t (t.length + 1 - q.pos) fr q) ∧ readQ t f d = readA t fr q ∧ SubL [(8,I fr),(7,Ptr X 0)] s) ?_ ?_
 ·refine CE.cond_s rfl (fun h1 => ?_) (fun h1 => ?_)
  ·subst h1
   repeat(first|refine C1 ?_|refine X1 rfl rfl ?_)
   refine RE.xc en38 rfl rfl (front_qfn g2 ht (Nat.zero_le _) (Nat.zero_le _) (by cases d <;> decide)) ?_
   rintro _ w3 ⟨rfl,v3,g3,i3⟩
   have hmb:=front_mb (t:=t) (d:=d)
   repeat (refine X0 rfl rfl ?_)
   refine RE.nilx ?_
   exact ⟨rfl,_,_,v3,g3,i2.trans i3,hmb,rfl,(by repeat first | trivial|refine ⟨rfl,?_⟩)⟩
  ·subst h1
   exact CE.skip ⟨rfl,0,qp0 d,_,g2,i2,Or.inr (mb_of (Nat.le_refl _) (Nat.zero_le _) (Nat.zero_le _) rfl (by cases d <;> decide)),rfl,(by repeat first | trivial|refine ⟨rfl,?_⟩)⟩
 rintro s _ w3 ⟨rfl,fr,q,v3,g3,i3,hmb,hrd,hs⟩
 refine CE.sub hs ?_
 rw [hrd]
 unfold readA
 repeat(first|refine C0 ?_|refine C1 ?_|refine X1 rfl rfl ?_)
 refine RE.xc en39 rfl rfl (qdone_fn g3) ?_
 rintro _ w4 ⟨rfl,hw⟩
 subst hw
 repeat(first|refine X11 rfl rfl ?_|refine C2 ?_)
 refine CE.cut (fun s ds w' => ds = [] ∧ (∃ v',QS X B t v' (if q.wrong = true ∨ q.opn = true then q else mainN t (t.length + 1 - q.pos) fr q) w' ∧ QI X ⟨.slice none 0 0,.slice none 0 0⟩ v' w1 w') ∧ SubL [(7,Ptr X 0)] s) ?_ ?_
 ·refine CE.cond_s rfl (fun h1 => ?_) (fun h1 => ?_)
  ·have hov : ¬ (q.wrong = true ∨ q.opn = true):=by
    rintro (e | e) <;> (rw [e] at h1; simp at h1)
   rw [if_neg hov]
   repeat(first|refine C1 ?_|refine X1 rfl rfl ?_)
   refine RE.xc en40 rfl rfl (main_qfn g3 ht hmb) ?_
   rintro _ w5 ⟨rfl,v5,g5,i5⟩
   refine RE.nilx ?_
   exact ⟨rfl,⟨v5,g5,i3.trans i5⟩,(by repeat first | trivial|refine ⟨rfl,?_⟩)⟩
  ·have hov : q.wrong = true ∨ q.opn = true:=by
    cases e1 : q.wrong <;> cases e2 : q.opn <;> simp_all
   rw [if_pos hov]
   exact CE.skip ⟨rfl,⟨v3,g3,i3⟩,(by repeat first | trivial|refine ⟨rfl,?_⟩)⟩
 rintro s _ w5 ⟨rfl,⟨v5,g5,i5⟩,hs⟩
 refine CE.sub hs ?_
 repeat(first|refine C0 ?_|refine C1 ?_|refine X1 rfl rfl ?_|refine X0 rfl rfl ?_|refine C2 ?_)
 (refine CE.ret ?_;(try dsimp only);refine ret1 rfl rfl ?_)
 obtain ⟨_,_,_,g6,e6⟩:=fin g5 i5
 exact ⟨X,v5,rfl,g5,e6⟩
def qWrong (t : List UInt8) (f d : Bool) : Bool:=if 20000 < t.length ∨ asciiB t = false then false else (!(readQ t f d).opn && (readQ t f d).wrong)
def qKnown (t : List UInt8) (f d : Bool) : Bool:=if 20000 < t.length ∨ asciiB t = false then false else (!(readQ t f d).opn && !(readQ t f d).loose)
theorem pageWrong_fn {t : List UInt8} {f d : Bool} {w : World} (ht : t.length ≤ 70000) : Fn PT 18 [S t,.bool f,.bool d] w (fun u w' => u = .bool (qWrong t f d) ∧ Ext w w'):=by
 refine fn_of Tryz.func18 rfl Tryz.ntmps18 rfl ?_
 unfold qWrong
 repeat(first|refine C0 ?_|refine C1 ?_|refine X1 rfl rfl ?_|refine X0 rfl rfl ?_|refine X9 rfl rfl rfl ?_|refine X14 rfl Tryz.underlying9 rfl ?_|refine C2 ?_)
 refine RE.cut (fun s ds w' => ds = [] ∧ w' = w ∧ SubL [(15,.bool (decide (20000 < t.length ∨ asciiB t = false))),(2,.bool d),(1,.bool f),(0,S t)] s) ?_ ?_
 ·refine RE.splitD (fun h1 => ?_) (fun h1 => ?_)
  ·rw [decide_eq_true (show 20000 < t.length ∨ asciiB t = false from Or.inl (by omega))]
   repeat(first|refine X16 rfl rfl rfl rfl ?_|refine RE.nox rfl rfl rfl rfl ?_)
   refine RE.nilx ?_
   exact ⟨rfl,rfl,(by repeat first | trivial|refine ⟨rfl,?_⟩)⟩
  ·have hcb : decide (20000 < t.length ∨ asciiB t = false) = !asciiB t:=by
    cases asciiB t with
    | true => exact decide_eq_false (by simp; omega)
    | false => exact decide_eq_true (Or.inr rfl)
   rw [hcb]
   repeat(first|refine X1 rfl rfl ?_|refine RE.want rfl rfl ?_)
   refine RE.xc en28 rfl rfl (ascii_fn (by omega)) ?_
   rintro _ w1 ⟨rfl,hw⟩
   subst hw
   repeat(first|refine X11 rfl rfl ?_|refine X17 rfl rfl rfl ?_|refine RE.want rfl rfl ?_)
   refine RE.nilx ?_
   exact ⟨rfl,rfl,(by repeat first | trivial|refine ⟨rfl,?_⟩)⟩
 rintro s _ w1 ⟨rfl,hw,hs⟩
 subst hw
 refine CE.sub hs ?_
 refine CE.cond_d rfl (fun h1 => ?_) (fun h1 => ?_)
 ·rw [if_pos h1]
  repeat(first|refine C0 ?_|refine C1 ?_|refine X0 rfl rfl ?_|refine C2 ?_)
  (refine CE.ret ?_;(try dsimp only);refine ret1 rfl rfl ?_)
  exact ⟨rfl,Ext.refl _⟩
 rw [if_neg h1]
 refine C3 ?_
 repeat(first|refine C0 ?_|refine C1 ?_|refine X1 rfl rfl ?_)
 refine RE.xc en29 rfl rfl (pageRead_fn (B:=w1.heap.size) (by omega) (Nat.le_refl _)) ?_
 rintro _ w2 ⟨X,v2,rfl,g2,e2⟩
 generalize readQ t f d = q at g2
 have hX2 : HX X w2 t q.pos q.dv v2.l v2.nm q.inl q.wrong q.opn q.loose:=g2.at_
 repeat(first|refine C0 ?_|refine C1 ?_|refine X1 rfl rfl ?_|refine X0 rfl rfl ?_|refine X2 rfl rfl ?_|refine X3 rfl rfl rfl ?_|refine X22 rfl rfl hX2 rfl rfl ?_|refine X11 rfl rfl ?_|refine C2 ?_)
 cases h2 : q.opn with
 | true =>
  rw [h2] at hX2
  repeat(first|refine X0 rfl rfl ?_|refine X17 rfl rfl rfl ?_|refine RE.nox rfl rfl rfl rfl ?_|refine C2 ?_)
  (refine CE.ret ?_;(try dsimp only);refine ret1 rfl rfl ?_)
  exact ⟨by simp,e2⟩
 | false =>
  rw [h2] at hX2
  repeat(first|refine X1 rfl rfl ?_|refine X0 rfl rfl ?_|refine X2 rfl rfl ?_|refine X3 rfl rfl rfl ?_|refine X22 rfl rfl hX2 rfl rfl ?_|refine X16 rfl rfl rfl rfl ?_|refine RE.want rfl rfl ?_|refine C2 ?_)
  (refine CE.ret ?_;(try dsimp only);refine ret1 rfl rfl ?_)
  exact ⟨by simp,e2⟩
theorem pageKnown_fn {t : List UInt8} {f d : Bool} {w : World} (ht : t.length ≤ 70000) : Fn PT 20 [S t,.bool f,.bool d] w (fun u w' => u = .bool (qKnown t f d) ∧ Ext w w'):=by
 refine fn_of Tryz.func20 rfl Tryz.ntmps20 rfl ?_
 unfold qKnown
 repeat(first|refine C0 ?_|refine C1 ?_|refine X1 rfl rfl ?_|refine X0 rfl rfl ?_|refine X9 rfl rfl rfl ?_|refine X14 rfl Tryz.underlying9 rfl ?_|refine C2 ?_)
 refine RE.cut (fun s ds w' => ds = [] ∧ w' = w ∧ SubL [(15,.bool (decide (20000 < t.length ∨ asciiB t = false))),(2,.bool d),(1,.bool f),(0,S t)] s) ?_ ?_
 ·refine RE.splitD (fun h1 => ?_) (fun h1 => ?_)
  ·rw [decide_eq_true (show 20000 < t.length ∨ asciiB t = false from Or.inl (by omega))]
   repeat(first|refine X16 rfl rfl rfl rfl ?_|refine RE.nox rfl rfl rfl rfl ?_)
   refine RE.nilx ?_
   exact ⟨rfl,rfl,(by repeat first | trivial|refine ⟨rfl,?_⟩)⟩
  ·have hcb : decide (20000 < t.length ∨ asciiB t = false) = !asciiB t:=by
    cases asciiB t with
    | true => exact decide_eq_false (by simp; omega)
    | false => exact decide_eq_true (Or.inr rfl)
   rw [hcb]
   repeat(first|refine X1 rfl rfl ?_|refine RE.want rfl rfl ?_)
   refine RE.xc en28 rfl rfl (ascii_fn (by omega)) ?_
   rintro _ w1 ⟨rfl,hw⟩
   subst hw
   repeat(first|refine X11 rfl rfl ?_|refine X17 rfl rfl rfl ?_|refine RE.want rfl rfl ?_)
   refine RE.nilx ?_
   exact ⟨rfl,rfl,(by repeat first | trivial|refine ⟨rfl,?_⟩)⟩
 rintro s _ w1 ⟨rfl,hw,hs⟩
 subst hw
 refine CE.sub hs ?_
 refine CE.cond_d rfl (fun h1 => ?_) (fun h1 => ?_)
 ·rw [if_pos h1]
  repeat(first|refine C0 ?_|refine C1 ?_|refine X0 rfl rfl ?_|refine C2 ?_)
  (refine CE.ret ?_;(try dsimp only);refine ret1 rfl rfl ?_)
  exact ⟨rfl,Ext.refl _⟩
 rw [if_neg h1]
 refine C3 ?_
 repeat(first|refine C0 ?_|refine C1 ?_|refine X1 rfl rfl ?_)
 refine RE.xc en29 rfl rfl (pageRead_fn (B:=w1.heap.size) (by omega) (Nat.le_refl _)) ?_
 rintro _ w2 ⟨X,v2,rfl,g2,e2⟩
 generalize readQ t f d = q at g2
 have hX2 : HX X w2 t q.pos q.dv v2.l v2.nm q.inl q.wrong q.opn q.loose:=g2.at_
 repeat(first|refine C0 ?_|refine C1 ?_|refine X1 rfl rfl ?_|refine X0 rfl rfl ?_|refine X2 rfl rfl ?_|refine X3 rfl rfl rfl ?_|refine X22 rfl rfl hX2 rfl rfl ?_|refine X11 rfl rfl ?_|refine C2 ?_)
 cases h2 : q.opn with
 | true =>
  rw [h2] at hX2
  repeat(first|refine X0 rfl rfl ?_|refine X17 rfl rfl rfl ?_|refine RE.nox rfl rfl rfl rfl ?_|refine C2 ?_)
  (refine CE.ret ?_;(try dsimp only);refine ret1 rfl rfl ?_)
  exact ⟨by simp,e2⟩
 | false =>
  rw [h2] at hX2
  repeat(first|refine X1 rfl rfl ?_|refine X0 rfl rfl ?_|refine X2 rfl rfl ?_|refine X3 rfl rfl rfl ?_|refine X22 rfl rfl hX2 rfl rfl ?_|refine X11 rfl rfl ?_|refine X16 rfl rfl rfl rfl ?_|refine RE.want rfl rfl ?_|refine C2 ?_)
  (refine CE.ret ?_;(try dsimp only);refine ret1 rfl rfl ?_)
  exact ⟨by simp,e2⟩
theorem specParse_fn {t : List UInt8} {f d : Bool} {w : World} (ht : t.length ≤ 30000) : Fn PT 22 [S t,.bool f,.bool d] w (fun u w' => RowR w' u (readQ t f d).rs ∧ Ext w w'):=by
 refine fn_of Tryz.func22 rfl Tryz.ntmps22 rfl ?_
 repeat(first|refine C0 ?_|refine C1 ?_|refine X1 rfl rfl ?_|refine X0 rfl rfl ?_|refine C2 ?_)
 refine RE.xc en29 rfl rfl (pageRead_fn (B:=w.heap.size) ht (Nat.le_refl _)) ?_
 rintro _ w2 ⟨X,v2,rfl,g2,e2⟩
 generalize readQ t f d = q at g2
 have hX2 : HX X w2 t q.pos q.dv v2.l v2.nm q.inl q.wrong q.opn q.loose:=g2.at_
 repeat(first|refine X0 rfl rfl ?_|refine X2 rfl rfl ?_|refine X3 rfl rfl rfl ?_|refine X22 rfl rfl hX2 rfl rfl ?_|refine C2 ?_)
 (refine CE.ret ?_;(try dsimp only);refine ret1 rfl rfl ?_)
 exact ⟨RowR.of g2.ol,e2⟩
end Go.Wk
