/- The specification's lexer: the main part. -/
import Derived.Test.YtmbencknblcocaaGreatDoorYbi
namespace Go.Wk
open Go Go.RowKit Go.Proofs
set_option maxRecDepth 100000
structure MB (t : List UInt8) (n fr : Nat) (p : QP) : Prop where
 fp : fr ≤ p.pos
 pl : p.pos ≤ t.length
 nn : t.length + 1 ≤ n + p.pos
 rs : p.rs.length ≤ 8 * fr + 8
 nm : p.nms.length ≤ p.pos
 dv : p.dv.length ≤ 1000
set_option maxHeartbeats 16000000 in
theorem main_qfn {X B n0 fr0 : Nat} {t : List UInt8} {v0 : QV} {p0 : QP} {w0 : World} (h : QS X B t v0 p0 w0) (ht : t.length ≤ 30000) (hb : p0.over ∨ MB t n0 fr0 p0) :
  QF X B t v0 w0 40 [I fr0] (.tuple #[]) (mainN t n0 fr0 p0):=by
 refine fn_of Tryz.func40 rfl Tryz.ntmps40 rfl ?_
 skip
 refine CE.cut (fun s ds w' => ds = [] ∧ ∃ v',QS X B t v' (mainN t n0 fr0 p0) w' ∧ QI X v0 v' w0 w') ?_ ?_
 ·refine CE.block ?_
  refine CE.loop (α:=Nat × Nat × QP) (fun x => [(1,I x.2.1),(0,Ptr X 0)])
   (fun x w' => (∃ v',QS X B t v' x.2.2 w' ∧ QI X v0 v' w0 w') ∧ (x.2.2.over ∨ MB t x.1 x.2.1 x.2.2) ∧ mainN t n0 fr0 p0 = mainN t x.1 x.2.1 x.2.2) (fun x => x.1) (n0,fr0,p0)
   (by repeat first | trivial|refine ⟨rfl,?_⟩) ⟨⟨v0,h,QI.refl _ _ _⟩,hb,rfl⟩ ?_
  rintro ⟨n,fr,p⟩ w ⟨⟨v,g,i⟩,hov,hrun⟩
  dsimp only at g hov hrun
  rw [hrun]
  refine (show CE _ _ _ _ [(1,I fr),(0,Ptr X 0)] _ _ from ?_)
  repeat(first|refine C0 ?_|refine C1 ?_|refine X1 rfl rfl ?_)
  refine RE.xc en39 rfl rfl (qdone_fn g) ?_
  rintro _ w1 ⟨rfl,hw⟩
  subst hw
  repeat(first|refine X11 rfl rfl ?_|refine C2 ?_)
  refine CE.cond_s rfl (fun h1 => ?_) (fun h1 => ?_)
  ·have hov2 : ¬ p.over:=by
    rintro (e | e) <;> (rw [e] at h1; simp at h1)
   have hB:=hov.resolve_left hov2
   have hB1:=hB.fp; have hB2:=hB.pl; have hB3:=hB.nn; have hB4:=hB.rs; have hB5:=hB.nm; have hB6:=hB.dv
   obtain ⟨m,rfl⟩ : ∃ m,n = m + 1:=⟨n - 1,by omega⟩
   have hgo : mainN t (m + 1) fr p = _:=mainN.eq_2 t fr p m
   rw [if_neg (show ¬ (p.wrong = true ∨ p.opn = true) from hov2)] at hgo
   have hMB : ∀ {fr' : Nat} {q : QP},fr' ≤ q.pos → q.pos ≤ t.length → p.pos < q.pos → q.rs.length ≤ 8 * fr' + 8 → q.nms.length ≤ q.pos → q.dv.length ≤ 1000 → MB t m fr' q:=fun a b c d e f => ⟨a,b,by omega,d,e,f⟩
   have next : ∀ {v' : QV} {q : QP} {fr' : Nat} {w' : World} {s : Slots},QS X B t v' q w' → QI X v0 v' w0 w' → mainN t (m + 1) fr p = mainN t m fr' q → (q.over ∨ MB t m fr' q) → SubL [(1,I fr'),(0,Ptr X 0)] s →
     ∃ y : Nat × Nat × QP,y.1 < m + 1 ∧ ([] : List Deferred) = [] ∧ SubL [(1,I y.2.1),(0,Ptr X 0)] s ∧ (∃ v',QS X B t v' y.2.2 w' ∧ QI X v0 v' w0 w') ∧ (y.2.2.over ∨ MB t y.1 y.2.1 y.2.2) ∧ mainN t (m + 1) fr p = mainN t y.1 y.2.1 y.2.2:=
    fun {v'} {q} {fr'} {w'} {s} a b c d e => ⟨(m,fr',q),Nat.lt_succ_self m,rfl,e,⟨v',a,b⟩,d,c⟩
   refine C3 ?_
   repeat refine C0 ?_
   refine CE.block ?_
   repeat refine C0 ?_
   refine CE.block ?_
   have hX1 : HX X w1.drew t p.pos p.dv v.l v.nm p.inl p.wrong p.opn p.loose:=g.at_
   have g2:=g.ext (Ext.drew w1)
   have i2:=i.ext_r (Ext.drew w1)
   repeat refine C0 ?_
   refine CE.draw [0,0,0,0,0,0,0,0,0,0,0] mixed (by decide +kernel) ?_
   repeat(first|refine Y1 rfl rfl ?_|refine Y0 rfl rfl ?_|refine Y2 rfl rfl ?_|refine Y3 rfl rfl rfl ?_|refine Y22 rfl rfl hX1 rfl rfl ?_|refine Y10 rfl rfl rfl ?_|refine Y14 rfl Tryz.underlying9 rfl ?_|refine C2 ?_)
   generalize w1.drew = w2 at hX1 g2 i2
   refine CE.cond_d rfl (fun h2 => ?_) (fun h2 => ?_)
   ·rw [if_pos (show t.length ≤ p.pos by omega)] at hgo
    rw [hgo]
    repeat(first|refine C0 ?_|refine C1 ?_|refine X1 rfl rfl ?_|refine X2 rfl rfl ?_|refine X3 rfl rfl rfl ?_|refine X22 rfl rfl hX1 rfl rfl ?_|refine X14 rfl Tryz.underlying9 rfl ?_)
    refine RE.xc en64 rfl rfl (text_qfn (fr:=fr) (to:=t.length) (empty:=false) g2 (by omega) (by omega) (by omega) (Nat.le_refl _)) ?_
    rintro _ w3 ⟨rfl,v3,g3,i3⟩
    obtain ⟨rs3,ht3⟩:=text_same t p fr t.length false
    have hl3:=text_len t p fr t.length false
    generalize p.text t fr t.length false = p3 at g3 ht3 hl3
    have hp3 : p3.pos = p.pos:=by rw [ht3]
    have hX3 : HX X w3 t p3.pos p3.dv v3.l v3.nm p3.inl p3.wrong p3.opn p3.loose:=g3.at_
    repeat(first|refine C0 ?_|refine C1 ?_|refine X1 rfl rfl ?_|refine X2 rfl rfl ?_|refine X3 rfl rfl rfl ?_|refine X22 rfl rfl hX3 rfl rfl ?_|refine X14 rfl Tryz.underlying9 rfl ?_|refine C2 ?_)
    refine RE.xc en65 rfl rfl (qput_fn (kind:=1) (fr:=t.length) (tx:=[]) g3 (by omega) (by decide)) ?_
    rintro _ w4 ⟨rfl,v4,g4,i4⟩
    repeat (refine C2 ?_)
    refine CE.ret ?_
    (try dsimp only)
    refine ret0 rfl ?_
    exact ⟨rfl,_,g4,(i2.trans i3).trans i4⟩
   have hpt : p.pos < t.length:=by omega
   rw [if_neg (show ¬ t.length ≤ p.pos by omega)] at hgo
   have hX2 : HX X w2.drew t p.pos p.dv v.l v.nm p.inl p.wrong p.opn p.loose:=hX1
   have g3:=g2.ext (Ext.drew w2)
   have i3:=i2.ext_r (Ext.drew w2)
   repeat refine C0 ?_
   refine CE.draw [0,0,0,0,0,0,0,0,0,0] mixed (by decide +kernel) ?_
   repeat(first|refine Y1 rfl rfl ?_|refine Y2 rfl rfl ?_|refine Y3 rfl rfl rfl ?_|refine Y22 rfl rfl hX2 rfl rfl ?_)
   refine RE.dc en34 rfl rfl (fun w11 _ => pageHasE (i:=p.pos) (x:=[123,123,123]) (by omega) (by decide) (by omega)) ?_
   repeat(first|refine Y0 rfl rfl ?_|refine C2 ?_)
   generalize w2.drew = w3 at hX2 g3 i3
   refine CE.cond_s rfl (fun h3 => ?_) (fun h3 => ?_)
   ·rw [if_pos h3] at hgo
    repeat(first|refine C1 ?_|refine X1 rfl rfl ?_|refine X2 rfl rfl ?_|refine X3 rfl rfl rfl ?_)
    refine RE.xs (e_store rfl rfl rfl hX2 rfl rfl) ?_
    rintro _ w4 hu4
    obtain ⟨g4,i4⟩:=QS.upd (p':=p.opened) g3 hu4 rfl rfl
    refine RE.nilx ?_
    exact next (fr':=fr) g4 (i3.trans i4) (hgo.trans (mainN_over (opened_over p)).symm) (Or.inl (opened_over p)) (by repeat first | trivial|refine ⟨rfl,?_⟩)
   rw [if_neg (by rw [h3]; simp)] at hgo
   have hX3 : HX X w3.drew t p.pos p.dv v.l v.nm p.inl p.wrong p.opn p.loose:=hX2
   have g4:=g3.ext (Ext.drew w3)
   have i4:=i3.ext_r (Ext.drew w3)
   repeat refine C0 ?_
   refine CE.cut (fun s ds w' => ds = [] ∧ w' = w3.drew ∧ SubL [(53,.bool (begS t p.pos cm1 || begS t p.pos cm2)),(1,I fr),(0,Ptr X 0)] s) ?_ ?_
   ·refine CE.draw [0,0,0,0,0,0,0,0,0,0,0,0,0,0,0,0,0,0,0,0,0] mixed (by decide +kernel) ?_
    repeat(first|refine Y1 rfl rfl ?_|refine Y2 rfl rfl ?_|refine Y3 rfl rfl rfl ?_|refine Y22 rfl rfl hX3 rfl rfl ?_)
    refine RE.dc en34 rfl rfl (fun w11 _ => pageHasE (i:=p.pos) (x:=cm1) (by omega) (by decide) (by omega)) ?_
    repeat (refine Y1 rfl rfl ?_)
    cases h5 : begS t p.pos cm1 with
    | true =>
     repeat(first|refine Y0 rfl rfl ?_|refine Y16 rfl rfl rfl rfl ?_|refine RE.no0 rfl rfl rfl rfl ?_)
     refine RE.nilx ?_
     exact ⟨rfl,rfl,(by repeat first | trivial|refine ⟨rfl,?_⟩)⟩
    | false =>
     repeat(first|refine Y1 rfl rfl ?_|refine Y2 rfl rfl ?_|refine Y3 rfl rfl rfl ?_|refine Y22 rfl rfl hX3 rfl rfl ?_|refine RE.want rfl rfl ?_)
     refine RE.dc en34 rfl rfl (fun w11 _ => pageHasE (i:=p.pos) (x:=cm2) (by omega) (by decide) (by omega)) ?_
     repeat(first|refine Y0 rfl rfl ?_|refine Y17 rfl rfl rfl ?_)
     refine RE.nilx ?_
     exact ⟨rfl,rfl,(by repeat first | trivial|refine ⟨rfl,?_⟩)⟩
   rintro s _ w4 ⟨rfl,hw,hs⟩
   subst hw
   refine CE.sub hs ?_
   generalize w3.drew = w4 at hX3 g4 i4
   have htl:=text_len0 t p (show fr ≤ p.pos from hB1)
   obtain ⟨rs5,ht5⟩:=text_same t p fr p.pos false
   have textw : ∀ {w' : World},QS X B t v p w' → QF X B t v w' 64 [I fr,I p.pos,.bool false] (.tuple #[]) (p.text t fr p.pos false):=fun gg => text_qfn (fr:=fr) (to:=p.pos) (empty:=false) gg (by omega) (by omega) hB1 hB2
   generalize p.text t fr p.pos false = p1 at hgo htl ht5 textw
   have hp1 : p1.pos = p.pos:=by rw [ht5]
   have hd1 : p1.dv = p.dv:=by rw [ht5]
   have hm1 : p1.nms = p.nms:=by rw [ht5]
   have hr1 : p1.rs.length ≤ 8 * p.pos + 8:=by omega
   refine CE.cond_s rfl (fun h5 => ?_) (fun h5 => ?_)
   ·rw [if_pos (by simpa using h5)] at hgo
    have h55 : p1.pos + 5 ≤ t.length:=by
     rw [hp1]
     rcases (show begS t p.pos cm1 = true ∨ begS t p.pos cm2 = true by simpa using h5) with e | e
     ·exact (begS_at e).1
     ·exact (begS_at e).1
    repeat(first|refine C0 ?_|refine C1 ?_|refine X1 rfl rfl ?_|refine X2 rfl rfl ?_|refine X3 rfl rfl rfl ?_|refine X22 rfl rfl hX3 rfl rfl ?_)
    refine RE.xc en64 rfl rfl (textw g4) ?_
    rintro _ w5 ⟨rfl,v5,g5,i5⟩
    repeat(first|refine C0 ?_|refine C1 ?_|refine X1 rfl rfl ?_|refine C2 ?_)
    refine RE.xc en66 rfl rfl (comment_qfn g5 (by omega) (by omega) h55) ?_
    rintro _ w6 ⟨rfl,v6,g6,i6⟩
    have hgw:=gw_comment (t:=t) (p:=p1) h55
    have hdv:=comment_dv t p1
    generalize p1.comment t = q at g6 hgw hgo hdv
    have hX6 : HX X w6 t q.pos q.dv v6.l v6.nm q.inl q.wrong q.opn q.loose:=g6.at_
    repeat(first|refine C1 ?_|refine X1 rfl rfl ?_|refine X0 rfl rfl ?_|refine X2 rfl rfl ?_|refine X3 rfl rfl rfl ?_|refine X22 rfl rfl hX6 rfl rfl ?_|refine C2 ?_)
    refine RE.nilx ?_
    refine next (fr':=q.pos) g6 ((i4.trans i5).trans i6) hgo ?_ (by repeat first | trivial|refine ⟨rfl,?_⟩)
    rcases hgw with hgw | hgw
    ·exact Or.inl hgw
    ·have k1:=hgw.lt; have k2:=hgw.rs; have k3:=hgw.nm
     rw [hm1] at k3
     exact Or.inr (hMB (Nat.le_refl _) hgw.le (by omega) (by omega) (by omega) (by rw [hdv,hd1]; exact hB6))
   rw [if_neg (by simpa using h5)] at hgo
   have hX4 : HX X w4.drew t p.pos p.dv v.l v.nm p.inl p.wrong p.opn p.loose:=hX3
   have g5:=g4.ext (Ext.drew w4)
   have i5:=i4.ext_r (Ext.drew w4)
   repeat refine C0 ?_
   refine CE.cut (fun s ds w' => ds = [] ∧ w' = w4.drew ∧ SubL [(87,.bool (begS t p.pos bs137 || begS t p.pos bs124)),(1,I fr),(0,Ptr X 0)] s) ?_ ?_
   ·refine CE.draw [0,0,0,0,0,0,0,0,0,0,0,0,0,0,0,0,0,0,0,0,0] mixed (by decide +kernel) ?_
    repeat(first|refine Y1 rfl rfl ?_|refine Y2 rfl rfl ?_|refine Y3 rfl rfl rfl ?_|refine Y22 rfl rfl hX4 rfl rfl ?_)
    refine RE.dc en34 rfl rfl (fun w11 _ => pageHasE (i:=p.pos) (x:=bs137) (by omega) (by decide) (by omega)) ?_
    repeat (refine Y1 rfl rfl ?_)
    cases h6 : begS t p.pos bs137 with
    | true =>
     repeat(first|refine Y0 rfl rfl ?_|refine Y16 rfl rfl rfl rfl ?_|refine RE.no0 rfl rfl rfl rfl ?_)
     refine RE.nilx ?_
     exact ⟨rfl,rfl,(by repeat first | trivial|refine ⟨rfl,?_⟩)⟩
    | false =>
     repeat(first|refine Y1 rfl rfl ?_|refine Y2 rfl rfl ?_|refine Y3 rfl rfl rfl ?_|refine Y22 rfl rfl hX4 rfl rfl ?_|refine RE.want rfl rfl ?_)
     refine RE.dc en34 rfl rfl (fun w11 _ => pageHasE (i:=p.pos) (x:=bs124) (by omega) (by decide) (by omega)) ?_
     repeat(first|refine Y0 rfl rfl ?_|refine Y17 rfl rfl rfl ?_)
     refine RE.nilx ?_
     exact ⟨rfl,rfl,(by repeat first | trivial|refine ⟨rfl,?_⟩)⟩
   rintro s _ w5 ⟨rfl,hw,hs⟩
   subst hw
   refine CE.sub hs ?_
   generalize w4.drew = w5 at hX4 g5 i5
   refine CE.cond_s rfl (fun h6 => ?_) (fun h6 => ?_)
   ·rw [if_pos (by simpa using h6)] at hgo
    have h33 : p1.pos + 3 ≤ t.length:=by
     rw [hp1]
     rcases (show begS t p.pos bs137 = true ∨ begS t p.pos bs124 = true by simpa using h6) with e | e
     ·exact (begS_at e).1
     ·exact (begS_at e).1
    repeat(first|refine C0 ?_|refine C1 ?_|refine X1 rfl rfl ?_|refine X2 rfl rfl ?_|refine X3 rfl rfl rfl ?_|refine X22 rfl rfl hX4 rfl rfl ?_)
    refine RE.xc en64 rfl rfl (textw g5) ?_
    rintro _ w6 ⟨rfl,v6,g6,i6⟩
    repeat(first|refine C0 ?_|refine C1 ?_|refine X1 rfl rfl ?_|refine C2 ?_)
    refine RE.xc en67 rfl rfl (shortcode_qfn g6 ht (by omega) (by rw [hm1]; omega) h33) ?_
    rintro _ w7 ⟨rfl,v7,g7,i7⟩
    have hgw:=gw_shortcode (t:=t) (p:=p1) h33
    have hdv:=shortcode_dv t p1
    generalize p1.shortcode t = q at g7 hgw hgo hdv
    have hX7 : HX X w7 t q.pos q.dv v7.l v7.nm q.inl q.wrong q.opn q.loose:=g7.at_
    repeat(first|refine C1 ?_|refine X1 rfl rfl ?_|refine X0 rfl rfl ?_|refine X2 rfl rfl ?_|refine X3 rfl rfl rfl ?_|refine X22 rfl rfl hX7 rfl rfl ?_|refine C2 ?_)
    refine RE.nilx ?_
    refine next (fr':=q.pos) g7 ((i5.trans i6).trans i7) hgo ?_ (by repeat first | trivial|refine ⟨rfl,?_⟩)
    rcases hgw with hgw | hgw
    ·exact Or.inl hgw
    ·have k1:=hgw.lt; have k2:=hgw.rs; have k3:=hgw.nm
     rw [hm1] at k3
     exact Or.inr (hMB (Nat.le_refl _) hgw.le (by omega) (by omega) (by omega) (by rw [hdv,hd1]; exact hB6))
   rw [if_neg (by simpa using h6)] at hgo
   have hX5 : HX X w5.drew t p.pos p.dv v.l v.nm p.inl p.wrong p.opn p.loose:=hX4
   have g6:=g5.ext (Ext.drew w5)
   have i6:=i5.ext_r (Ext.drew w5)
   repeat refine C0 ?_
   refine CE.draw [0,0,0,0,0,0,0,0,0,0] mixed (by decide +kernel) ?_
   repeat(first|refine Y1 rfl rfl ?_|refine Y2 rfl rfl ?_|refine Y3 rfl rfl rfl ?_|refine Y22 rfl rfl hX5 rfl rfl ?_)
   refine RE.dc en34 rfl rfl (fun w11 _ => pageHasE (i:=p.pos) (x:=bs120) (by omega) (by decide) (by omega)) ?_
   repeat(first|refine Y0 rfl rfl ?_|refine C2 ?_)
   generalize w5.drew = w6 at hX5 g6 i6
   refine CE.cond_s rfl (fun h7 => ?_) (fun h7 => ?_)
   ·rw [if_pos h7] at hgo
    have h22:=(begS_at h7).1
    rw [show bs120.length = 2 from rfl] at h22
    repeat(first|refine C0 ?_|refine C1 ?_|refine X1 rfl rfl ?_|refine X2 rfl rfl ?_|refine X3 rfl rfl rfl ?_|refine X22 rfl rfl hX5 rfl rfl ?_)
    refine RE.xc en64 rfl rfl (textw g6) ?_
    rintro _ w7 ⟨rfl,v7,g7,i7⟩
    have hX7 : HX X w7 t p.pos p1.dv v7.l v7.nm p1.inl p1.wrong p1.opn p1.loose:=by rw [← hp1]; exact g7.at_
    repeat(first|refine C0 ?_|refine C1 ?_|refine X1 rfl rfl ?_|refine X0 rfl rfl ?_|refine X2 rfl rfl ?_|refine X3 rfl rfl rfl ?_|refine X22 rfl rfl hX7 rfl rfl ?_|refine X18 rfl rfl (by omega) (by omega) rfl ?_|refine C2 ?_)
    refine RE.xs (e_store rfl rfl rfl hX7 rfl rfl) ?_
    rintro _ w8 hu8
    obtain ⟨g8,i8⟩:=QS.upd (p':={ p1 with pos:=p.pos + 2 }) g7 hu8 rfl rfl
    refine RE.nilx ?_
    exact next (fr':=p.pos) g8 ((i6.trans i7).trans i8) hgo (Or.inr (hMB (by show p.pos ≤ p.pos + 2; omega) h22 (by show p.pos < p.pos + 2; omega) hr1 (by show p1.nms.length ≤ p.pos + 2; rw [hm1]; omega) (by show p1.dv.length ≤ _; rw [hd1]; exact hB6))) (by repeat first | trivial|refine ⟨rfl,?_⟩)
   rw [if_neg (by rw [h7]; simp)] at hgo
   have hX6 : HX X w6.drew t p.pos p.dv v.l v.nm p.inl p.wrong p.opn p.loose:=hX5
   have g7:=g6.ext (Ext.drew w6)
   have i7:=i6.ext_r (Ext.drew w6)
   repeat refine C0 ?_
   refine CE.cut (fun s ds w' => ds = [] ∧ w' = w6.drew ∧ SubL [(149,.bool (decide (p.dv ≠ [] ∧ begS t p.pos p.dv = true))),(1,I fr),(0,Ptr X 0)] s) ?_ ?_
   ·refine CE.draw [0,0,0,0,0,0,0,0,0,0,0,0,0,0,0,0,0,0,0,0,0] mixed (by decide +kernel) ?_
    repeat(first|refine Y1 rfl rfl ?_|refine Y2 rfl rfl ?_|refine Y3 rfl rfl rfl ?_|refine Y22 rfl rfl hX6 rfl rfl ?_|refine Y21 rfl rfl rfl ?_)
    refine RE.splitD (fun h8 => ?_) (fun h8 => ?_)
    ·have hcb : decide (p.dv ≠ [] ∧ begS t p.pos p.dv = true) = begS t p.pos p.dv:=by
      cases begS t p.pos p.dv with
      | true => exact decide_eq_true ⟨h8,rfl⟩
      | false => exact decide_eq_false (by simp)
     rw [hcb]
     repeat(first|refine Y1 rfl rfl ?_|refine Y2 rfl rfl ?_|refine Y3 rfl rfl rfl ?_|refine Y22 rfl rfl hX6 rfl rfl ?_|refine RE.want rfl rfl ?_)
     refine RE.dc en34 rfl rfl (fun w11 _ => pageHasE (i:=p.pos) (x:=p.dv) (by omega) (by omega) (by omega)) ?_
     repeat(first|refine Y0 rfl rfl ?_|refine Y16 rfl rfl rfl rfl ?_)
     refine RE.nilx ?_
     exact ⟨rfl,rfl,(by repeat first | trivial|refine ⟨rfl,?_⟩)⟩
    ·rw [decide_eq_false (fun e => h8 e.1)]
     repeat(first|refine Y0 rfl rfl ?_|refine Y17 rfl rfl rfl ?_|refine RE.no0 rfl rfl rfl rfl ?_)
     refine RE.nilx ?_
     exact ⟨rfl,rfl,(by repeat first | trivial|refine ⟨rfl,?_⟩)⟩
   rintro s _ w7 ⟨rfl,hw,hs⟩
   subst hw
   refine CE.sub hs ?_
   generalize w6.drew = w7 at hX6 g7 i7
   refine CE.cond_d rfl (fun h8 => ?_) (fun h8 => ?_)
   ·rw [if_pos h8] at hgo
    have hdl:=(begS_at h8.2).1
    have hd0 : 0 < p.dv.length:=by
     cases hdd : p.dv with
     | nil => exact absurd hdd h8.1
     | cons _ _ => simp
    repeat(first|refine C0 ?_|refine C1 ?_|refine X1 rfl rfl ?_|refine X2 rfl rfl ?_|refine X3 rfl rfl rfl ?_|refine X22 rfl rfl hX6 rfl rfl ?_)
    refine RE.xc en64 rfl rfl (textw g7) ?_
    rintro _ w8 ⟨rfl,v8,g8,i8⟩
    have hX8 : HX X w8 t p.pos p.dv v8.l v8.nm p1.inl p1.wrong p1.opn p1.loose:=by rw [← hp1,← hd1]; exact g8.at_
    repeat(first|refine C0 ?_|refine C1 ?_|refine X1 rfl rfl ?_|refine X0 rfl rfl ?_|refine X2 rfl rfl ?_|refine X3 rfl rfl rfl ?_|refine X22 rfl rfl hX8 rfl rfl ?_|refine C2 ?_)
    have hX8d : w8.drew.heap[X]? = _:=hX8
    have i8':=i7.trans i8
    repeat refine C0 ?_
    refine CE.drawR Ext [0,0,0,0,0,0,0,0,0,0,0,0,2] mixed Ext.refl (fun _ _ _ => Ext.trans) (by decide +kernel) ?_
    repeat(first|refine Z1 rfl rfl ?_|refine Z2 rfl rfl ?_|refine Z3 rfl rfl rfl ?_|refine Z22 rfl rfl hX8d rfl rfl ?_|refine Z14 rfl Tryz.underlying9 rfl ?_|refine Z18 rfl rfl (by omega) (by omega) rfl ?_)
    refine RE.es (fun _ hw => e_store rfl rfl rfl (hw.block hX8d) rfl rfl) ?_
    rintro w9 hw9 _ w10 hu10
    refine C4 (fun w11 hw11 => ?_)
    have e9:=(Ext.drew w8).trans hw9
    obtain ⟨g10,i10⟩:=QS.upd (p':={ p1 with pos:=p.pos + p.dv.length }) (w':=w10) (g8.ext e9) (by rw [hd1]; exact hu10) rfl rfl
    have g11:=g10.ext hw11
    have i11:=((i8'.ext_r e9).trans i10).ext_r hw11
    have hel:=runTo_le (stop:=notW) (t:=t) _ (p.pos + p.dv.length) rfl hdl
    repeat refine C0 ?_
    refine CE.cut (fun s ds w' => ds = [] ∧ (∃ v',QS X B t v' { p1 with pos:=runTo notW t (p.pos + p.dv.length) } w' ∧ QI X v0 v' w0 w') ∧ SubL [(1,I p.pos),(0,Ptr X 0)] s) ?_ ?_
    ·repeat refine C0 ?_
     refine CE.block ?_
     refine CE.loop (α:=Nat) (fun k => [(1,I p.pos),(0,Ptr X 0)]) (fun k w' => QS X B t v8 { p1 with pos:=k } w' ∧ QI X v0 v8 w0 w' ∧ k ≤ t.length ∧ runTo notW t (p.pos + p.dv.length) = runTo notW t k) (fun k => t.length - k) (p.pos + p.dv.length) (by repeat first | trivial|refine ⟨rfl,?_⟩) ⟨g11,i11,hdl,rfl⟩ ?_
     rintro k w12 ⟨k1,k2,hk,hr12⟩
     have hX12 : HX X w12.drew t k p1.dv v8.l v8.nm p1.inl p1.wrong p1.opn p1.loose:=k1.at_
     have k3:=k1.ext (Ext.drew w12)
     have k4:=k2.ext_r (Ext.drew w12)
     repeat refine C0 ?_
     refine CE.draw [0,0,0,0,0,0,0,0,0,0,0,0,0,0,0,0,0,0,0,0,0,0] mixed (by decide +kernel) ?_
     repeat(first|refine Y1 rfl rfl ?_|refine Y2 rfl rfl ?_|refine Y3 rfl rfl rfl ?_|refine Y22 rfl rfl hX12 rfl rfl ?_|refine Y7 rfl rfl rfl ?_|refine Y14 rfl Tryz.underlying9 rfl ?_)
     refine RE.splitD (fun hlt => ?_) (fun hlt => ?_)
     ·have hlt' : k < t.length:=by omega
      have hix : t[((k : Nat) : Int).toNat]? = some t[k]:=by rw [Int.toNat_natCast]; exact List.getElem?_eq_getElem hlt'
      have hg1 : notW t[k] = false → runTo notW t k = runTo notW t (k + 1):=fun e => runTo_go hlt' e
      have hat : notW t[k] = true → runTo notW t k = k:=fun e => runTo_at hlt' e
      generalize t[k] = b at hix hg1 hat
      repeat(first|refine Y1 rfl rfl ?_|refine Y2 rfl rfl ?_|refine Y3 rfl rfl rfl ?_|refine Y22 rfl rfl hX12 rfl rfl ?_|refine RE.want rfl rfl ?_)
      refine RE.d1 (op_index_s (b:=b) rfl rfl Tryz.underlying9 (by omega) hix) rfl ?_
      refine RE.want rfl rfl ?_
      refine RE.dc en37 rfl rfl (fun w2 _ => Fn.mono (pageWhite_fn b w2) (by rintro _ w3 ⟨rfl,rfl⟩; exact ⟨rfl,rfl⟩)) ?_
      repeat(first|refine Y16 rfl rfl rfl rfl ?_|refine C2 ?_)
      generalize w12.drew = w13 at hX12 k3 k4
      refine CE.cond_s rfl (fun h3 => ?_) (fun h3 => ?_)
      ·refine C3 ?_
       refine CE.block ?_
       repeat(first|refine C1 ?_|refine X1 rfl rfl ?_|refine X2 rfl rfl ?_|refine X3 rfl rfl rfl ?_|refine X22 rfl rfl hX12 rfl rfl ?_|refine X18 rfl rfl (by omega) (by omega) rfl ?_)
       refine RE.xs (e_store rfl rfl rfl hX12 rfl rfl) ?_
       rintro _ w14 hu14
       obtain ⟨g14,i14⟩:=QS.upd (p':={ p1 with pos:=k + 1 }) k3 hu14 rfl rfl
       refine RE.nilx ?_
       exact ⟨k + 1,by show t.length - (k + 1) < t.length - k; omega,rfl,(by repeat first | trivial|refine ⟨rfl,?_⟩),g14,k4.trans i14,hlt',hr12.trans (hg1 (by unfold notW; rw [h3]; rfl))⟩
      ·refine CE.exit ?_
       have hr:=hr12.trans (hat (by unfold notW; rw [h3]; rfl))
       rw [hr]
       exact ⟨rfl,⟨_,k3,k4⟩,(by repeat first | trivial|refine ⟨rfl,?_⟩)⟩
     ·repeat(first|refine Y17 rfl rfl rfl ?_|refine RE.no0 rfl rfl rfl rfl ?_|refine C2 ?_)
      generalize w12.drew = w13 at hX12 k3 k4
      refine CE.cond_f rfl ?_
      refine CE.exit ?_
      have hr:=hr12.trans (runTo_end (stop:=notW) (t:=t) (p:=k) (by omega))
      rw [hr]
      exact ⟨rfl,⟨_,k3,k4⟩,(by repeat first | trivial|refine ⟨rfl,?_⟩)⟩
    rintro s _ w12 ⟨rfl,⟨v12,g12,i12⟩,hs⟩
    refine CE.sub hs ?_
    generalize runTo notW t (p.pos + p.dv.length) = e at g12 hel hgo
    have hX12 : HX X w12.drew t e p1.dv v12.l v12.nm p1.inl p1.wrong p1.opn p1.loose:=g12.at_
    repeat refine C0 ?_
    refine CE.drawR Ext [0,0,0,0,0,0,0,0,0,0,0,0,2] mixed Ext.refl (fun _ _ _ => Ext.trans) (by decide +kernel) ?_
    repeat(first|refine Z1 rfl rfl ?_|refine Z2 rfl rfl ?_|refine Z3 rfl rfl rfl ?_|refine Z22 rfl rfl hX12 rfl rfl ?_)
    refine RE.dd (fun _ _ => op_str_lh rfl rfl rfl Tryz.underlying9 (by omega) (by omega) (by omega)) rfl Ext.refl ?_
    rw [show ((e : Int)).toNat - ((p.pos : Int)).toNat = e - p.pos by omega,Int.toNat_natCast]
    refine RE.ec en65 rfl rfl (fun w13 hw13 => qput_fn (kind:=2) (tx:=wordA t p.pos e) (g12.ext ((Ext.drew _).trans hw13)) (by show p1.rs.length ≤ _; omega) (by have:=word_len t p.pos e; omega)) ?_
    rintro w13 hw13 _ w14 ⟨rfl,v14,g14,i14⟩
    refine C4 (fun w15 hw15 => ?_)
    have g15:=g14.ext hw15
    have i15:=i12.trans ((i14.ext_l ((Ext.drew w12).trans hw13)).ext_r hw15)
    have hX15 : HX X w15 t e p1.dv v14.l v14.nm p1.inl p1.wrong p1.opn p1.loose:=g15.at_
    have hl15 : (p1.put 2 p.pos (wordA t p.pos e)).rs.length = p1.rs.length + 1:=put_len ..
    repeat(first|refine C1 ?_|refine X1 rfl rfl ?_|refine X0 rfl rfl ?_|refine X2 rfl rfl ?_|refine X3 rfl rfl rfl ?_|refine X22 rfl rfl hX15 rfl rfl ?_)
    refine RE.xs (e_store rfl rfl rfl hX15 rfl rfl) ?_
    rintro _ w16 hu16
    obtain ⟨g16,i16⟩:=QS.upd (p':={ p1.put 2 p.pos (wordA t p.pos e) with pos:=e,dv:=[] }) g15 hu16 rfl rfl
    refine RE.nilx ?_
    exact next (fr':=e) g16 (i15.trans i16) hgo (Or.inr (hMB (Nat.le_refl _) hel.2 (by show p.pos < e; omega) (by show (p1.put 2 p.pos (wordA t p.pos e)).rs.length ≤ _; omega) (by show p1.nms.length ≤ e; rw [hm1]; omega) (by show (0 : Nat) ≤ 1000; omega))) (by repeat first | trivial|refine ⟨rfl,?_⟩)
   rw [if_neg h8] at hgo
   repeat(first|refine C1 ?_|refine X1 rfl rfl ?_|refine X2 rfl rfl ?_|refine X3 rfl rfl rfl ?_|refine X22 rfl rfl hX6 rfl rfl ?_|refine X18 rfl rfl (by omega) (by omega) rfl ?_)
   refine RE.xs (e_store rfl rfl rfl hX6 rfl rfl) ?_
   rintro _ w8 hu8
   obtain ⟨g8,i8⟩:=QS.upd (p':={ p with pos:=p.pos + 1 }) g7 hu8 rfl rfl
   refine RE.nilx ?_
   exact next (fr':=fr) g8 (i7.trans i8) hgo (Or.inr (hMB (by show fr ≤ p.pos + 1; omega) hpt (by show p.pos < p.pos + 1; omega) hB4 (by show p.nms.length ≤ p.pos + 1; omega) hB6)) (by repeat first | trivial|refine ⟨rfl,?_⟩)
  ·have hov2 : p.over:=by
    unfold QP.over
    cases e1 : p.wrong <;> cases e2 : p.opn <;> simp_all
   refine CE.exit ?_
   rw [mainN_over hov2]
   exact ⟨rfl,v,g,i⟩
 rintro s _ w5 ⟨rfl,v5,g5,i5⟩
 refine end0 rfl ?_
 exact ⟨rfl,v5,g5,i5⟩
end Go.Wk
