/- The walk of a shortcode's name. -/
import Derived.Test.YtmbencknblcocaaGreatDoorYan
namespace Go.Wk
open Go Go.RowKit Go.Proofs
set_option maxRecDepth 100000
theorem MapO.li {L ib B mb n : Nat} {t dv : List UInt8} {c c' : LC} {ps : List PI} {opn : List UInt8 → Bool} {w w' : World} (h : MapO mb opn n w) (hx : LS L ib B t dv c ps w) (hi : LI L c c' w w') : MapO mb opn n w':=by
 obtain ⟨es,cl,hb⟩:=h.block
 refine h.fr hi.fr ?_
 rintro (e | e)
 ·subst e
  have:=hx.lx.at_
  unfold AtL at this
  rw [hb] at this
  cases this
 ·obtain ⟨xs,ho,_⟩:=hx.own
  obtain ⟨cs,hcs⟩:=ho.tag e
  rw [hb] at hcs
  cases hcs
theorem MapO.ext {mb n : Nat} {opn : List UInt8 → Bool} {w w' : World} (h : MapO mb opn n w) (he : Ext w w') : MapO mb opn n w':=h.fr (Fr.of_ext (S:=fun _ => False) he) (fun h => h)
theorem MapO.fun {mb n : Nat} {opn opn' : List UInt8 → Bool} {w : World} (h : MapO mb opn n w) (e : opn = opn') : MapO mb opn' n w:=e ▸ h
theorem updB_upd (opn : List UInt8 → Bool) (l : List UInt8) (b b' : Bool) : updB (updB opn l b) l b' = updB opn l b':=by
 funext s
 unfold updB
 split <;> rfl
theorem ident_fn {L ib B mb n : Nat} {t dv : List UInt8} {c : LC} {ps : List PI} {w : World} {opn : List UInt8 → Bool} (h : LS L ib B t dv c ps w) (hm : MapO mb opn n w) (hmp : c.mp = .map (some mb)) (hmB : B ≤ mb) (hst : c.start ≤ c.pos) (hs0 : 0 ≤ c.step) (hs1 : c.step ≤ 1000000) (hn : ps.length + 8 < 100000000) (hnn : n ≤ 500000000) :
  Fn PT 162 [Ptr L 0] w (fun u w' => u = fvV (outIdent t (c.d dv opn ps)).1 ∧ AftY L ib B mb t c (outIdent t (c.d dv opn ps)).2 (n + 2) w w'):=by
 refine fn_of Tryz.func162 rfl Tryz.ntmps162 rfl ?_
 generalize hA : outIdent t (c.d dv opn ps) = A
 have hA0:=hA.symm
 unfold outIdent at hA0
 generalize hG : idGo t c.inl c.pos = G
 have hG' : idGo t (c.d dv opn ps).inl (c.d dv opn ps).pos = G:=hG
 rw [hG'] at hA0
 repeat(first|refine C0 ?_|refine C1 ?_|refine X0 rfl rfl ?_|refine C2 ?_|refine CE.scope ?_|refine CE.label (show CE _ _ _ _ _ _ _ from ?_))
 refine CE.cut (fun s ds w' => ds = [] ∧ SubL [(3,.bool (decide (0 < c.clos))),(0,Ptr L 0)] s ∧ A.1 = some (if 0 < c.clos then 175 else 144) ∧ AftY L ib B mb t c A.2 (n + 2) w w') ?_ ?_
 ·refine CE.block ?_
  refine CE.loop (α:=LC) (fun x => [(3,.bool false),(0,Ptr L 0)])
   (fun x w' => LS L ib B t dv x ps w' ∧ LI L c x w w' ∧ (∃ q wd i,x = { c with pos:=q,width:=wd,inl:=i }) ∧ c.pos ≤ x.pos ∧ idGo t x.inl x.pos = G)
   (fun x => t.length + 1 - x.pos) c ⟨rfl,rfl,trivial⟩ ⟨h,LI.refl h.lx.at_,⟨_,_,_,rfl⟩,Nat.le_refl _,hG⟩ ?_
  rintro x w0 ⟨hx,hi,⟨q0,wd0,i0,hxe⟩,hcx,hgo⟩
  have hxp:=hx.lx.pos
  have hsm:=hx.lx.small
  have hnr:=nx_range t x.pos
  refine CE.block ?_
  repeat(first|refine C0 ?_|refine C1 ?_|refine X1 rfl rfl ?_)
  refine RE.xc en68 rfl rfl (next_fn hx.lx) ?_
  rintro _ w1 ⟨rfl,h1⟩
  have hx1:=hx.nxt h1
  have hi1:=hi.lm h1 rfl
  have hxn : x.nxt t = { c with pos:=x.pos + (nx t x.pos).2,width:=(nx t x.pos).2,inl:=x.inl }:=by rw [hxe]; rfl
  have hstep:=idGo.eq_1 t x.inl x.pos
  have next : ∀ (y : LC) (w7 : World),x.pos < t.length → y = { x.nxt t with inl:=y.inl } → LS L ib B t dv y ps w7 → LI L c y w w7 → idGo t y.inl (x.pos + (nx t x.pos).2) = G →
    ∃ z : LC,t.length + 1 - z.pos < t.length + 1 - x.pos ∧ (LS L ib B t dv z ps w7 ∧ LI L c z w w7 ∧ (∃ q wd i,z = { c with pos:=q,width:=wd,inl:=i }) ∧ c.pos ≤ z.pos ∧ idGo t z.inl z.pos = G):=by
   intro y w7 hin hy hl hli hg
   have hpp:=nx_pos t hin
   have hyp : y.pos = x.pos + (nx t x.pos).2:=by rw [hy]; rfl
   refine ⟨y,by omega,hl,hli,⟨x.pos + (nx t x.pos).2,(nx t x.pos).2,y.inl,?_⟩,by omega,by rw [hyp]; exact hg⟩
   conv => lhs; rw [hy]
   rw [hxn]
  repeat(first|refine X0 rfl rfl ?_|refine C2 ?_)
  refine CE.block ?_
  repeat(first|refine C0 ?_|refine C1 ?_|refine X1 rfl rfl ?_)
  refine RE.xc en160 rfl rfl (isANH_fn (by omega) (by omega) (fun w' he => (hx1.lx.tabs.ext (by have:=hx1.lx.base; have:=hx1.lx.at_.lt; omega) he).tabs)) ?_
  rintro _ w2 ⟨rfl,e2⟩
  have hx2:=hx1.ext e2
  have hi2:=hi1.ext_r e2
  repeat(first|refine X0 rfl rfl ?_|refine C2 ?_)
  refine CE.cond_s rfl (fun hanh => ?_) (fun hanh => ?_)
  ·have hin : x.pos < t.length:=by
    refine nx_pos_of fun e => ?_
    rw [e,isANH_neg] at hanh
    cases hanh
   rw [dif_pos hin,if_pos (Or.inl hanh)] at hstep
   refine CE.skip ?_
   obtain ⟨z,g1,g2⟩:=next (x.nxt t) w2 hin rfl hx2 hi2 (hstep.symm.trans hgo)
   exact ⟨z,g1,rfl,⟨rfl,rfl,trivial⟩,g2⟩
  repeat(first|refine C0 ?_|refine C1 ?_|refine X1 rfl rfl ?_|refine X0 rfl rfl ?_|refine X5 rfl rfl rfl ?_|refine C2 ?_)
  refine CE.cond_d rfl (fun h47 => ?_) (fun h47 => ?_)
  ·have hin : x.pos < t.length:=nx_pos_of (by omega)
   rw [dif_pos hin,if_pos (Or.inr h47)] at hstep
   refine CE.skip ?_
   obtain ⟨z,g1,g2⟩:=next (x.nxt t) w2 hin rfl hx2 hi2 (hstep.symm.trans hgo)
   exact ⟨z,g1,rfl,⟨rfl,rfl,trivial⟩,g2⟩
  have hno : ¬ (isANH (nx t x.pos).1 = true ∨ (nx t x.pos).1 = 47):=by
   rintro (h | h)
   ·exact nt hanh h
   ·exact h47 h
  repeat(first|refine C0 ?_|refine C1 ?_|refine X1 rfl rfl ?_|refine X0 rfl rfl ?_|refine X5 rfl rfl rfl ?_|refine C2 ?_)
  refine CE.cond_d rfl (fun h46 => ?_) (fun h46 => ?_)
  ·have hin : x.pos < t.length:=nx_pos_of (by omega)
   have hw46 : (nx t x.pos).2 = 1:=nx_one (r:=46) h46 (by decide)
   rw [dif_pos hin,if_neg hno,if_pos h46] at hstep
   repeat(first|refine C0 ?_|refine C1 ?_|refine X1 rfl rfl ?_)
   refine RE.xc en174 rfl rfl (delim174_fn _) ?_
   rintro v3 w3 ⟨b3,hb3,_,e3⟩
   skip
   refine RE.xc en96 rfl rfl (hasP_fn (hx2.lx.ext e3) hb3.hb) ?_
   rintro _ w4 ⟨rfl,e4⟩
   have hx4:=hx2.ext (e3.trans e4)
   have hi4:=hi2.ext_r (e3.trans e4)
   have hB4:=hx4.lx.at_
   unfold AtL at hB4
   repeat(first|refine X2 rfl rfl ?_|refine X3 rfl rfl rfl ?_|refine X4 rfl rfl rfl ?_)
   refine RE.xs (e_store rfl rfl rfl hB4 rfl rfl) ?_
   rintro _ w5 hu5
   have hm5 : LM L { x.nxt t with inl:=pre bs174 (t.drop (x.pos + (nx t x.pos).2)) } w4 w5:=LM.of_upd hu5 rfl
   have hx5:=hx4.keep hm5 rfl rfl rfl hx1.lx.pos
   have hi5:=hi4.lm hm5 rfl
   have hB5:=hx5.lx.at_
   unfold AtL at hB5
   repeat(first|refine C0 ?_|refine C1 ?_|refine X1 rfl rfl ?_|refine X2 rfl rfl ?_|refine X3 rfl rfl rfl ?_|refine X4 rfl rfl rfl ?_|refine X22 rfl rfl hB5 rfl rfl ?_|refine X12 rfl rfl ?_|refine C2 ?_)
   refine CE.cond_s rfl (fun hp => ?_) (fun hp => ?_)
   ·have hp' : pre bs174 (t.drop (x.pos + (nx t x.pos).2)) = false:=decide_eq_false (of_decide_eq_true hp)
    rw [if_neg (nt hp')] at hstep
    have hGe : G = (false,x.pos + (nx t x.pos).2,false):=hgo.symm.trans hstep
    subst hGe
    replace hA0:=hA0.trans (if_pos rfl)
    subst hA0
    repeat(first|refine C0 ?_|refine C1 ?_|refine X1 rfl rfl ?_)
    refine RE.xc en93 rfl rfl (bad_aft (d:={ c.d dv opn ps with pos:=x.pos + (nx t x.pos).2,inl:=false }) (opn:=opn) (by rw [hp',hxn]; rfl) (by rw [hp',hxn]; rfl) hi5 hx5 (by omega)) ?_
    rintro _ w8 ⟨rfl,wd8,it8,h8,h9⟩
    repeat(first|refine X0 rfl rfl ?_|refine C2 ?_)
    (refine CE.ret ?_;(try dsimp only);refine ret1 rfl rfl ?_)
    exact ⟨rfl,wd8,it8,h8.y,h9,(hm.li h h8).mono (by omega)⟩
   ·have hp' : pre bs174 (t.drop (x.pos + (nx t x.pos).2)) = true:=decide_eq_true (Classical.not_not.1 (of_decide_eq_false hp))
    rw [if_pos hp'] at hstep
    refine CE.skip ?_
    rw [hp'] at hx5 hi5
    obtain ⟨z,g1,g2⟩:=next { x.nxt t with inl:=true } w5 hin rfl hx5 hi5 (hstep.symm.trans hgo)
    exact ⟨z,g1,rfl,⟨rfl,rfl,trivial⟩,g2⟩
  have hGe : G = (true,x.pos,x.inl):=by
   rcases Nat.lt_or_ge x.pos t.length with hin | hin
   ·rw [dif_pos hin,if_neg hno,if_neg h46] at hstep
    exact hgo.symm.trans hstep
   ·rw [dif_neg (by omega)] at hstep
    exact hgo.symm.trans hstep
  subst hGe
  replace hA0:=hA0.trans (if_neg (by simp))
  repeat(first|refine C0 ?_|refine C1 ?_|refine X1 rfl rfl ?_)
  refine RE.xc en98 rfl rfl (backNext_fn hx2.lx) ?_
  rintro _ w3 ⟨rfl,h3⟩
  have hx3:=hx2.keep h3 rfl rfl rfl hxp
  have hi3:=hi2.lm h3 rfl
  have hxa : x.at t x.pos = { c with pos:=x.pos,width:=(nx t x.pos).2,inl:=x.inl }:=by rw [hxe]; rfl
  rw [hxa] at hx3 hi3
  have hB3:=hx3.lx.at_
  unfold AtL at hB3
  have hil:=hx3.lx.il
  repeat(first|refine C0 ?_|refine C2 ?_)
  refine CE.draw [0,0,0,0,0,0,0,0,0,0,0,0,0,0,0] mixed (by decide +kernel) ?_
  repeat(first|refine Y1 rfl rfl ?_|refine Y2 rfl rfl ?_|refine Y3 rfl rfl rfl ?_|refine Y22 rfl rfl hB3 rfl rfl ?_)
  refine RE.d1 (op_slice_lh rfl rfl rfl rfl (show (0 : Int) ≤ (c.start : Int) by omega) (show (c.start : Int) ≤ (x.pos : Int) by omega) (show (x.pos : Int) ≤ ((c.ic : Nat) : Int) by have h1 : c.il = t.length:=hil.1; have h2 : c.il ≤ c.ic:=hil.2; omega)) rfl ?_
  have hsl:=HBk.slice (hx3.lx.inp.ext (Ext.drew w3)) (i:=c.start) (j:=x.pos) (by omega) hxp
  refine RE.d1 (op_conv_bs (l:=wordA t c.start x.pos) rfl ⟨ib,hsl⟩ Tryz.underlying42 Tryz.underlying9) rfl ?_
  repeat(first|refine Y0 rfl rfl ?_|refine C2 ?_)
  have hwl : (wordA t c.start x.pos).length ≤ 1000000:=by unfold wordA; simp; omega
  have hx3:=hx3.ext (Ext.drew w3)
  have hi3:=hi3.ext_r (Ext.drew w3)
  have hm3:=hm.li h hi3
  have hA1 : A = (if 0 < c.clos ∧ opn (wordA t c.start x.pos) = false then (none,({ c.d dv opn ps with pos:=x.pos,inl:=x.inl } : D).bad t) else
   (some (if 0 < c.clos then 175 else 144),({ c.d dv opn ps with pos:=x.pos,inl:=x.inl,clos:=0,name:=wordA t c.start x.pos,opn:=updB opn (wordA t c.start x.pos) true,step:=c.step + 1 } : D).em t (if x.inl then 14 else 13))):=hA0
  clear hA0
  generalize hW : wordA t c.start x.pos = W at hA1 hwl
  generalize hwd : (nx t x.pos).2 = wd at hx3 hi3 hB3
  generalize hXI : x.inl = xi at hA1 hx3 hi3 hB3
  generalize x.pos = q at hA1 hx3 hi3 hB3
  have hB3d : w3.drew.heap[L]? = _:=hB3
  generalize w3.drew = w4 at hx3 hi3 hm3 hB3d
  clear hB3
  repeat(first|refine C0 ?_|refine C1 ?_|refine X1 rfl rfl ?_|refine X2 rfl rfl ?_|refine X3 rfl rfl rfl ?_|refine X4 rfl rfl rfl ?_|refine X22 rfl rfl hB3d rfl rfl ?_|refine X9 rfl rfl rfl ?_|refine C2 ?_)
  refine CE.cut (fun s ds w' => ds = [] ∧ SubL [(3,.bool (decide (0 < c.clos))),(5,S W),(0,Ptr L 0)] s ∧ A = (some (if 0 < c.clos then 175 else 144),({ c.d dv opn ps with pos:=q,inl:=xi,clos:=0,name:=W,opn:=updB opn W true,step:=c.step + 1 } : D).em t (if xi then 14 else 13)) ∧
   LS L ib B t dv { c with pos:=q,width:=wd,inl:=xi } ps w' ∧ LY L mb c { c with pos:=q,width:=wd,inl:=xi } w w' ∧ ∃ opn1,MapO mb opn1 (n + 1) w' ∧ updB opn1 W true = updB opn W true) ?_ ?_
  ·refine CE.cond_d rfl (fun hc => ?_) (fun hc => ?_)
   ·have hc' : 0 < c.clos:=hc
    have hB3m : w4.heap[L]? = some (.cells { c with pos:=q,width:=wd,inl:=xi,mp:=.map (some mb) }.arr 79 (0,0)):=by rw [hB3d]; simp only [LC.arr,hmp]
    repeat(first|refine C0 ?_|refine C1 ?_|refine X1 rfl rfl ?_|refine X2 rfl rfl ?_|refine X3 rfl rfl rfl ?_|refine X4 rfl rfl rfl ?_|refine X22 rfl rfl hB3m rfl rfl ?_)
    refine RE.x (op_lookup rfl rfl hm3 hwl) rfl ?_
    repeat(first|refine X11 rfl rfl ?_|refine C2 ?_)
    refine CE.cond_s rfl (fun ho => ?_) (fun ho => ?_)
    ·have ho' : opn W = false:=by simpa using ho
     replace hA1:=hA1.trans (if_pos ⟨hc',ho'⟩)
     subst hA1
     repeat(first|refine C0 ?_|refine C1 ?_|refine X1 rfl rfl ?_)
     refine RE.x (op_iface rfl (by kernel_rfl)) rfl ?_
     refine RE.xe (e_buildSlice (cells:=#[.iface 9 (S W)]) (e:=20) rfl (by kernel_rfl) (by kernel_rfl)) rfl ?_
     rintro _ w5 ⟨nb,rfl,hn5⟩
     refine RE.xc en93 rfl rfl (bad_aft (d:={ c.d dv opn ps with pos:=q,inl:=xi }) (opn:=opn) rfl rfl (hi3.ext_r hn5.ext) (hx3.ext hn5.ext) (by omega)) ?_
     rintro _ w8 ⟨rfl,wd8,it8,h8,h9⟩
     repeat(first|refine X0 rfl rfl ?_|refine C2 ?_)
     (refine CE.ret ?_;(try dsimp only);refine ret1 rfl rfl ?_)
     exact ⟨rfl,wd8,it8,h8.y,h9,(hm.li h h8).mono (by omega)⟩
    ·have ho' : opn W = true:=by simpa using ho
     replace hA1:=hA1.trans (if_neg (by rintro ⟨_,h⟩; rw [ho'] at h; cases h))
     repeat(first|refine C0 ?_|refine C1 ?_|refine X1 rfl rfl ?_|refine X2 rfl rfl ?_|refine X3 rfl rfl rfl ?_|refine X4 rfl rfl rfl ?_|refine X22 rfl rfl hB3m rfl rfl ?_|refine C3 ?_)
     refine RE.xs (e_mapUpdate (b:=false) rfl rfl rfl hm3 hwl (by omega)) ?_
     rintro _ w5 ⟨hm5,hf5⟩
     repeat(first|refine C1 ?_|refine X0 rfl rfl ?_|refine C2 ?_)
     refine RE.nilx ?_
     have hx5:=hx3.frm hf5 hm3.block hmB
     refine ⟨rfl,⟨by rw [decide_eq_true hc']; rfl,rfl,rfl,trivial⟩,hA1,hx5,hi3.y.trans (LY.map hx5.lx.at_ hf5),_,hm5,updB_upd _ _ _ _⟩
   ·have hc' : ¬ 0 < c.clos:=hc
    replace hA1:=hA1.trans (if_neg (fun h => hc' h.1))
    refine CE.skip ?_
    exact ⟨rfl,⟨by rw [decide_eq_false hc']; rfl,rfl,rfl,trivial⟩,hA1,hx3,hi3.y,opn,hm3.mono (by omega),rfl⟩
  ·rintro s _ w5 ⟨rfl,hs,hA2,hx5,hy5,opn1,hm5,hup⟩
   refine CE.sub hs ?_
   have hB5:=hx5.lx.at_
   unfold AtL at hB5
   repeat(first|refine C0 ?_|refine C1 ?_|refine X1 rfl rfl ?_|refine X2 rfl rfl ?_|refine X3 rfl rfl rfl ?_|refine X4 rfl rfl rfl ?_)
   refine RE.xs (e_store rfl rfl rfl hB5 rfl rfl) ?_
   rintro _ w6 hu6
   have hl6 : LM L { c with pos:=q,width:=wd,inl:=xi,clos:=0 } w5 w6:=LM.of_upd hu6 rfl
   have hx6:=hx5.keep hl6 rfl rfl rfl hx5.lx.pos
   have hy6:=hy5.lm hl6 rfl
   have hm6:=hm5.li hx5 (LI.of_lm hl6 rfl)
   have hB6:=hx6.lx.at_
   unfold AtL at hB6
   repeat(first|refine C0 ?_|refine C1 ?_|refine X1 rfl rfl ?_|refine X2 rfl rfl ?_|refine X3 rfl rfl rfl ?_|refine X4 rfl rfl rfl ?_|refine C2 ?_)
   refine RE.xs (e_store rfl rfl rfl hB6 rfl rfl) ?_
   rintro _ w7 hu7
   have hl7 : LM L { c with pos:=q,width:=wd,inl:=xi,clos:=0,name:=W } w6 w7:=LM.of_upd hu7 rfl
   have hx7:=hx6.keep hl7 rfl rfl rfl hx5.lx.pos
   have hy7:=hy6.lm hl7 rfl
   have hm7:=hm6.li hx6 (LI.of_lm hl7 rfl)
   have hB7:=hx7.lx.at_
   unfold AtL at hB7
   have hB7m : w7.heap[L]? = some (.cells { c with pos:=q,width:=wd,inl:=xi,clos:=0,name:=W,mp:=.map (some mb) }.arr 79 (0,0)):=by rw [hB7]; simp only [LC.arr,hmp]
   repeat(first|refine C0 ?_|refine C1 ?_|refine X1 rfl rfl ?_|refine X2 rfl rfl ?_|refine X3 rfl rfl rfl ?_|refine X4 rfl rfl rfl ?_|refine X22 rfl rfl hB7m rfl rfl ?_|refine C2 ?_)
   refine RE.xs (e_mapUpdate (b:=true) rfl rfl rfl hm7 hwl (by omega)) ?_
   rintro _ w8 ⟨hm8,hf8⟩
   have hx8:=hx7.frm hf8 hm7.block hmB
   have hy8:=hy7.trans (LY.map hx8.lx.at_ hf8)
   have hB8:=hx8.lx.at_
   unfold AtL at hB8
   repeat(first|refine C0 ?_|refine C1 ?_|refine X1 rfl rfl ?_|refine X2 rfl rfl ?_|refine X3 rfl rfl rfl ?_|refine X4 rfl rfl rfl ?_|refine X22 rfl rfl hB8 rfl rfl ?_|refine C2 ?_)
   refine X18 rfl rfl (show _ ≤ c.step + 1 by omega) (show c.step + 1 ≤ _ by omega) rfl ?_
   repeat(first|refine X2 rfl rfl ?_|refine X3 rfl rfl rfl ?_|refine X4 rfl rfl rfl ?_)
   refine RE.xs (e_store rfl rfl rfl hB8 rfl rfl) ?_
   rintro _ w9 hu9
   have hl9 : LM L { c with pos:=q,width:=wd,inl:=xi,clos:=0,name:=W,step:=c.step + 1 } w8 w9:=LM.of_upd hu9 rfl
   have hx9:=hx8.keep hl9 rfl rfl rfl hx5.lx.pos
   have hy9:=hy8.lm hl9 rfl
   have hm9:=hm8.li hx8 (LI.of_lm hl9 rfl)
   have hB9:=hx9.lx.at_
   unfold AtL at hB9
   repeat(first|refine C0 ?_|refine C1 ?_|refine X1 rfl rfl ?_|refine X2 rfl rfl ?_|refine X3 rfl rfl rfl ?_|refine X4 rfl rfl rfl ?_|refine X22 rfl rfl hB9 rfl rfl ?_|refine C2 ?_)
   refine CE.cond_s rfl (fun hxi => ?_) (fun hxi => ?_)
   ·have hxi' : xi = true:=hxi
    subst hxi'
    repeat(first|refine C1 ?_|refine X1 rfl rfl ?_)
    refine RE.xc en97 rfl rfl (emit_fn hx9 (by omega)) ?_
    rintro _ w10 ⟨rfl,it,h10,h11⟩
    repeat (refine C2 ?_)
    refine CE.exit ?_
    subst hA2
    exact ⟨rfl,⟨rfl,rfl,trivial⟩,rfl,wd,it,hy9.trans h10.y,h11,((hm9.li hx9 h10).fun hup).mono (by omega)⟩
   ·have hxi' : xi = false:=hxi
    subst hxi'
    repeat(first|refine C1 ?_|refine X1 rfl rfl ?_)
    refine RE.xc en97 rfl rfl (emit_fn hx9 (by omega)) ?_
    rintro _ w10 ⟨rfl,it,h10,h11⟩
    repeat (refine C2 ?_)
    refine CE.exit ?_
    subst hA2
    exact ⟨rfl,⟨rfl,rfl,trivial⟩,rfl,wd,it,hy9.trans h10.y,h11,((hm9.li hx9 h10).fun hup).mono (by omega)⟩
 ·rintro s _ w1 ⟨rfl,hs,hA1,haf⟩
  refine CE.sub hs ?_
  repeat(first|refine C0 ?_|refine C1 ?_|refine X1 rfl rfl ?_|refine C2 ?_)
  refine CE.cond_d rfl (fun hc => ?_) (fun hc => ?_)
  ·repeat(first|refine C0 ?_|refine C1 ?_|refine X0 rfl rfl ?_|refine C2 ?_)
   (refine CE.ret ?_;(try dsimp only);refine ret1 rfl rfl ?_)
   rw [hA1,if_pos hc]
   exact ⟨rfl,haf⟩
  ·repeat(first|refine C0 ?_|refine C1 ?_|refine X0 rfl rfl ?_|refine C2 ?_|refine C3 ?_)
   (refine CE.ret ?_;(try dsimp only);refine ret1 rfl rfl ?_)
   rw [hA1,if_neg hc]
   exact ⟨rfl,haf⟩
def outInside (t : List UInt8) (d : D) : Option Nat × D:=
 if pre (rightD d.rd) (t.drop d.pos) = true then (some 154,d) else
 if (nx t d.pos).1 = -1 then (none,({ d with pos:=d.pos + (nx t d.pos).2 }).bad t) else
 if isSp (nx t d.pos).1 = true then (some 144,{ d with pos:=d.pos + (nx t d.pos).2,start:=d.pos + (nx t d.pos).2 }) else
 if (nx t d.pos).1 = 61 then
  if (nx t (skipTo notSp t (d.pos + (nx t d.pos).2))).1 = 34 ∨ (nx t (skipTo notSp t (d.pos + (nx t d.pos).2))).1 = 92 then
   outQuo t { d with pos:=skipTo notSp t (d.pos + (nx t d.pos).2),start:=skipTo notSp t (d.pos + (nx t d.pos).2) } (decide ((nx t (skipTo notSp t (d.pos + (nx t d.pos).2))).1 ≠ 92)) 16
  else if (nx t (skipTo notSp t (d.pos + (nx t d.pos).2))).1 = 96 then outRaw t { d with pos:=skipTo notSp t (d.pos + (nx t d.pos).2),start:=skipTo notSp t (d.pos + (nx t d.pos).2) } 16
  else (some 158,{ d with pos:=skipTo notSp t (d.pos + (nx t d.pos).2),start:=skipTo notSp t (d.pos + (nx t d.pos).2) })
 else if (nx t d.pos).1 = 47 then
  if d.name = [] then (none,({ d with pos:=d.pos + (nx t d.pos).2 }).bad t) else (some 144,({ d with pos:=d.pos + (nx t d.pos).2,clos:=d.clos + 1,inl:=false,step:=0 }).em t 12)
 else if (nx t d.pos).1 = 92 then
  if (nx t (d.pos + (nx t d.pos).2)).1 = 34 ∨ (nx t (d.pos + (nx t d.pos).2)).1 = 96 then outParam t { d with pos:=d.pos + (nx t d.pos).2,start:=d.pos + (nx t d.pos).2 } true
  else (some 144,{ d with pos:=d.pos + (nx t d.pos).2,start:=d.pos + (nx t d.pos).2 })
 else if 0 < d.step ∧ (isANH (nx t d.pos).1 = true ∨ (nx t d.pos).1 = 34 ∨ (nx t d.pos).1 = 96) then outParam t d false
 else if isAN (nx t d.pos).1 = true then (some 162,d)
 else (none,({ d with pos:=d.pos + (nx t d.pos).2 }).bad t)
set_option maxHeartbeats 2000000 in
theorem inside_fn {L ib B : Nat} {t dv : List UInt8} {c : LC} {ps : List PI} {w : World} {opn : List UInt8 → Bool} (h : LS L ib B t dv c ps w) (hst : c.start ≤ c.pos) (hc0 : 0 ≤ c.clos) (hc1 : c.clos ≤ 1000000) (hn : ps.length + 8 < 100000000) :
  Fn PT 144 [Ptr L 0] w (fun u w' => u = fvV (outInside t (c.d dv opn ps)).1 ∧ Aft L ib B t c (outInside t (c.d dv opn ps)).2 w w'):=by
 refine fn_of Tryz.func144 rfl Tryz.ntmps144 rfl ?_
 generalize hA : outInside t (c.d dv opn ps) = A
 have hA0:=hA.symm
 unfold outInside at hA0
 have hps:=h.lx.pos
 have hnr:=nx_range t c.pos
 repeat(first|refine C0 ?_|refine C1 ?_|refine X1 rfl rfl ?_|refine X0 rfl rfl ?_|refine C2 ?_)
 refine RE.xc en153 rfl rfl (rightD_fn h.lx.at_) ?_
 rintro v1 w1 ⟨b1,hb1,_,e1⟩
 skip
 refine RE.xc en96 rfl rfl (hasP_fn (h.lx.ext e1) hb1.hb) ?_
 rintro _ w2 ⟨rfl,e2⟩
 have hx2:=h.ext (e1.trans e2)
 have hi2:=LI.ext_l (c:=c) (e1.trans e2) (LI.refl hx2.lx.at_)
 repeat (refine C2 ?_)
 refine CE.cond_s rfl (fun hp => ?_) (fun hp => ?_)
 ·repeat(first|refine C0 ?_|refine C1 ?_|refine X0 rfl rfl ?_|refine C2 ?_)
  (refine CE.ret ?_;(try dsimp only);refine ret1 rfl rfl ?_)
  replace hA0:=hA0.trans (if_pos hp)
  subst hA0
  exact ⟨rfl,c.width,c.items,hi2,hx2⟩
 replace hA0:=hA0.trans (if_neg (nt hp))
 repeat(first|refine C0 ?_|refine C1 ?_|refine X1 rfl rfl ?_|refine C3 ?_)
 refine RE.xc en68 rfl rfl (next_fn hx2.lx) ?_
 rintro _ w3 ⟨rfl,h3⟩
 have hx3:=hx2.nxt h3
 have hi3:=hi2.lm h3 rfl
 have hin : (nx t c.pos).1 ≠ -1 → c.pos < t.length:=fun h => nx_pos_of h
 have hbase : B ≤ w3.heap.size:=by have:=hx3.lx.base; have:=hx3.lx.at_.lt; omega
 have bad : ∀ (l : List UInt8) (v : Value) (w4 : World),A = (none,({ c.d dv opn ps with pos:=c.pos + (nx t c.pos).2 } : D).bad t) → Ext w3 w4 →
   Fn PT 93 [Ptr L 0,S l,v] w4 (fun u w' => u = .nilFunc ∧ fvV A.1 = .nilFunc ∧ Aft L ib B t c A.2 w w'):=by
  rintro l v w4 hAe e
  subst hAe
  refine Fn.mono (bad_aft (d:={ c.d dv opn ps with pos:=c.pos + (nx t c.pos).2 }) (opn:=opn) rfl rfl (hi3.ext_r e) (hx3.ext e) (by omega)) ?_
  rintro u w' ⟨rfl,h⟩
  exact ⟨rfl,rfl,h⟩
 have back : ∀ (w4 : World),Ext w3 w4 → Fn PT 98 [Ptr L 0] w4 (fun v w' => v = .tuple #[] ∧ LS L ib B t dv { c with width:=(nx t c.pos).2 } ps w' ∧ LI L c { c with width:=(nx t c.pos).2 } w w'):=by
  intro w4 e4
  refine Fn.mono (backNext_fn (hx3.lx.ext e4)) ?_
  rintro u w' ⟨rfl,h4⟩
  exact ⟨rfl,(hx3.ext e4).keep h4 rfl rfl rfl hps,(hi3.ext_r e4).lm h4 rfl⟩
 repeat(first|refine X0 rfl rfl ?_|refine C2 ?_)
 refine CE.block ?_
 repeat(first|refine C0 ?_|refine C1 ?_|refine X1 rfl rfl ?_|refine X0 rfl rfl ?_|refine X5 rfl rfl rfl ?_|refine C2 ?_)
 refine CE.cond_d rfl (fun hm1 => ?_) (fun hm1 => ?_)
 ·replace hA0:=hA0.trans (if_pos hm1)
  repeat(first|refine C0 ?_|refine C1 ?_|refine X1 rfl rfl ?_)
  refine RE.xc en93 rfl rfl (bad _ _ _ hA0 (Ext.refl _)) ?_
  rintro _ w4 ⟨rfl,h4,h5⟩
  repeat(first|refine X0 rfl rfl ?_|refine C2 ?_)
  (refine CE.ret ?_;(try dsimp only);refine ret1 rfl rfl ?_)
  exact ⟨h4.symm,h5⟩
 replace hA0:=hA0.trans (if_neg hm1)
 have hlt:=hin hm1
 have hpp:=nx_pos t hlt
 repeat(first|refine C0 ?_|refine C1 ?_|refine X1 rfl rfl ?_)
 refine RE.xc en74 rfl rfl (isSp_fn _ _) ?_
 rintro _ w4 ⟨rfl,rfl⟩
 repeat(first|refine X0 rfl rfl ?_|refine C2 ?_)
 refine CE.cond_s rfl (fun hsp => ?_) (fun hsp => ?_)
 ·replace hA0:=hA0.trans (if_pos hsp)
  repeat(first|refine C1 ?_|refine X1 rfl rfl ?_)
  refine RE.xc en95 rfl rfl (ignore_fn hx3.lx.at_) ?_
  rintro _ w5 ⟨rfl,h5⟩
  have hx5:=hx3.keep h5 rfl rfl rfl hx3.lx.pos
  repeat(first|refine C0 ?_|refine C1 ?_|refine X0 rfl rfl ?_|refine C2 ?_)
  (refine CE.ret ?_;(try dsimp only);refine ret1 rfl rfl ?_)
  subst hA0
  exact ⟨rfl,_,c.items,hi3.lm h5 rfl,hx5⟩
 replace hA0:=hA0.trans (if_neg (nt hsp))
 repeat(first|refine C0 ?_|refine C1 ?_|refine X1 rfl rfl ?_|refine X0 rfl rfl ?_|refine X5 rfl rfl rfl ?_|refine C2 ?_)
 refine CE.cond_d rfl (fun h61 => ?_) (fun h61 => ?_)
 ·replace hA0:=hA0.trans (if_pos h61)
  repeat(first|refine C0 ?_|refine C1 ?_|refine X1 rfl rfl ?_)
  refine RE.xc en128 rfl rfl (consumeSpace_fn hx3.lx) ?_
  rintro _ w5 ⟨rfl,h5⟩
  have hq:=skipTo_le (stop:=notSp) (t:=t) _ _ rfl (nx_le t hps)
  have hx5:=hx3.keep h5 rfl rfl rfl hq.1
  have hi5:=hi3.lm h5 rfl
  repeat(first|refine C0 ?_|refine C1 ?_|refine X1 rfl rfl ?_|refine C2 ?_)
  refine RE.xc en95 rfl rfl (ignore_fn hx5.lx.at_) ?_
  rintro _ w6 ⟨rfl,h6⟩
  have hx6:=hx5.keep h6 rfl rfl rfl hx5.lx.pos
  have hi6:=hi5.lm h6 rfl
  repeat(first|refine C0 ?_|refine C1 ?_|refine X1 rfl rfl ?_|refine C2 ?_)
  refine RE.xc en155 rfl rfl (peek_fn hx6.lx) ?_
  rintro _ w7 ⟨rfl,h7⟩
  have hx7:=hx6.keep h7 rfl rfl rfl hx6.lx.pos
  have hi7:=hi6.lm h7 rfl
  have hA1 : A = (if (nx t (skipTo notSp t (c.pos + (nx t c.pos).2))).1 = 34 ∨ (nx t (skipTo notSp t (c.pos + (nx t c.pos).2))).1 = 92 then
   outQuo t { c.d dv opn ps with pos:=skipTo notSp t (c.pos + (nx t c.pos).2),start:=skipTo notSp t (c.pos + (nx t c.pos).2) } (decide ((nx t (skipTo notSp t (c.pos + (nx t c.pos).2))).1 ≠ 92)) 16
   else if (nx t (skipTo notSp t (c.pos + (nx t c.pos).2))).1 = 96 then outRaw t { c.d dv opn ps with pos:=skipTo notSp t (c.pos + (nx t c.pos).2),start:=skipTo notSp t (c.pos + (nx t c.pos).2) } 16
   else (some 158,{ c.d dv opn ps with pos:=skipTo notSp t (c.pos + (nx t c.pos).2),start:=skipTo notSp t (c.pos + (nx t c.pos).2) })):=hA0
  clear hA0
  have hx7' : ∃ wd,LS L ib B t dv { c with pos:=skipTo notSp t (c.pos + (nx t c.pos).2),start:=skipTo notSp t (c.pos + (nx t c.pos).2),width:=wd } ps w7 ∧ LI L c { c with pos:=skipTo notSp t (c.pos + (nx t c.pos).2),start:=skipTo notSp t (c.pos + (nx t c.pos).2),width:=wd } w w7:=⟨_,hx7,hi7⟩
  obtain ⟨wd7,hx7,hi7⟩:=hx7'
  rw [show (nx t ({ (c.nxt t).at t (skipTo notSp t (c.nxt t).pos) with start:=((c.nxt t).at t (skipTo notSp t (c.nxt t).pos)).pos } : LC).pos) = nx t (skipTo notSp t (c.pos + (nx t c.pos).2)) from rfl]
  generalize skipTo notSp t (c.pos + (nx t c.pos).2) = q at hx7 hi7 hA1 hq
  have quo : (nx t q).1 = 34 ∨ (nx t q).1 = 92 → Fn PT 156 [Ptr L 0,.bool (decide ((nx t q).1 ≠ 92)),I 16] w7 (fun u w' => u = fvV A.1 ∧ Aft L ib B t c A.2 w w'):=by
   intro hq2
   have hA2:=hA1.trans (if_pos hq2)
   subst hA2
   refine Fn.mono (quo_fn (opn:=opn) hx7 (Nat.le_refl _) hn) ?_
   rintro u w' ⟨rfl,h8⟩
   exact ⟨rfl,h8.up hi7 (fun _ _ => rfl)⟩
  repeat(first|refine C0 ?_|refine C1 ?_|refine X1 rfl rfl ?_|refine X0 rfl rfl ?_|refine X5 rfl rfl rfl ?_|refine C2 ?_)
  refine RE.splitD (fun h34 => ?_) (fun h34 => ?_)
  ·repeat(first|refine X16 rfl rfl rfl rfl ?_|refine RE.nox rfl rfl rfl rfl ?_|refine C2 ?_)
   refine CE.cond_t rfl ?_
   repeat(first|refine C0 ?_|refine C1 ?_|refine X1 rfl rfl ?_|refine X6 rfl rfl rfl ?_)
   refine RE.xc en156 rfl rfl (quo (Or.inl h34)) ?_
   rintro _ w8 ⟨rfl,h8⟩
   repeat(first|refine X0 rfl rfl ?_|refine C2 ?_)
   (refine CE.ret ?_;(try dsimp only);refine ret1 rfl rfl ?_)
   exact ⟨rfl,h8⟩
  ·repeat(first|refine X1 rfl rfl ?_|refine X5 rfl rfl rfl ?_|refine X17 rfl rfl rfl ?_|refine RE.want rfl rfl ?_|refine C2 ?_)
   refine CE.cond_d rfl (fun h92 => ?_) (fun h92 => ?_)
   ·repeat(first|refine C0 ?_|refine C1 ?_|refine X1 rfl rfl ?_|refine X6 rfl rfl rfl ?_)
    refine RE.xc en156 rfl rfl (quo (Or.inr h92)) ?_
    rintro _ w8 ⟨rfl,h8⟩
    repeat(first|refine X0 rfl rfl ?_|refine C2 ?_)
    (refine CE.ret ?_;(try dsimp only);refine ret1 rfl rfl ?_)
    exact ⟨rfl,h8⟩
   ·replace hA1:=hA1.trans (if_neg (by rintro (h | h); exact h34 h; exact h92 h))
    repeat(first|refine C0 ?_|refine C1 ?_|refine X1 rfl rfl ?_|refine X5 rfl rfl rfl ?_|refine C2 ?_)
    refine CE.cond_d rfl (fun h96 => ?_) (fun h96 => ?_)
    ·replace hA1:=hA1.trans (if_pos h96)
     repeat(first|refine C0 ?_|refine C1 ?_|refine X1 rfl rfl ?_)
     refine RE.xc en157 rfl rfl (raw_fn (opn:=opn) hx7 h96 (Nat.le_refl _) hn) ?_
     rintro _ w8 ⟨rfl,h8⟩
     repeat(first|refine X0 rfl rfl ?_|refine C2 ?_)
     (refine CE.ret ?_;(try dsimp only);refine ret1 rfl rfl ?_)
     subst hA1
     exact ⟨rfl,h8.up hi7 (fun _ _ => rfl)⟩
    ·replace hA1:=hA1.trans (if_neg h96)
     repeat(first|refine C0 ?_|refine C1 ?_|refine X0 rfl rfl ?_|refine C2 ?_|refine C3 ?_)
     (refine CE.ret ?_;(try dsimp only);refine ret1 rfl rfl ?_)
     subst hA1
     exact ⟨rfl,wd7,c.items,hi7,hx7⟩
 replace hA0:=hA0.trans (if_neg h61)
 have hB3:=hx3.lx.at_
 unfold AtL at hB3
 repeat(first|refine C0 ?_|refine C1 ?_|refine X1 rfl rfl ?_|refine X0 rfl rfl ?_|refine X5 rfl rfl rfl ?_|refine C2 ?_)
 refine CE.cond_d rfl (fun h47 => ?_) (fun h47 => ?_)
 ·replace hA0:=hA0.trans (if_pos h47)
  repeat(first|refine C0 ?_|refine C1 ?_|refine X1 rfl rfl ?_|refine X2 rfl rfl ?_|refine X3 rfl rfl rfl ?_|refine X4 rfl rfl rfl ?_|refine X22 rfl rfl hB3 rfl rfl ?_|refine X20 rfl rfl rfl ?_|refine C2 ?_)
  refine CE.cond_d rfl (fun hnm => ?_) (fun hnm => ?_)
  ·replace hA0:=hA0.trans (if_pos hnm)
   repeat(first|refine C0 ?_|refine C1 ?_|refine X1 rfl rfl ?_)
   refine RE.xc en93 rfl rfl (bad _ _ _ hA0 (Ext.refl _)) ?_
   rintro _ w5 ⟨rfl,h4,h5⟩
   repeat(first|refine X0 rfl rfl ?_|refine C2 ?_)
   (refine CE.ret ?_;(try dsimp only);refine ret1 rfl rfl ?_)
   exact ⟨h4.symm,h5⟩
  ·replace hA0:=hA0.trans (if_neg hnm)
   repeat(first|refine C0 ?_|refine C1 ?_|refine X1 rfl rfl ?_|refine X2 rfl rfl ?_|refine X3 rfl rfl rfl ?_|refine X4 rfl rfl rfl ?_|refine X22 rfl rfl hB3 rfl rfl ?_|refine C3 ?_)
   refine X18 rfl rfl (show _ ≤ c.clos + 1 by omega) (show c.clos + 1 ≤ _ by omega) rfl ?_
   repeat(first|refine X2 rfl rfl ?_|refine X3 rfl rfl rfl ?_|refine X4 rfl rfl rfl ?_)
   refine RE.xs (e_store rfl rfl rfl hB3 rfl rfl) ?_
   rintro _ w5 hu5
   have hl5 : LM L { c.nxt t with clos:=c.clos + 1 } w4 w5:=LM.of_upd hu5 rfl
   have hx5:=hx3.keep hl5 rfl rfl rfl hx3.lx.pos
   have hi5:=hi3.lm hl5 rfl
   have hB5:=hx5.lx.at_
   unfold AtL at hB5
   repeat(first|refine C0 ?_|refine C1 ?_|refine X1 rfl rfl ?_|refine X2 rfl rfl ?_|refine X3 rfl rfl rfl ?_|refine X4 rfl rfl rfl ?_|refine C2 ?_)
   refine RE.xs (e_store rfl rfl rfl hB5 rfl rfl) ?_
   rintro _ w6 hu6
   have hl6 : LM L { c.nxt t with clos:=c.clos + 1,inl:=false } w5 w6:=LM.of_upd hu6 rfl
   have hx6:=hx5.keep hl6 rfl rfl rfl hx3.lx.pos
   have hi6:=hi5.lm hl6 rfl
   have hB6:=hx6.lx.at_
   unfold AtL at hB6
   repeat(first|refine C0 ?_|refine C1 ?_|refine X1 rfl rfl ?_|refine X2 rfl rfl ?_|refine X3 rfl rfl rfl ?_|refine X4 rfl rfl rfl ?_|refine C2 ?_)
   refine RE.xs (e_store rfl rfl rfl hB6 rfl rfl) ?_
   rintro _ w7 hu7
   have hl7 : LM L { c.nxt t with clos:=c.clos + 1,inl:=false,step:=0 } w6 w7:=LM.of_upd hu7 rfl
   have hx7:=hx6.keep hl7 rfl rfl rfl hx3.lx.pos
   have hi7:=hi6.lm hl7 rfl
   repeat(first|refine C1 ?_|refine X1 rfl rfl ?_|refine C2 ?_)
   refine RE.xc en97 rfl rfl (emit_fn hx7 (by omega)) ?_
   rintro _ w8 ⟨rfl,it,h8,h9⟩
   repeat(first|refine C0 ?_|refine C1 ?_|refine X0 rfl rfl ?_|refine C2 ?_)
   (refine CE.ret ?_;(try dsimp only);refine ret1 rfl rfl ?_)
   subst hA0
   exact ⟨rfl,_,it,hi7.trans h8,h9⟩
 replace hA0:=hA0.trans (if_neg h47)
 repeat(first|refine C0 ?_|refine C1 ?_|refine X1 rfl rfl ?_|refine X0 rfl rfl ?_|refine X5 rfl rfl rfl ?_|refine C2 ?_)
 refine CE.cond_d rfl (fun h92 => ?_) (fun h92 => ?_)
 ·replace hA0:=hA0.trans (if_pos h92)
  repeat(first|refine C0 ?_|refine C1 ?_|refine X1 rfl rfl ?_)
  refine RE.xc en95 rfl rfl (ignore_fn hx3.lx.at_) ?_
  rintro _ w5 ⟨rfl,h5⟩
  have hx5:=hx3.keep h5 rfl rfl rfl hx3.lx.pos
  have hi5:=hi3.lm h5 rfl
  repeat(first|refine C0 ?_|refine C1 ?_|refine X1 rfl rfl ?_|refine C2 ?_)
  refine RE.xc en155 rfl rfl (peek_fn hx5.lx) ?_
  rintro _ w6 ⟨rfl,h6⟩
  have hx6:=hx5.keep h6 rfl rfl rfl hx5.lx.pos
  have hi6:=hi5.lm h6 rfl
  have par : ∀ w7,(nx t (c.pos + (nx t c.pos).2)).1 = 34 ∨ (nx t (c.pos + (nx t c.pos).2)).1 = 96 → (∃ wd,LS L ib B t dv { c with pos:=c.pos + (nx t c.pos).2,start:=c.pos + (nx t c.pos).2,width:=wd } ps w7 ∧ LI L c { c with pos:=c.pos + (nx t c.pos).2,start:=c.pos + (nx t c.pos).2,width:=wd } w w7) →
    Fn PT 159 [Ptr L 0,.bool true] w7 (fun u w' => u = fvV A.1 ∧ Aft L ib B t c A.2 w w'):=by
   rintro w7 hq2 ⟨wd,hx7,hi7⟩
   have hA2:=hA0.trans (if_pos hq2)
   subst hA2
   refine Fn.mono (param_fn (opn:=opn) hx7 (Nat.le_refl _) hn) ?_
   rintro u w' ⟨rfl,h8⟩
   exact ⟨rfl,h8.up hi7 (fun _ _ => rfl)⟩
  rw [show (nx t ({ c.nxt t with start:=(c.nxt t).pos } : LC).pos) = nx t (c.pos + (nx t c.pos).2) from rfl]
  repeat(first|refine X1 rfl rfl ?_|refine X5 rfl rfl rfl ?_)
  refine RE.splitD (fun h34 => ?_) (fun h34 => ?_)
  ·repeat(first|refine X16 rfl rfl rfl rfl ?_|refine RE.nox rfl rfl rfl rfl ?_|refine C2 ?_)
   refine CE.cond_t rfl ?_
   repeat(first|refine C0 ?_|refine C1 ?_|refine X1 rfl rfl ?_)
   refine RE.xc en159 rfl rfl (par _ (Or.inl h34) ⟨_,hx6,hi6⟩) ?_
   rintro _ w8 ⟨rfl,h8⟩
   repeat(first|refine X0 rfl rfl ?_|refine C2 ?_)
   (refine CE.ret ?_;(try dsimp only);refine ret1 rfl rfl ?_)
   exact ⟨rfl,h8⟩
  ·repeat(first|refine X1 rfl rfl ?_|refine RE.want rfl rfl ?_)
   refine RE.xc en155 rfl rfl (peek_fn hx6.lx) ?_
   rintro _ w7 ⟨rfl,h7⟩
   have hx7:=hx6.keep h7 rfl rfl rfl hx6.lx.pos
   have hi7:=hi6.lm h7 rfl
   rw [show (nx t (({ c.nxt t with start:=(c.nxt t).pos } : LC).at t ({ c.nxt t with start:=(c.nxt t).pos } : LC).pos).pos) = nx t (c.pos + (nx t c.pos).2) from rfl]
   repeat(first|refine X5 rfl rfl rfl ?_|refine X17 rfl rfl rfl ?_|refine RE.want rfl rfl ?_|refine C2 ?_)
   refine CE.cond_d rfl (fun h96 => ?_) (fun h96 => ?_)
   ·repeat(first|refine C0 ?_|refine C1 ?_|refine X1 rfl rfl ?_)
    refine RE.xc en159 rfl rfl (par _ (Or.inr h96) ⟨_,hx7,hi7⟩) ?_
    rintro _ w8 ⟨rfl,h8⟩
    repeat(first|refine X0 rfl rfl ?_|refine C2 ?_)
    (refine CE.ret ?_;(try dsimp only);refine ret1 rfl rfl ?_)
    exact ⟨rfl,h8⟩
   ·replace hA0:=hA0.trans (if_neg (by rintro (h | h); exact h34 h; exact h96 h))
    repeat(first|refine C0 ?_|refine C1 ?_|refine X0 rfl rfl ?_|refine C2 ?_|refine C3 ?_)
    (refine CE.ret ?_;(try dsimp only);refine ret1 rfl rfl ?_)
    subst hA0
    exact ⟨rfl,_,c.items,hi7,hx7⟩
 replace hA0:=hA0.trans (if_neg h92)
 have par : ∀ w7,0 < c.step ∧ (isANH (nx t c.pos).1 = true ∨ (nx t c.pos).1 = 34 ∨ (nx t c.pos).1 = 96) → LS L ib B t dv { c with width:=(nx t c.pos).2 } ps w7 → LI L c { c with width:=(nx t c.pos).2 } w w7 →
   Fn PT 159 [Ptr L 0,.bool false] w7 (fun u w' => u = fvV A.1 ∧ Aft L ib B t c A.2 w w'):=by
  rintro w7 hq2 hx7 hi7
  have hA2:=hA0.trans (if_pos hq2)
  subst hA2
  refine Fn.mono (param_fn (opn:=opn) hx7 hst hn) ?_
  rintro u w' ⟨rfl,h8⟩
  exact ⟨rfl,h8.up hi7 (fun _ _ => rfl)⟩
 refine C0 ?_
 refine CE.cut (fun s ds w' => ds = [] ∧ ∃ b,SubL [(94,.bool b),(3,.int .i32 (nx t c.pos).1),(0,Ptr L 0)] s ∧ Ext w4 w' ∧ (b = true ↔ (0 < c.step ∧ (isANH (nx t c.pos).1 = true ∨ (nx t c.pos).1 = 34 ∨ (nx t c.pos).1 = 96)))) ?_ ?_
 ·repeat(first|refine C1 ?_|refine X1 rfl rfl ?_|refine X2 rfl rfl ?_|refine X3 rfl rfl rfl ?_|refine X4 rfl rfl rfl ?_|refine X22 rfl rfl hB3 rfl rfl ?_|refine X9 rfl rfl rfl ?_)
  refine RE.splitD (fun hs0 => ?_) (fun hs0 => ?_)
  ·have hs0' : 0 < c.step:=hs0
   repeat(first|refine X1 rfl rfl ?_|refine RE.want rfl rfl ?_)
   refine RE.xc en160 rfl rfl (isANH_fn (by omega) (by omega) (fun w' he => (hx3.lx.tabs.ext hbase he).tabs)) ?_
   rintro _ w5 ⟨rfl,e5⟩
   repeat(first|refine X1 rfl rfl ?_|refine RE.want rfl rfl ?_)
   refine RE.splitH (fun hnh => ?_) (fun hnh => ?_)
   ·repeat(first|refine X1 rfl rfl ?_|refine X0 rfl rfl ?_|refine X16 rfl rfl rfl rfl ?_|refine RE.want rfl rfl ?_|refine RE.nox rfl rfl rfl rfl ?_)
    refine RE.nilx ?_
    exact ⟨rfl,true,⟨rfl,rfl,rfl,trivial⟩,e5,by simp [hs0',hnh]⟩
   ·repeat(first|refine X1 rfl rfl ?_|refine X5 rfl rfl rfl ?_|refine X17 rfl rfl rfl ?_|refine RE.want rfl rfl ?_)
    refine RE.splitD (fun h34 => ?_) (fun h34 => ?_)
    ·repeat(first|refine X0 rfl rfl ?_|refine X16 rfl rfl rfl rfl ?_|refine RE.want rfl rfl ?_|refine RE.nox rfl rfl rfl rfl ?_)
     refine RE.nilx ?_
     exact ⟨rfl,true,⟨rfl,rfl,rfl,trivial⟩,e5,by simp [hs0',h34]⟩
    ·repeat(first|refine X1 rfl rfl ?_|refine X0 rfl rfl ?_|refine X5 rfl rfl rfl ?_|refine X16 rfl rfl rfl rfl ?_|refine X17 rfl rfl rfl ?_|refine RE.want rfl rfl ?_)
     refine RE.nilx ?_
     exact ⟨rfl,_,⟨rfl,rfl,rfl,trivial⟩,e5,by simp [hs0',hnh,h34]⟩
  ·have hs0' : ¬ 0 < c.step:=hs0
   repeat(first|refine X0 rfl rfl ?_|refine X17 rfl rfl rfl ?_|refine RE.nox rfl rfl rfl rfl ?_|refine RE.nou rfl rfl rfl ?_)
   refine RE.nilx ?_
   exact ⟨rfl,false,⟨rfl,rfl,rfl,trivial⟩,Ext.refl _,by simp [hs0']⟩
 ·rintro s _ w5 ⟨rfl,b,hs,e5,hb⟩
  refine CE.sub hs ?_
  cases b with
  | true =>
   refine CE.cond_t rfl ?_
   repeat(first|refine C0 ?_|refine C1 ?_|refine X1 rfl rfl ?_)
   refine RE.xc en98 rfl rfl (back _ e5) ?_
   rintro _ w6 ⟨rfl,h6,hi6⟩
   repeat(first|refine C0 ?_|refine C1 ?_|refine X1 rfl rfl ?_|refine C2 ?_)
   refine RE.xc en159 rfl rfl (par _ (hb.1 rfl) h6 hi6) ?_
   rintro _ w8 ⟨rfl,h8⟩
   repeat(first|refine X0 rfl rfl ?_|refine C2 ?_)
   (refine CE.ret ?_;(try dsimp only);refine ret1 rfl rfl ?_)
   exact ⟨rfl,h8⟩
  | false =>
   replace hA0:=hA0.trans (if_neg (fun h => by have:=hb.2 h; cases this))
   refine CE.cond_f rfl ?_
   repeat(first|refine C0 ?_|refine C1 ?_|refine X1 rfl rfl ?_)
   refine RE.xc en161 rfl rfl (isAN_fn (by omega) (by omega) (fun w' he => (hx3.lx.tabs.ext hbase (e5.trans he)).tabs)) ?_
   rintro _ w6 ⟨rfl,e6⟩
   repeat(first|refine X0 rfl rfl ?_|refine C2 ?_)
   refine CE.cond_s rfl (fun han => ?_) (fun han => ?_)
   ·replace hA0:=hA0.trans (if_pos han)
    repeat(first|refine C0 ?_|refine C1 ?_|refine X1 rfl rfl ?_)
    refine RE.xc en98 rfl rfl (back _ (e5.trans e6)) ?_
    rintro _ w7 ⟨rfl,h7,hi7⟩
    repeat(first|refine C0 ?_|refine C1 ?_|refine X0 rfl rfl ?_|refine C2 ?_)
    (refine CE.ret ?_;(try dsimp only);refine ret1 rfl rfl ?_)
    subst hA0
    exact ⟨rfl,_,c.items,hi7,h7⟩
   ·replace hA0:=hA0.trans (if_neg (nt han))
    repeat(first|refine C0 ?_|refine C1 ?_|refine X1 rfl rfl ?_)
    refine RE.x (op_iface rfl (by kernel_rfl)) rfl ?_
    refine RE.xe (e_buildSlice (cells:=#[.iface 21 (.int .i32 (nx t c.pos).1)]) (e:=20) rfl (by kernel_rfl) (by kernel_rfl)) rfl ?_
    rintro _ w7 ⟨nb,rfl,hn7⟩
    refine RE.xc en93 rfl rfl (bad _ _ _ hA0 ((e5.trans e6).trans hn7.ext)) ?_
    rintro _ w8 ⟨rfl,h4,h5⟩
    repeat(first|refine X0 rfl rfl ?_|refine C2 ?_)
    (refine CE.ret ?_;(try dsimp only);refine ret1 rfl rfl ?_)
    exact ⟨h4.symm,h5⟩
end Go.Wk
