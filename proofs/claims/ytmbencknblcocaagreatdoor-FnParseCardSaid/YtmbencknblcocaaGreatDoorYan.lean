/- The state of a quoted value. -/
import Derived.Test.YtmbencknblcocaaGreatDoorYam
import Derived.Maps.OwnSet
import Derived.Maps.Views
import Derived.StringKeys
namespace Go.Wk
open Go Go.RowKit Go.Proofs
set_option maxRecDepth 100000
def qtGo (t : List UInt8) (al op es s1 : Bool) (p s : Nat) : Nat × Bool × Nat × Nat:=
 if _h : p < t.length then
  if (nx t p).1 = 92 then
   if (nx t (p + (nx t p).2)).1 = 34 then
    if op = true then (if al = true then qtGo t al op true true (p + (nx t p).2) s else (2,es,p,s)) else qtGo t al op es s1 (p + (nx t p).2) s
   else if (nx t (p + (nx t p).2)).1 = 96 then (0,es,p + (nx t p).2,s) else qtGo t al op es s1 (p + (nx t p).2) s
  else if (nx t p).1 = 10 then (0,es,p + (nx t p).2,s)
  else if (nx t p).1 = 34 then
   if s1 = true then qtGo t al op es false (p + (nx t p).2) s
   else if op = true then (1,es,p,s) else qtGo t al true es s1 (p + (nx t p).2) (p + (nx t p).2)
  else qtGo t al op es s1 (p + (nx t p).2) s
 else (0,es,p,s)
termination_by t.length - p
decreasing_by all_goals (have:=nx_pos t _h; omega)
def quoI (t : List UInt8) (ty : Int) (es : Bool) (lo hi : Nat) : List PI:=if es then segI t ty lo hi else [PI.of t ty lo hi true]
def outQuo (t : List UInt8) (d : D) (al : Bool) (ty : Int) : Option Nat × D:=
 if (qtGo t al false false false d.pos d.start).1 = 0 then
  (none,({ d with pos:=(qtGo t al false false false d.pos d.start).2.2.1,start:=(qtGo t al false false false d.pos d.start).2.2.2 }).bad t)
 else (some 144,{ d with
  pos:=(qtGo t al false false false d.pos d.start).2.2.1 + (qtGo t al false false false d.pos d.start).1,
  start:=(qtGo t al false false false d.pos d.start).2.2.1 + (qtGo t al false false false d.pos d.start).1,
  ps:=d.ps ++ quoI t ty (qtGo t al false false false d.pos d.start).2.1 (qtGo t al false false false d.pos d.start).2.2.2 (qtGo t al false false false d.pos d.start).2.2.1 })
def b01 (b : Bool) : Int:=if b then 1 else 0
set_option maxHeartbeats 2000000 in
theorem quo_fn {L ib B : Nat} {t dv : List UInt8} {c : LC} {ps : List PI} {w : World} {opn : List UInt8 → Bool} {al : Bool} {ty : Int} (h : LS L ib B t dv c ps w) (hst : c.start ≤ c.pos) (hn : ps.length + 8 < 100000000) :
  Fn PT 156 [Ptr L 0,.bool al,I ty] w (fun u w' => u = fvV (outQuo t (c.d dv opn ps) al ty).1 ∧ Aft L ib B t c (outQuo t (c.d dv opn ps) al ty).2 w w'):=by
 refine fn_of Tryz.func156 rfl Tryz.ntmps156 rfl ?_
 generalize hA : outQuo t (c.d dv opn ps) al ty = A
 have hA0:=hA.symm
 unfold outQuo at hA0
 generalize hG : qtGo t al false false false c.pos c.start = G
 have hG' : qtGo t al false false false (c.d dv opn ps).pos (c.d dv opn ps).start = G:=hG
 rw [hG'] at hA0
 repeat(first|refine C0 ?_|refine C1 ?_|refine X0 rfl rfl ?_|refine C2 ?_|refine CE.scope ?_|refine CE.label (show CE _ _ _ _ _ _ _ from ?_))
 refine CE.cut (fun s ds w' => ds = [] ∧ SubL [(8,.bool G.2.1),(0,Ptr L 0),(2,I ty)] s ∧ G.2.2.2 ≤ G.2.2.1 ∧
   ((G.1 = 1 ∧ (nx t G.2.2.1).1 = 34) ∨ (G.1 = 2 ∧ (nx t G.2.2.1).1 = 92 ∧ (nx t (G.2.2.1 + 1)).1 = 34)) ∧
   ∃ wd,LS L ib B t dv { c with start:=G.2.2.2,pos:=G.2.2.1,width:=wd } ps w' ∧ LI L c { c with start:=G.2.2.2,pos:=G.2.2.1,width:=wd } w w') ?_ ?_
 ·refine CE.block ?_
  refine CE.loop (α:=Bool × Bool × Bool × LC) (fun x => [(7,.bool x.1),(8,.bool x.2.1),(9,I (b01 x.2.2.1)),(0,Ptr L 0),(1,.bool al),(2,I ty)])
   (fun x w' => LS L ib B t dv x.2.2.2 ps w' ∧ LI L c x.2.2.2 w w' ∧ (∃ s q wd,x.2.2.2 = { c with start:=s,pos:=q,width:=wd }) ∧ x.2.2.2.start ≤ x.2.2.2.pos ∧ qtGo t al x.1 x.2.1 x.2.2.1 x.2.2.2.pos x.2.2.2.start = G)
   (fun x => t.length + 1 - x.2.2.2.pos) (false,false,false,c) ⟨rfl,rfl,rfl,rfl,rfl,rfl,trivial⟩ ⟨h,LI.refl h.lx.at_,⟨_,_,_,rfl⟩,hst,hG⟩ ?_
  rintro ⟨op,es,s1,x⟩ w0 ⟨g1,g2,g3,g4,g5⟩
  have hx : LS L ib B t dv x ps w0:=g1
  have hi : LI L c x w w0:=g2
  obtain ⟨s0,p0,wd0,hxe'⟩:=g3
  have hxe : x = { c with start:=s0,pos:=p0,width:=wd0 }:=hxe'
  have hle : x.start ≤ x.pos:=g4
  have hgo : qtGo t al op es s1 x.pos x.start = G:=g5
  clear g1 g2 g4 g5 hxe'
  refine (show CE _ _ _ _ [(7,.bool op),(8,.bool es),(9,I (b01 s1)),(0,Ptr L 0),(1,.bool al),(2,I ty)] _ _ from ?_)
  have hxp:=hx.lx.pos
  refine CE.block ?_
  repeat(first|refine C0 ?_|refine C1 ?_|refine X1 rfl rfl ?_)
  refine RE.xc en68 rfl rfl (next_fn hx.lx) ?_
  rintro _ w1 ⟨rfl,h1⟩
  have hx1:=hx.nxt h1
  have hi1:=hi.lm h1 rfl
  have hxn : x.nxt t = { c with start:=x.start,pos:=x.pos + (nx t x.pos).2,width:=(nx t x.pos).2 }:=by rw [hxe]; rfl
  have hstep:=qtGo.eq_1 t al op es s1 x.pos x.start
  repeat(first|refine X0 rfl rfl ?_|refine C2 ?_)
  refine CE.block ?_
  repeat(first|refine C0 ?_|refine C1 ?_|refine X1 rfl rfl ?_|refine X0 rfl rfl ?_|refine X5 rfl rfl rfl ?_|refine C2 ?_)
  refine CE.cond_d rfl (fun h92 => ?_) (fun h92 => ?_)
  ·have hin : x.pos < t.length:=nx_pos_of (by omega)
   have hw1 : (nx t x.pos).2 = 1:=nx_one (r:=92) h92 (by decide)
   rw [dif_pos hin,if_pos h92] at hstep
   repeat(first|refine C0 ?_|refine C1 ?_|refine X1 rfl rfl ?_)
   refine RE.xc en155 rfl rfl (peek_fn hx1.lx) ?_
   rintro _ w2 ⟨rfl,h2⟩
   have hx2:=hx1.keep h2 rfl rfl rfl hx1.lx.pos
   have hi2:=hi1.lm h2 rfl
   have hxa : (x.nxt t).at t (x.nxt t).pos = { c with start:=x.start,pos:=x.pos + (nx t x.pos).2,width:=(nx t (x.pos + (nx t x.pos).2)).2 }:=by rw [hxe]; rfl
   have hp1 : (x.nxt t).pos = x.pos + (nx t x.pos).2:=rfl
   rw [hp1]
   repeat(first|refine X5 rfl rfl rfl ?_|refine C2 ?_)
   refine CE.cond_d rfl (fun h34 => ?_) (fun h34 => ?_)
   ·rw [if_pos h34] at hstep
    have hw2 : (nx t (x.pos + (nx t x.pos).2)).2 = 1:=nx_one (r:=34) h34 (by decide)
    cases op with
    | false =>
     rw [if_neg (by simp)] at hstep
     repeat(first|refine C0 ?_|refine C1 ?_|refine X1 rfl rfl ?_|refine X17 rfl rfl rfl ?_|refine RE.nox rfl rfl rfl rfl ?_|refine C2 ?_|refine CE.cond_f rfl ?_)
     refine CE.skip ?_
     refine ⟨(false,es,s1,(x.nxt t).at t (x.nxt t).pos),?_,rfl,⟨rfl,rfl,rfl,rfl,rfl,rfl,trivial⟩,hx2,hi2,⟨_,_,_,hxa⟩,?_,?_⟩
     ·show t.length + 1 - (x.pos + (nx t x.pos).2) < t.length + 1 - x.pos
      omega
     ·show x.start ≤ x.pos + (nx t x.pos).2
      omega
     ·exact hstep.symm.trans hgo
    | true =>
     rw [if_pos rfl] at hstep
     cases al with
     | false =>
      rw [if_neg (by simp)] at hstep
      have hGe : G = (2,es,x.pos,x.start):=hgo.symm.trans hstep
      repeat(first|refine C0 ?_|refine C1 ?_|refine X1 rfl rfl ?_|refine X11 rfl rfl ?_|refine X16 rfl rfl rfl rfl ?_|refine RE.want rfl rfl ?_|refine C2 ?_|refine CE.cond_t rfl ?_)
      refine RE.xc en98 rfl rfl (backup_fn hx2.lx.at_ (by show (nx t (x.pos + (nx t x.pos).2)).2 ≤ x.pos + (nx t x.pos).2; omega) (by show x.pos + (nx t x.pos).2 ≤ 1000000; have:=hx.lx.small; omega)) ?_
      rintro _ w3 ⟨rfl,h3⟩
      have e3 : ({ (x.nxt t).at t (x.nxt t).pos with pos:=((x.nxt t).at t (x.nxt t).pos).pos - ((x.nxt t).at t (x.nxt t).pos).width } : LC) = { c with start:=x.start,pos:=x.pos,width:=1 }:=by
       have e4 : ((x.nxt t).at t (x.nxt t).pos).pos - ((x.nxt t).at t (x.nxt t).pos).width = x.pos:=by
        show x.pos + (nx t x.pos).2 - (nx t (x.pos + (nx t x.pos).2)).2 = x.pos
        omega
       rw [e4,hxa,hw2]
      rw [e3] at h3
      have hx3:=hx2.keep h3 (by rw [hxa]) (by rw [hxa]) (by rw [hxa]) hxp
      have hi3:=hi2.lm h3 (by rw [hxa])
      repeat (refine C2 ?_)
      refine CE.exit ?_
      subst hGe
      refine ⟨rfl,⟨rfl,rfl,rfl,trivial⟩,hle,Or.inr ⟨rfl,h92,?_⟩,1,hx3,hi3⟩
      rw [← hw1]; exact h34
     | true =>
      rw [if_pos rfl] at hstep
      repeat(first|refine C0 ?_|refine C1 ?_|refine X1 rfl rfl ?_|refine X0 rfl rfl ?_|refine X11 rfl rfl ?_|refine X16 rfl rfl rfl rfl ?_|refine RE.want rfl rfl ?_|refine C2 ?_|refine CE.cond_t rfl ?_|refine CE.cond_f rfl ?_)
      refine RE.nilx ?_
      refine ⟨(true,true,true,(x.nxt t).at t (x.nxt t).pos),?_,rfl,⟨rfl,rfl,rfl,rfl,rfl,rfl,trivial⟩,hx2,hi2,⟨_,_,_,hxa⟩,?_,?_⟩
      ·show t.length + 1 - (x.pos + (nx t x.pos).2) < t.length + 1 - x.pos
       omega
      ·show x.start ≤ x.pos + (nx t x.pos).2
       omega
      ·exact hstep.symm.trans hgo
   ·rw [if_neg h34] at hstep
    repeat(first|refine C0 ?_|refine C1 ?_|refine X1 rfl rfl ?_)
    refine RE.xc en155 rfl rfl (peek_fn hx2.lx) ?_
    rintro _ w3 ⟨rfl,h3⟩
    have hx3:=hx2.keep h3 rfl rfl rfl hx2.lx.pos
    have hi3:=hi2.lm h3 rfl
    have hxa3 : ((x.nxt t).at t (x.nxt t).pos).at t ((x.nxt t).at t (x.nxt t).pos).pos = { c with start:=x.start,pos:=x.pos + (nx t x.pos).2,width:=(nx t (x.pos + (nx t x.pos).2)).2 }:=by rw [hxe]; rfl
    have hp3 : ((x.nxt t).at t (x.nxt t).pos).pos = x.pos + (nx t x.pos).2:=rfl
    rw [hp3]
    repeat(first|refine X5 rfl rfl rfl ?_|refine C2 ?_)
    refine CE.cond_d rfl (fun h96 => ?_) (fun h96 => ?_)
    ·rw [if_pos h96] at hstep
     have hGe : G = (0,es,x.pos + (nx t x.pos).2,x.start):=hgo.symm.trans hstep
     subst hGe
     replace hA0:=hA0.trans (if_pos rfl)
     subst hA0
     repeat(first|refine C0 ?_|refine C1 ?_|refine X1 rfl rfl ?_)
     refine RE.xc en93 rfl rfl (bad_aft (d:={ c.d dv opn ps with pos:=x.pos + (nx t x.pos).2,start:=x.start }) (opn:=opn) ?_ ?_ hi3 hx3 (by omega)) ?_
     ·rw [hxa3]; rfl
     ·rw [hxa3]; rfl
     rintro _ w8 ⟨rfl,h8⟩
     repeat(first|refine X0 rfl rfl ?_|refine C2 ?_)
     (refine CE.ret ?_;(try dsimp only);refine ret1 rfl rfl ?_)
     exact ⟨rfl,h8⟩
    ·rw [if_neg h96] at hstep
     skip
     refine CE.skip ?_
     refine ⟨(op,es,s1,((x.nxt t).at t (x.nxt t).pos).at t ((x.nxt t).at t (x.nxt t).pos).pos),?_,rfl,⟨rfl,rfl,rfl,rfl,rfl,rfl,trivial⟩,hx3,hi3,⟨_,_,_,hxa3⟩,?_,?_⟩
     ·show t.length + 1 - (x.pos + (nx t x.pos).2) < t.length + 1 - x.pos
      omega
     ·show x.start ≤ x.pos + (nx t x.pos).2
      omega
     ·exact hstep.symm.trans hgo
  ·have bad : ∀ (l : List UInt8) (v : Value) (w4 : World),G = (0,es,x.pos + (nx t x.pos).2,x.start) → LS L ib B t dv (x.nxt t) ps w4 → LI L c (x.nxt t) w w4 →
     Fn PT 93 [Ptr L 0,S l,v] w4 (fun u w' => u = .nilFunc ∧ fvV A.1 = .nilFunc ∧ Aft L ib B t c A.2 w w'):=by
    intro l v w4 hGe h4 hi4
    subst hGe
    have hA1:=hA0.trans (if_pos rfl)
    subst hA1
    refine Fn.mono (bad_aft (d:={ c.d dv opn ps with pos:=x.pos + (nx t x.pos).2,start:=x.start }) (opn:=opn) (by rw [hxn]; rfl) (by rw [hxn]; rfl) hi4 h4 (by omega)) ?_
    rintro u w' ⟨rfl,h⟩
    exact ⟨rfl,rfl,h⟩
   have hxs : (x.nxt t).start ≤ (x.nxt t).pos:=by
    show x.start ≤ x.pos + (nx t x.pos).2
    omega
   repeat(first|refine C0 ?_|refine C1 ?_|refine X1 rfl rfl ?_|refine X0 rfl rfl ?_|refine X5 rfl rfl rfl ?_|refine C2 ?_)
   refine CE.cut (fun s ds w' => ds = [] ∧ w' = w1 ∧ ∃ b,SubL [(33,.bool b),(7,.bool op),(8,.bool es),(9,I (b01 s1)),(0,Ptr L 0),(1,.bool al),(2,I ty),(10,.int .i32 (nx t x.pos).1)] s ∧ (b = true → (nx t x.pos).1 = -1 ∨ (nx t x.pos).1 = 10) ∧ (b = false → (nx t x.pos).1 ≠ -1 ∧ (nx t x.pos).1 ≠ 10)) ?_ ?_
   ·refine CE.cond_d rfl (fun hm1 => ?_) (fun hm1 => ?_)
    ·refine CE.skip ?_
     exact ⟨rfl,rfl,true,⟨rfl,rfl,rfl,rfl,rfl,rfl,rfl,rfl,trivial⟩,fun _ => Or.inl hm1,fun h => (by cases h)⟩
    ·repeat(first|refine C1 ?_|refine X1 rfl rfl ?_|refine X0 rfl rfl ?_|refine X5 rfl rfl rfl ?_)
     refine RE.nilx ?_
     exact ⟨rfl,rfl,decide ((nx t x.pos).1 = 10),⟨rfl,rfl,rfl,rfl,rfl,rfl,rfl,rfl,trivial⟩,fun h => Or.inr (of_decide_eq_true h),fun h => ⟨hm1,of_decide_eq_false h⟩⟩
   ·rintro s _ w2 ⟨rfl,rfl,b,hs,hb1,hb2⟩
    refine CE.sub hs ?_
    skip
    cases b with
    | true =>
     refine CE.cond_t rfl ?_
     have hGe : G = (0,es,x.pos + (nx t x.pos).2,x.start):=by
      rcases hb1 rfl with h' | h'
      ·rw [dif_neg (by have:=nx_neg h'; omega)] at hstep
       have hw0 : (nx t x.pos).2 = 0:=by rw [nx_end (nx_neg h')]
       rw [hw0]
       exact hgo.symm.trans hstep
      ·rw [dif_pos (nx_pos_of (by omega)),if_neg h92,if_pos h'] at hstep
       exact hgo.symm.trans hstep
     repeat(first|refine C0 ?_|refine C1 ?_|refine X1 rfl rfl ?_)
     refine RE.xc en168 rfl rfl (current_fn hx1.lx hxs) ?_
     rintro v4 w4 e4
     refine RE.x (op_iface rfl (by kernel_rfl)) rfl ?_
     refine RE.xe (e_buildSlice (cells:=#[.iface 42 v4]) (e:=20) rfl (by kernel_rfl) (by kernel_rfl)) rfl ?_
     rintro _ w5 ⟨nb,rfl,hn5⟩
     have e5:=e4.trans hn5.ext
     refine RE.xc en93 rfl rfl (bad _ _ _ hGe (hx1.ext e5) (hi1.ext_r e5)) ?_
     rintro _ w8 ⟨rfl,h7,h8⟩
     repeat(first|refine X0 rfl rfl ?_|refine C2 ?_)
     (refine CE.ret ?_;(try dsimp only);refine ret1 rfl rfl ?_)
     exact ⟨h7.symm,h8⟩
    | false =>
     refine CE.cond_f rfl ?_
     obtain ⟨hm1,h10⟩:=hb2 rfl
     have hin : x.pos < t.length:=nx_pos_of hm1
     have hpp:=nx_pos t hin
     rw [dif_pos hin,if_neg h92,if_neg h10] at hstep
     repeat(first|refine C0 ?_|refine C1 ?_|refine X1 rfl rfl ?_|refine X0 rfl rfl ?_|refine X5 rfl rfl rfl ?_|refine C2 ?_)
     refine CE.cond_d rfl (fun h34 => ?_) (fun h34 => ?_)
     ·rw [if_pos h34] at hstep
      cases s1 with
      | true =>
       rw [if_pos rfl] at hstep
       repeat(first|refine C0 ?_|refine C1 ?_|refine X1 rfl rfl ?_|refine X5 rfl rfl rfl ?_|refine C2 ?_)
       refine CE.cond_f rfl ?_
       repeat(first|refine C1 ?_|refine X0 rfl rfl ?_)
       refine RE.nilx ?_
       refine ⟨(op,es,false,x.nxt t),?_,rfl,⟨rfl,rfl,rfl,rfl,rfl,rfl,trivial⟩,hx1,hi1,⟨_,_,_,hxn⟩,hxs,?_⟩
       ·show t.length + 1 - (x.pos + (nx t x.pos).2) < t.length + 1 - x.pos
        omega
       ·exact hstep.symm.trans hgo
      | false =>
       rw [if_neg (by simp)] at hstep
       repeat(first|refine C0 ?_|refine C1 ?_|refine X1 rfl rfl ?_|refine X5 rfl rfl rfl ?_|refine C2 ?_)
       refine CE.cond_t rfl ?_
       cases op with
       | true =>
        rw [if_pos rfl] at hstep
        have hGe : G = (1,es,x.pos,x.start):=hgo.symm.trans hstep
        repeat(first|refine C0 ?_|refine C1 ?_|refine X1 rfl rfl ?_|refine C2 ?_|refine CE.cond_t rfl ?_)
        refine RE.xc en98 rfl rfl (backNext_fn hx1.lx) ?_
        rintro _ w3 ⟨rfl,h3⟩
        have hxa : x.at t x.pos = { c with start:=x.start,pos:=x.pos,width:=(nx t x.pos).2 }:=by rw [hxe]; rfl
        have hx3:=hx1.keep h3 rfl rfl rfl hxp
        have hi3:=hi1.lm h3 rfl
        rw [hxa] at hx3 hi3
        repeat (refine C2 ?_)
        refine CE.exit ?_
        subst hGe
        exact ⟨rfl,⟨rfl,rfl,rfl,trivial⟩,hle,Or.inl ⟨rfl,h34⟩,_,hx3,hi3⟩
       | false =>
        rw [if_neg (by simp)] at hstep
        repeat(first|refine C0 ?_|refine C1 ?_|refine X1 rfl rfl ?_|refine X0 rfl rfl ?_|refine C2 ?_|refine CE.cond_f rfl ?_)
        refine RE.xc en95 rfl rfl (ignore_fn hx1.lx.at_) ?_
        rintro _ w3 ⟨rfl,h3⟩
        have hx3:=hx1.keep h3 rfl rfl rfl hx1.lx.pos
        have hi3:=hi1.lm h3 rfl
        refine RE.nilx ?_
        refine ⟨(true,es,false,{ x.nxt t with start:=(x.nxt t).pos }),?_,rfl,⟨rfl,rfl,rfl,rfl,rfl,rfl,trivial⟩,hx3,hi3,⟨x.pos + (nx t x.pos).2,x.pos + (nx t x.pos).2,(nx t x.pos).2,by rw [hxe]; rfl⟩,Nat.le_refl _,?_⟩
        ·show t.length + 1 - (x.pos + (nx t x.pos).2) < t.length + 1 - x.pos
         omega
        ·exact hstep.symm.trans hgo
     ·rw [if_neg h34] at hstep
      skip
      refine CE.skip ?_
      refine ⟨(op,es,s1,x.nxt t),?_,rfl,⟨rfl,rfl,rfl,rfl,rfl,rfl,trivial⟩,hx1,hi1,⟨_,_,_,hxn⟩,hxs,?_⟩
      ·show t.length + 1 - (x.pos + (nx t x.pos).2) < t.length + 1 - x.pos
       omega
      ·exact hstep.symm.trans hgo
 ·rintro s _ w1 ⟨rfl,hs,hle,hk,wd,h1,hi1⟩
  refine CE.sub hs ?_
  obtain ⟨k,es,q,s0⟩:=G
  replace hA0:=hA0.trans (if_neg (by show ¬ k = 0; rcases hk with ⟨h,_⟩ | ⟨h,_⟩ <;> (have h' : k = _:=h; omega)))
  have hk' : (k = 1 ∧ (nx t q).1 = 34) ∨ (k = 2 ∧ (nx t q).1 = 92 ∧ (nx t (q + 1)).1 = 34):=hk
  have hle' : s0 ≤ q:=hle
  clear hk hle
  refine (show CE _ _ _ _ [(8,.bool es),(0,Ptr L 0),(2,I ty)] _ _ from ?_)
  repeat(first|refine C0 ?_|refine C1 ?_|refine X1 rfl rfl ?_|refine C2 ?_)
  refine CE.cut (fun s ds w' => ds = [] ∧ SubL [(0,Ptr L 0)] s ∧ ∃ it,LI L c { c with start:=q,pos:=q,width:=wd,items:=it } w w' ∧ LS L ib B t dv { c with start:=q,pos:=q,width:=wd,items:=it } (ps ++ quoI t ty es s0 q) w') ?_ ?_
  ·cases es with
   | true =>
    refine CE.cond_t rfl ?_
    repeat(first|refine C1 ?_|refine X1 rfl rfl ?_)
    refine RE.xc en169 rfl rfl (ignE_fn h1 hle' (by omega)) ?_
    rintro _ w2 ⟨rfl,it,h2,h3⟩
    refine RE.nilx ?_
    exact ⟨rfl,⟨rfl,trivial⟩,it,hi1.trans h2,h3⟩
   | false =>
    refine CE.cond_f rfl ?_
    repeat(first|refine C1 ?_|refine X1 rfl rfl ?_)
    refine RE.xc en170 rfl rfl (emitS_fn h1 (by omega)) ?_
    rintro _ w2 ⟨rfl,it,h2,h3⟩
    refine RE.nilx ?_
    exact ⟨rfl,⟨rfl,trivial⟩,it,hi1.trans h2,h3⟩
  ·rintro s _ w2 ⟨rfl,hs,it,hi2,h2⟩
   refine CE.sub hs ?_
   repeat(first|refine C0 ?_|refine C1 ?_|refine X1 rfl rfl ?_)
   refine RE.xc en68 rfl rfl (next_fn h2.lx) ?_
   rintro _ w3 ⟨rfl,h3⟩
   have hx3:=h2.nxt h3
   have hi3:=hi2.lm h3 rfl
   have hq : ∀ (c' : LC),c'.pos = q → (nx t c'.pos) = nx t q:=fun c' h => by rw [h]
   subst hA0
   rcases hk' with ⟨rfl,h34⟩ | ⟨rfl,h92,h34⟩
   ·have hw : (nx t q).2 = 1:=nx_one (r:=34) h34 (by decide)
    rw [show (nx t ({ c with start:=q,pos:=q,width:=wd,items:=it } : LC).pos).1 = 34 from h34]
    repeat(first|refine C0 ?_|refine C1 ?_|refine X1 rfl rfl ?_|refine X0 rfl rfl ?_|refine X5 rfl rfl rfl ?_|refine C2 ?_|refine CE.cond_t rfl ?_|refine CE.cond_f rfl ?_)
    refine RE.xc en95 rfl rfl (ignore_fn hx3.lx.at_) ?_
    rintro _ w4 ⟨rfl,h4⟩
    have hx4:=hx3.keep h4 rfl rfl rfl hx3.lx.pos
    have hi4:=hi3.lm h4 rfl
    repeat(first|refine C0 ?_|refine C1 ?_|refine X0 rfl rfl ?_|refine C2 ?_)
    (refine CE.ret ?_;(try dsimp only);refine ret1 rfl rfl ?_)
    simp only [LC.nxt,hw] at hx4 hi4
    exact ⟨rfl,1,it,hi4,hx4⟩
   ·have hw : (nx t q).2 = 1:=nx_one (r:=92) h92 (by decide)
    have hw2 : (nx t (q + 1)).2 = 1:=nx_one (r:=34) h34 (by decide)
    rw [show (nx t ({ c with start:=q,pos:=q,width:=wd,items:=it } : LC).pos).1 = 92 from h92]
    repeat(first|refine C0 ?_|refine C1 ?_|refine X1 rfl rfl ?_|refine X0 rfl rfl ?_|refine X5 rfl rfl rfl ?_|refine C2 ?_|refine CE.cond_t rfl ?_)
    refine RE.xc en155 rfl rfl (peek_fn hx3.lx) ?_
    rintro _ w4 ⟨rfl,h4⟩
    have hx4:=hx3.keep h4 rfl rfl rfl hx3.lx.pos
    have hi4:=hi3.lm h4 rfl
    rw [show (nx t (({ c with start:=q,pos:=q,width:=wd,items:=it } : LC).nxt t).pos).1 = 34 by simp only [LC.nxt,hw]; exact h34]
    repeat(first|refine C0 ?_|refine C1 ?_|refine X1 rfl rfl ?_|refine X5 rfl rfl rfl ?_|refine C2 ?_|refine CE.cond_t rfl ?_)
    refine RE.xc en95 rfl rfl (ignore_fn hx4.lx.at_) ?_
    rintro _ w5 ⟨rfl,h5⟩
    have hx5:=hx4.keep h5 rfl rfl rfl hx4.lx.pos
    have hi5:=hi4.lm h5 rfl
    repeat(first|refine C0 ?_|refine C1 ?_|refine X1 rfl rfl ?_|refine C2 ?_)
    refine RE.xc en68 rfl rfl (next_fn hx5.lx) ?_
    rintro _ w6 ⟨rfl,h6⟩
    have hx6:=hx5.nxt h6
    have hi6:=hi5.lm h6 rfl
    repeat(first|refine C1 ?_|refine X1 rfl rfl ?_|refine C2 ?_)
    refine RE.xc en95 rfl rfl (ignore_fn hx6.lx.at_) ?_
    rintro _ w7 ⟨rfl,h7⟩
    have hx7:=hx6.keep h7 rfl rfl rfl hx6.lx.pos
    have hi7:=hi6.lm h7 rfl
    repeat(first|refine C0 ?_|refine C1 ?_|refine X0 rfl rfl ?_|refine C2 ?_)
    (refine CE.ret ?_;(try dsimp only);refine ret1 rfl rfl ?_)
    simp only [LC.nxt,LC.at,hw,hw2] at hx7 hi7
    exact ⟨rfl,1,it,hi7,hx7⟩
def parC (r : Int) : Bool:=isANH r || decide (r = 46)
def parStop (r : Int) : Bool:=decide (r = 61) || !parC r
def parEnd (t : List UInt8) (p : Nat) : Nat:=if parC (nx t p).1 = true then skipTo parStop t (p + (nx t p).2) else p
def parEq (t : List UInt8) (p : Nat) : Bool:=parC (nx t p).1 && decide ((nx t (parEnd t p)).1 = 61)
theorem isANH_neg : isANH (-1) = false:=by decide +kernel
def outPar2 (t : List UInt8) (d : D) (ne : Bool) : Option Nat × D:=
 if d.par = 0 then (some 144,({ d with par:=if ne then 2 else 1 }).em t 15) else
 if ne = true ∧ d.par = 1 then (none,d.bad t) else
 if ne = false ∧ d.par = 2 then (none,d.bad t) else (some 144,d.em t 15)
def outParam (t : List UInt8) (d : D) (eq : Bool) : Option Nat × D:=
 if (nx t d.pos).1 = 34 ∨ ((nx t d.pos).1 = 96 ∧ eq = false) then
  if d.par = 2 then (none,({ d with pos:=d.pos + (nx t d.pos).2 }).bad t) else
  if (nx t d.pos).1 = 34 then outQuo t { d with par:=1 } (!eq) 15 else outRaw t { d with par:=1 } 15
 else if (nx t d.pos).1 = 96 then (none,({ d with pos:=d.pos + (nx t d.pos).2 }).bad t)
 else outPar2 t { d with pos:=parEnd t d.pos } (parEq t d.pos)
theorem Aft.up {L ib B : Nat} {t : List UInt8} {c c' : LC} {d : D} {w w1 w' : World} (hi : LI L c c' w w1) (h : Aft L ib B t c' d w1 w') (he : ∀ wd it,c'.upd d wd it = c.upd d wd it) : Aft L ib B t c d w w':=by
 obtain ⟨wd,it,h1,h2⟩:=h
 rw [he] at h1 h2
 exact ⟨wd,it,hi.trans h1,h2⟩
set_option maxHeartbeats 1000000 in
theorem param_fn {L ib B : Nat} {t dv : List UInt8} {c : LC} {ps : List PI} {w : World} {opn : List UInt8 → Bool} {eq : Bool} (h : LS L ib B t dv c ps w) (hst : c.start ≤ c.pos) (hn : ps.length + 8 < 100000000) :
  Fn PT 159 [Ptr L 0,.bool eq] w (fun u w' => u = fvV (outParam t (c.d dv opn ps) eq).1 ∧ Aft L ib B t c (outParam t (c.d dv opn ps) eq).2 w w'):=by
 refine fn_of Tryz.func159 rfl Tryz.ntmps159 rfl ?_
 generalize hA : outParam t (c.d dv opn ps) eq = A
 have hA0:=hA.symm
 unfold outParam at hA0
 repeat(first|refine C0 ?_|refine C1 ?_|refine X0 rfl rfl ?_|refine C2 ?_)
 refine CE.cut (fun s ds w' => ds = [] ∧ SubL [(6,.bool (parEq t c.pos)),(0,Ptr L 0)] s ∧ A = outPar2 t { c.d dv opn ps with pos:=parEnd t c.pos } (parEq t c.pos) ∧ c.pos ≤ parEnd t c.pos ∧
   ∃ wd,LS L ib B t dv { c with pos:=parEnd t c.pos,width:=wd } ps w' ∧ LI L c { c with pos:=parEnd t c.pos,width:=wd } w w') ?_ ?_
 ·refine CE.block ?_
  refine CE.loop (α:=Bool × LC) (fun x => [(5,.bool x.1),(6,.bool false),(0,Ptr L 0),(1,.bool eq)])
   (fun x w' => LS L ib B t dv x.2 ps w' ∧ LI L c x.2 w w' ∧ ((x.1 = true ∧ x.2 = c) ∨ (x.1 = false ∧ (∃ q wd,x.2 = { c with pos:=q,width:=wd }) ∧ c.pos ≤ x.2.pos ∧ parC (nx t c.pos).1 = true ∧ skipTo parStop t x.2.pos = skipTo parStop t (c.pos + (nx t c.pos).2) ∧
    A = outPar2 t { c.d dv opn ps with pos:=parEnd t c.pos } (parEq t c.pos))))
   (fun x => t.length + 1 - x.2.pos) (true,c) ⟨rfl,rfl,rfl,rfl,trivial⟩ ⟨h,LI.refl h.lx.at_,Or.inl ⟨rfl,rfl⟩⟩ ?_
  rintro ⟨first,x⟩ w0 ⟨g1,g2,g3⟩
  have hx : LS L ib B t dv x ps w0:=g1
  have hi : LI L c x w w0:=g2
  have hf : (first = true ∧ x = c) ∨ (first = false ∧ (∃ q wd,x = { c with pos:=q,width:=wd }) ∧ c.pos ≤ x.pos ∧ parC (nx t c.pos).1 = true ∧ skipTo parStop t x.pos = skipTo parStop t (c.pos + (nx t c.pos).2) ∧
    A = outPar2 t { c.d dv opn ps with pos:=parEnd t c.pos } (parEq t c.pos)):=g3
  clear g1 g2 g3
  refine (show CE _ _ _ _ [(5,.bool first),(6,.bool false),(0,Ptr L 0),(1,.bool eq)] _ _ from ?_)
  have hxp:=hx.lx.pos
  refine CE.block ?_
  repeat(first|refine C0 ?_|refine C1 ?_|refine X1 rfl rfl ?_)
  refine RE.xc en68 rfl rfl (next_fn hx.lx) ?_
  rintro _ w1 ⟨rfl,h1⟩
  have hx1:=hx.nxt h1
  have hi1:=hi.lm h1 rfl
  have hnr:=nx_range t x.pos
  repeat(first|refine C0 ?_|refine C1 ?_|refine X1 rfl rfl ?_|refine X0 rfl rfl ?_|refine C2 ?_)
  refine CE.cut (fun s ds w' => ds = [] ∧ w' = w1 ∧ SubL [(5,.bool false),(6,.bool false),(7,.int .i32 (nx t x.pos).1),(0,Ptr L 0),(1,.bool eq)] s ∧
    A = outPar2 t { c.d dv opn ps with pos:=parEnd t c.pos } (parEq t c.pos) ∧ (first = false → (nx t x.pos).1 ≠ 61)) ?_ ?_
  ·rcases hf with ⟨hft,hxc⟩ | ⟨hff,⟨q,wd,hxe⟩,hle,hpc,hsk,hAe⟩
   ·subst hft hxc
    refine CE.cond_t rfl ?_
    have hbk : ∀ (w3 : World),LM L { x.nxt t with par:=1 } w1 w3 → LS L ib B t dv { x.nxt t with par:=1 } ps w3:=fun w3 hm => hx1.keep hm rfl rfl rfl hx1.lx.pos
    have quote : ((nx t x.pos).1 = 34 ∨ ((nx t x.pos).1 = 96 ∧ eq = false)) → x.par = 2 → A = (none,({ x.d dv opn ps with pos:=x.pos + (nx t x.pos).2 } : D).bad t):=fun h1 h2 => (hA0.trans (if_pos h1)).trans (if_pos h2)
    have hB1:=hx1.lx.at_
    unfold AtL at hB1
    have bad : ∀ (l : List UInt8) (v : Value) (w4 : World),A = (none,({ x.d dv opn ps with pos:=x.pos + (nx t x.pos).2 } : D).bad t) → w4 = w1 →
      Fn PT 93 [Ptr L 0,S l,v] w4 (fun u w' => u = .nilFunc ∧ fvV A.1 = .nilFunc ∧ Aft L ib B t x A.2 w w'):=by
     rintro l v w4 hAe rfl
     subst hAe
     refine Fn.mono (bad_aft (d:={ x.d dv opn ps with pos:=x.pos + (nx t x.pos).2 }) (opn:=opn) rfl rfl hi1 hx1 (by omega)) ?_
     rintro u w' ⟨rfl,h⟩
     exact ⟨rfl,rfl,h⟩
    have back : ∀ (w3 : World),LM L { x.nxt t with par:=1 } w1 w3 → Fn PT 98 [Ptr L 0] w3 (fun v w' => v = .tuple #[] ∧ LS L ib B t dv { x with par:=1,width:=(nx t x.pos).2 } ps w' ∧ LI L x { x with par:=1,width:=(nx t x.pos).2 } w w'):=by
     intro w3 hm
     have h3:=hbk w3 hm
     refine Fn.mono (backNext_fn (c:={ x with par:=1 }) (show Lx L ib B t (({ x with par:=1 } : LC).nxt t) w3 from h3.lx)) ?_
     rintro u w' ⟨rfl,h4⟩
     exact ⟨rfl,h3.keep h4 rfl rfl rfl hxp,(hi1.lm hm rfl).lm h4 rfl⟩
    repeat(first|refine C0 ?_|refine C1 ?_|refine X1 rfl rfl ?_|refine X5 rfl rfl rfl ?_)
    refine RE.splitD (fun h34 => ?_) (fun h34 => ?_)
    ·repeat(first|refine X16 rfl rfl rfl rfl ?_|refine RE.nox rfl rfl rfl rfl ?_|refine RE.nou rfl rfl rfl ?_|refine C2 ?_)
     refine CE.cond_t rfl ?_
     repeat(first|refine C0 ?_|refine C1 ?_|refine X1 rfl rfl ?_|refine X2 rfl rfl ?_|refine X3 rfl rfl rfl ?_|refine X4 rfl rfl rfl ?_|refine X22 rfl rfl hB1 rfl rfl ?_|refine X5 rfl rfl rfl ?_|refine C2 ?_)
     refine CE.cond_d rfl (fun hp2 => ?_) (fun hp2 => ?_)
     ·repeat(first|refine C0 ?_|refine C1 ?_|refine X1 rfl rfl ?_)
      refine RE.xc en93 rfl rfl (bad _ _ _ (quote (Or.inl h34) hp2) rfl) ?_
      rintro _ w4 ⟨rfl,h5,h6⟩
      repeat(first|refine X0 rfl rfl ?_|refine C2 ?_)
      (refine CE.ret ?_;(try dsimp only);refine ret1 rfl rfl ?_)
      exact ⟨h5.symm,h6⟩
     ·have hA1:=(hA0.trans (if_pos (Or.inl h34))).trans ((if_neg hp2).trans (if_pos h34))
      repeat(first|refine C0 ?_|refine C1 ?_|refine X1 rfl rfl ?_|refine X2 rfl rfl ?_|refine X3 rfl rfl rfl ?_|refine X4 rfl rfl rfl ?_|refine C3 ?_)
      refine RE.xs (e_store rfl rfl rfl hB1 rfl rfl) ?_
      rintro _ w3 hu3
      have hm3 : LM L { x.nxt t with par:=1 } w1 w3:=LM.of_upd hu3 rfl
      repeat(first|refine C0 ?_|refine C1 ?_|refine X1 rfl rfl ?_|refine C2 ?_)
      refine RE.xc en98 rfl rfl (back w3 hm3) ?_
      rintro _ w4 ⟨rfl,h4,hi4⟩
      repeat(first|refine C0 ?_|refine C1 ?_|refine X1 rfl rfl ?_|refine X5 rfl rfl rfl ?_|refine C2 ?_)
      refine CE.cond_d rfl (fun _ => ?_) (fun h => absurd h34 h)
      repeat(first|refine C0 ?_|refine C1 ?_|refine X1 rfl rfl ?_|refine X11 rfl rfl ?_)
      refine RE.xc en156 rfl rfl (quo_fn (opn:=opn) h4 hst (by omega)) ?_
      rintro _ w5 ⟨rfl,h5⟩
      repeat(first|refine X0 rfl rfl ?_|refine C2 ?_)
      (refine CE.ret ?_;(try dsimp only);refine ret1 rfl rfl ?_)
      subst hA1
      exact ⟨rfl,h5.up hi4 (fun _ _ => rfl)⟩
    ·repeat(first|refine X1 rfl rfl ?_|refine X5 rfl rfl rfl ?_|refine RE.want rfl rfl ?_)
     refine RE.splitD (fun h96 => ?_) (fun h96 => ?_)
     ·repeat(first|refine X1 rfl rfl ?_|refine X11 rfl rfl ?_|refine X16 rfl rfl rfl rfl ?_|refine X17 rfl rfl rfl ?_|refine RE.want rfl rfl ?_|refine C2 ?_)
      cases eq with
      | false =>
       skip
       refine CE.cond_t rfl ?_
       repeat(first|refine C0 ?_|refine C1 ?_|refine X1 rfl rfl ?_|refine X2 rfl rfl ?_|refine X3 rfl rfl rfl ?_|refine X4 rfl rfl rfl ?_|refine X22 rfl rfl hB1 rfl rfl ?_|refine X5 rfl rfl rfl ?_|refine C2 ?_)
       refine CE.cond_d rfl (fun hp2 => ?_) (fun hp2 => ?_)
       ·repeat(first|refine C0 ?_|refine C1 ?_|refine X1 rfl rfl ?_)
        refine RE.xc en93 rfl rfl (bad _ _ _ (quote (Or.inr ⟨h96,rfl⟩) hp2) rfl) ?_
        rintro _ w4 ⟨rfl,h5,h6⟩
        repeat(first|refine X0 rfl rfl ?_|refine C2 ?_)
        (refine CE.ret ?_;(try dsimp only);refine ret1 rfl rfl ?_)
        exact ⟨h5.symm,h6⟩
       ·have hA1:=(hA0.trans (if_pos (Or.inr ⟨h96,rfl⟩))).trans ((if_neg hp2).trans (if_neg h34))
        repeat(first|refine C0 ?_|refine C1 ?_|refine X1 rfl rfl ?_|refine X2 rfl rfl ?_|refine X3 rfl rfl rfl ?_|refine X4 rfl rfl rfl ?_|refine C3 ?_)
        refine RE.xs (e_store rfl rfl rfl hB1 rfl rfl) ?_
        rintro _ w3 hu3
        have hm3 : LM L { x.nxt t with par:=1 } w1 w3:=LM.of_upd hu3 rfl
        repeat(first|refine C0 ?_|refine C1 ?_|refine X1 rfl rfl ?_|refine C2 ?_)
        refine RE.xc en98 rfl rfl (back w3 hm3) ?_
        rintro _ w4 ⟨rfl,h4,hi4⟩
        repeat(first|refine C0 ?_|refine C1 ?_|refine X1 rfl rfl ?_|refine X5 rfl rfl rfl ?_|refine C2 ?_)
        refine CE.cond_d rfl (fun h => absurd h h34) (fun _ => ?_)
        repeat(first|refine C0 ?_|refine C1 ?_|refine X1 rfl rfl ?_|refine C3 ?_)
        refine RE.xc en157 rfl rfl (raw_fn (opn:=opn) h4 h96 hst (by omega)) ?_
        rintro _ w5 ⟨rfl,h5⟩
        repeat(first|refine X0 rfl rfl ?_|refine C2 ?_)
        (refine CE.ret ?_;(try dsimp only);refine ret1 rfl rfl ?_)
        subst hA1
        exact ⟨rfl,h5.up hi4 (fun _ _ => rfl)⟩
      | true =>
       skip
       refine CE.cond_f rfl ?_
       repeat(first|refine C0 ?_|refine C1 ?_|refine X1 rfl rfl ?_|refine X5 rfl rfl rfl ?_)
       refine RE.splitD (fun _ => ?_) (fun h => absurd h96 h)
       repeat(first|refine X1 rfl rfl ?_|refine X16 rfl rfl rfl rfl ?_|refine RE.want rfl rfl ?_|refine C2 ?_)
       refine CE.cond_t rfl ?_
       repeat(first|refine C0 ?_|refine C1 ?_|refine X1 rfl rfl ?_)
       have hA1:=(hA0.trans (if_neg (by rintro (h | ⟨_,h⟩); exact h34 h; cases h))).trans (if_pos h96)
       refine RE.xc en93 rfl rfl (bad _ _ _ hA1 rfl) ?_
       rintro _ w4 ⟨rfl,h5,h6⟩
       repeat(first|refine X0 rfl rfl ?_|refine C2 ?_)
       (refine CE.ret ?_;(try dsimp only);refine ret1 rfl rfl ?_)
       exact ⟨h5.symm,h6⟩
     ·repeat(first|refine X17 rfl rfl rfl ?_|refine RE.want rfl rfl ?_|refine RE.nox rfl rfl rfl rfl ?_|refine C2 ?_)
      refine CE.cond_f rfl ?_
      repeat(first|refine C0 ?_|refine C1 ?_|refine X1 rfl rfl ?_|refine X5 rfl rfl rfl ?_)
      refine RE.splitD (fun h => absurd h h96) (fun _ => ?_)
      repeat(first|refine X17 rfl rfl rfl ?_|refine RE.nox rfl rfl rfl rfl ?_|refine C2 ?_)
      refine CE.cond_f rfl ?_
      repeat(first|refine C1 ?_|refine X0 rfl rfl ?_|refine C3 ?_)
      refine RE.nilx ?_
      refine ⟨rfl,rfl,⟨rfl,rfl,rfl,rfl,rfl,trivial⟩,?_,fun h => (by cases h)⟩
      exact (hA0.trans (if_neg (by rintro (h | ⟨h,_⟩); exact h34 h; exact h96 h))).trans (if_neg h96)
   ·subst hff
    refine CE.cond_f rfl ?_
    repeat(first|refine C0 ?_|refine C1 ?_|refine X1 rfl rfl ?_|refine X5 rfl rfl rfl ?_|refine C2 ?_)
    refine CE.cond_d rfl (fun h61 => ?_) (fun h61 => ?_)
    ·repeat(first|refine C0 ?_|refine C1 ?_|refine X1 rfl rfl ?_)
     refine RE.xc en98 rfl rfl (backNext_fn hx1.lx) ?_
     rintro _ w3 ⟨rfl,h3⟩
     have hx3:=hx1.keep h3 rfl rfl rfl hxp
     have hi3:=hi1.lm h3 rfl
     repeat(first|refine C0 ?_|refine C1 ?_|refine X0 rfl rfl ?_|refine C2 ?_)
     refine CE.exit ?_
     have hpe : parEnd t c.pos = x.pos:=by
      unfold parEnd
      rw [if_pos hpc,← hsk]
      exact skipTo_stop (Or.inr (by simp [parStop,h61]))
     have hpq : parEq t c.pos = true:=by
      unfold parEq
      rw [hpe,hpc,h61]; rfl
     have hxa : x.at t x.pos = { c with pos:=parEnd t c.pos,width:=(nx t x.pos).2 }:=by rw [hpe,hxe]; rfl
     rw [hxa] at hx3 hi3
     refine ⟨rfl,⟨by rw [hpq]; rfl,rfl,trivial⟩,hAe,by rw [hpe]; exact hle,_,hx3,hi3⟩
    ·refine CE.skip ?_
     exact ⟨rfl,rfl,⟨rfl,rfl,rfl,rfl,rfl,trivial⟩,hAe,fun _ => h61⟩
  ·rintro s _ w2 ⟨rfl,rfl,hs,hAe,h61⟩
   refine CE.sub hs ?_
   repeat(first|refine C0 ?_|refine C1 ?_|refine X1 rfl rfl ?_)
   refine RE.xc en160 rfl rfl (isANH_fn (by omega) (by omega) (fun w' he => (hx1.lx.tabs.ext (by have:=hx1.lx.base; have:=hx1.lx.at_.lt; omega) he).tabs)) ?_
   rintro _ w3 ⟨rfl,e3⟩
   have hx3:=hx1.ext e3
   have hi3:=hi1.ext_r e3
   have hxe : ∃ q wd,x = { c with pos:=q,width:=wd }:=by
    rcases hf with ⟨_,rfl⟩ | ⟨_,h,_⟩
    ·exact ⟨_,_,rfl⟩
    ·exact h
   obtain ⟨q,wd,hxe⟩:=hxe
   have hcx : c.pos ≤ x.pos:=by
    rcases hf with ⟨_,rfl⟩ | ⟨_,_,h,_⟩
    ·exact Nat.le_refl _
    ·exact h
   have stop : parC (nx t x.pos).1 = false → parEnd t c.pos = x.pos ∧ parEq t c.pos = false:=by
    intro hc
    rcases hf with ⟨_,rfl⟩ | ⟨hff,_,_,hpc,hsk,_⟩
    ·have h1 : parEnd t x.pos = x.pos:=by unfold parEnd; rw [hc]; rfl
     exact ⟨h1,by unfold parEq; rw [hc]; rfl⟩
    ·have h1 : parEnd t c.pos = x.pos:=by
      unfold parEnd
      rw [if_pos hpc,← hsk]
      exact skipTo_stop (Or.inr (by simp [parStop,hc]))
     refine ⟨h1,?_⟩
     unfold parEq
     rw [h1,hpc]
     simpa using h61 hff
   have go : parC (nx t x.pos).1 = true → ∃ y : Bool × LC,t.length + 1 - y.2.pos < t.length + 1 - x.pos ∧ y = (false,x.nxt t) ∧ (LS L ib B t dv y.2 ps w3 ∧ LI L c y.2 w w3 ∧ ((y.1 = true ∧ y.2 = c) ∨ (y.1 = false ∧ (∃ q wd,y.2 = { c with pos:=q,width:=wd }) ∧ c.pos ≤ y.2.pos ∧ parC (nx t c.pos).1 = true ∧ skipTo parStop t y.2.pos = skipTo parStop t (c.pos + (nx t c.pos).2) ∧
    A = outPar2 t { c.d dv opn ps with pos:=parEnd t c.pos } (parEq t c.pos)))):=by
    intro hc
    have hin : x.pos < t.length:=by
     refine nx_pos_of fun e => ?_
     rw [e] at hc
     simp [parC,isANH_neg] at hc
    have hpp:=nx_pos t hin
    refine ⟨(false,x.nxt t),?_,rfl,hx3,hi3,Or.inr ⟨rfl,⟨_,_,by rw [hxe]; rfl⟩,?_,?_,?_,hAe⟩⟩
    ·show t.length + 1 - (x.pos + (nx t x.pos).2) < t.length + 1 - x.pos
     omega
    ·show c.pos ≤ x.pos + (nx t x.pos).2
     omega
    ·rcases hf with ⟨_,rfl⟩ | ⟨_,_,_,hpc,_,_⟩
     ·exact hc
     ·exact hpc
    ·show skipTo parStop t (x.pos + (nx t x.pos).2) = _
     rcases hf with ⟨_,rfl⟩ | ⟨hff,_,_,_,hsk,_⟩
     ·rfl
     ·rw [← hsk,skipTo_go hin]
      have:=h61 hff
      simp [parStop,hc,this]
   have fin : parC (nx t x.pos).1 = false → ∀ w4,LM L (x.at t x.pos) w3 w4 → parEq t c.pos = false ∧ c.pos ≤ parEnd t c.pos ∧ ∃ wd,LS L ib B t dv { c with pos:=parEnd t c.pos,width:=wd } ps w4 ∧ LI L c { c with pos:=parEnd t c.pos,width:=wd } w w4:=by
    intro hc w4 h4
    obtain ⟨hpe,hpq⟩:=stop hc
    have hx4:=hx3.keep h4 rfl rfl rfl hxp
    have hi4:=hi3.lm h4 rfl
    have hxa : x.at t x.pos = { c with pos:=parEnd t c.pos,width:=(nx t x.pos).2 }:=by rw [hpe,hxe]; rfl
    rw [hxa] at hx4 hi4
    exact ⟨hpq,by rw [hpe]; exact hcx,_,hx4,hi4⟩
   repeat(first|refine X1 rfl rfl ?_|refine X11 rfl rfl ?_)
   refine RE.splitH (fun hna => ?_) (fun hna => ?_)
   ·have hna' : isANH (nx t x.pos).1 = false:=by simpa using hna
    repeat(first|refine X1 rfl rfl ?_|refine X6 rfl rfl rfl ?_|refine X16 rfl rfl rfl rfl ?_|refine RE.want rfl rfl ?_|refine C2 ?_)
    refine CE.cond_d rfl (fun h46 => ?_) (fun h46 => ?_)
    ·have hc : parC (nx t x.pos).1 = false:=by simp [parC,hna',h46]
     repeat(first|refine C0 ?_|refine C1 ?_|refine X1 rfl rfl ?_)
     refine RE.xc en98 rfl rfl (backNext_fn hx3.lx) ?_
     rintro _ w4 ⟨rfl,h4⟩
     obtain ⟨f1,f2,f3⟩:=fin hc w4 h4
     repeat (refine C2 ?_)
     refine CE.exit ?_
     exact ⟨rfl,⟨by rw [f1]; rfl,rfl,trivial⟩,hAe,f2,f3⟩
    ·have h46' : (nx t x.pos).1 = 46:=Classical.not_not.1 h46
     have hc : parC (nx t x.pos).1 = true:=by simp [parC,h46']
     obtain ⟨y,g1,rfl,g2⟩:=go hc
     refine CE.skip ?_
     exact ⟨_,g1,rfl,⟨rfl,rfl,rfl,rfl,trivial⟩,g2⟩
   ·have hna' : isANH (nx t x.pos).1 = true:=by simpa using hna
    have hc : parC (nx t x.pos).1 = true:=by simp [parC,hna']
    obtain ⟨y,g1,rfl,g2⟩:=go hc
    repeat(first|refine X17 rfl rfl rfl ?_|refine RE.nox rfl rfl rfl rfl ?_|refine C2 ?_)
    refine CE.cond_f rfl ?_
    refine CE.skip ?_
    exact ⟨_,g1,rfl,⟨rfl,rfl,rfl,rfl,trivial⟩,g2⟩
 ·rintro s _ w1 ⟨rfl,hs,hAe,hle,wd,h1,hi1⟩
  refine CE.sub hs ?_
  generalize parEq t c.pos = ne at hAe
  generalize parEnd t c.pos = q at hAe hle h1 hi1
  unfold outPar2 at hAe
  have hB1:=h1.lx.at_
  unfold AtL at hB1
  have hst1 : ({ c with pos:=q,width:=wd } : LC).start ≤ ({ c with pos:=q,width:=wd } : LC).pos:=by show c.start ≤ q; omega
  have bad : ∀ (l : List UInt8) (v : Value) (w4 : World),A = (none,({ c.d dv opn ps with pos:=q } : D).bad t) → Ext w1 w4 →
    Fn PT 93 [Ptr L 0,S l,v] w4 (fun u w' => u = .nilFunc ∧ fvV A.1 = .nilFunc ∧ Aft L ib B t c A.2 w w'):=by
   rintro l v w4 hAe e
   subst hAe
   refine Fn.mono (bad_aft (d:={ c.d dv opn ps with pos:=q }) (opn:=opn) rfl rfl (hi1.ext_r e) (h1.ext e) (by omega)) ?_
   rintro u w' ⟨rfl,h⟩
   exact ⟨rfl,rfl,h⟩
  repeat(first|refine C0 ?_|refine C1 ?_|refine X1 rfl rfl ?_|refine X2 rfl rfl ?_|refine X3 rfl rfl rfl ?_|refine X4 rfl rfl rfl ?_|refine X22 rfl rfl hB1 rfl rfl ?_|refine X5 rfl rfl rfl ?_|refine C2 ?_)
  refine CE.cut (fun s ds w' => ds = [] ∧ SubL [(0,Ptr L 0)] s ∧ ∃ pr,A = (some 144,({ c.d dv opn ps with pos:=q,par:=pr } : D).em t 15) ∧ LS L ib B t dv { c with pos:=q,width:=wd,par:=pr } ps w' ∧ LI L c { c with pos:=q,width:=wd,par:=pr } w w') ?_ ?_
  ·refine CE.cond_d rfl (fun hp0 => ?_) (fun hp0 => ?_)
   ·have hp0' : c.par = 0:=hp0
    replace hAe:=hAe.trans (if_pos hp0)
    repeat(first|refine C0 ?_|refine C1 ?_|refine X1 rfl rfl ?_|refine X2 rfl rfl ?_|refine X3 rfl rfl rfl ?_|refine X4 rfl rfl rfl ?_|refine X22 rfl rfl hB1 rfl rfl ?_|refine X18 rfl rfl (by omega) (by omega) rfl ?_)
    refine RE.xs (e_store rfl rfl rfl hB1 rfl rfl) ?_
    rintro _ w2 hu2
    have hm2 : LM L { c with pos:=q,width:=wd,par:=c.par + 1 } w1 w2:=LM.of_upd hu2 rfl
    have h2:=h1.keep hm2 rfl rfl rfl h1.lx.pos
    have hi2:=hi1.lm hm2 rfl
    rw [hp0'] at h2 hi2
    have hB2:=h2.lx.at_
    unfold AtL at hB2
    repeat(first|refine C0 ?_|refine C1 ?_|refine X1 rfl rfl ?_|refine C2 ?_)
    cases ne with
    | true =>
     refine CE.cond_t rfl ?_
     repeat(first|refine C1 ?_|refine X1 rfl rfl ?_|refine X2 rfl rfl ?_|refine X3 rfl rfl rfl ?_|refine X4 rfl rfl rfl ?_|refine X22 rfl rfl hB2 rfl rfl ?_)
     refine RE.x (op_add64 rfl rfl (show _ ≤ (0 + 1 : Int) + 1 by decide) (show (0 + 1 : Int) + 1 ≤ _ by decide)) rfl ?_
     repeat(first|refine X2 rfl rfl ?_|refine X3 rfl rfl rfl ?_|refine X4 rfl rfl rfl ?_)
     refine RE.xs (e_store rfl rfl rfl hB2 rfl rfl) ?_
     rintro _ w3 hu3
     have hm3 : LM L { c with pos:=q,width:=wd,par:=2 } w2 w3:=LM.of_upd hu3 rfl
     have h3:=h2.keep hm3 rfl rfl rfl h1.lx.pos
     have hi3:=hi2.lm hm3 rfl
     refine RE.nilx ?_
     exact ⟨rfl,⟨rfl,trivial⟩,2,hAe,h3,hi3⟩
    | false =>
     refine CE.cond_f rfl ?_
     refine CE.skip ?_
     exact ⟨rfl,⟨rfl,trivial⟩,1,hAe,h2,hi2⟩
   ·replace hAe:=hAe.trans (if_neg hp0)
    have done : (ne = true → c.par ≠ 1) → (ne = false → c.par ≠ 2) → A = (some 144,({ c.d dv opn ps with pos:=q,par:=c.par } : D).em t 15):=by
     intro a1 a2
     refine (hAe.trans (if_neg ?_)).trans (if_neg ?_)
     ·rintro ⟨a,b⟩; exact a1 a b
     ·rintro ⟨a,b⟩; exact a2 a b
    cases ne with
    | true =>
     repeat(first|refine C0 ?_|refine C1 ?_|refine X1 rfl rfl ?_|refine X2 rfl rfl ?_|refine X3 rfl rfl rfl ?_|refine X4 rfl rfl rfl ?_|refine X22 rfl rfl hB1 rfl rfl ?_|refine X5 rfl rfl rfl ?_|refine X16 rfl rfl rfl rfl ?_|refine RE.want rfl rfl ?_|refine C2 ?_)
     refine CE.cond_d rfl (fun hp1 => ?_) (fun hp1 => ?_)
     ·repeat(first|refine C0 ?_|refine C1 ?_|refine X1 rfl rfl ?_)
      refine RE.xc en168 rfl rfl (current_fn h1.lx hst1) ?_
      rintro v4 w4 e4
      refine RE.x (op_iface rfl (by kernel_rfl)) rfl ?_
      refine RE.xe (e_buildSlice (cells:=#[.iface 42 v4]) (e:=20) rfl (by kernel_rfl) (by kernel_rfl)) rfl ?_
      rintro _ w5 ⟨nb,rfl,hn5⟩
      refine RE.xc en93 rfl rfl (bad _ _ _ (hAe.trans (if_pos ⟨rfl,hp1⟩)) (e4.trans hn5.ext)) ?_
      rintro _ w8 ⟨rfl,h7,h8⟩
      repeat(first|refine X0 rfl rfl ?_|refine C2 ?_)
      (refine CE.ret ?_;(try dsimp only);refine ret1 rfl rfl ?_)
      exact ⟨h7.symm,h8⟩
     ·repeat(first|refine C0 ?_|refine C1 ?_|refine X1 rfl rfl ?_|refine X11 rfl rfl ?_|refine X17 rfl rfl rfl ?_|refine RE.nox rfl rfl rfl rfl ?_|refine C2 ?_)
      refine CE.cond_f rfl ?_
      refine CE.skip ?_
      exact ⟨rfl,⟨rfl,trivial⟩,c.par,done (fun _ => hp1) (fun h => (by cases h)),h1,hi1⟩
    | false =>
     repeat(first|refine C0 ?_|refine C1 ?_|refine X1 rfl rfl ?_|refine X17 rfl rfl rfl ?_|refine RE.nox rfl rfl rfl rfl ?_|refine C2 ?_)
     refine CE.cond_f rfl ?_
     repeat(first|refine C0 ?_|refine C1 ?_|refine X1 rfl rfl ?_|refine X2 rfl rfl ?_|refine X3 rfl rfl rfl ?_|refine X4 rfl rfl rfl ?_|refine X22 rfl rfl hB1 rfl rfl ?_|refine X5 rfl rfl rfl ?_|refine X11 rfl rfl ?_|refine X16 rfl rfl rfl rfl ?_|refine RE.want rfl rfl ?_|refine C2 ?_)
     refine CE.cond_d rfl (fun hp2 => ?_) (fun hp2 => ?_)
     ·repeat(first|refine C0 ?_|refine C1 ?_|refine X1 rfl rfl ?_)
      refine RE.xc en168 rfl rfl (current_fn h1.lx hst1) ?_
      rintro v4 w4 e4
      refine RE.x (op_iface rfl (by kernel_rfl)) rfl ?_
      refine RE.xe (e_buildSlice (cells:=#[.iface 42 v4]) (e:=20) rfl (by kernel_rfl) (by kernel_rfl)) rfl ?_
      rintro _ w5 ⟨nb,rfl,hn5⟩
      refine RE.xc en93 rfl rfl (bad _ _ _ ((hAe.trans (if_neg (by rintro ⟨a,_⟩; cases a))).trans (if_pos ⟨rfl,hp2⟩)) (e4.trans hn5.ext)) ?_
      rintro _ w8 ⟨rfl,h7,h8⟩
      repeat(first|refine X0 rfl rfl ?_|refine C2 ?_)
      (refine CE.ret ?_;(try dsimp only);refine ret1 rfl rfl ?_)
      exact ⟨h7.symm,h8⟩
     ·refine CE.skip ?_
      exact ⟨rfl,⟨rfl,trivial⟩,c.par,done (fun h => (by cases h)) (fun _ => hp2),h1,hi1⟩
  ·rintro s _ w2 ⟨rfl,hs,pr,hAe,h2,hi2⟩
   refine CE.sub hs ?_
   repeat(first|refine C0 ?_|refine C1 ?_|refine X1 rfl rfl ?_)
   refine RE.xc en97 rfl rfl (emit_fn h2 (by omega)) ?_
   rintro _ w3 ⟨rfl,it,h3,h4⟩
   repeat(first|refine C0 ?_|refine C1 ?_|refine X0 rfl rfl ?_|refine C2 ?_)
   (refine CE.ret ?_;(try dsimp only);refine ret1 rfl rfl ?_)
   subst hAe
   exact ⟨rfl,wd,it,hi2.trans h3,h4⟩
structure MapO (mb : Nat) (opn : List UInt8 → Bool) (n : Nat) (w : World) : Prop where
 out : ∃ m : DataW Unit,w.ownsMap PT 9 (plainElem PT 4) mb n m ∧ ∀ s,m.atKey (.string s) (.lit (.bool false)) = .lit (.bool (opn s))
theorem strK : Maps.Keyed PT 9:=Maps.string_keyed Tryz.underlying9
theorem keyS {l : List UInt8} (hl : l.length ≤ 1000000) : keyOf PT 9 (S l) = some (.string l):=by
 have h:=WideMaps.keyOf_string_mk (P:=PT) (k:=9) Tryz.underlying9 (s:=⟨⟨l⟩⟩) (by rw [size_S]; have : maxLen = 9223372036854775807:=rfl; omega)
 exact h
theorem under75 : PT.underlying 75 = some (.map 9 4):=by kernel_rfl
theorem zero4 (w : World) : (zeroValue 4).run PT w = .ok (.bool false) w:=by
 have h : (PT.info? 4).map (fun i => i.zero) = some (some (.bool false)):=by kernel_rfl
 cases hi : PT.info? 4 with
 | none => rw [hi] at h; cases h
 | some i =>
  rw [hi] at h
  simp only [Option.map_some,Option.some.injEq] at h
  simp [zeroValue,typeInfo,hi,h]
theorem bool_inv {v : Value} {z : DataW Unit × List MemPlace} (h : plainElem PT 4 v = some z) : ∃ b,v = .bool b ∧ z = (.lit (.bool b),[]):=by
 unfold plainElem at h
 rw [Tryz.underlying4] at h
 cases v <;> simp at h
 exact ⟨_,rfl,h.symm⟩
theorem MapO.block {mb n : Nat} {opn : List UInt8 → Bool} {w : World} (h : MapO mb opn n w) : ∃ es cl,w.heap[mb]? = some (.map es cl):=by
 obtain ⟨m,⟨es,cl,h1,_⟩,_⟩:=h.out
 exact ⟨es,cl,h1⟩
theorem MapO.fr {mb n : Nat} {opn : List UInt8 → Bool} {w w' : World} {T : Nat → Prop} (h : MapO mb opn n w) (hf : Fr T w w') (hS : ¬ T mb) : MapO mb opn n w':=by
 obtain ⟨m,⟨es,cl,h1,h2⟩,h3⟩:=h.out
 exact ⟨m,⟨es,cl,hf.block h1 hS,h2⟩,h3⟩
theorem MapO.mono {mb n n' : Nat} {opn : List UInt8 → Bool} {w : World} (h : MapO mb opn n w) (hn : n ≤ n') : MapO mb opn n' w:=by
 obtain ⟨m,h1,h3⟩:=h.out
 exact ⟨m,h1.mono hn,h3⟩
def updB (opn : List UInt8 → Bool) (l : List UInt8) (b : Bool) : List UInt8 → Bool:=fun s => if s = l then b else opn s
section
variable {n : Nat} {s : Slots} {w : World} {dst : Option Tmp} {ty : TypeId} {pos : String} {af : Array Edge} {g : Option (Nat × Bool)} {x y z : Operand}
theorem op_lookup {mb k : Nat} {opn : List UInt8 → Bool} {l : List UInt8} (hx : ev s x = some (.map (some mb))) (hy : ev s y = some (S l)) (h : MapO mb opn k w) (hl : l.length ≤ 1000000) :
  Op1 PT ⟨dst,.lookup 75 x y false,ty,pos,af,g⟩ n s (.bool (opn l)) w:=by
 refine ⟨fun ds a ha => ?_⟩
 obtain ⟨m,h1,h2⟩:=h.out
 obtain ⟨v,ps,hrun,hv⟩:=h1.lookup strK under75 (zero4 w) (plainElem_bool Tryz.underlying4 false) (keyS hl)
 obtain ⟨b,rfl,hb⟩:=bool_inv hv
 rw [h2 l] at hb
 simp only [Prod.mk.injEq,DataW.lit.injEq,Lit.bool.injEq] at hb
 rw [hb.1]
 simp only [execOp,ha.ev hx,ha.ev hy,Sem.run_bind,hrun,Result.andThen_ok]
 rfl
theorem e_mapUpdate {mb k : Nat} {opn : List UInt8 → Bool} {l : List UInt8} {b : Bool} (hx : ev s x = some (.map (some mb))) (hy : ev s y = some (S l)) (hz : ev s z = some (.bool b)) (h : MapO mb opn k w) (hl : l.length ≤ 1000000) (hk : k ≤ 1000000000) :
  OpE PT ⟨dst,.mapUpdate 75 x y z,ty,pos,af,g⟩ n s w (fun _ w' => MapO mb (updB opn l b) (k + 1) w' ∧ Fr (· = mb) w w'):=by
 refine ⟨fun ds a ha => ?_⟩
 obtain ⟨m,h1,h2⟩:=h.out
 have hmax : maxLen = 9223372036854775807:=rfl
 obtain ⟨w',hrun,h3,h4⟩:=h1.update strK under75 (by omega) (keyS hl) (plainElem_bool Tryz.underlying4 b)
 refine ⟨undef,w',Or.inr ⟨?_,rfl⟩,⟨_,h3,fun s => ?_⟩,⟨h4.os,h4.tape,h4.output,h4.size,fun q hq hn => h4.block q hq (fun e => hn (by cases e; rfl))⟩⟩
 ·simp only [execOp,ha.ev hx,ha.ev hy,ha.ev hz,Sem.run_bind,hrun,Result.andThen_ok]
  rfl
 ·unfold updB
  by_cases hs : s = l
  ·subst hs
   rw [if_pos rfl,Maps.atKey_put_same h1.isMap (show WideAt.IsKeyLit (.string s) from trivial)]
  ·rw [if_neg hs,Maps.atKey_put_other (fun e => hs (by cases e; rfl)),h2]
end
theorem LS.frm {L ib B mb : Nat} {t dv : List UInt8} {c : LC} {ps : List PI} {w w' : World} (h : LS L ib B t dv c ps w) (hf : Fr (· = mb) w w') (hm : ∃ es cl,w.heap[mb]? = some (.map es cl)) (hB : B ≤ mb) : LS L ib B t dv c ps w':=by
 obtain ⟨es,cl,hm⟩:=hm
 have ne : ∀ b cs T fr,w.heap[b]? = some (.cells cs T fr) → ¬ b = mb:=by
  rintro b cs T fr hb rfl
  rw [hm] at hb
  cases hb
 have hbk : ∀ {b : Nat} {v : Value} {l : List UInt8},HBk b w v l → HBk b w' v l:=by
  rintro b v l ⟨a,cp,h1,h2,h3⟩
  refine ⟨a,cp,h1,h2,fun hl => ?_⟩
  obtain ⟨o,h4,h5⟩:=h3 hl
  refine ⟨o,h4,fun i hi => hf.cell (h5 i hi) ?_⟩
  intro e
  have h6:=h5 i hi
  have e' : b = mb:=e
  subst e'
  simp [World.cell?,hm] at h6
 obtain ⟨xs,ho,hff⟩:=h.own
 obtain ⟨db,hdb,h1,h2,h3⟩:=h.div
 have hLlt:=h.lx.at_.lt
 have hBL:=h.lx.base
 refine ⟨⟨hf.block h.lx.at_ (ne _ _ _ _ h.lx.at_),hbk h.lx.inp,h.lx.ne,h.lx.tabs.below (hf.below (by omega) (fun k hk => by subst hk; exact hB)),hBL,h.lx.small,h.lx.pos⟩,Nat.lt_of_lt_of_le h.ibs hf.size,⟨xs,?_,?_⟩,h.nl,h.ni,⟨db,hbk hdb,h1,h2,h3.fr hf (fun e => by obtain ⟨cs,fr,h4⟩:=h3; exact ne _ _ _ _ h4 e)⟩,h.few⟩
 ·exact ho.fr hf fun q hq e => by
   obtain ⟨cs,hcs⟩:=ho.tag hq
   exact ne _ _ _ _ hcs e
 ·exact forall2_mono (fun x p hr => hr.fr hf fun b cs hb e => ne _ _ _ _ hb e) hff
structure LY (L mb : Nat) (c c' : LC) (w w' : World) : Prop where
 at_ : AtL L c' w'
 fr : Fr (fun q => q = L ∨ q = mb ∨ c.items.ownBlock = some q) w w'
 nw : ∀ q,c'.items.ownBlock = some q → c.items.ownBlock = some q ∨ w.heap.size ≤ q
theorem LI.y {L mb : Nat} {c c' : LC} {w w' : World} (h : LI L c c' w w') : LY L mb c c' w w':=
 ⟨h.at_,h.fr.mono fun _ _ hk => hk.imp id Or.inr,h.nw⟩
theorem LY.trans {L mb : Nat} {c c' c'' : LC} {w w' w'' : World} (h : LY L mb c c' w w') (k : LY L mb c' c'' w' w'') : LY L mb c c'' w w'':=by
 refine ⟨k.at_,⟨k.fr.os.trans h.fr.os,k.fr.tape.trans h.fr.tape,k.fr.output.trans h.fr.output,Nat.le_trans h.fr.size k.fr.size,fun q hq hn => ?_⟩,fun q hq => ?_⟩
 ·rw [k.fr.same q (Nat.lt_of_lt_of_le hq h.fr.size) ?_]
  ·exact h.fr.same q hq hn
  ·rintro (h1 | h1 | h1)
   ·exact hn (Or.inl h1)
   ·exact hn (Or.inr (Or.inl h1))
   ·rcases h.nw q h1 with h2 | h2
    ·exact hn (Or.inr (Or.inr h2))
    ·omega
 ·rcases k.nw q hq with h1 | h1
  ·exact h.nw q h1
  ·exact Or.inr (Nat.le_trans h.fr.size h1)
theorem LY.map {L mb : Nat} {c : LC} {w w' : World} (h : AtL L c w') (hf : Fr (· = mb) w w') : LY L mb c c w w':=
 ⟨h,hf.mono fun _ _ hk => Or.inr (Or.inl hk),fun _ hq => Or.inl hq⟩
theorem LY.lm {L mb : Nat} {c c1 c2 : LC} {w w1 w2 : World} (h : LY L mb c c1 w w1) (hm : LM L c2 w1 w2) (hi : c2.items = c1.items) : LY L mb c c2 w w2:=h.trans (LI.of_lm hm hi).y
theorem LY.ext_r {L mb : Nat} {c c' : LC} {w w' w'' : World} (h : LY L mb c c' w w') (k : Ext w' w'') : LY L mb c c' w w'':=
 ⟨h.at_.ext k,h.fr.trans (Fr.of_ext k),h.nw⟩
def AftY (L ib B mb : Nat) (t : List UInt8) (c : LC) (d : D) (n : Nat) (w w' : World) : Prop:=
 ∃ wd it,LY L mb c (c.upd d wd it) w w' ∧ LS L ib B t d.dv (c.upd d wd it) d.ps w' ∧ MapO mb d.opn n w'
def idGo (t : List UInt8) (inl : Bool) (p : Nat) : Bool × Nat × Bool:=
 if _h : p < t.length then
  if isANH (nx t p).1 = true ∨ (nx t p).1 = 47 then idGo t inl (p + (nx t p).2) else
  if (nx t p).1 = 46 then (if pre bs174 (t.drop (p + (nx t p).2)) = true then idGo t true (p + (nx t p).2) else (false,p + (nx t p).2,false))
  else (true,p,inl)
 else (true,p,inl)
termination_by t.length - p
decreasing_by all_goals (have:=nx_pos t _h; omega)
def wordA (t : List UInt8) (lo hi : Nat) : List UInt8:=(t.drop lo).take (hi - lo)
def outIdent (t : List UInt8) (d : D) : Option Nat × D:=
 if (idGo t d.inl d.pos).1 = false then (none,({ d with pos:=(idGo t d.inl d.pos).2.1,inl:=false }).bad t) else
 if 0 < d.clos ∧ d.opn (wordA t d.start (idGo t d.inl d.pos).2.1) = false then (none,({ d with pos:=(idGo t d.inl d.pos).2.1,inl:=(idGo t d.inl d.pos).2.2 }).bad t) else
 (some (if 0 < d.clos then 175 else 144),({ d with pos:=(idGo t d.inl d.pos).2.1,inl:=(idGo t d.inl d.pos).2.2,clos:=0,name:=wordA t d.start (idGo t d.inl d.pos).2.1,opn:=updB d.opn (wordA t d.start (idGo t d.inl d.pos).2.1) true,step:=d.step + 1 }).em t (if (idGo t d.inl d.pos).2.2 then 14 else 13))
end Go.Wk
