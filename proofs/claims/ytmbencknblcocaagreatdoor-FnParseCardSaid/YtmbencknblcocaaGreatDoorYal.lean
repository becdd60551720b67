/- The lexer's state as plain data; what the smaller states do to it. -/
import Derived.Test.YtmbencknblcocaaGreatDoorYae
namespace Go.Wk
open Go Go.RowKit Go.Proofs
set_option maxRecDepth 100000
structure D where
 pos : Nat
 start : Nat
 chk : Bool
 ld : Int
 rd : Int
 inl : Bool
 name : List UInt8
 clos : Int
 step : Int
 par : Int
 dv : List UInt8
 opn : List UInt8 → Bool
 ps : List PI
def LC.d (c : LC) (dv : List UInt8) (opn : List UInt8 → Bool) (ps : List PI) : D:=
 ⟨c.pos,c.start,c.chk,c.ld,c.rd,c.inl,c.name,c.clos,c.step,c.par,dv,opn,ps⟩
def LC.upd (c : LC) (d : D) (wd : Nat) (it : Value) : LC:=
 { c with pos:=d.pos,start:=d.start,width:=wd,chk:=d.chk,ld:=d.ld,rd:=d.rd,inl:=d.inl,name:=d.name,clos:=d.clos,step:=d.step,par:=d.par,items:=it }
def Aft (L ib B : Nat) (t : List UInt8) (c : LC) (d : D) (w w' : World) : Prop:=
 ∃ wd it,LI L c (c.upd d wd it) w w' ∧ LS L ib B t d.dv (c.upd d wd it) d.ps w'
def D.em (t : List UInt8) (d : D) (ty : Int) : D:={ d with start:=d.pos,ps:=d.ps ++ emitI t ty d.start d.pos }
def D.bad (t : List UInt8) (d : D) : D:={ d with ps:=d.ps ++ [PI.bad t d.start d.pos] }
theorem emitI_len (t : List UInt8) (ty : Int) (lo hi : Nat) : (emitI t ty lo hi).length ≤ 2:=by
 have h : ∀ k,(emScan t lo hi k).length ≤ 2:=by
  intro k
  induction k with
  | zero => simp [emScan]
  | succ k ih =>
   rw [emScan]
   dsimp only
   repeat' split
   all_goals first|exact ih | simp
 unfold emitI emitL
 rw [List.length_map]
 split
 ·exact h hi
 ·simp
theorem LI.lm {L : Nat} {c c1 c2 : LC} {w w1 w2 : World} (h : LI L c c1 w w1) (hm : LM L c2 w1 w2) (hi : c2.items = c1.items) : LI L c c2 w w2:=h.trans (LI.of_lm hm hi)
theorem nt {b : Bool} (h : b = false) : ¬ b = true:=by rw [h]; simp
theorem bad_aft {L ib B : Nat} {t dv l : List UInt8} {c x : LC} {ps : List PI} {w w0 : World} {v : Value} {opn : List UInt8 → Bool} (d : D) (hd : d = x.d dv opn ps) (hc : c.upd d x.width x.items = x) (hi : LI L c x w w0) (h : LS L ib B t dv x ps w0) (hn : ps.length < 100000000) :
  Fn PT 93 [Ptr L 0,S l,v] w0 (fun u w' => u = .nilFunc ∧ Aft L ib B t c (d.bad t) w w'):=by
 refine Fn.mono (errorf_fn h hn) ?_
 rintro u w' ⟨rfl,it,h1,h2⟩
 have e : c.upd (d.bad t) x.width it = { x with items:=it }:=by
  rw [← hc]; rfl
 have e2 : (d.bad t).dv = dv:=by rw [hd]; rfl
 have e3 : (d.bad t).ps = ps ++ [PI.bad t x.start x.pos]:=by rw [hd]; rfl
 refine ⟨rfl,x.width,it,?_,?_⟩
 ·rw [e]; exact hi.trans h1
 ·rw [e,e2,e3]; exact h2
def outDone (t : List UInt8) (d : D) : Option Nat × D:=(none,(if d.start < d.pos then d.em t 18 else d).em t 1)
theorem done_fn {L ib B : Nat} {t dv : List UInt8} {c : LC} {ps : List PI} {w : World} {opn : List UInt8 → Bool} (h : LS L ib B t dv c ps w) (hn : ps.length + 8 < 100000000) :
  Fn PT 77 [Ptr L 0] w (fun u w' => u = fvV (outDone t (c.d dv opn ps)).1 ∧ Aft L ib B t c (outDone t (c.d dv opn ps)).2 w w'):=by
 refine fn_of Tryz.func77 rfl Tryz.ntmps77 rfl ?_
 have hB:=h.lx.at_
 unfold AtL at hB
 repeat(first|refine C0 ?_|refine C1 ?_|refine X0 rfl rfl ?_|refine C2 ?_)
 refine CE.draw [0,0,0,0,0,0,0,0,0] mixed (by decide +kernel) ?_
 repeat(first|refine Y1 rfl rfl ?_|refine Y2 rfl rfl ?_|refine Y3 rfl rfl rfl ?_|refine Y22 rfl rfl hB rfl rfl ?_|refine Y9 rfl rfl rfl ?_|refine C2 ?_)
 have hd:=h.ext (Ext.drew w)
 refine CE.cut (fun s ds w' => ds = [] ∧ SubL [(0,Ptr L 0)] s ∧ ∃ it,LI L c { c with start:=(if c.start < c.pos then c.pos else c.start),items:=it } w w' ∧
   LS L ib B t dv { c with start:=(if c.start < c.pos then c.pos else c.start),items:=it } (ps ++ (if c.start < c.pos then emitI t 18 c.start c.pos else [])) w') ?_ ?_
 ·refine CE.cond_d rfl (fun h1 => ?_) (fun h1 => ?_)
  ·have h1' : c.start < c.pos:=by omega
   repeat(first|refine C1 ?_|refine X1 rfl rfl ?_)
   refine RE.xc en97 rfl rfl (emit_fn hd (by omega)) ?_
   rintro _ w1 ⟨rfl,it,h2,h3⟩
   refine RE.nilx ?_
   rw [if_pos h1',if_pos h1']
   exact ⟨rfl,⟨rfl,trivial⟩,it,LI.ext_l (Ext.drew w) h2,h3⟩
  ·have h1' : ¬ c.start < c.pos:=by omega
   refine CE.skip ?_
   rw [if_neg h1',if_neg h1',List.append_nil]
   exact ⟨rfl,⟨rfl,trivial⟩,c.items,LI.ext_l (Ext.drew w) (LI.refl hd.lx.at_),hd⟩
 ·rintro s _ w1 ⟨rfl,hs,it,h2,h3⟩
  refine CE.sub hs ?_
  have hl:=emitI_len t 18 c.start c.pos
  repeat(first|refine C0 ?_|refine C1 ?_|refine X1 rfl rfl ?_)
  refine RE.xc en97 rfl rfl (emit_fn h3 (by rw [List.length_append]; split <;> (try simp only [List.length_nil]) <;> omega)) ?_
  rintro _ w2 ⟨rfl,it2,h4,h5⟩
  repeat(first|refine C0 ?_|refine C1 ?_|refine X0 rfl rfl ?_|refine C2 ?_)
  (refine CE.ret ?_;(try dsimp only);refine ret1 rfl rfl ?_)
  refine ⟨rfl,c.width,it2,?_⟩
  have hi:=h2.trans h4
  unfold outDone
  by_cases h1 : c.start < c.pos
  ·have h1' : (c.d dv opn ps).start < (c.d dv opn ps).pos:=h1
   simp only [if_pos h1] at hi h5
   rw [if_pos h1']
   exact ⟨hi,h5⟩
  ·have h1' : ¬ (c.d dv opn ps).start < (c.d dv opn ps).pos:=h1
   simp only [if_neg h1,List.append_nil] at hi h5
   rw [if_neg h1']
   exact ⟨hi,h5⟩
theorem rightD_len (rd : Int) : (rightD rd).length = 3:=by unfold rightD; split <;> rfl
theorem leftD_len (ld : Int) : (leftD ld).length = 3:=by unfold leftD; split <;> rfl
def outRight (t : List UInt8) (d : D) : Option Nat × D:=(some 42,({ d with clos:=0,pos:=d.pos + 3 }).em t d.rd)
theorem Fresh.len {l : List UInt8} {w w' : World} {v : Value} (h : Fresh l w v w') : ∃ a c,v = .slice a l.length c:=by
 obtain ⟨b,⟨a,c,h1,_⟩,_⟩:=h
 exact ⟨a,c,h1⟩
theorem Fresh.len3 {l : List UInt8} {w w' : World} {v : Value} {n : Nat} (h : Fresh l w v w') (hn : l.length = n) : ∃ a c,v = .slice a n c:=hn ▸ h.len
theorem Fresh.ext' {l : List UInt8} {w w' : World} {v : Value} (h : Fresh l w v w') : Ext w w':=let ⟨_,_,_,h⟩:=h; h
theorem right_fn {L ib B : Nat} {t dv : List UInt8} {c : LC} {ps : List PI} {w : World} {opn : List UInt8 → Bool} (h : LS L ib B t dv c ps w) (hp : c.pos + 3 ≤ t.length) (hn : ps.length + 8 < 100000000) :
  Fn PT 154 [Ptr L 0] w (fun u w' => u = fvV (outRight t (c.d dv opn ps)).1 ∧ Aft L ib B t c (outRight t (c.d dv opn ps)).2 w w'):=by
 refine fn_of Tryz.func154 rfl Tryz.ntmps154 rfl ?_
 have hB:=h.lx.at_
 unfold AtL at hB
 have hsm:=h.lx.small
 repeat(first|refine C0 ?_|refine C1 ?_|refine X1 rfl rfl ?_|refine X0 rfl rfl ?_|refine X2 rfl rfl ?_|refine X3 rfl rfl rfl ?_|refine X4 rfl rfl rfl ?_|refine C2 ?_)
 refine RE.xs (e_store rfl rfl rfl hB rfl rfl) ?_
 rintro _ w1 hu
 have hm1 : LM L { c with clos:=0 } w w1:=LM.of_upd hu rfl
 have h1:=h.keep hm1 rfl rfl rfl h.lx.pos
 have hi1:=LI.of_lm (c:=c) hm1 rfl
 have hp1 : ({ c with clos:=0 } : LC).pos + 3 ≤ t.length:=hp
 generalize hc1 : ({ c with clos:=0 } : LC) = c1 at h1 hi1 hp1
 have hB1:=h1.lx.at_
 unfold AtL at hB1
 have hB1d : w1.drew.heap[L]? = _:=hB1
 repeat(first|refine C0 ?_|refine C2 ?_)
 (refine CE.drawA Ext [0,1,2,4] [0,1,0,0,0,0,2] [3,5,6,7,8,9,10] mixed Ext.refl (fun _ _ _ => Ext.trans) (by decide +kernel) ?_); (simp only [pick,nthO,List.cons_append,List.nil_append]); (repeat(first|refine PR.p (fun _ => op_move rfl) rfl ?_|refine PR.p (fun _ => op_nil rfl) rfl ?_|refine PR.p (fun _ => op_fieldAddr0 rfl rfl) rfl ?_|refine PR.p (fun _ => op_fieldAddr rfl rfl) rfl ?_)); refine PR.nil ?_
 repeat (refine Z22 rfl rfl hB1d rfl rfl ?_)
 refine RE.gcx (φ:=fun u _ => ∃ a cp,u = .slice a 3 cp) en153 rfl rfl (fun _ _ _ h _ => h) (fun w2 hw2 => Fn.mono (rightD_fn (c:=c1) (hw2.block hB1d)) fun u w' hf => ⟨hf.len3 (rightD_len _),hf.ext'⟩) ?_
 rintro _ ⟨_,_,a,cp,rfl⟩
 repeat(first|refine Z2 rfl rfl ?_|refine Z3 rfl rfl rfl ?_|refine Z13 rfl rfl rfl ?_|refine Z18 rfl rfl (by omega) (by omega) rfl ?_)
 refine RE.es (fun _ hw => e_store rfl rfl rfl (hw.1.block hB1d) rfl rfl) ?_
 rintro w4 ⟨hw4,_⟩ _ w5 hu5
 refine RE.nil fun w6 hw6 => ?_
 have e4 : Ext w1 w4:=(Ext.drew w1).trans hw4
 have hm5 : LM L { c1 with pos:=c1.pos + 3 } w4 w5:=LM.of_upd hu5 rfl
 have h5:=((h1.ext e4).keep hm5 rfl rfl rfl hp1).ext hw6
 have hi5:=((hi1.ext_r e4).lm hm5 rfl).ext_r hw6
 repeat(first|refine C0 ?_|refine C1 ?_|refine X1 rfl rfl ?_)
 refine RE.xc en167 rfl rfl (rightI_fn h5.lx.at_) ?_
 rintro _ w7 ⟨rfl,rfl⟩
 skip
 refine RE.xc en97 rfl rfl (emit_fn h5 (by omega)) ?_
 rintro _ w8 ⟨rfl,it,h8,h9⟩
 repeat(first|refine C0 ?_|refine C1 ?_|refine X0 rfl rfl ?_|refine C2 ?_)
 (refine CE.ret ?_;(try dsimp only);refine ret1 rfl rfl ?_)
 subst hc1
 exact ⟨rfl,c.width,it,hi5.trans h8,h9⟩
def outVal (t : List UInt8) (d : D) : Option Nat × D:=(some 144,({ d with pos:=skipTo isSp t d.pos }).em t 16)
theorem val_fn {L ib B : Nat} {t dv : List UInt8} {c : LC} {ps : List PI} {w : World} {opn : List UInt8 → Bool} (h : LS L ib B t dv c ps w) (hn : ps.length + 8 < 100000000) :
  Fn PT 158 [Ptr L 0] w (fun u w' => u = fvV (outVal t (c.d dv opn ps)).1 ∧ Aft L ib B t c (outVal t (c.d dv opn ps)).2 w w'):=by
 refine fn_of Tryz.func158 rfl Tryz.ntmps158 rfl ?_
 repeat(first|refine C0 ?_|refine C1 ?_|refine X1 rfl rfl ?_|refine X0 rfl rfl ?_|refine C2 ?_)
 refine RE.xc en171 rfl rfl (consumeToSpace_fn h.lx) ?_
 rintro _ w1 ⟨rfl,h1⟩
 have h2:=h.keep h1 rfl rfl rfl (skipTo_le _ _ rfl h.lx.pos).1
 have hi2:=LI.of_lm (c:=c) h1 rfl
 repeat(first|refine C0 ?_|refine C1 ?_|refine X1 rfl rfl ?_|refine C2 ?_)
 refine RE.xc en97 rfl rfl (emit_fn h2 (by omega)) ?_
 rintro _ w3 ⟨rfl,it,h3,h4⟩
 repeat(first|refine C0 ?_|refine C1 ?_|refine X0 rfl rfl ?_|refine C2 ?_)
 (refine CE.ret ?_;(try dsimp only);refine ret1 rfl rfl ?_)
 exact ⟨rfl,_,it,hi2.trans h3,h4⟩
def outEnd (t : List UInt8) (d : D) : Option Nat × D:=
 if pre (rightD d.rd) (t.drop d.pos) = true then (some 154,{ d with inl:=false }) else
 if isSp (nx t d.pos).1 = true then (some 175,{ d with inl:=false,pos:=d.pos + (nx t d.pos).2,start:=d.pos + (nx t d.pos).2 }) else
 (none,({ d with inl:=false,pos:=d.pos + (nx t d.pos).2 }).bad t)
theorem end_fn {L ib B : Nat} {t dv : List UInt8} {c : LC} {ps : List PI} {w : World} {opn : List UInt8 → Bool} (h : LS L ib B t dv c ps w) (hn : ps.length + 8 < 100000000) :
  Fn PT 175 [Ptr L 0] w (fun u w' => u = fvV (outEnd t (c.d dv opn ps)).1 ∧ Aft L ib B t c (outEnd t (c.d dv opn ps)).2 w w'):=by
 refine fn_of Tryz.func175 rfl Tryz.ntmps175 rfl ?_
 have hB:=h.lx.at_
 unfold AtL at hB
 repeat(first|refine C0 ?_|refine C1 ?_|refine X1 rfl rfl ?_|refine X0 rfl rfl ?_|refine X2 rfl rfl ?_|refine X3 rfl rfl rfl ?_|refine X4 rfl rfl rfl ?_|refine C2 ?_)
 generalize hA : outEnd t (c.d dv opn ps) = A
 have hA0:=hA.symm
 unfold outEnd at hA0
 refine RE.xs (e_store rfl rfl rfl hB rfl rfl) ?_
 rintro _ w1 hu
 have hm1 : LM L { c with inl:=false } w w1:=LM.of_upd hu rfl
 have h1:=h.keep hm1 rfl rfl rfl h.lx.pos
 have hi1:=LI.of_lm (c:=c) hm1 rfl
 repeat(first|refine C0 ?_|refine C1 ?_|refine X1 rfl rfl ?_|refine C2 ?_)
 refine RE.xc en153 rfl rfl (rightD_fn h1.lx.at_) ?_
 rintro v w2 ⟨b2,hb2,_,e2⟩
 skip
 refine RE.xc en96 rfl rfl (hasP_fn (h1.lx.ext e2) hb2.hb) ?_
 rintro _ w3 ⟨rfl,e3⟩
 have h3:=h1.ext (e2.trans e3)
 have hi3:=hi1.ext_r (e2.trans e3)
 repeat (refine C2 ?_)
 refine CE.cond_s rfl (fun hp => ?_) (fun hp => ?_)
 ·repeat(first|refine C0 ?_|refine C1 ?_|refine X0 rfl rfl ?_|refine C2 ?_)
  (refine CE.ret ?_;(try dsimp only);refine ret1 rfl rfl ?_)
  replace hA0:=hA0.trans (if_pos hp)
  subst hA0
  exact ⟨rfl,c.width,c.items,hi3,h3⟩
 refine C3 ?_
 replace hA0:=hA0.trans (if_neg (nt hp))
 repeat(first|refine C0 ?_|refine C1 ?_|refine X1 rfl rfl ?_)
 refine RE.xc en68 rfl rfl (next_fn h3.lx) ?_
 rintro _ w4 ⟨rfl,h4⟩
 have h5:=h3.nxt h4
 have hi5:=hi3.lm h4 rfl
 repeat(first|refine X0 rfl rfl ?_|refine C2 ?_)
 refine CE.block ?_
 repeat(first|refine C0 ?_|refine C1 ?_|refine X1 rfl rfl ?_)
 refine RE.xc en74 rfl rfl (isSp_fn _ _) ?_
 rintro _ w6 ⟨rfl,rfl⟩
 repeat(first|refine X0 rfl rfl ?_|refine C2 ?_)
 refine CE.cond_s rfl (fun hs => ?_) (fun hs => ?_)
 ·repeat(first|refine C1 ?_|refine X1 rfl rfl ?_)
  refine RE.xc en95 rfl rfl (ignore_fn h5.lx.at_) ?_
  rintro _ w7 ⟨rfl,h7⟩
  have h8:=h5.keep h7 rfl rfl rfl h5.lx.pos
  repeat(first|refine C0 ?_|refine C1 ?_|refine X0 rfl rfl ?_|refine C2 ?_)
  (refine CE.ret ?_;(try dsimp only);refine ret1 rfl rfl ?_)
  replace hA0:=hA0.trans (if_pos hs)
  subst hA0
  exact ⟨rfl,_,c.items,hi5.lm h7 rfl,h8⟩
 ·repeat(first|refine C0 ?_|refine C1 ?_|refine X1 rfl rfl ?_)
  replace hA0:=hA0.trans (if_neg (nt hs))
  subst hA0
  refine RE.xc en93 rfl rfl (bad_aft (d:={ c.d dv opn ps with inl:=false,pos:=c.pos + (nx t c.pos).2 }) (opn:=opn) rfl rfl hi5 h5 (by omega)) ?_
  rintro _ w8 ⟨rfl,h8⟩
  repeat(first|refine X0 rfl rfl ?_|refine C2 ?_)
  (refine CE.ret ?_;(try dsimp only);refine ret1 rfl rfl ?_)
  exact ⟨rfl,h8⟩
def outLeft (t : List UInt8) (d : D) : Option Nat × D:=
 if pre bs141 (t.drop (d.pos + 3)) = true then (some 142,{ d with pos:=d.pos + 3 }) else
 (some 144,{ ({ d with pos:=d.pos + 3 }).em t d.ld with step:=0,par:=0 })
theorem left_fn {L ib B : Nat} {t dv : List UInt8} {c : LC} {ps : List PI} {w : World} {opn : List UInt8 → Bool} (h : LS L ib B t dv c ps w) (hp0 : c.pos + 3 ≤ t.length) (hn : ps.length + 8 < 100000000) :
  Fn PT 125 [Ptr L 0] w (fun u w' => u = fvV (outLeft t (c.d dv opn ps)).1 ∧ Aft L ib B t c (outLeft t (c.d dv opn ps)).2 w w'):=by
 refine fn_of Tryz.func125 rfl Tryz.ntmps125 rfl ?_
 have hB:=h.lx.at_
 unfold AtL at hB
 have hsm:=h.lx.small
 have hBd : w.drew.heap[L]? = _:=hB
 generalize hA : outLeft t (c.d dv opn ps) = A
 have hA0:=hA.symm
 unfold outLeft at hA0
 repeat(first|refine C0 ?_|refine C1 ?_|refine X0 rfl rfl ?_|refine C2 ?_)
 (refine CE.drawA Ext [0,1,2,4] [0,1,0,0,0,0,2] [3,5,6,7,8,9,10] mixed Ext.refl (fun _ _ _ => Ext.trans) (by decide +kernel) ?_); (simp only [pick,nthO,List.cons_append,List.nil_append]); (repeat(first|refine PR.p (fun _ => op_move rfl) rfl ?_|refine PR.p (fun _ => op_nil rfl) rfl ?_|refine PR.p (fun _ => op_fieldAddr0 rfl rfl) rfl ?_|refine PR.p (fun _ => op_fieldAddr rfl rfl) rfl ?_)); refine PR.nil ?_
 repeat (refine Z22 rfl rfl hBd rfl rfl ?_)
 refine RE.gcx (φ:=fun u _ => ∃ a cp,u = .slice a 3 cp) en140 rfl rfl (fun _ _ _ h _ => h) (fun w2 hw2 => Fn.mono (leftD_fn (c:=c) (hw2.block hBd)) fun u w' hf => ⟨hf.len3 (leftD_len _),hf.ext'⟩) ?_
 rintro _ ⟨_,_,a,cp,rfl⟩
 repeat(first|refine Z2 rfl rfl ?_|refine Z3 rfl rfl rfl ?_|refine Z13 rfl rfl rfl ?_|refine Z18 rfl rfl (by omega) (by omega) rfl ?_)
 refine RE.es (fun _ hw => e_store rfl rfl rfl (hw.1.block hBd) rfl rfl) ?_
 rintro w4 ⟨hw4,_⟩ _ w5 hu5
 refine RE.nil fun w6 hw6 => ?_
 have e4 : Ext w w4:=(Ext.drew w).trans hw4
 have hm5 : LM L { c with pos:=c.pos + 3 } w4 w5:=LM.of_upd hu5 rfl
 have h5:=((h.ext e4).keep hm5 rfl rfl rfl hp0).ext hw6
 have hi5:=(LI.ext_l (c:=c) e4 (LI.of_lm hm5 rfl)).ext_r hw6
 repeat(first|refine C0 ?_|refine C1 ?_|refine X1 rfl rfl ?_)
 refine RE.xc en141 rfl rfl (delim141_fn _) ?_
 rintro v w7 ⟨b7,hb7,_,e7⟩
 skip
 refine RE.xc en96 rfl rfl (hasP_fn (h5.lx.ext e7) hb7.hb) ?_
 rintro _ w8 ⟨rfl,e8⟩
 have h8:=h5.ext (e7.trans e8)
 have hi8:=hi5.ext_r (e7.trans e8)
 repeat (refine C2 ?_)
 refine CE.cond_s rfl (fun hp => ?_) (fun hp => ?_)
 ·repeat(first|refine C0 ?_|refine C1 ?_|refine X0 rfl rfl ?_|refine C2 ?_)
  (refine CE.ret ?_;(try dsimp only);refine ret1 rfl rfl ?_)
  replace hA0:=hA0.trans (if_pos hp)
  subst hA0
  exact ⟨rfl,c.width,c.items,hi8,h8⟩
 refine C3 ?_
 replace hA0:=hA0.trans (if_neg (nt hp))
 repeat(first|refine C0 ?_|refine C1 ?_|refine X1 rfl rfl ?_)
 refine RE.xc en143 rfl rfl (leftI_fn h8.lx.at_) ?_
 rintro _ w9 ⟨rfl,rfl⟩
 skip
 refine RE.xc en97 rfl rfl (emit_fn h8 (by omega)) ?_
 rintro _ w10 ⟨rfl,it,h10,h11⟩
 have hB11:=h11.lx.at_
 unfold AtL at hB11
 repeat(first|refine C0 ?_|refine C1 ?_|refine X1 rfl rfl ?_|refine X2 rfl rfl ?_|refine X3 rfl rfl rfl ?_|refine X4 rfl rfl rfl ?_|refine C2 ?_)
 refine RE.xs (e_store rfl rfl rfl hB11 rfl rfl) ?_
 rintro _ w12 hu12
 have hm12 : LM L { c with pos:=c.pos + 3,start:=c.pos + 3,items:=it,step:=0 } w10 w12:=LM.of_upd hu12 rfl
 have h12:=h11.keep hm12 rfl rfl rfl hp0
 have hB12:=h12.lx.at_
 unfold AtL at hB12
 repeat(first|refine C0 ?_|refine C1 ?_|refine X1 rfl rfl ?_|refine X2 rfl rfl ?_|refine X3 rfl rfl rfl ?_|refine X4 rfl rfl rfl ?_|refine C2 ?_)
 refine RE.xs (e_store rfl rfl rfl hB12 rfl rfl) ?_
 rintro _ w13 hu13
 have hm13 : LM L { c with pos:=c.pos + 3,start:=c.pos + 3,items:=it,step:=0,par:=0 } w12 w13:=LM.of_upd hu13 rfl
 have h13:=h12.keep hm13 rfl rfl rfl hp0
 repeat(first|refine C0 ?_|refine C1 ?_|refine X0 rfl rfl ?_|refine C2 ?_)
 (refine CE.ret ?_;(try dsimp only);refine ret1 rfl rfl ?_)
 subst hA0
 exact ⟨rfl,c.width,it,((hi8.trans h10).lm hm12 rfl).lm hm13 rfl,h13⟩
theorem emitS_fn {L ib B : Nat} {t dv : List UInt8} {c : LC} {ps : List PI} {w : World} {ty : Int} (h : LS L ib B t dv c ps w) (hn : ps.length + 2 < 100000000) :
  Fn PT 170 [Ptr L 0,I ty] w (fun u w' => u = .tuple #[] ∧ ∃ v,LI L c { c with start:=c.pos,items:=v } w w' ∧ LS L ib B t dv { c with start:=c.pos,items:=v } (ps ++ [PI.of t ty c.start c.pos true]) w'):=by
 refine fn_of Tryz.func170 rfl Tryz.ntmps170 rfl ?_
 have hB:=h.lx.at_
 unfold AtL at hB
 repeat (refine C0 ?_)
 refine CE.draw [0,0,0,0,0,0,0,0,0,0,0,2] mixed (by decide +kernel) ?_
 repeat(first|refine Y1 rfl rfl ?_|refine Y2 rfl rfl ?_|refine Y3 rfl rfl rfl ?_|refine Y22 rfl rfl hB rfl rfl ?_)
 refine RE.d1 (v:=(⟨ty,.nilIface,c.start,c.pos,none,0,0,0,true⟩ : IC).val) (op_build rfl (by kernel_rfl)) rfl ?_
 refine RE.ec1 en113 rfl rfl (append_ls (h.ext (Ext.drew w)) (irep_one _ ty c.start c.pos true) (by omega)) ?_
 rintro _ w1 ⟨rfl,v,h1,h2⟩
 have hB2:=h2.lx.at_
 unfold AtL at hB2
 repeat(first|refine C1 ?_|refine X1 rfl rfl ?_|refine X2 rfl rfl ?_|refine X3 rfl rfl rfl ?_|refine X22 rfl rfl hB2 rfl rfl ?_|refine C2 ?_)
 refine RE.xs (e_store rfl rfl rfl hB2 rfl rfl) ?_
 rintro _ w3 hu3
 have hm3 : LM L { c with items:=v,start:=c.pos } w1 w3:=LM.of_upd hu3 rfl
 have h3:=h2.keep hm3 rfl rfl rfl h.lx.pos
 (refine RE.nilx ?_; (try dsimp only); refine end0 rfl ?_)
 exact ⟨rfl,v,(LI.ext_l (Ext.drew w) h1).lm hm3 rfl,h3⟩
theorem fnd_spec {x l : List UInt8} : ∀ (d i j : Nat),l.length + 1 - i = d → fnd x l i = (j : Int) → i ≤ j ∧ j + x.length ≤ l.length ∧ (l.drop j).take x.length = x:=by
 intro d
 induction d using Nat.strongRecOn with
 | _ d ih =>
  intro i j hd hf
  rw [fnd] at hf
  split at hf
  ·rename_i h1
   split at hf
   ·rename_i h2
    have : i = j:=by omega
    subst this
    exact ⟨Nat.le_refl _,h1,h2⟩
   ·have:=ih (l.length + 1 - (i + 1)) (by omega) (i + 1) j rfl hf
    exact ⟨by omega,this.2⟩
  ·omega
theorem delim152s_fn (w : World) : Fn PT 152 [] w (fun v w' => ∃ b fr,v = Sl b 0 2 2 ∧ w'.heap[b]? = some (.cells #[.int .u8 42,.int .u8 47] 5 fr) ∧ Ext w w'):=by
 refine fn_of Tryz.func152 rfl Tryz.ntmps152 rfl ?_
 repeat(first|refine C0 ?_|refine C1 ?_|refine X0 rfl rfl ?_|refine C2 ?_)
 refine RE.xe (e_buildSlice (cells:=#[.int .u8 42,.int .u8 47]) (e:=5) rfl (by kernel_rfl) (by kernel_rfl)) rfl ?_
 rintro _ w1 ⟨b,rfl,hn⟩
 refine RE.xe (e_mark rfl hn.here) rfl ?_
 rintro _ w2 ⟨rfl,hu⟩
 repeat(first|refine X0 rfl rfl ?_|refine C2 ?_)
 (refine CE.ret ?_;(try dsimp only);refine ret1 rfl rfl ?_)
 have hnum:=hn.num
 refine ⟨b,_,rfl,hu.here,?_⟩
 exact ⟨hu.os.trans hn.os,hu.tape.trans hn.tape,hu.output.trans hn.output,by have:=hu.size; have:=hn.size; omega,fun k hk => by
  rw [hu.other k (by omega),hn.other k (by omega)]⟩
theorem e_appendB {n : Nat} {s : Slots} {w : World} {dst : Option Tmp} {ty : TypeId} {pos : String} {af : Array Edge} {gd : Option (Nat × Bool)} {x y : Operand} {v : Value} {g : Nat} {l l' : List UInt8} {fr : Nat × Nat} {cs : Array Value}
  (hx : ev s x = some (Sl g 0 l.length l.length)) (hg : w.heap[g]? = some (.cells cs 5 fr)) (hcs : cs.toList = l.map B) (hy : ev s y = some v) (hv : HB w v l') (hne : l' ≠ []) (hk : l.length + l'.length ≤ 1000) :
  OpE PT ⟨dst,.call { callee:=.builtin .append,args:=#[x,y],argTypes:=#[42,42] },ty,pos,af,gd⟩ n s w (fun u w' => Fresh (l ++ l') w u w'):=by
 refine ⟨fun ds a ha => ?_⟩
 obtain ⟨hu,i,hi,hs⟩:=sl_spec (show slLook slT 42 = some (5,1) from rfl)
 have hz : (PT.info? 5).map (fun i => (i.zero,i.bytes)) = some (some (.int .u8 0),1):=by kernel_rfl
 rw [hi] at hz
 simp only [Option.map_some,Option.some.injEq,Prod.mk.injEq] at hz
 obtain ⟨hz1,hz2⟩:=hz
 obtain ⟨b,a',c',rfl,hc',hcell⟩:=hv
 obtain ⟨o,rfl,hcl⟩:=hcell hne
 have hpos : 0 < l'.length:=List.length_pos_iff.2 hne
 have hr:=run_append_grow (P:=PT) w 42 ty 5 i (.int .u8 0) hu hi hz1 ⟨g,0,none⟩ l.length l.length (l.map B) (by simp [hs]) (fun j u hj => by
   rw [Addr.add_lit,Nat.zero_add]
   exact cell_of hg (by rw [← Array.getElem?_toList,hcs]; exact hj)) ⟨b,o,none⟩ l'.length c' (l'.map B) (by simp [hs]) (fun j u hj => by
   rw [Addr.add_lit]
   have hjl : j < l'.length:=by
    rcases Nat.lt_or_ge j l'.length with h | h
    ·exact h
    ·rw [List.getElem?_eq_none (by simpa using h)] at hj; cases hj
   rw [List.getElem?_map,List.getElem?_eq_getElem hjl] at hj
   cases hj
   exact hcl j hjl) (by omega) (by omega) (growslice_fits (by omega) (by rw [hz2]; omega))
 obtain ⟨v',w',hr',hF⟩ : ∃ v' w',(Builtin.append_ #[42,42] ty #[Value.slice (some ⟨g,0,none⟩) l.length l.length,Value.slice (some ⟨b,o,none⟩) l'.length c']).run PT w = .ok v' w' ∧ Fresh (l ++ l') w v' w':=by
  refine ⟨_,_,hr,w.heap.size,⟨some ⟨w.heap.size,0,none⟩,_,by rw [List.length_append],?_,fun _ => ⟨0,rfl,fun j hj => ?_⟩⟩,Nat.le_refl _,(Ext.drew w).trans (Ext.alloc _ _)⟩
  ·rw [List.length_append]; exact grownCap_ge _ _ _ _
  ·rw [Nat.zero_add]
   have h1:=cell_of_row (w.drew.alloc (.cells ((l.map B).toArray ++ (l'.map B).toArray ++ Builtin.zeroCells (Value.int IntKind.u8 0).cells (grownCap w (l.length + l'.length) l.length 5 - (l.length + l'.length))) 5)) w.heap.size j _ _ _ (heap_alloc_new w.drew _)
   rw [h1]
   rw [Array.getElem?_append_left (by simpa using hj)]
   simp only [List.append_toArray,List.getElem?_toArray,← List.map_append]
   rw [List.getElem?_map,List.getElem?_eq_getElem hj]
   rfl
 refine ⟨v',w',Or.inl ?_,hF⟩
 rw [BigFrame.execOp_builtin,BigFrame.builtin_append]
 simp [ha.ev hx,ha.ev hy,hr']
theorem len1 {n a : Nat} (ha : a ≤ 2) (h : n + 8 < 100000000) : n + a + 2 < 100000000:=by omega
theorem len2 {n a b : Nat} (ha : a ≤ 2) (hb : b ≤ 2) (h : n + 8 < 100000000) : n + a + b + 2 < 100000000:=by omega
def outComment (t : List UInt8) (d : D) : Option Nat × D:=
 if fnd (bs152 ++ rightD d.rd) (t.drop d.pos) 0 ≤ 1 then (none,d.bad t) else
 (some 42,({ ({ d.em t 18 with pos:=d.pos + (fnd (bs152 ++ rightD d.rd) (t.drop d.pos) 0).toNat,start:=d.pos + 2 } : D).em t 18 with
  pos:=d.pos + (fnd (bs152 ++ rightD d.rd) (t.drop d.pos) 0).toNat + 5,start:=d.pos + (fnd (bs152 ++ rightD d.rd) (t.drop d.pos) 0).toNat + 2 } : D).em t 18)
theorem rightD_ne (rd : Int) : rightD rd ≠ []:=fun h => by have:=rightD_len rd; rw [h] at this; cases this
theorem comment_fn {L ib B : Nat} {t dv : List UInt8} {c : LC} {ps : List PI} {w : World} {opn : List UInt8 → Bool} (h : LS L ib B t dv c ps w) (hn : ps.length + 8 < 100000000) :
  Fn PT 142 [Ptr L 0] w (fun u w' => u = fvV (outComment t (c.d dv opn ps)).1 ∧ Aft L ib B t c (outComment t (c.d dv opn ps)).2 w w'):=by
 refine fn_of Tryz.func142 rfl Tryz.ntmps142 rfl ?_
 have hsm:=h.lx.small
 have hps:=h.lx.pos
 generalize hA : outComment t (c.d dv opn ps) = A
 have hA0:=hA.symm
 unfold outComment at hA0
 repeat(first|refine C0 ?_|refine C1 ?_|refine X1 rfl rfl ?_|refine X0 rfl rfl ?_|refine C2 ?_)
 refine RE.xc en152 rfl rfl (delim152s_fn w) ?_
 rintro _ w1 ⟨b1,fr1,rfl,hb1,e1⟩
 repeat (refine X1 rfl rfl ?_)
 refine RE.xc en153 rfl rfl (rightD_fn (h.lx.at_.ext e1)) ?_
 rintro v2 w2 hf2
 have hf2':=hf2
 obtain ⟨b2,hb2,_,e2⟩:=hf2'
 refine RE.xe (e_appendB (l:=bs152) (l':=rightD c.rd) rfl (e2.block hb1) rfl rfl hb2.hb (rightD_ne _) (by rw [rightD_len]; decide)) rfl ?_
 rintro v3 w3 ⟨b3,hb3,_,e3⟩
 skip
 have e123:=(e1.trans e2).trans e3
 refine RE.xc en119 rfl rfl (indexL_fn (h.lx.ext e123) hb3.hb (by rw [List.length_append,rightD_len]; decide)) ?_
 rintro _ w4 ⟨rfl,e4⟩
 have e:=e123.trans e4
 have h4:=h.ext e
 have hi4:=LI.ext_l (c:=c) e (LI.refl h4.lx.at_)
 generalize hfi : fnd (bs152 ++ rightD c.rd) (t.drop c.pos) 0 = fi
 repeat(first|refine C0 ?_|refine C1 ?_|refine X1 rfl rfl ?_|refine X0 rfl rfl ?_|refine X8 rfl rfl rfl ?_|refine C2 ?_)
 refine CE.cond_d rfl (fun hle => ?_) (fun hle => ?_)
 ·repeat(first|refine C0 ?_|refine C1 ?_|refine X1 rfl rfl ?_)
  replace hA0:=hA0.trans (if_pos (hfi ▸ hle))
  subst hA0
  refine RE.xc en93 rfl rfl (bad_aft (d:=c.d dv opn ps) (opn:=opn) rfl rfl hi4 h4 (by omega)) ?_
  rintro _ w8 ⟨rfl,h8⟩
  repeat(first|refine X0 rfl rfl ?_|refine C2 ?_)
  (refine CE.ret ?_;(try dsimp only);refine ret1 rfl rfl ?_)
  exact ⟨rfl,h8⟩
 refine C3 ?_
 replace hA0:=hA0.trans (if_neg (hfi ▸ hle))
 obtain ⟨j,rfl⟩ : ∃ j : Nat,fi = (j : Int):=⟨fi.toNat,by omega⟩
 have hj : (fnd (bs152 ++ rightD (c.d dv opn ps).rd) (t.drop (c.d dv opn ps).pos) 0).toNat = j:=by
  show (fnd (bs152 ++ rightD c.rd) (t.drop c.pos) 0).toNat = j
  rw [hfi]; rfl
 rw [hj] at hA0
 obtain ⟨_,hjl,_⟩:=fnd_spec _ _ _ rfl hfi
 rw [List.length_append,rightD_len,List.length_drop] at hjl
 have hjl' : c.pos + j + 5 ≤ t.length:=by
  have : bs152.length = 2:=rfl
  omega
 have hj2 : 2 ≤ j:=by omega
 repeat(first|refine C0 ?_|refine C1 ?_|refine X1 rfl rfl ?_)
 refine RE.xc en97 rfl rfl (emit_fn h4 (by omega)) ?_
 rintro _ w5 ⟨rfl,it5,h5,h6⟩
 have hi5:=hi4.trans h5
 have hl5:=emitI_len t 18 c.start c.pos
 have hB6:=h6.lx.at_
 unfold AtL at hB6
 have hB6d : w5.drew.heap[L]? = _:=hB6
 repeat(first|refine C0 ?_|refine C2 ?_)
 (refine CE.drawA Ext [0,1,2] [0,1,0,0,0,0,2] [3,4,5,6,7,8,9] mixed Ext.refl (fun _ _ _ => Ext.trans) (by decide +kernel) ?_); (simp only [pick,nthO,List.cons_append,List.nil_append]); (repeat(first|refine PR.p (fun _ => op_move rfl) rfl ?_|refine PR.p (fun _ => op_nil rfl) rfl ?_|refine PR.p (fun _ => op_fieldAddr0 rfl rfl) rfl ?_|refine PR.p (fun _ => op_fieldAddr rfl rfl) rfl ?_)); refine PR.nil ?_
 repeat (refine Z22 rfl rfl hB6d rfl rfl ?_)
 refine RE.gcx (φ:=fun u _ => ∃ a cp,u = .slice a 2 cp) en141 rfl rfl (fun _ _ _ h _ => h) (fun w2 hw2 => Fn.mono (delim141_fn w2) fun u w' hf => ⟨hf.len3 rfl,hf.ext'⟩) ?_
 rintro _ ⟨_,_,a7,cp7,rfl⟩
 repeat (refine Z13 rfl rfl rfl ?_)
 refine RE.dd (fun _ hw => op_add64 rfl rfl (show _ ≤ (c.pos : Int) + ((2 : Nat) : Int) by omega) (show (c.pos : Int) + ((2 : Nat) : Int) ≤ _ by omega)) rfl Ext.refl ?_
 repeat(first|refine Z2 rfl rfl ?_|refine Z3 rfl rfl rfl ?_)
 refine RE.es (fun _ hw => e_store rfl rfl rfl (hw.1.block hB6d) rfl rfl) ?_
 rintro w7 ⟨hw7,_⟩ _ w8 hu8
 refine RE.nil fun w9 hw9 => ?_
 have e7 : Ext w5 w7:=(Ext.drew w5).trans hw7
 have hm8 : LM L { c with start:=c.pos,items:=it5,pos:=c.pos + 2 } w7 w8:=LM.of_upd hu8 rfl
 have h9:=((h6.ext e7).keep hm8 rfl rfl rfl (show c.pos + 2 ≤ t.length by omega)).ext hw9
 have hi9:=((hi5.ext_r e7).lm hm8 rfl).ext_r hw9
 repeat(first|refine C0 ?_|refine C1 ?_|refine X1 rfl rfl ?_)
 refine RE.xc en95 rfl rfl (ignore_fn h9.lx.at_) ?_
 rintro _ w10 ⟨rfl,h10⟩
 have h11:=h9.keep h10 rfl rfl rfl h9.lx.pos
 have hi11:=hi9.lm h10 rfl
 have hB11:=h11.lx.at_
 unfold AtL at hB11
 have hB11d : w10.drew.heap[L]? = _:=hB11
 repeat(first|refine C0 ?_|refine C2 ?_)
 (refine CE.drawA Ext [0,1,2,4] [0,1,0,0,0,0,0,2] [3,5,6,7,8,9,10,11] mixed Ext.refl (fun _ _ _ => Ext.trans) (by decide +kernel) ?_); (simp only [pick,nthO,List.cons_append,List.nil_append]); (repeat(first|refine PR.p (fun _ => op_move rfl) rfl ?_|refine PR.p (fun _ => op_nil rfl) rfl ?_|refine PR.p (fun _ => op_fieldAddr0 rfl rfl) rfl ?_|refine PR.p (fun _ => op_fieldAddr rfl rfl) rfl ?_)); refine PR.nil ?_
 repeat (refine Z22 rfl rfl hB11d rfl rfl ?_)
 refine RE.gcx (φ:=fun u _ => ∃ a cp,u = .slice a 2 cp) en141 rfl rfl (fun _ _ _ h _ => h) (fun w2 hw2 => Fn.mono (delim141_fn w2) fun u w' hf => ⟨hf.len3 rfl,hf.ext'⟩) ?_
 rintro _ ⟨_,_,a12,cp12,rfl⟩
 repeat(first|refine Z13 rfl rfl rfl ?_|refine Z19 rfl rfl (by omega) (by omega) rfl ?_)
 refine RE.dd (fun _ hw => op_add64 rfl rfl (show _ ≤ ((c.pos + 2 : Nat) : Int) + ((j : Int) - ((2 : Nat) : Int)) by omega) (show ((c.pos + 2 : Nat) : Int) + ((j : Int) - ((2 : Nat) : Int)) ≤ _ by omega)) rfl Ext.refl ?_
 repeat(first|refine Z2 rfl rfl ?_|refine Z3 rfl rfl rfl ?_)
 refine RE.es (fun _ hw => e_store rfl rfl rfl (hw.1.block hB11d) rfl rfl) ?_
 rintro w13 ⟨hw13,_⟩ _ w14 hu14
 refine RE.nil fun w15 hw15 => ?_
 have e13 : Ext w10 w13:=(Ext.drew w10).trans hw13
 have hm14 : LM L { c with start:=c.pos + 2,items:=it5,pos:=c.pos + j } w13 w14:=LM.of_upd hu14 (by
  have e : ((c.pos + j : Nat) : Int) = ((c.pos + 2 : Nat) : Int) + ((j : Int) - ((2 : Nat) : Int)):=by omega
  simp only [LC.arr,e]
  rfl)
 have h15:=((h11.ext e13).keep hm14 rfl rfl rfl (show c.pos + j ≤ t.length by omega)).ext hw15
 have hi15:=((hi11.ext_r e13).lm hm14 rfl).ext_r hw15
 repeat(first|refine C0 ?_|refine C1 ?_|refine X1 rfl rfl ?_)
 refine RE.xc en97 rfl rfl (emit_fn h15 (by rw [List.length_append]; exact len1 (emitI_len _ _ _ _) hn)) ?_
 rintro _ w16 ⟨rfl,it16,h16,h17⟩
 have hi17:=hi15.trans h16
 have hl17:=emitI_len t 18 (c.pos + 2) (c.pos + j)
 have hB17:=h17.lx.at_
 unfold AtL at hB17
 have hB17d : w16.drew.heap[L]? = _:=hB17
 repeat(first|refine C0 ?_|refine C2 ?_)
 (refine CE.drawA Ext [0,1,2] [0,1,0,0,0,0,2] [3,4,5,6,7,8,9] mixed Ext.refl (fun _ _ _ => Ext.trans) (by decide +kernel) ?_); (simp only [pick,nthO,List.cons_append,List.nil_append]); (repeat(first|refine PR.p (fun _ => op_move rfl) rfl ?_|refine PR.p (fun _ => op_nil rfl) rfl ?_|refine PR.p (fun _ => op_fieldAddr0 rfl rfl) rfl ?_|refine PR.p (fun _ => op_fieldAddr rfl rfl) rfl ?_)); refine PR.nil ?_
 repeat (refine Z22 rfl rfl hB17d rfl rfl ?_)
 refine RE.gcx (φ:=fun u _ => ∃ a cp,u = .slice a 2 cp) en152 rfl rfl (fun _ _ _ h _ => h) (fun w2 hw2 => Fn.mono (delim152_fn w2) fun u w' hf => ⟨hf.len3 rfl,hf.ext'⟩) ?_
 rintro _ ⟨_,_,a18,cp18,rfl⟩
 repeat (refine Z13 rfl rfl rfl ?_)
 refine RE.dd (fun _ hw => op_add64 rfl rfl (show _ ≤ ((c.pos + j : Nat) : Int) + ((2 : Nat) : Int) by omega) (show ((c.pos + j : Nat) : Int) + ((2 : Nat) : Int) ≤ _ by omega)) rfl Ext.refl ?_
 repeat(first|refine Z2 rfl rfl ?_|refine Z3 rfl rfl rfl ?_)
 refine RE.es (fun _ hw => e_store rfl rfl rfl (hw.1.block hB17d) rfl rfl) ?_
 rintro w18 ⟨hw18,_⟩ _ w19 hu19
 refine RE.nil fun w20 hw20 => ?_
 have e18 : Ext w16 w18:=(Ext.drew w16).trans hw18
 have hm19 : LM L { c with start:=c.pos + j,items:=it16,pos:=c.pos + j + 2 } w18 w19:=LM.of_upd hu19 rfl
 have h20:=((h17.ext e18).keep hm19 rfl rfl rfl (show c.pos + j + 2 ≤ t.length by omega)).ext hw20
 have hi20:=((hi17.ext_r e18).lm hm19 rfl).ext_r hw20
 repeat(first|refine C0 ?_|refine C1 ?_|refine X1 rfl rfl ?_)
 refine RE.xc en95 rfl rfl (ignore_fn h20.lx.at_) ?_
 rintro _ w21 ⟨rfl,h21⟩
 have h22:=h20.keep h21 rfl rfl rfl h20.lx.pos
 have hi22:=hi20.lm h21 rfl
 have hB22:=h22.lx.at_
 unfold AtL at hB22
 have hB22d : w21.drew.heap[L]? = _:=hB22
 repeat(first|refine C0 ?_|refine C2 ?_)
 (refine CE.drawA Ext [0,1,2,4] [0,1,0,0,0,0,2] [3,5,6,7,8,9,10] mixed Ext.refl (fun _ _ _ => Ext.trans) (by decide +kernel) ?_); (simp only [pick,nthO,List.cons_append,List.nil_append]); (repeat(first|refine PR.p (fun _ => op_move rfl) rfl ?_|refine PR.p (fun _ => op_nil rfl) rfl ?_|refine PR.p (fun _ => op_fieldAddr0 rfl rfl) rfl ?_|refine PR.p (fun _ => op_fieldAddr rfl rfl) rfl ?_)); refine PR.nil ?_
 repeat (refine Z22 rfl rfl hB22d rfl rfl ?_)
 refine RE.gcx (φ:=fun u _ => ∃ a cp,u = .slice a 3 cp) en153 rfl rfl (fun _ _ _ h _ => h) (fun w2 hw2 => Fn.mono (rightD_fn (show AtL L _ w2 from hw2.block hB22d)) fun u w' hf => ⟨hf.len3 (rightD_len _),hf.ext'⟩) ?_
 rintro _ ⟨_,_,a23,cp23,rfl⟩
 repeat (refine Z13 rfl rfl rfl ?_)
 refine RE.dd (fun _ hw => op_add64 rfl rfl (show _ ≤ ((c.pos + j + 2 : Nat) : Int) + ((3 : Nat) : Int) by omega) (show ((c.pos + j + 2 : Nat) : Int) + ((3 : Nat) : Int) ≤ _ by omega)) rfl Ext.refl ?_
 repeat(first|refine Z2 rfl rfl ?_|refine Z3 rfl rfl rfl ?_)
 refine RE.es (fun _ hw => e_store rfl rfl rfl (hw.1.block hB22d) rfl rfl) ?_
 rintro w24 ⟨hw24,_⟩ _ w25 hu25
 refine RE.nil fun w26 hw26 => ?_
 have e24 : Ext w21 w24:=(Ext.drew w21).trans hw24
 have hm25 : LM L { c with start:=c.pos + j + 2,items:=it16,pos:=c.pos + j + 5 } w24 w25:=LM.of_upd hu25 rfl
 have h26:=((h22.ext e24).keep hm25 rfl rfl rfl (show c.pos + j + 5 ≤ t.length by omega)).ext hw26
 have hi26:=((hi22.ext_r e24).lm hm25 rfl).ext_r hw26
 repeat(first|refine C0 ?_|refine C1 ?_|refine X1 rfl rfl ?_)
 refine RE.xc en97 rfl rfl (emit_fn h26 (by rw [List.length_append,List.length_append]; exact len2 (emitI_len _ _ _ _) (emitI_len _ _ _ _) hn)) ?_
 rintro _ w27 ⟨rfl,it27,h27,h28⟩
 repeat(first|refine C0 ?_|refine C1 ?_|refine X0 rfl rfl ?_|refine C2 ?_)
 (refine CE.ret ?_;(try dsimp only);refine ret1 rfl rfl ?_)
 subst hA0
 exact ⟨rfl,c.width,it27,hi26.trans h27,h28⟩
def isTick (r : Int) : Bool:=decide (r = 96)
def outRaw (t : List UInt8) (d : D) (ty : Int) : Option Nat × D:=
 if t.length ≤ skipTo isTick t (d.pos + 1) then (none,({ d with start:=d.pos + 1,pos:=skipTo isTick t (d.pos + 1) }).bad t) else
 (some 144,{ d with start:=skipTo isTick t (d.pos + 1) + 1,pos:=skipTo isTick t (d.pos + 1) + 1,ps:=d.ps ++ [PI.of t ty (d.pos + 1) (skipTo isTick t (d.pos + 1)) true] })
theorem skipTo_at {stop : Int → Bool} {t : List UInt8} : ∀ (d p : Nat),t.length - p = d → skipTo stop t p < t.length → stop (nx t (skipTo stop t p)).1 = true:=by
 intro d
 induction d using Nat.strongRecOn with
 | _ d ih =>
  intro p hd hp
  rcases Nat.lt_or_ge p t.length with h | h
  ·cases hs : stop (nx t p).1 with
   | true => rw [skipTo_stop (Or.inr hs)]; exact hs
   | false =>
    rw [skipTo_go h hs] at hp ⊢
    have h1:=nx_pos t h
    exact ih (t.length - (p + (nx t p).2)) (by omega) (p + (nx t p).2) rfl hp
  ·rw [skipTo_stop (Or.inl h)] at hp
   omega
theorem nx_pos_of {t : List UInt8} {p : Nat} (h : (nx t p).1 ≠ -1) : p < t.length:=by
 rcases Nat.lt_or_ge p t.length with h' | h'
 ·exact h'
 ·rw [nx_end h'] at h; exact absurd rfl h
theorem nx_neg {t : List UInt8} {p : Nat} (h : (nx t p).1 = -1) : t.length ≤ p:=by
 rcases Nat.lt_or_ge p t.length with h' | h'
 ·rw [nx_in h'] at h
  have h2 : ((Lib.decodeL (t.drop p)).1 : Int) = -1:=h
  omega
 ·exact h'
theorem raw_fn {L ib B : Nat} {t dv : List UInt8} {c : LC} {ps : List PI} {w : World} {opn : List UInt8 → Bool} {ty : Int} (h : LS L ib B t dv c ps w) (h96 : (nx t c.pos).1 = 96) (hst : c.start ≤ c.pos) (hn : ps.length + 8 < 100000000) :
  Fn PT 157 [Ptr L 0,I ty] w (fun u w' => u = fvV (outRaw t (c.d dv opn ps) ty).1 ∧ Aft L ib B t c (outRaw t (c.d dv opn ps) ty).2 w w'):=by
 refine fn_of Tryz.func157 rfl Tryz.ntmps157 rfl ?_
 generalize hA : outRaw t (c.d dv opn ps) ty = A
 have hA0:=hA.symm
 unfold outRaw at hA0
 have hw1 : (nx t c.pos).2 = 1:=nx_one (r:=96) h96 (by decide)
 repeat(first|refine C0 ?_|refine C1 ?_|refine X0 rfl rfl ?_|refine C2 ?_|refine CE.scope ?_|refine CE.label (show CE _ _ _ _ _ _ _ from ?_))
 refine CE.cut (fun s ds w' => ds = [] ∧ SubL [(0,Ptr L 0),(1,I ty)] s ∧ skipTo isTick t (c.pos + 1) < t.length ∧ ∃ wd,LS L ib B t dv { c with start:=c.pos + 1,pos:=skipTo isTick t (c.pos + 1),width:=wd } ps w' ∧
   LI L c { c with start:=c.pos + 1,pos:=skipTo isTick t (c.pos + 1),width:=wd } w w') ?_ ?_
 ·refine CE.block ?_
  refine CE.loop (α:=Bool × LC) (fun x => [(5,.bool x.1),(0,Ptr L 0),(1,I ty)])
   (fun x w' => LS L ib B t dv x.2 ps w' ∧ LI L c x.2 w w' ∧ ((x.1 = false ∧ x.2 = c) ∨ (x.1 = true ∧ (∃ q wd,x.2 = { c with start:=c.pos + 1,pos:=q,width:=wd }) ∧ c.pos + 1 ≤ x.2.pos ∧ skipTo isTick t x.2.pos = skipTo isTick t (c.pos + 1))))
   (fun x => t.length + 1 - x.2.pos) (false,c) ⟨rfl,rfl,rfl,trivial⟩ ⟨h,LI.refl h.lx.at_,Or.inl ⟨rfl,rfl⟩⟩ ?_
  rintro ⟨b,x⟩ w0 ⟨hx,hi,hb⟩
  refine CE.block ?_
  repeat(first|refine C0 ?_|refine C1 ?_|refine X1 rfl rfl ?_)
  refine RE.xc en68 rfl rfl (next_fn hx.lx) ?_
  rintro _ w1 ⟨rfl,h1⟩
  have hx1:=hx.nxt h1
  have hi1:=hi.lm h1 rfl
  repeat(first|refine X0 rfl rfl ?_|refine C2 ?_)
  refine CE.block ?_
  repeat(first|refine C0 ?_|refine C1 ?_|refine X1 rfl rfl ?_|refine X0 rfl rfl ?_|refine X5 rfl rfl rfl ?_|refine C2 ?_)
  refine CE.cond_d rfl (fun h2 => ?_) (fun h2 => ?_)
  ·repeat(first|refine C0 ?_|refine C1 ?_|refine X1 rfl rfl ?_|refine C2 ?_)
   refine CE.cond_s rfl (fun hb1 => ?_) (fun hb1 => ?_)
   ·repeat(first|refine C0 ?_|refine C1 ?_|refine X1 rfl rfl ?_)
    refine RE.xc en98 rfl rfl (backNext_fn hx1.lx) ?_
    rintro _ w2 ⟨rfl,h3⟩
    repeat (refine C2 ?_)
    refine CE.exit ?_
    rcases hb with ⟨h4,_⟩ | ⟨_,⟨q,wd,hq⟩,h5,h6⟩
    ·rw [h4] at hb1; cases hb1
    ·have hsk : skipTo isTick t x.pos = x.pos:=skipTo_stop (Or.inr (by rw [h2]; rfl))
     have hxp : x.pos < t.length:=nx_pos_of (by rw [h2]; decide)
     have h6' : skipTo isTick t (c.pos + 1) = x.pos:=by rw [← h6]; exact hsk
     have hx2:=hx1.keep h3 rfl rfl rfl hx.lx.pos
     refine ⟨rfl,⟨rfl,rfl,trivial⟩,by rw [h6']; exact hxp,(nx t x.pos).2,?_,?_⟩
     ·rw [h6']
      have e : x.at t x.pos = { c with start:=c.pos + 1,pos:=x.pos,width:=(nx t x.pos).2 }:=by
       have hq' : x = { c with start:=c.pos + 1,pos:=q,width:=wd }:=hq
       rw [hq']; rfl
      rw [← e]; exact hx2
     ·rw [h6']
      have e : x.at t x.pos = { c with start:=c.pos + 1,pos:=x.pos,width:=(nx t x.pos).2 }:=by
       have hq' : x = { c with start:=c.pos + 1,pos:=q,width:=wd }:=hq
       rw [hq']; rfl
      rw [← e]; exact hi1.lm h3 rfl
   ·repeat(first|refine C0 ?_|refine C1 ?_|refine X1 rfl rfl ?_|refine X0 rfl rfl ?_|refine C2 ?_)
    refine RE.xc en95 rfl rfl (ignore_fn hx1.lx.at_) ?_
    rintro _ w2 ⟨rfl,h3⟩
    have hx2:=hx1.keep h3 rfl rfl rfl hx1.lx.pos
    rcases hb with ⟨_,h4⟩ | ⟨h4,_⟩
    ·have h4' : x = c:=h4
     subst h4'
     refine RE.nilx ?_
     refine ⟨(true,{ x.nxt t with start:=(x.nxt t).pos }),?_,rfl,⟨rfl,rfl,rfl,trivial⟩,hx2,hi1.lm h3 rfl,Or.inr ⟨rfl,⟨x.pos + 1,(nx t x.pos).2,?_⟩,?_,?_⟩⟩
     ·have:=h.lx.pos
      have hxp : x.pos < t.length:=nx_pos_of (by rw [h96]; decide)
      show t.length + 1 - (x.pos + (nx t x.pos).2) < t.length + 1 - x.pos
      omega
     ·show ({ x.nxt t with start:=(x.nxt t).pos } : LC) = _
      simp only [LC.nxt,hw1]
     ·show x.pos + 1 ≤ x.pos + (nx t x.pos).2
      omega
     ·show skipTo isTick t (x.pos + (nx t x.pos).2) = _
      rw [hw1]
    ·rw [h4] at hb1; cases hb1
  ·repeat(first|refine C0 ?_|refine C1 ?_|refine X1 rfl rfl ?_|refine X0 rfl rfl ?_|refine X5 rfl rfl rfl ?_|refine C2 ?_)
   refine CE.cond_d rfl (fun h3 => ?_) (fun h3 => ?_)
   ·rcases hb with ⟨_,h4⟩ | ⟨_,⟨q,wd,hq⟩,h5,h6⟩
    ·have h4' : x = c:=h4
     subst h4'
     rw [h96] at h3
     cases h3
    have hend:=nx_neg h3
    have hsk : skipTo isTick t x.pos = x.pos:=skipTo_stop (Or.inl hend)
    have h6' : skipTo isTick t (c.pos + 1) = x.pos:=by rw [← h6]; exact hsk
    have hq' : x = { c with start:=c.pos + 1,pos:=q,width:=wd }:=hq
    have hxs : (x.nxt t).start ≤ (x.nxt t).pos:=by
     show x.start ≤ x.pos + (nx t x.pos).2
     have h8 : x.start = c.pos + 1:=by rw [hq']
     have h9 : c.pos + 1 ≤ x.pos:=h5
     omega
    repeat(first|refine C0 ?_|refine C1 ?_|refine X1 rfl rfl ?_)
    refine RE.xc en168 rfl rfl (current_fn hx1.lx hxs) ?_
    rintro v4 w4 e4
    refine RE.x (op_iface rfl (by kernel_rfl)) rfl ?_
    refine RE.xe (e_buildSlice (cells:=#[.iface 42 v4]) (e:=20) rfl (by kernel_rfl) (by kernel_rfl)) rfl ?_
    rintro _ w5 ⟨nb,rfl,hn5⟩
    have e5:=e4.trans hn5.ext
    replace hA0:=hA0.trans (if_pos (show t.length ≤ skipTo isTick t (c.pos + 1) by rw [h6']; exact hend))
    have hx5:=hx1.ext e5
    have hi5:=hi1.ext_r e5
    refine RE.xc en93 rfl rfl (bad_aft (d:={ c.d dv opn ps with start:=c.pos + 1,pos:=x.pos }) (opn:=opn) (x:=x.nxt t) ?_ ?_ hi5 hx5 (by omega)) ?_
    ·have : (nx t x.pos).2 = 0:=by rw [nx_end hend]
     rw [hq'] at this ⊢
     simp only [LC.nxt] at this ⊢
     rw [this]; rfl
    ·have : (nx t x.pos).2 = 0:=by rw [nx_end hend]
     rw [hq'] at this ⊢
     simp only [LC.nxt] at this ⊢
     rw [this]; rfl
    rintro _ w8 ⟨rfl,h8⟩
    repeat(first|refine X0 rfl rfl ?_|refine C2 ?_)
    (refine CE.ret ?_;(try dsimp only);refine ret1 rfl rfl ?_)
    rw [hA0]
    refine ⟨rfl,?_⟩
    have e : ({ c.d dv opn ps with start:=(c.d dv opn ps).pos + 1,pos:=skipTo isTick t ((c.d dv opn ps).pos + 1) } : D) = { c.d dv opn ps with start:=c.pos + 1,pos:=x.pos }:=by
     show ({ c.d dv opn ps with start:=c.pos + 1,pos:=skipTo isTick t (c.pos + 1) } : D) = _
     rw [h6']
    rw [e]
    exact h8
   ·refine CE.skip ?_
    have hxp : x.pos < t.length:=nx_pos_of h3
    have hps:=nx_pos t hxp
    rcases hb with ⟨_,h4⟩ | ⟨hb',⟨q,wd,hq⟩,h5,h6⟩
    ·have h4' : x = c:=h4
     subst h4'
     exact absurd h96 h2
    have hq' : x = { c with start:=c.pos + 1,pos:=q,width:=wd }:=hq
    refine ⟨(b,x.nxt t),?_,rfl,⟨rfl,rfl,rfl,trivial⟩,hx1,hi1,Or.inr ⟨hb',⟨x.pos + (nx t x.pos).2,(nx t x.pos).2,?_⟩,?_,?_⟩⟩
    ·show t.length + 1 - (x.pos + (nx t x.pos).2) < t.length + 1 - x.pos
     omega
    ·show x.nxt t = _
     rw [hq']; rfl
    ·show c.pos + 1 ≤ x.pos + (nx t x.pos).2
     have : c.pos + 1 ≤ x.pos:=h5
     omega
    ·rw [← h6]
     show skipTo isTick t (x.pos + (nx t x.pos).2) = skipTo isTick t x.pos
     rw [skipTo_go hxp (show isTick (nx t x.pos).1 = false by simp [isTick,h2])]
 ·rintro s _ w1 ⟨rfl,hs,hlt,wd,h1,hi1⟩
  refine CE.sub hs ?_
  replace hA0:=hA0.trans (if_neg (show ¬ t.length ≤ skipTo isTick t (c.pos + 1) by omega))
  have h96q : (nx t (skipTo isTick t (c.pos + 1))).1 = 96:=by simpa [isTick] using skipTo_at _ _ rfl hlt
  have hw96 : (nx t (skipTo isTick t (c.pos + 1))).2 = 1:=nx_one (r:=96) h96q (by decide)
  repeat(first|refine C0 ?_|refine C1 ?_|refine X1 rfl rfl ?_)
  refine RE.xc en170 rfl rfl (emitS_fn h1 (by omega)) ?_
  rintro _ w2 ⟨rfl,it,h2,h3⟩
  have hi3:=hi1.trans h2
  repeat(first|refine C0 ?_|refine C1 ?_|refine X1 rfl rfl ?_|refine C2 ?_)
  refine RE.xc en68 rfl rfl (next_fn h3.lx) ?_
  rintro _ w4 ⟨rfl,h4⟩
  have h5:=h3.nxt h4
  have hi5:=hi3.lm h4 rfl
  repeat(first|refine C0 ?_|refine C1 ?_|refine X1 rfl rfl ?_|refine C2 ?_)
  refine RE.xc en95 rfl rfl (ignore_fn h5.lx.at_) ?_
  rintro _ w6 ⟨rfl,h6⟩
  have h7:=h5.keep h6 rfl rfl rfl h5.lx.pos
  have hi7:=hi5.lm h6 rfl
  repeat(first|refine C0 ?_|refine C1 ?_|refine X0 rfl rfl ?_|refine C2 ?_)
  (refine CE.ret ?_;(try dsimp only);refine ret1 rfl rfl ?_)
  subst hA0
  refine ⟨rfl,1,it,?_,?_⟩
  ·have:=hi7
   simp only [LC.nxt,hw96] at this
   exact this
  ·have:=h7
   simp only [LC.nxt,hw96] at this
   exact this
end Go.Wk
