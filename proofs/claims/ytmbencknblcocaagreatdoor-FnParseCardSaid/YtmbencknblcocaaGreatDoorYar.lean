/- The main section. -/
import Derived.Test.YtmbencknblcocaaGreatDoorYaq
namespace Go.Wk
open Go Go.RowKit Go.Proofs
set_option maxRecDepth 100000
theorem LI.blk {L ib B : Nat} {t dv : List UInt8} {c c' : LC} {ps : List PI} {w w' : World} {b T : Nat} {cs : Array Value} {fr : Nat × Nat} (hx : LS L ib B t dv c ps w) (hy : LI L c c' w w') (hb : w.heap[b]? = some (.cells cs T fr)) (h1 : T ≠ 79) (h2 : T ≠ 63) : w'.heap[b]? = some (.cells cs T fr):=by
 refine hy.fr.block hb ?_
 rintro (e | e)
 ·subst e
  have:=hx.lx.at_
  unfold AtL at this
  rw [hb] at this
  cases this
  exact h1 rfl
 ·obtain ⟨xs,ho,_⟩:=hx.own
  obtain ⟨cs',hcs⟩:=ho.tag e
  rw [hb] at hcs
  cases hcs
  exact h2 rfl
theorem LI.row {L ib B : Nat} {t dv : List UInt8} {c c' : LC} {ps : List PI} {w w' : World} {T size k : Nat} {v : Value} {xs : List Value} (hx : LS L ib B t dv c ps w) (hy : LI L c c' w w') (hb : w.ownsRow B T size v k xs) (h1 : T ≠ 79) (h2 : T ≠ 63) : w'.ownsRow B T size v k xs:=by
 refine ownsRow_fr hb hy.fr ?_
 intro q hq e
 obtain ⟨cs,hcs⟩:=ownsRow_tag hb hq
 rcases e with e | e
 ·subst e
  have:=hx.lx.at_
  unfold AtL at this
  rw [hcs] at this
  cases this
  exact h1 rfl
 ·obtain ⟨xs,ho,_⟩:=hx.own
  obtain ⟨cs',hcs'⟩:=ho.tag e
  rw [hcs] at hcs'
  cases hcs'
  exact h2 rfl
section
variable {n : Nat} {s : Slots} {w : World} {dst : Option Tmp} {ty : TypeId} {pos : String} {af : Array Edge} {g : Option (Nat × Bool)} {x y : Operand} {v : Value} {t t' : TypeId}
theorem op_eql_fn (hx : ev s x = some v) (hv : v = .nilFunc ∨ ∃ f,v = fnV f) (ht : isFnT PT t = true) : Op1 PT ⟨dst,.binOp .eql t x (.const .nilFunc) t',ty,pos,af,g⟩ n s (.bool (isNil v)) w:=by
 have key : (Op.equal t v .nilFunc).run PT w = .ok (isNil v) w:=by
  unfold isFnT at ht
  split at ht
  ·rename_i ps rs vd hu
   exact run_equalIn_fn w 9999 t hu hv
  ·cases ht
 have key2 : (binOp .eql t v .nilFunc).run PT w = .ok (.bool (isNil v)) w:=by
  rcases hv with rfl | ⟨f,rfl⟩ <;> (simp only [binOp,fnV] at *; simp [key])
 refine op_bin hx rfl ?_ key2
 rcases hv with rfl | ⟨f,rfl⟩ <;> rfl
end
def D.txt (t : List UInt8) (d : D) : D:=if d.start < d.pos then d.em t 18 else d
def outLex (t : List UInt8) (nd s1 s2 : Bool) (d : D) : Option Nat × D:=
 if s1 = false ∧ isSC t d.pos = true then outSc t (d.txt t) else
 if nd = false ∧ s2 = false ∧ pre d.dv (t.drop d.pos) = true then (some 42,outDiv t (d.txt t)) else
 (some 42,{ d.txt t with pos:=d.pos + 1 })
set_option maxHeartbeats 4000000 in
theorem lex_fn {L ib B : Nat} {t dv : List UInt8} {c : LC} {ps : List PI} {w : World} {opn : List UInt8 → Bool} {nd s1 s2 : Bool} {H : Value} (h : LS L ib B t dv c ps w) (hH : HF L B nd false s1 s2 H w) (hp : c.pos < t.length) (hn : ps.length + 16 < 100000000) (hnm : c.name.length ≤ 1000000) :
  Fn PT 79 [H,fnV 42] w (fun u w' => u = fvV (outLex t nd s1 s2 (c.d dv opn ps)).1 ∧ Aft L ib B t c (outLex t nd s1 s2 (c.d dv opn ps)).2 w w'):=by
 have hsm:=h.lx.small
 obtain ⟨hb,hs,ks,h1,h2,n,rfl,q1,q2,⟨xs,q3⟩,q4,q5,q6,q7,q8⟩:=hH.out
 have hsf : ∃ g cap,hs = Sl g 0 (if nd then 1 else 2) cap:=by
  rcases q2.2 with ⟨_,h0⟩ | ⟨g,cap,cur,rfl,_⟩
  ·exfalso; cases nd <;> simp at h0
  ·exact ⟨g,cap,rfl⟩
 obtain ⟨hg,hcap,rfl⟩:=hsf
 generalize hA : outLex t nd s1 s2 (c.d dv opn ps) = A
 have hA0:=hA.symm
 unfold outLex at hA0
 refine fn_of Tryz.func79 rfl Tryz.ntmps79 rfl ?_
 have hL:=h.lx.at_
 unfold AtL at hL
 have q1d : w.drew.heap[hb]? = _:=q1
 have hLd : w.drew.heap[L]? = _:=hL
 repeat(first|refine C0 ?_|refine C1 ?_|refine X1 rfl rfl ?_|refine X0 rfl rfl ?_|refine X2 rfl rfl ?_|refine X3 rfl rfl rfl ?_|refine X22 rfl rfl q1 rfl rfl ?_|refine C2 ?_)
 refine CE.cond_f rfl ?_
 repeat(first|refine C0 ?_|refine C3 ?_)
 refine CE.draw [0,0,0,0,0,0,0,0,0,0,0,0,0,0,0] mixed (by decide +kernel) ?_
 repeat(first|refine Y1 rfl rfl ?_|refine Y2 rfl rfl ?_|refine Y3 rfl rfl rfl ?_|refine Y22 rfl rfl q1d rfl rfl ?_|refine Y22 rfl rfl hLd rfl rfl ?_|refine Y9 rfl rfl rfl ?_|refine C2 ?_)
 have hd:=h.ext (Ext.drew w)
 refine CE.cut (fun s ds w' => ds = [] ∧ SubL [(0,Ptr hb 0),(1,fnV 42)] s ∧ ∃ st it,LI L c { c with start:=st,items:=it } w w' ∧ LS L ib B t dv { c with start:=st,items:=it } ((c.d dv opn ps).txt t).ps w' ∧
   (c.d dv opn ps).txt t = { c.d dv opn ps with start:=st,ps:=((c.d dv opn ps).txt t).ps } ∧ ((c.d dv opn ps).txt t).ps.length ≤ ps.length + 2) ?_ ?_
 ·refine CE.cond_d rfl (fun hgt => ?_) (fun hgt => ?_)
  ·have hgt' : c.start < c.pos:=by omega
   have e : (c.d dv opn ps).txt t = (c.d dv opn ps).em t 18:=if_pos hgt'
   repeat(first|refine C1 ?_|refine X1 rfl rfl ?_|refine X2 rfl rfl ?_|refine X3 rfl rfl rfl ?_|refine X22 rfl rfl q1d rfl rfl ?_)
   refine RE.xc en97 rfl rfl (emit_fn hd (by omega)) ?_
   rintro _ w1 ⟨rfl,it,h2',h3⟩
   refine RE.nilx ?_
   rw [e]
   refine ⟨rfl,⟨rfl,rfl,trivial⟩,c.pos,it,LI.ext_l (Ext.drew w) h2',h3,rfl,?_⟩
   show (ps ++ emitI t 18 c.start c.pos).length ≤ _
   rw [List.length_append]
   have:=emitI_len t 18 c.start c.pos
   omega
  ·have e : (c.d dv opn ps).txt t = c.d dv opn ps:=if_neg (show ¬ c.start < c.pos by omega)
   refine CE.skip ?_
   rw [e]
   exact ⟨rfl,⟨rfl,rfl,trivial⟩,c.start,c.items,LI.ext_l (Ext.drew w) (LI.refl hd.lx.at_),hd,rfl,by show ps.length ≤ _; omega⟩
 ·rintro s _ w1 ⟨rfl,hss,st,it,hi1,hx1,hdt,hpl⟩
  refine CE.sub hss ?_
  generalize hps1 : ((c.d dv opn ps).txt t).ps = ps1 at *
  have p1:=LI.blk h hi1 q1 (by decide) (by decide)
  have p2:=LI.row h hi1 q2 (by decide) (by decide)
  have p4:=LI.blk h hi1 q4 (by decide) (by decide)
  have p5 : nd = false → w1.heap[h2]? = some (.cells #[Ptr L 0,.bool s2,fnV 126,fnV 127] 111 (0,0)):=fun hnd => LI.blk h hi1 (q5 hnd).1 (by decide) (by decide)
  generalize hc1 : ({ c with start:=st,items:=it } : LC) = c1 at hi1 hx1
  have hd1 : (c.d dv opn ps).txt t = c1.d dv opn ps1:=by rw [hdt,← hc1]; rfl
  rw [hd1] at hA0
  have hup : ∀ d wd it',c1.upd d wd it' = c.upd d wd it':=by rw [← hc1]; intros; rfl
  have hp1 : c1.pos = c.pos:=by rw [← hc1]
  have hpd : (c.d dv opn ps).pos = c1.pos:=hp1.symm
  have hdd : (c.d dv opn ps).dv = dv:=rfl
  rw [hpd,hdd] at hA0
  have hnm1 : c1.name = c.name:=by rw [← hc1]
  have hit1 : c1.items = it:=by rw [← hc1]
  clear hdt hd1
  generalize hN : (if nd = true then 1 else 2) = N at *
  repeat(first|refine C0 ?_|refine C1 ?_|refine X1 rfl rfl ?_|refine X2 rfl rfl ?_|refine X3 rfl rfl rfl ?_|refine X22 rfl rfl p1 rfl rfl ?_|refine X13 rfl rfl rfl ?_|refine C2 ?_)
  have upd0 : ∀ (x : LC) (wd : Nat) (it' : Value),x = c1.upd (c1.d dv opn ps1) wd it' → x.d dv opn ps1 = c1.d dv opn ps1:=by rintro x wd it' rfl; rfl
  refine CE.cut (fun s ds w' => ds = [] ∧ SubL [(0,Ptr hb 0),(1,fnV 42)] s ∧ ∃ x,LS L ib B t dv x ps1 w' ∧ LI L c1 x w1 w' ∧ (∃ wd it,x = c1.upd (c1.d dv opn ps1) wd it) ∧ w'.heap[hb]? = some (.cells #[Ptr L 0,.bool false,Sl hg 0 N hcap,ks] 105 (0,0)) ∧
    A = (some 42,{ c1.d dv opn ps1 with pos:=c1.pos + 1 })) ?_ ?_
  ·refine CE.block ?_
   refine CE.loop (α:=Nat) (fun k => [(38,I k),(37,I N),(36,Sl hg 0 N hcap),(0,Ptr hb 0),(1,fnV 42)])
    (fun k w' => k ≤ N ∧ ∃ x,LS L ib B t dv x ps1 w' ∧ LI L c1 x w1 w' ∧ (∃ wd it,x = c1.upd (c1.d dv opn ps1) wd it) ∧ w'.heap[hb]? = some (.cells #[Ptr L 0,.bool false,Sl hg 0 N hcap,ks] 105 (0,0)) ∧
     w'.ownsRow B 106 1 (Sl hg 0 N hcap) N (if nd = true then [Ptr h1 0] else [Ptr h1 0,Ptr h2 0]) ∧ w'.heap[h1]? = some (.cells #[Ptr L 0,.bool s1,fnV 118,fnV 121] 111 (0,0)) ∧ (nd = false → w'.heap[h2]? = some (.cells #[Ptr L 0,.bool s2,fnV 126,fnV 127] 111 (0,0))) ∧
     (1 ≤ k → ¬ (s1 = false ∧ isSC t c1.pos = true)) ∧ (2 ≤ k → ¬ (s2 = false ∧ pre dv (t.drop c1.pos) = true)))
    (fun k => 3 - k) 0 ⟨rfl,rfl,rfl,rfl,rfl,trivial⟩ ⟨Nat.zero_le _,c1,hx1,LI.refl hx1.lx.at_,⟨c1.width,c1.items,rfl⟩,p1,p2,p4,p5,(fun h => absurd h (by decide)),(fun h => absurd h (by decide))⟩ ?_
   rintro k w0 ⟨hkN,x,hx,hi,⟨wd,it',hxe⟩,g1,g2,g4,g5,g6,g7⟩
   refine (show CE _ _ _ _ [(38,I k),(37,I N),(36,Sl hg 0 N hcap),(0,Ptr hb 0),(1,fnV 42)] _ _ from ?_)
   have hxd:=upd0 x wd it' hxe
   have hxp : x.pos = c1.pos:=by rw [hxe]; rfl
   have hxn : x.name = c1.name:=by rw [hxe]; rfl
   have hxup : ∀ d wd it',x.upd d wd it' = c1.upd d wd it':=by rw [hxe]; intros; rfl
   have row : ∀ (j q : Nat),(if nd = true then [Ptr h1 0] else [Ptr h1 0,Ptr h2 0])[j]? = some (Ptr q 0) → w0.cell? ⟨hg,0 + (j : Int).toNat * 1,none⟩ = some (Ptr q 0):=by
    intro j q hj
    rcases g2.2 with ⟨h0,_⟩ | ⟨g,cap,cur,hv,_,hgg,_,_,_,ht⟩
    ·cases h0
    ·cases hv
     have e1 : 0 + (j : Int).toNat * 1 = j:=by omega
     rw [e1]
     refine cell_of hgg ?_
     rw [← ht,List.getElem?_take] at hj
     split at hj
     ·simpa using hj
     ·cases hj
   have more : ∀ (x' : LC) (w' : World),LS L ib B t dv x' ps1 w' → LI L x x' w0 w' → (∃ wd it,x' = c1.upd (c1.d dv opn ps1) wd it) → k + 1 ≤ N → (1 ≤ k + 1 → ¬ (s1 = false ∧ isSC t c1.pos = true)) → (2 ≤ k + 1 → ¬ (s2 = false ∧ pre dv (t.drop c1.pos) = true)) →
     (k + 1 ≤ N ∧ ∃ x,LS L ib B t dv x ps1 w' ∧ LI L c1 x w1 w' ∧ (∃ wd it,x = c1.upd (c1.d dv opn ps1) wd it) ∧ w'.heap[hb]? = some (.cells #[Ptr L 0,.bool false,Sl hg 0 N hcap,ks] 105 (0,0)) ∧
     w'.ownsRow B 106 1 (Sl hg 0 N hcap) N (if nd = true then [Ptr h1 0] else [Ptr h1 0,Ptr h2 0]) ∧ w'.heap[h1]? = some (.cells #[Ptr L 0,.bool s1,fnV 118,fnV 121] 111 (0,0)) ∧ (nd = false → w'.heap[h2]? = some (.cells #[Ptr L 0,.bool s2,fnV 126,fnV 127] 111 (0,0))) ∧
     (1 ≤ k + 1 → ¬ (s1 = false ∧ isSC t c1.pos = true)) ∧ (2 ≤ k + 1 → ¬ (s2 = false ∧ pre dv (t.drop c1.pos) = true))):=
    fun x' w' hx' hi' he' hk' a1 a2 => ⟨hk',x',hx',hi.trans hi',he',LI.blk hx hi' g1 (by decide) (by decide),LI.row hx hi' g2 (by decide) (by decide),LI.blk hx hi' g4 (by decide) (by decide),fun hnd => LI.blk hx hi' (g5 hnd) (by decide) (by decide),a1,a2⟩
   subst hN
   repeat(first|refine C0 ?_|refine C1 ?_|refine X7 rfl rfl rfl ?_|refine C2 ?_)
   refine CE.cond_d rfl (fun hlt => ?_) (fun hlt => ?_)
   ·have hlt' : k < (if nd = true then 1 else 2):=by omega
    have hk2 : k = 0 ∨ k = 1:=by
     have : (if nd = true then 1 else 2) ≤ 2:=by cases nd <;> decide
     omega
    rcases hk2 with rfl | rfl
    ·have hcell : w0.cell? ⟨hg,0 + ((0 : Nat) : Int).toNat * 1,none⟩ = some (Ptr h1 0):=row 0 h1 (by cases nd <;> rfl)
     repeat(first|refine C0 ?_|refine C3 ?_)
     refine CE.block ?_
     repeat(first|refine C0 ?_|refine C1 ?_)
     refine RE.x (op_indexAddr rfl rfl rfl (by decide) (by cases nd <;> decide)) rfl ?_
     refine RE.x (op_load rfl rfl hcell) rfl ?_
     repeat(first|refine C0 ?_|refine C1 ?_|refine X1 rfl rfl ?_|refine X0 rfl rfl ?_|refine X2 rfl rfl ?_|refine X3 rfl rfl rfl ?_|refine X22 rfl rfl g4 rfl rfl ?_|refine C2 ?_)
     refine CE.cond_s rfl (fun hs1 => ?_) (fun hs1 => ?_)
     ·refine CE.exit (show CE _ _ _ _ _ _ _ from ?_)
      repeat(first|refine C1 ?_|refine X1 rfl rfl ?_|refine X18 rfl rfl (by omega) (by omega) rfl ?_)
      refine RE.nilx ?_
      exact ⟨1,by decide,rfl,⟨rfl,rfl,rfl,rfl,rfl,trivial⟩,more x w0 hx (LI.refl hx.lx.at_) ⟨wd,it',hxe⟩ hlt' (fun _ h => nt h.1 hs1) (fun h => absurd h (by decide))⟩
     ·have hs1' : s1 = false:=hs1
      have g4d : w0.drew.heap[h1]? = _:=g4
      repeat(first|refine C0 ?_|refine C3 ?_)
      refine CE.draw [0,0,0,0,0,0,0,0,0,2,0,0,0,0,0] mixed (by decide +kernel) ?_
      repeat(first|refine Y1 rfl rfl ?_|refine Y2 rfl rfl ?_|refine Y3 rfl rfl rfl ?_|refine Y22 rfl rfl g4d rfl rfl ?_)
      refine RE.ecv (Φ:=fun _ u w' => u = fvB (if isSC t x.pos then (outSc t (x.d dv opn ps1)).1 else some 42) (isSC t x.pos) ∧ Aft L ib B t x (if isSC t x.pos then (outSc t (x.d dv opn ps1)).2 else x.d dv opn ps1) w0 w') (f:=121) (first:=#[]) (cap:=#[]) rfl en121 rfl rfl rfl
       (by rintro _ rfl; exact Fn.mono (sc_fn (hx.ext (Ext.drew w0)) (by omega) (by rw [hxn,hnm1]; exact hnm)) fun u w' ⟨a1,wd',it',a2,a3⟩ => ⟨a1,wd',it',LI.ext_l (Ext.drew w0) a2,a3⟩) ?_
      rintro _ rfl _ w2 ⟨rfl,haf⟩
      have e42 : ∀ f : Nat,fvV (some f) = fnV f:=fun _ => rfl
      cases hsc : isSC t x.pos with
      | true =>
       rw [hsc] at haf
       simp only [if_true] at haf ⊢
       have hA1:=hA0.trans (if_pos ⟨hs1',by rw [← hxp]; exact hsc⟩)
       rw [hxd] at haf ⊢
       rw [← hA1] at haf ⊢
       have haf' : Aft L ib B t c A.2 w w2:=(haf.up hi (hxup _)).up hi1 (hup _)
       obtain ⟨a1,a2⟩:=A
       cases a1 with
       | none =>
        repeat(first|refine Y1 rfl rfl ?_|refine Y0 rfl rfl ?_|refine Y15 rfl rfl rfl ?_|refine C2 ?_)
        repeat(first|refine C0 ?_|refine C1 ?_|refine X1 rfl rfl ?_)
        refine RE.x (op_eql_fn rfl (Or.inl rfl) (by kernel_rfl)) rfl ?_
        rw [show isNil (fvV none) = true from rfl]
        repeat(first|refine X1 rfl rfl ?_|refine X16 rfl rfl rfl rfl ?_|refine RE.nox rfl rfl rfl rfl ?_|refine C2 ?_)
        refine CE.cond_t rfl ?_
        repeat(first|refine C0 ?_|refine C1 ?_|refine X1 rfl rfl ?_|refine X0 rfl rfl ?_|refine C2 ?_)
        (refine CE.ret ?_;(try dsimp only);refine ret1 rfl rfl ?_)
        exact ⟨rfl,haf'⟩
       | some f =>
        repeat(first|refine Y1 rfl rfl ?_|refine Y0 rfl rfl ?_|refine Y15 rfl rfl rfl ?_|refine C2 ?_)
        repeat(first|refine C0 ?_|refine C1 ?_|refine X1 rfl rfl ?_)
        refine RE.x (op_eql_fn rfl (Or.inr ⟨f,rfl⟩) (by kernel_rfl)) rfl ?_
        rw [show isNil (fvV (some f)) = false from rfl]
        repeat(first|refine X1 rfl rfl ?_|refine X17 rfl rfl rfl ?_|refine RE.want rfl rfl ?_|refine C2 ?_)
        refine CE.cond_t rfl ?_
        repeat(first|refine C0 ?_|refine C1 ?_|refine X1 rfl rfl ?_|refine X0 rfl rfl ?_|refine C2 ?_)
        (refine CE.ret ?_;(try dsimp only);refine ret1 rfl rfl ?_)
        exact ⟨rfl,haf'⟩
      | false =>
       rw [hsc] at haf
       simp only [if_false,Bool.false_eq_true] at haf ⊢
       rw [hxd] at haf
       obtain ⟨wd2,it2,hi2,hx2⟩:=haf
       repeat(first|refine Y1 rfl rfl ?_|refine Y0 rfl rfl ?_|refine Y15 rfl rfl rfl ?_|refine C2 ?_)
       repeat(first|refine C0 ?_|refine C1 ?_|refine X1 rfl rfl ?_)
       refine RE.x (op_eql_fn rfl (Or.inr ⟨42,rfl⟩) (by kernel_rfl)) rfl ?_
       rw [show isNil (fvV (some 42)) = false from rfl]
       repeat(first|refine X1 rfl rfl ?_|refine X17 rfl rfl rfl ?_|refine RE.want rfl rfl ?_|refine C2 ?_)
       refine CE.cond_f rfl ?_
       repeat(first|refine C1 ?_|refine X1 rfl rfl ?_|refine X18 rfl rfl (by omega) (by omega) rfl ?_|refine C3 ?_)
       refine RE.nilx ?_
       exact ⟨1,by decide,rfl,⟨rfl,rfl,rfl,rfl,rfl,trivial⟩,more _ w2 hx2 hi2 ⟨wd2,it2,hxup _ _ _⟩ hlt' (fun _ h => nt (by rw [← hxp]; exact hsc) h.2) (fun h => absurd h (by decide))⟩
    ·have hnd : nd = false:=by cases nd with | true => exact absurd hlt' (by decide) | false => rfl
     have hcell : w0.cell? ⟨hg,0 + ((1 : Nat) : Int).toNat * 1,none⟩ = some (Ptr h2 0):=row 1 h2 (by rw [hnd]; rfl)
     have g5':=g5 hnd
     have hno1:=g6 (by decide)
     repeat(first|refine C0 ?_|refine C3 ?_)
     refine CE.block ?_
     repeat(first|refine C0 ?_|refine C1 ?_)
     refine RE.x (op_indexAddr rfl rfl rfl (by decide) (by rw [hnd]; decide)) rfl ?_
     refine RE.x (op_load rfl rfl hcell) rfl ?_
     repeat(first|refine C0 ?_|refine C1 ?_|refine X1 rfl rfl ?_|refine X0 rfl rfl ?_|refine X2 rfl rfl ?_|refine X3 rfl rfl rfl ?_|refine X22 rfl rfl g5' rfl rfl ?_|refine C2 ?_)
     refine CE.cond_s rfl (fun hs2 => ?_) (fun hs2 => ?_)
     ·refine CE.exit (show CE _ _ _ _ _ _ _ from ?_)
      repeat(first|refine C1 ?_|refine X1 rfl rfl ?_|refine X18 rfl rfl (by omega) (by omega) rfl ?_)
      refine RE.nilx ?_
      exact ⟨2,by decide,rfl,⟨rfl,rfl,rfl,rfl,rfl,trivial⟩,more x w0 hx (LI.refl hx.lx.at_) ⟨wd,it',hxe⟩ hlt' (fun _ => hno1) (fun _ h => nt h.1 hs2)⟩
     ·have hs2' : s2 = false:=hs2
      have g5d : w0.drew.heap[h2]? = _:=g5'
      repeat(first|refine C0 ?_|refine C3 ?_)
      refine CE.draw [0,0,0,0,0,0,0,0,0,2,0,0,0,0,0] mixed (by decide +kernel) ?_
      repeat(first|refine Y1 rfl rfl ?_|refine Y2 rfl rfl ?_|refine Y3 rfl rfl rfl ?_|refine Y22 rfl rfl g5d rfl rfl ?_)
      refine RE.ecv (Φ:=fun _ u w' => u = fvB (some 42) (pre dv (t.drop x.pos)) ∧ Aft L ib B t x (if pre dv (t.drop x.pos) = true then outDiv t (x.d dv opn ps1) else x.d dv opn ps1) w0 w') (f:=127) (first:=#[]) (cap:=#[]) rfl en127 rfl rfl rfl
       (by rintro _ rfl; exact Fn.mono (div_fn (hx.ext (Ext.drew w0)) (by omega)) fun u w' ⟨a1,wd',it',a2,a3⟩ => ⟨a1,wd',it',LI.ext_l (Ext.drew w0) a2,a3⟩) ?_
      rintro _ rfl _ w2 ⟨rfl,haf⟩
      cases hpr : pre dv (t.drop x.pos) with
      | true =>
       rw [hpr] at haf
       simp only [if_true] at haf
       have hA1:=(hA0.trans (if_neg hno1)).trans (if_pos ⟨hnd,hs2',by rw [← hxp]; exact hpr⟩)
       rw [hxd] at haf
       have haf' : Aft L ib B t c A.2 w w2:=by
        rw [hA1]
        exact (haf.up hi (hxup _)).up hi1 (hup _)
       repeat(first|refine Y1 rfl rfl ?_|refine Y0 rfl rfl ?_|refine Y15 rfl rfl rfl ?_|refine C2 ?_)
       repeat(first|refine C0 ?_|refine C1 ?_|refine X1 rfl rfl ?_)
       refine RE.x (op_eql_fn rfl (Or.inr ⟨42,rfl⟩) (by kernel_rfl)) rfl ?_
       rw [show isNil (fvV (some 42)) = false from rfl]
       repeat(first|refine X1 rfl rfl ?_|refine X17 rfl rfl rfl ?_|refine RE.want rfl rfl ?_|refine C2 ?_)
       refine CE.cond_t rfl ?_
       repeat(first|refine C0 ?_|refine C1 ?_|refine X1 rfl rfl ?_|refine X0 rfl rfl ?_|refine C2 ?_)
       (refine CE.ret ?_;(try dsimp only);refine ret1 rfl rfl ?_)
       refine ⟨?_,haf'⟩
       rw [hA1]
      | false =>
       rw [hpr] at haf
       simp only [if_false,Bool.false_eq_true] at haf
       rw [hxd] at haf
       obtain ⟨wd2,it2,hi2,hx2⟩:=haf
       repeat(first|refine Y1 rfl rfl ?_|refine Y0 rfl rfl ?_|refine Y15 rfl rfl rfl ?_|refine C2 ?_)
       repeat(first|refine C0 ?_|refine C1 ?_|refine X1 rfl rfl ?_)
       refine RE.x (op_eql_fn rfl (Or.inr ⟨42,rfl⟩) (by kernel_rfl)) rfl ?_
       rw [show isNil (fvV (some 42)) = false from rfl]
       repeat(first|refine X1 rfl rfl ?_|refine X17 rfl rfl rfl ?_|refine RE.want rfl rfl ?_|refine C2 ?_)
       refine CE.cond_f rfl ?_
       repeat(first|refine C1 ?_|refine X1 rfl rfl ?_|refine X18 rfl rfl (by omega) (by omega) rfl ?_|refine C3 ?_)
       refine RE.nilx ?_
       exact ⟨2,by decide,rfl,⟨rfl,rfl,rfl,rfl,rfl,trivial⟩,more _ w2 hx2 hi2 ⟨wd2,it2,hxup _ _ _⟩ hlt' (fun _ => hno1) (fun _ h => nt (by rw [← hxp]; exact hpr) h.2)⟩
   ·have hke : k = (if nd = true then 1 else 2):=by omega
    refine CE.exit ?_
    refine ⟨rfl,⟨rfl,rfl,trivial⟩,x,hx,hi,⟨wd,it',hxe⟩,g1,?_⟩
    refine (hA0.trans (if_neg (g6 (by rw [hke]; cases nd <;> decide)))).trans (if_neg ?_)
    rintro ⟨hnd,h⟩
    exact g7 (by rw [hke,hnd]; decide) h
  ·rintro s _ w2 ⟨rfl,hss,x,hx,hi,⟨wd,it',hxe⟩,g1,hA1⟩
   refine CE.sub hss ?_
   have hxp : x.pos = c1.pos:=by rw [hxe]; rfl
   have hB:=hx.lx.at_
   unfold AtL at hB
   repeat(first|refine C0 ?_|refine C1 ?_|refine X1 rfl rfl ?_|refine X2 rfl rfl ?_|refine X3 rfl rfl rfl ?_|refine X22 rfl rfl g1 rfl rfl ?_|refine X22 rfl rfl hB rfl rfl ?_|refine X18 rfl rfl (by omega) (by omega) rfl ?_)
   refine RE.xs (e_store rfl rfl rfl hB rfl rfl) ?_
   rintro _ w3 hu3
   have hm3 : LM L { x with pos:=x.pos + 1 } w2 w3:=LM.of_upd hu3 rfl
   have hx3:=hx.keep hm3 rfl rfl rfl (show x.pos + 1 ≤ t.length by omega)
   have hi3:=hi.lm hm3 rfl
   repeat(first|refine C0 ?_|refine C1 ?_|refine X1 rfl rfl ?_|refine X0 rfl rfl ?_|refine C2 ?_)
   (refine CE.ret ?_;(try dsimp only);refine ret1 rfl rfl ?_)
   rw [hA1]
   refine ⟨rfl,wd,it',?_,?_⟩
   ·have e : c.upd { c1.d dv opn ps1 with pos:=c1.pos + 1 } wd it' = { x with pos:=x.pos + 1 }:=by
     rw [← hup,hxe]; rfl
    rw [e]
    exact hi1.trans hi3
   ·have e : c.upd { c1.d dv opn ps1 with pos:=c1.pos + 1 } wd it' = { x with pos:=x.pos + 1 }:=by
     rw [← hup,hxe]; rfl
    rw [e]
    exact hx3
def scAt (t : List UInt8) (d : D) : Int:=fnd bs120 (t.drop d.pos) 0
def ixs (t : List UInt8) (nd : Bool) (d : D) : List Int:=idxs nd (scAt t d) (nextDiv t d)
def outMain (t : List UInt8) (nd : Bool) (d : D) : Option Nat × D:=
 if t.length ≤ d.pos then (some 77,d) else
 if ixs t nd d = [] then (some 77,{ d with pos:=t.length }) else
 match outLex t nd (decide (scAt t d = -1)) (decide (nextDiv t d = -1)) { d with pos:=d.pos + (minGo (-1) (ixs t nd d)).toNat } with
 | (none,e) => (some 77,{ e with pos:=t.length })
 | (some f,e) => (some f,e)
theorem fnd_bd {x l : List UInt8} : fnd x l 0 = -1 ∨ ∃ j : Nat,fnd x l 0 = (j : Int) ∧ j + x.length ≤ l.length:=by
 rcases fnd_ge x l _ 0 rfl with e | e
 ·exact Or.inl e
 ·obtain ⟨j,hj⟩ : ∃ j : Nat,fnd x l 0 = (j : Int):=⟨(fnd x l 0).toNat,by omega⟩
  exact Or.inr ⟨j,hj,(fnd_spec _ _ _ rfl hj).2.1⟩
theorem nextDiv_bd {t : List UInt8} {d : D} (hd : d.dv ≠ []) : nextDiv t d = -1 ∨ ∃ j : Nat,nextDiv t d = (j : Int) ∧ j + 1 ≤ t.length - d.pos:=by
 unfold nextDiv
 split
 ·exact Or.inl rfl
 ·rcases fnd_bd (x:=d.dv) (l:=t.drop d.pos) with e | ⟨j,h1,h2⟩
  ·exact Or.inl e
  ·refine Or.inr ⟨j,h1,?_⟩
   have:=List.length_pos_iff.2 hd
   rw [List.length_drop] at h2
   omega
theorem scAt_bd {t : List UInt8} {d : D} : scAt t d = -1 ∨ ∃ j : Nat,scAt t d = (j : Int) ∧ j + 1 ≤ t.length - d.pos:=by
 unfold scAt
 rcases fnd_bd (x:=bs120) (l:=t.drop d.pos) with e | ⟨j,h1,h2⟩
 ·exact Or.inl e
 ·refine Or.inr ⟨j,h1,?_⟩
  have : bs120.length = 2:=rfl
  rw [List.length_drop] at h2
  omega
theorem minGo_ge : ∀ (l : List Int) (m : Int),(∀ x ∈ l,0 ≤ x) → 0 ≤ m → 0 ≤ minGo m l
 | [],m,_,h => h
 | j :: r,m,hl,h => by
  have h1:=hl j (List.mem_cons_self ..)
  have h2:=fun x hx => hl x (List.mem_cons_of_mem _ hx)
  unfold minGo
  repeat' split
  all_goals first|exact minGo_ge r _ h2 h1|exact minGo_ge r _ h2 h
theorem minGo_mem : ∀ (l : List Int) (m : Int),minGo m l = m ∨ minGo m l ∈ l
 | [],m => Or.inl rfl
 | j :: r,m => by
  unfold minGo
  repeat' split
  ·exact (minGo_mem r m).imp id (List.mem_cons_of_mem _)
  ·rcases minGo_mem r j with h | h
   ·exact Or.inr (by rw [h]; exact List.mem_cons_self ..)
   ·exact Or.inr (List.mem_cons_of_mem _ h)
  ·rcases minGo_mem r j with h | h
   ·exact Or.inr (by rw [h]; exact List.mem_cons_self ..)
   ·exact Or.inr (List.mem_cons_of_mem _ h)
  ·exact (minGo_mem r m).imp id (List.mem_cons_of_mem _)
theorem minGo_pos {l : List Int} (hl : ∀ x ∈ l,0 ≤ x) (hne : l ≠ []) : 0 ≤ minGo (-1) l ∧ minGo (-1) l ∈ l:=by
 cases l with
 | nil => exact absurd rfl hne
 | cons j r =>
  have h1:=hl j (List.mem_cons_self ..)
  have e : minGo (-1) (j :: r) = minGo j r:=by
   rw [minGo,if_neg (by omega),if_pos rfl]
  rw [e]
  refine ⟨minGo_ge r j (fun x hx => hl x (List.mem_cons_of_mem _ hx)) h1,?_⟩
  rcases minGo_mem r j with h | h
  ·rw [h]; exact List.mem_cons_self ..
  ·exact List.mem_cons_of_mem _ h
theorem ixs_mem {t : List UInt8} {nd : Bool} {d : D} (hd : d.dv ≠ []) {x : Int} (h : x ∈ ixs t nd d) : ∃ j : Nat,x = (j : Int) ∧ j + 1 ≤ t.length - d.pos ∧ (x = scAt t d ∨ (nd = false ∧ x = nextDiv t d)):=by
 unfold ixs idxs at h
 obtain ⟨h1,h2⟩:=List.mem_filter.1 h
 have hx : x ≠ -1:=by simpa using h2
 have h3 : x = scAt t d ∨ (nd = false ∧ x = nextDiv t d):=by
  cases nd with
  | true => simp at h1; exact Or.inl h1
  | false => simp at h1; rcases h1 with h1 | h1; exact Or.inl h1; exact Or.inr ⟨rfl,h1⟩
 rcases h3 with h3 | ⟨h3,h4⟩
 ·rcases scAt_bd (t:=t) (d:=d) with e | ⟨j,e1,e2⟩
  ·exact absurd (h3.trans e) hx
  ·exact ⟨j,h3.trans e1,e2,Or.inl h3⟩
 ·rcases nextDiv_bd (t:=t) hd with e | ⟨j,e1,e2⟩
  ·exact absurd (h4.trans e) hx
  ·exact ⟨j,h4.trans e1,e2,Or.inr ⟨h3,h4⟩⟩
structure Flags (t : List UInt8) (nd : Bool) (d : D) (all s1 s2 : Bool) : Prop where
 all : all = true → ixs t nd d = []
 s1 : s1 = true → scAt t d = -1
 s2 : nd = false → s2 = true → nextDiv t d = -1
theorem main_fn {L ib B : Nat} {t dv : List UInt8} {c : LC} {ps : List PI} {w : World} {opn : List UInt8 → Bool} {nd all s1 s2 : Bool} (h : LS L ib B t dv c ps w) (hH : HF L B nd all s1 s2 c.H w) (hdv : dv.length ≤ 1000) (hdv0 : dv ≠ []) (hib : ib < B)
  (hfl : Flags t nd (c.d dv opn ps) all s1 s2) (hn : ps.length + 16 < 100000000) (hnm : c.name.length ≤ 1000000) :
  Fn PT 42 [Ptr L 0] w (fun u w' => u = fvV (outMain t nd (c.d dv opn ps)).1 ∧ ∃ w1 all' s1' s2',Fr (HbS B w) w w1 ∧ HF L B nd all' s1' s2' c.H w1 ∧ Flags t nd (c.d dv opn ps) all' s1' s2' ∧ Aft L ib B t c (outMain t nd (c.d dv opn ps)).2 w1 w'):=by
 refine fn_of Tryz.func42 rfl Tryz.ntmps42 rfl ?_
 generalize hA : outMain t nd (c.d dv opn ps) = A
 have hA0:=hA.symm
 unfold outMain at hA0
 have hps:=h.lx.pos
 have hsm:=h.lx.small
 have hil:=h.lx.il
 obtain ⟨hb,hHe⟩ : ∃ hb,c.H = Ptr hb 0:=by
  obtain ⟨hb,_,_,_,_,_,e,_⟩:=hH.out
  exact ⟨hb,e⟩
 have hL:=h.lx.at_
 unfold AtL at hL
 repeat(first|refine C0 ?_|refine C1 ?_|refine X1 rfl rfl ?_|refine X0 rfl rfl ?_|refine C2 ?_)
 refine RE.xc en76 rfl rfl (isEOF_fn h.lx) ?_
 rintro _ w1 ⟨rfl,e1⟩
 have hx1:=h.ext e1
 have hi1:=LI.ext_l (c:=c) e1 (LI.refl hx1.lx.at_)
 have hL1 : w1.heap[L]? = some (.cells { c with H:=Ptr hb 0 }.arr 79 (0,0)):=by rw [e1.block hL]; simp only [LC.arr,hHe]
 have hH1 : HF L B nd all s1 s2 c.H w1:=hH.fr (Fr.of_ext (S:=fun _ => False) e1) (fun _ _ _ _ _ _ h => h)
 repeat (refine C2 ?_)
 refine CE.cond_d rfl (fun hge => ?_) (fun hge => ?_)
 ·repeat(first|refine C0 ?_|refine C1 ?_|refine X0 rfl rfl ?_|refine C2 ?_)
  (refine CE.ret ?_;(try dsimp only);refine ret1 rfl rfl ?_)
  replace hA0:=hA0.trans (if_pos hge)
  subst hA0
  exact ⟨rfl,w,all,s1,s2,Fr.refl _ _,hH,hfl,c.width,c.items,hi1,hx1⟩
 replace hA0:=hA0.trans (if_neg hge)
 repeat(first|refine C0 ?_|refine C1 ?_|refine X1 rfl rfl ?_|refine X2 rfl rfl ?_|refine X3 rfl rfl rfl ?_|refine X22 rfl rfl hL1 rfl rfl ?_|refine C3 ?_)
 rw [hHe] at hH1
 refine RE.xc en78 rfl rfl (skip_fn hx1 hH1 hdv hib hfl.all hfl.s1 hfl.s2) ?_
 rintro _ w2 ⟨rfl,hf2,all',s1',s2',hH2,ha1,ha2,ha3⟩
 have hx2:=hx1.frH hf2 hib
 have hfr2 : Fr (HbS B w) w w2:=HbS.trans (Fr.of_ext e1) hf2
 have hL2 : w2.heap[L]? = some (.cells { c with H:=Ptr hb 0 }.arr 79 (0,0)):=by
  have:=hx2.lx.at_
  unfold AtL at this
  rw [this]; simp only [LC.arr,hHe]
 have hrefl:=LI.refl hx2.lx.at_
 rw [← hHe] at hH2
 have hI : ixs t nd (c.d dv opn ps) = idxs nd (fnd bs120 (t.drop c.pos) 0) (nextDiv t (c.d dv opn ps)):=rfl
 have hS : scAt t (c.d dv opn ps) = fnd bs120 (t.drop c.pos) 0:=rfl
 rw [← hI] at ha1 ⊢
 rw [← hS] at ha2 ha3
 have hmem:=fun x (hx : x ∈ ixs t nd (c.d dv opn ps)) => ixs_mem (d:=c.d dv opn ps) hdv0 hx
 generalize hix : ixs t nd (c.d dv opn ps) = is at ha1 hmem hA0
 have hfl2 : Flags t nd (c.d dv opn ps) all' s1' s2':=by
  refine ⟨fun ha => hix.trans (ha1.1 ha),fun h1 => ?_,fun hnd h2 => ?_⟩
  ·cases ha : all' with
   | true => exact (ha3 ha).1 h1
   | false => exact (ha2 ha).1.1 h1
  ·cases ha : all' with
   | true => exact ((ha3 ha).2 h2).elim (hfl.s2 hnd) id
   | false => exact ((ha2 ha).2 hnd).1 h2
 have hpos : is ≠ [] → 0 ≤ minGo (-1) is ∧ ∃ j : Nat,minGo (-1) is = (j : Int) ∧ j + 1 ≤ t.length - c.pos:=by
  intro hne
  have h1:=minGo_pos (l:=is) (fun x hx => by obtain ⟨j,hj,_⟩:=hmem x hx; omega) hne
  obtain ⟨j,hj,hj2,_⟩:=hmem _ h1.2
  exact ⟨h1.1,j,hj,hj2⟩
 repeat(first|refine C0 ?_|refine C1 ?_|refine X1 rfl rfl ?_|refine X0 rfl rfl ?_|refine X5 rfl rfl rfl ?_|refine C2 ?_)
 refine CE.cond_d rfl (fun hm1 => ?_) (fun hm1 => ?_)
 ·have hnil : is = []:=Classical.byContradiction fun hne => by have:=(hpos hne).1; omega
  replace hA0:=hA0.trans (if_pos hnil)
  repeat(first|refine C0 ?_|refine C1 ?_|refine X1 rfl rfl ?_|refine X2 rfl rfl ?_|refine X3 rfl rfl rfl ?_|refine X22 rfl rfl hL2 rfl rfl ?_|refine X13 rfl rfl rfl ?_)
  refine RE.xs (e_store (v:=I c.il) (b:=L) (o:=3) rfl rfl rfl hL2 rfl rfl) ?_
  rintro _ w3 hu3
  have hl3 : LM L { c with pos:=t.length } w2 w3:=LM.of_upd hu3 (by
   have h1 : c.il = t.length:=hil.1
   simp only [LC.arr,← h1,hHe]
   rfl)
  have hx3:=hx2.keep hl3 rfl rfl rfl (Nat.le_refl _)
  repeat(first|refine C0 ?_|refine C1 ?_|refine X0 rfl rfl ?_|refine C2 ?_)
  (refine CE.ret ?_;(try dsimp only);refine ret1 rfl rfl ?_)
  subst hA0
  exact ⟨rfl,w2,all',s1',s2',hfr2,hH2,hfl2,c.width,c.items,hrefl.lm hl3 rfl,hx3⟩
 have hne : is ≠ []:=by
  rintro rfl
  exact hm1 rfl
 replace hA0:=hA0.trans (if_neg hne)
 have hall' : all' = false:=by
  cases ha : all' with
  | false => rfl
  | true => exact absurd (ha1.1 ha) hne
 obtain ⟨_,j,hj,hjl⟩:=hpos hne
 rw [hj] at hA0 ⊢
 rw [Int.toNat_natCast] at hA0
 have hp : c.pos + j < t.length:=by omega
 repeat(first|refine C0 ?_|refine C1 ?_|refine X1 rfl rfl ?_|refine X9 rfl rfl rfl ?_|refine C2 ?_)
 refine CE.cut (fun s ds w' => ds = [] ∧ SubL [(0,Ptr L 0)] s ∧ LS L ib B t dv { c with pos:=c.pos + j } ps w' ∧ LI L c { c with pos:=c.pos + j } w2 w') ?_ ?_
 ·refine CE.cond_d rfl (fun hgt => ?_) (fun hgt => ?_)
  ·repeat(first|refine C1 ?_|refine X1 rfl rfl ?_|refine X2 rfl rfl ?_|refine X3 rfl rfl rfl ?_|refine X22 rfl rfl hL2 rfl rfl ?_)
   refine RE.x (op_add64 rfl rfl (show _ ≤ (c.pos : Int) + (j : Int) by omega) (show (c.pos : Int) + (j : Int) ≤ _ by omega)) rfl ?_
   repeat(first|refine X2 rfl rfl ?_|refine X3 rfl rfl rfl ?_)
   refine RE.xs (e_store rfl rfl rfl hL2 rfl rfl) ?_
   rintro _ w3 hu3
   have hl3 : LM L { c with pos:=c.pos + j } w2 w3:=LM.of_upd hu3 (by
    have e : ((c.pos + j : Nat) : Int) = (c.pos : Int) + (j : Int):=by omega
    simp only [LC.arr,e,hHe]
    rfl)
   refine RE.nilx ?_
   exact ⟨rfl,⟨rfl,trivial⟩,hx2.keep hl3 rfl rfl rfl (by show c.pos + j ≤ _; omega),hrefl.lm hl3 rfl⟩
  ·have hj0 : j = 0:=by omega
   subst hj0
   refine CE.skip ?_
   exact ⟨rfl,⟨rfl,trivial⟩,hx2,hrefl⟩
 ·rintro s _ w3 ⟨rfl,hss,hx3,hi3⟩
  refine CE.sub hss ?_
  have hL3 : w3.heap[L]? = some (.cells { c with pos:=c.pos + j,H:=Ptr hb 0 }.arr 79 (0,0)):=by
   have:=hx3.lx.at_
   unfold AtL at this
   rw [this]; simp only [LC.arr,hHe]
  have hH3:=hH2.li hx2 hi3
  rw [hall'] at hH3
  repeat(first|refine C0 ?_|refine C1 ?_|refine X1 rfl rfl ?_|refine X2 rfl rfl ?_|refine X3 rfl rfl rfl ?_|refine X22 rfl rfl hL3 rfl rfl ?_)
  rw [hHe] at hH3
  refine RE.xc en79 rfl rfl (lex_fn (opn:=opn) hx3 hH3 hp hn hnm) ?_
  rintro _ w4 ⟨rfl,wd4,it4,hi4,hx4⟩
  obtain ⟨hs1,hs2⟩:=ha2 hall'
  have hlx : outLex t nd s1' s2' (({ c with pos:=c.pos + j } : LC).d dv opn ps) = outLex t nd (decide (scAt t (c.d dv opn ps) = -1)) (decide (nextDiv t (c.d dv opn ps) = -1)) { c.d dv opn ps with pos:=c.pos + j }:=by
   have e1 : s1' = decide (scAt t (c.d dv opn ps) = -1):=by
    rw [Bool.eq_iff_iff,hs1]; simp
   show outLex t nd s1' s2' { c.d dv opn ps with pos:=c.pos + j } = _
   rw [e1]
   cases nd with
   | false =>
    have e2 : s2' = decide (nextDiv t (c.d dv opn ps) = -1):=by
     rw [Bool.eq_iff_iff,hs2 rfl]; simp
    rw [e2]
   | true =>
    unfold outLex
    simp only [Bool.true_eq_false,false_and,if_false]
  rw [hlx] at hi4 hx4 ⊢
  have hA1 : A = match outLex t nd (decide (scAt t (c.d dv opn ps) = -1)) (decide (nextDiv t (c.d dv opn ps) = -1)) { c.d dv opn ps with pos:=c.pos + j } with
   | (none,e) => (some 77,{ e with pos:=t.length })
   | (some f,e) => (some f,e):=hA0
  generalize outLex t nd (decide (scAt t (c.d dv opn ps) = -1)) (decide (nextDiv t (c.d dv opn ps) = -1)) { c.d dv opn ps with pos:=c.pos + j } = O at hi4 hx4 hA1
  obtain ⟨of,oe⟩:=O
  have hupd : ∀ d wd it,({ c with pos:=c.pos + j } : LC).upd d wd it = c.upd d wd it:=fun _ _ _ => rfl
  rw [hupd] at hi4 hx4
  have hi4:=hi3.trans hi4
  cases of with
  | some f =>
   subst hA1
   repeat(first|refine C0 ?_|refine C1 ?_|refine X1 rfl rfl ?_|refine X0 rfl rfl ?_|refine C2 ?_)
   refine RE.x (op_neq_fn rfl (Or.inr ⟨f,rfl⟩) (by kernel_rfl)) rfl ?_
   rw [show isNil (fvV (some f)) = false from rfl]
   repeat (refine C2 ?_)
   refine CE.cond_t rfl ?_
   repeat(first|refine C0 ?_|refine C1 ?_|refine X1 rfl rfl ?_|refine X0 rfl rfl ?_|refine C2 ?_)
   (refine CE.ret ?_;(try dsimp only);refine ret1 rfl rfl ?_)
   exact ⟨rfl,w2,all',s1',s2',hfr2,hH2,hfl2,wd4,it4,hi4,hx4⟩
  | none =>
   subst hA1
   have hL4:=hx4.lx.at_
   unfold AtL at hL4
   repeat(first|refine C0 ?_|refine C1 ?_|refine X1 rfl rfl ?_|refine X0 rfl rfl ?_|refine C2 ?_)
   refine RE.x (op_neq_fn rfl (Or.inl rfl) (by kernel_rfl)) rfl ?_
   rw [show isNil (fvV none) = true from rfl]
   repeat (refine C2 ?_)
   refine CE.cond_f rfl ?_
   repeat(first|refine C0 ?_|refine C1 ?_|refine X1 rfl rfl ?_|refine X2 rfl rfl ?_|refine X3 rfl rfl rfl ?_|refine X22 rfl rfl hL4 rfl rfl ?_|refine X13 rfl rfl rfl ?_|refine C3 ?_)
   refine RE.xs (e_store rfl rfl rfl hL4 rfl rfl) ?_
   rintro _ w5 hu5
   have hl5 : LM L { c.upd oe wd4 it4 with pos:=t.length } w4 w5:=LM.of_upd hu5 (by
    have h1 : c.il = t.length:=hil.1
    have h2 : (c.upd oe wd4 it4).il = t.length:=h1
    simp only [LC.arr,← h2]
    rfl)
   have hx5:=hx4.keep hl5 rfl rfl rfl (Nat.le_refl _)
   repeat(first|refine C0 ?_|refine C1 ?_|refine X0 rfl rfl ?_|refine C2 ?_)
   (refine CE.ret ?_;(try dsimp only);refine ret1 rfl rfl ?_)
   exact ⟨rfl,w2,all',s1',s2',hfr2,hH2,hfl2,wd4,it4,hi4.lm hl5 rfl,hx5⟩
end Go.Wk
