/- What the laws say items look like. -/
import Derived.Test.YtmbencknblcocaaGreatDoorYai
import Derived.ChangeKeysEq
namespace Go.Wk
open Go Go.RowKit Go.Proofs
set_option maxRecDepth 100000
def inlS : List UInt8:=[46,105,110,108,105,110,101]
def shBad (t : List UInt8) (last : Bool) (a : Nat) (x : RI) : Bool:=
 (!((decide (x.ty ≤ 1)) == last)) || (!(x.failed == decide (x.ty = 0))) || decide (x.ty < 0) || decide (x.ty > 18) || decide (x.is ≠ foldBits 0 0 (asks x.ty x.text)) ||
 (!decide (x.ty = 0) && (decide (x.pos < a) || decide (x.pos > t.length) || (!(decide (x.ty = 15) || decide (x.ty = 16)) && !begS t x.pos x.text) ||
  (decide (x.ty = 1) && (decide (x.pos ≠ t.length) || decide (x.text ≠ []))) || (decide (x.ty = 17) && hasS x.text [10])))
def shGo (t : List UInt8) : List RI → Nat → Nat → Option Nat
 | [],d,_ => some d
 | x :: r,d,a => if shBad t r.isEmpty a x then none else if x.ty = 0 then shGo t r d a else shGo t r (if x.ty = 2 then d + 1 else d) x.pos
def shapeB (t : List UInt8) (rs : List RI) : Bool:=
 if hasS t inlS then decide (0 < rs.length) else match shGo t rs 0 0 with | none => false | some d => decide (0 < rs.length) && decide (d ≤ 1)
theorem shGo_le (t : List UInt8) : ∀ (rs : List RI) (d a e : Nat),shGo t rs d a = some e → d ≤ e ∧ e ≤ d + rs.length
 | [],d,a,e,h => by simp [shGo] at h; subst h; simp
 | x :: r,d,a,e,h => by
  unfold shGo at h
  split at h
  ·cases h
  ·split at h
   ·have:=shGo_le t r _ _ _ h; simp; omega
   ·have:=shGo_le t r _ _ _ h
    simp
    split at this <;> omega
theorem OwnR.item {B : Nat} {w : World} {v : Value} {xs : List RI} (h : OwnR B w v xs) {k : Nat} (hk : k < xs.length) :
  ∃ g cap cur,v = Sl g 0 xs.length cap ∧ w.heap[g]? = some (.cells cur 31 (0,0)) ∧ (cur.toList.drop (k * 5)).take 5 = xs[k].lst:=by
 obtain ⟨_,h⟩:=h
 rcases h with ⟨_,h0⟩ | ⟨g,cap,cur,rfl,hb,hg,hnc,hcm,hcs,ht⟩
 ·exfalso
  omega
 ·refine ⟨g,cap,cur,rfl,hg,?_⟩
  rw [← flat_at (f:=RI.lst) (n:=5) (fun _ => rfl) xs k hk,← ht]
  rw [List.drop_take,List.take_take]
  congr 1
  have : k + 1 ≤ xs.length:=hk
  have:=Nat.mul_le_mul_right 5 this
  omega
theorem OwnR.len0 {B : Nat} {w : World} {v : Value} {xs : List RI} (h : OwnR B w v xs) : ∃ a cap,v = .slice a xs.length cap:=by
 obtain ⟨_,h⟩:=h
 rcases h with ⟨rfl,h0⟩ | ⟨g,cap,cur,rfl,_⟩
 ·exact ⟨none,0,by rw [h0]⟩
 ·exact ⟨_,_,rfl⟩
set_option maxHeartbeats 8000000 in
theorem shape_fn {B : Nat} {t : List UInt8} {rs : List RI} {v : Value} {w : World} (h : OwnR B w v rs) (ht : t.length ≤ 1000000) (hn : rs.length ≤ 20000000) (hx : ∀ x ∈ rs,x.pos ≤ 1000000 ∧ x.text.length ≤ 1000000) :
  Fn PT 19 [S t,v] w (fun u w' => u = .bool (shapeB t rs) ∧ Ext w w'):=by
 obtain ⟨a0,cap0,hv⟩:=h.len0
 subst hv
 refine fn_of Tryz.func19 rfl Tryz.ntmps19 rfl ?_
 repeat(first|refine C0 ?_|refine C1 ?_|refine X1 rfl rfl ?_|refine X0 rfl rfl ?_|refine C2 ?_)
 refine RE.xc en11 rfl rfl (has_fn (x:=inlS) ht (by decide)) ?_
 rintro _ w1 ⟨rfl,hw1⟩
 subst hw1
 repeat (refine C2 ?_)
 refine CE.cond_s rfl (fun hin => ?_) (fun hin => ?_)
 ·repeat(first|refine C0 ?_|refine C1 ?_|refine X1 rfl rfl ?_|refine X0 rfl rfl ?_|refine X9 rfl rfl rfl ?_|refine X13 rfl rfl rfl ?_|refine C2 ?_)
  (refine CE.ret ?_;(try dsimp only);refine ret1 rfl rfl ?_)
  refine ⟨?_,Ext.refl _⟩
  unfold shapeB
  rw [if_pos hin]
  have : decide ((rs.length : Int) > 0) = decide (0 < rs.length):=by simp
  rw [this]
 have hsh : shapeB t rs = match shGo t rs 0 0 with | none => false | some d => decide (0 < rs.length) && decide (d ≤ 1):=by
  unfold shapeB
  rw [if_neg (by rw [hin]; simp)]
 repeat(first|refine C0 ?_|refine C1 ?_|refine X1 rfl rfl ?_|refine X0 rfl rfl ?_|refine X13 rfl rfl rfl ?_|refine C2 ?_|refine C3 ?_)
 refine CE.cut (fun s ds w' => ds = [] ∧ Ext w1 w' ∧ ∃ d,shGo t rs 0 0 = some d ∧ SubL [(5,I (d : Nat)),(1,.slice a0 rs.length cap0)] s) ?_ ?_
 ·refine CE.block ?_
  refine CE.loop (α:=Nat × Nat × Nat) (fun x => [(18,I x.1),(17,I rs.length),(16,.slice a0 rs.length cap0),(6,I x.2.2),(5,I x.2.1),(1,.slice a0 rs.length cap0),(0,S t)])
   (fun x w' => Ext w1 w' ∧ x.1 ≤ rs.length ∧ shGo t rs 0 0 = shGo t (rs.drop x.1) x.2.1 x.2.2 ∧ x.2.1 ≤ x.1) (fun x => rs.length - x.1) (0,0,0) ⟨rfl,rfl,rfl,rfl,rfl,rfl,rfl,trivial⟩ ⟨Ext.refl _,Nat.zero_le _,rfl,Nat.le_refl _⟩ ?_
  rintro ⟨k,d,a⟩ w2 ⟨e2,hk,hgo,hdk⟩
  dsimp only at hk hgo hdk
  repeat(first|refine C0 ?_|refine C1 ?_|refine X7 rfl rfl rfl ?_|refine C2 ?_)
  refine CE.cond_d rfl (fun hlt => ?_) (fun hlt => ?_)
  ·have hkx : k < rs.length:=by omega
   obtain ⟨g,cap,cur,hv,hg,hcur⟩:=h.item hkx
   cases hv
   have hg2:=e2.block hg
   have hd:=List.drop_eq_getElem_cons hkx
   have hxm:=hx rs[k] (List.getElem_mem hkx)
   generalize hxk : rs[k] = x at hcur hd hxm
   obtain ⟨hxp,hxt⟩:=hxm
   have hlast : decide ((k : Int) = (rs.length : Int) - 1) = (rs.drop (k + 1)).isEmpty:=by
    by_cases h : k + 1 = rs.length
    ·rw [List.drop_of_length_le (by omega)]
     simp; omega
    ·have : rs.drop (k + 1) ≠ []:=by
      intro e
      have:=congrArg List.length e
      simp at this
      omega
     cases hr : rs.drop (k + 1) with
     | nil => exact absurd hr this
     | cons y r => simp; omega
   rw [hd] at hgo
   generalize hrest : rs.drop (k + 1) = r at hgo hlast
   have hbad : shBad t r.isEmpty a x = true → shapeB t rs = false:=by
    intro hb
    rw [hsh,hgo,shGo,if_pos hb]
   have hokz : shBad t r.isEmpty a x = false → x.ty = 0 → shGo t rs 0 0 = shGo t r d a:=by
    intro hb hz
    rw [hgo,shGo,if_neg (by rw [hb]; simp),if_pos hz]
   have hokn : shBad t r.isEmpty a x = false → ¬ x.ty = 0 → shGo t rs 0 0 = shGo t r (if x.ty = 2 then d + 1 else d) x.pos:=by
    intro hb hz
    rw [hgo,shGo,if_neg (by rw [hb]; simp),if_neg hz]
   repeat(first|refine C0 ?_|refine C1 ?_|refine X1 rfl rfl ?_|refine CE.block ?_|refine C3 ?_)
   refine RE.x (op_indexAddr rfl rfl rfl (by omega) (by omega)) rfl ?_
   have e0 : 0 + (k : Int).toNat * 5 = k * 5:=by omega
   rw [e0]
   refine X23 (kk:=5) (vs:=x.lst) rfl rfl hg2 hcur rfl rfl ?_
   refine RE.xe (e_alloc (cells:=#[I 0,I 0,S [],.bool false,.int .u16 0]) Tryz.zeroValue31 rfl) rfl ?_
   rintro _ w3 ⟨bx,rfl,hn3⟩
   repeat (refine X0 rfl rfl ?_)
   refine RE.xs (e_storeA (k:=5) (cells:=x.lst.toArray) rfl rfl rfl hn3.here rfl rfl (by simp [RI.lst,Value.oneCell'])) ?_
   rintro _ w4 hu4
   have e34 : Ext w2 w4:=hn3.ext.fr (Fr.of_upd (S:=(· = bx)) hu4 rfl) (fun q hq => by subst hq; have:=hn3.num; omega)
   have e4:=e2.trans e34
   have hb4:=hu4.here
   have hb4d : w4.drew.heap[bx]? = _:=hb4
   repeat(first|refine C0 ?_|refine C1 ?_|refine X1 rfl rfl ?_|refine X0 rfl rfl ?_|refine X5 rfl rfl rfl ?_|refine X13 rfl rfl rfl ?_|refine X19 rfl rfl (by omega) (by omega) rfl ?_|refine C2 ?_)
   rw [hlast]
   skip
   refine CE.drawR Ext [0,0,0,0,0,0,0,0,0,0,0,0,0,0,0,0,0,0,0,0,0,0,0,0,0,0,0,0,0,0] mixed Ext.refl (fun _ _ _ => Ext.trans) (by decide +kernel) ?_
   repeat(first|refine Z1 rfl rfl ?_|refine Z3 rfl rfl rfl ?_|refine Z22 rfl rfl hb4d rfl rfl ?_|refine Z8 rfl rfl rfl ?_)
   refine RE.dd (fun _ _ => op_neq_b rfl rfl Tryz.underlying4) rfl Ext.refl ?_
   repeat (refine Z1 rfl rfl ?_)
   refine RE.splitH (fun h1 => ?_) (fun h1 => ?_)
   ·
    repeat(first|refine Z1 rfl rfl ?_|refine Z16 rfl rfl rfl rfl ?_|refine RE.no0 rfl rfl rfl rfl ?_)
    refine RE.nil (fun w5 hw5 => ?_)
    skip
    refine CE.cond_t rfl ?_
    repeat(first|refine C0 ?_|refine C1 ?_|refine X0 rfl rfl ?_|refine C2 ?_)
    (refine CE.ret ?_;(try dsimp only);refine ret1 rfl rfl ?_)
    exact ⟨by rw [hbad (by simp [shBad,h1])],e4.trans ((Ext.drew _).trans hw5)⟩
   repeat(first|refine Z3 rfl rfl rfl ?_|refine Z22 rfl rfl hb4d rfl rfl ?_|refine Z5 rfl rfl rfl ?_|refine RE.want rfl rfl ?_)
   refine RE.dd (fun _ _ => op_neq_b rfl rfl Tryz.underlying4) rfl Ext.refl ?_
   repeat(first|refine Z1 rfl rfl ?_|refine Z17 rfl rfl rfl ?_)
   refine RE.splitH (fun h2 => ?_) (fun h2 => ?_)
   ·
    repeat(first|refine Z1 rfl rfl ?_|refine Z16 rfl rfl rfl rfl ?_|refine RE.no0 rfl rfl rfl rfl ?_)
    refine RE.nil (fun w5 hw5 => ?_)
    skip
    refine CE.cond_t rfl ?_
    repeat(first|refine C0 ?_|refine C1 ?_|refine X0 rfl rfl ?_|refine C2 ?_)
    (refine CE.ret ?_;(try dsimp only);refine ret1 rfl rfl ?_)
    exact ⟨by rw [hbad (by simp [shBad,h1,h2])],e4.trans ((Ext.drew _).trans hw5)⟩
   repeat(first|refine Z1 rfl rfl ?_|refine Z3 rfl rfl rfl ?_|refine Z22 rfl rfl hb4d rfl rfl ?_|refine Z7 rfl rfl rfl ?_|refine Z17 rfl rfl rfl ?_|refine RE.want rfl rfl ?_)
   refine RE.splitD (fun h3 => ?_) (fun h3 => ?_)
   ·
    repeat(first|refine Z1 rfl rfl ?_|refine Z16 rfl rfl rfl rfl ?_|refine RE.no0 rfl rfl rfl rfl ?_)
    refine RE.nil (fun w5 hw5 => ?_)
    skip
    refine CE.cond_t rfl ?_
    repeat(first|refine C0 ?_|refine C1 ?_|refine X0 rfl rfl ?_|refine C2 ?_)
    (refine CE.ret ?_;(try dsimp only);refine ret1 rfl rfl ?_)
    exact ⟨by rw [hbad (by simp [shBad,h1,h2,h3])],e4.trans ((Ext.drew _).trans hw5)⟩
   repeat(first|refine Z1 rfl rfl ?_|refine Z3 rfl rfl rfl ?_|refine Z22 rfl rfl hb4d rfl rfl ?_|refine Z9 rfl rfl rfl ?_|refine Z17 rfl rfl rfl ?_|refine RE.want rfl rfl ?_)
   refine RE.splitD (fun h4 => ?_) (fun h4 => ?_)
   ·
    repeat(first|refine Z16 rfl rfl rfl rfl ?_|refine RE.no0 rfl rfl rfl rfl ?_)
    refine RE.nil (fun w5 hw5 => ?_)
    skip
    refine CE.cond_t rfl ?_
    repeat(first|refine C0 ?_|refine C1 ?_|refine X0 rfl rfl ?_|refine C2 ?_)
    (refine CE.ret ?_;(try dsimp only);refine ret1 rfl rfl ?_)
    exact ⟨by rw [hbad (by simp [shBad,h1,h2,h3,h4])],e4.trans ((Ext.drew _).trans hw5)⟩
   repeat(first|refine Z3 rfl rfl rfl ?_|refine Z22 rfl rfl hb4d rfl rfl ?_|refine Z23 rfl rfl hb4d rfl rfl rfl ?_|refine RE.want rfl rfl ?_)
   refine RE.dc en14 rfl rfl (fun w7 h7 => bits_fn x w7 hxt) ?_
   repeat(first|refine Z6 rfl rfl rfl ?_|refine Z17 rfl rfl rfl ?_|refine RE.want rfl rfl ?_)
   refine RE.nil (fun w5 hw5 => ?_)
   have e5:=e4.trans ((Ext.drew _).trans hw5)
   have hb5:=hw5.block hb4d
   skip
   refine CE.cond_d rfl (fun h5 => ?_) (fun h5 => ?_)
   ·repeat(first|refine C0 ?_|refine C1 ?_|refine X0 rfl rfl ?_|refine C2 ?_)
    (refine CE.ret ?_;(try dsimp only);refine ret1 rfl rfl ?_)
    exact ⟨by rw [hbad (by unfold shBad; rw [show decide (x.is ≠ foldBits 0 0 (asks x.ty x.text)) = true from decide_eq_true h5]; simp)],e5⟩
   refine C3 ?_
   have h5' : x.is = foldBits 0 0 (asks x.ty x.text):=Classical.byContradiction h5
   have hpart : ∀ z,(!decide (x.ty = 0) && z) = false → ((decide (x.pos < a) || decide (x.pos > t.length) || (!(decide (x.ty = 15) || decide (x.ty = 16)) && !begS t x.pos x.text) ||
     (decide (x.ty = 1) && (decide (x.pos ≠ t.length) || decide (x.text ≠ []))) || (decide (x.ty = 17) && hasS x.text [10]))) = z → shBad t r.isEmpty a x = false:=by
    intro z hz hzz
    unfold shBad
    rw [h1,h2,hzz,hz]
    simp [h3,h4,h5']
   have hpartb : ∀ z,(!decide (x.ty = 0) && z) = true → ((decide (x.pos < a) || decide (x.pos > t.length) || (!(decide (x.ty = 15) || decide (x.ty = 16)) && !begS t x.pos x.text) ||
     (decide (x.ty = 1) && (decide (x.pos ≠ t.length) || decide (x.text ≠ []))) || (decide (x.ty = 17) && hasS x.text [10]))) = z → shBad t r.isEmpty a x = true:=by
    intro z hz hzz
    unfold shBad
    rw [hzz,hz]
    simp
   repeat(first|refine C0 ?_|refine C1 ?_|refine X3 rfl rfl rfl ?_|refine X22 rfl rfl hb5 rfl rfl ?_|refine X5 rfl rfl rfl ?_|refine C2 ?_)
   refine CE.cond_d rfl (fun hz => ?_) (fun hz => ?_)
   ·have hz' : x.ty = 0:=hz
    repeat(first|refine C1 ?_|refine X1 rfl rfl ?_|refine X18 rfl rfl (by omega) (by omega) rfl ?_|refine CE.exit (show CE _ _ _ _ _ _ _ from ?_))
    refine RE.nilx ?_
    refine ⟨(k + 1,d,a),by show rs.length - (k + 1) < rs.length - k; omega,rfl,⟨rfl,rfl,rfl,rfl,rfl,rfl,rfl,trivial⟩,e5,hkx,?_,by show d ≤ k + 1; omega⟩
    show _ = shGo t (rs.drop (k + 1)) d a
    rw [hrest]
    exact hokz (hpart _ (by simp [hz']) rfl) hz'
   refine C3 ?_
   have hz' : ¬ x.ty = 0:=hz
   have hzd : (!decide (x.ty = 0)) = true:=by simp [hz']
   refine C0 ?_
   generalize hq : (decide (x.ty = 15) || decide (x.ty = 16)) = q at hpart hpartb
   refine CE.cut (fun s ds w' => ds = [] ∧ w' = w5 ∧ SubL [(10,.bool q),(8,Ptr bx 0),(18,I k),(17,I rs.length),(16,Sl g 0 rs.length cap0),(6,I a),(5,I d),(1,Sl g 0 rs.length cap0),(0,S t)] s) ?_ ?_
   ·repeat(first|refine C1 ?_|refine X1 rfl rfl ?_|refine X3 rfl rfl rfl ?_|refine X22 rfl rfl hb5 rfl rfl ?_|refine X5 rfl rfl rfl ?_)
    refine RE.splitD (fun g1 => ?_) (fun g1 => ?_)
    ·have g1' : x.ty = 15:=g1
     repeat(first|refine X0 rfl rfl ?_|refine X16 rfl rfl rfl rfl ?_|refine RE.nox rfl rfl rfl rfl ?_)
     refine RE.nilx ?_
     exact ⟨rfl,rfl,congrArg (fun z => some (Value.bool z)) (by rw [← hq]; simp [g1']),rfl,rfl,rfl,rfl,rfl,rfl,rfl,rfl,trivial⟩
    ·have g1' : ¬ x.ty = 15:=g1
     repeat(first|refine X0 rfl rfl ?_|refine X3 rfl rfl rfl ?_|refine X22 rfl rfl hb5 rfl rfl ?_|refine X5 rfl rfl rfl ?_|refine X17 rfl rfl rfl ?_|refine RE.want rfl rfl ?_)
     refine RE.nilx ?_
     exact ⟨rfl,rfl,congrArg (fun z => some (Value.bool z)) (by rw [← hq]; simp only [g1',decide_false,Bool.false_or]),rfl,rfl,rfl,rfl,rfl,rfl,rfl,rfl,trivial⟩
   rintro s _ w' ⟨rfl,hw',hs⟩
   have hw2 : w5 = w':=hw'.symm
   subst hw2
   refine CE.sub hs ?_
   refine C0 ?_
   refine CE.cut (fun s ds w' => ds = [] ∧ w' = w5 ∧ SubL [(8,Ptr bx 0),(18,I k),(17,I rs.length),(16,Sl g 0 rs.length cap0),(6,I a),(5,I d),(1,Sl g 0 rs.length cap0),(0,S t)] s ∧
     (decide (x.pos < a) || decide (x.pos > t.length) || (!q && !begS t x.pos x.text)) = false) ?_ ?_
   ·repeat(first|refine C0 ?_|refine C1 ?_|refine X1 rfl rfl ?_|refine X3 rfl rfl rfl ?_|refine X22 rfl rfl hb5 rfl rfl ?_|refine X7 rfl rfl rfl ?_)
    refine RE.splitD (fun g1 => ?_) (fun g1 => ?_)
    ·have g1' : x.pos < a:=by omega
     repeat(first|refine X1 rfl rfl ?_|refine X16 rfl rfl rfl rfl ?_|refine RE.nox rfl rfl rfl rfl ?_|refine RE.nou rfl rfl rfl ?_|refine C2 ?_)
     refine CE.cond_t rfl ?_
     repeat(first|refine C0 ?_|refine C1 ?_|refine X0 rfl rfl ?_|refine C2 ?_)
     (refine CE.ret ?_;(try dsimp only);refine ret1 rfl rfl ?_)
     exact ⟨by rw [hbad (hpartb _ (by rw [hzd]; simp [g1'] <;> rfl) rfl)],e5⟩
    have g1' : ¬ x.pos < a:=by omega
    repeat(first|refine X1 rfl rfl ?_|refine X3 rfl rfl rfl ?_|refine X22 rfl rfl hb5 rfl rfl ?_|refine X9 rfl rfl rfl ?_|refine X14 rfl Tryz.underlying9 rfl ?_|refine X17 rfl rfl rfl ?_|refine RE.want rfl rfl ?_)
    refine RE.splitD (fun g2 => ?_) (fun g2 => ?_)
    ·have g2' : x.pos > t.length:=by omega
     repeat(first|refine X16 rfl rfl rfl rfl ?_|refine RE.nox rfl rfl rfl rfl ?_|refine RE.nou rfl rfl rfl ?_|refine C2 ?_)
     refine CE.cond_t rfl ?_
     repeat(first|refine C0 ?_|refine C1 ?_|refine X0 rfl rfl ?_|refine C2 ?_)
     (refine CE.ret ?_;(try dsimp only);refine ret1 rfl rfl ?_)
     exact ⟨by rw [hbad (hpartb _ (by rw [hzd]; simp [g2'] <;> rfl) rfl)],e5⟩
    have g2' : ¬ x.pos > t.length:=by omega
    repeat(first|refine X1 rfl rfl ?_|refine X11 rfl rfl ?_|refine RE.want rfl rfl ?_)
    refine RE.splitH (fun g3 => ?_) (fun g3 => ?_)
    ·have g3' : q = false:=by simpa using g3
     repeat(first|refine X1 rfl rfl ?_|refine X3 rfl rfl rfl ?_|refine X22 rfl rfl hb5 rfl rfl ?_|refine RE.want rfl rfl ?_)
     refine RE.xc en10 rfl rfl (begins_fn ht hxt hxp) ?_
     rintro _ w6 ⟨rfl,hw6⟩
     have hw7 : w5 = w6:=hw6.symm
     subst hw7
     repeat(first|refine X11 rfl rfl ?_|refine X16 rfl rfl rfl rfl ?_|refine X17 rfl rfl rfl ?_|refine RE.want rfl rfl ?_|refine C2 ?_)
     refine CE.cond_s rfl (fun g4 => ?_) (fun g4 => ?_)
     ·have g4' : begS t x.pos x.text = false:=by simpa using g4
      repeat(first|refine C0 ?_|refine C1 ?_|refine X0 rfl rfl ?_|refine C2 ?_)
      (refine CE.ret ?_;(try dsimp only);refine ret1 rfl rfl ?_)
      exact ⟨by rw [hbad (hpartb _ (by rw [hzd]; simp [g3',g4'] <;> rfl) rfl)],e5⟩
     ·have g4' : begS t x.pos x.text = true:=by simpa using g4
      refine CE.skip ?_
      exact ⟨rfl,rfl,⟨rfl,rfl,rfl,rfl,rfl,rfl,rfl,rfl,trivial⟩,by simp [g1',g2',g3',g4'] <;> omega⟩
    ·have g3' : q = true:=by simpa using g3
     repeat(first|refine X17 rfl rfl rfl ?_|refine RE.want rfl rfl ?_|refine RE.nox rfl rfl rfl rfl ?_|refine C2 ?_)
     refine CE.cond_f rfl ?_
     refine CE.skip ?_
     exact ⟨rfl,rfl,⟨rfl,rfl,rfl,rfl,rfl,rfl,rfl,rfl,trivial⟩,by simp [g1',g2',g3'] <;> omega⟩
   rintro s _ w' ⟨rfl,hw',hs,hc1⟩
   have hw2 : w5 = w':=hw'.symm
   subst hw2
   refine CE.sub hs ?_
   rw [hc1,Bool.false_or] at hpart hpartb
   refine C0 ?_
   refine CE.cut (fun s ds w' => ds = [] ∧ w' = w5 ∧ SubL [(8,Ptr bx 0),(18,I k),(17,I rs.length),(16,Sl g 0 rs.length cap0),(6,I a),(5,I d),(1,Sl g 0 rs.length cap0),(0,S t)] s ∧ shBad t r.isEmpty a x = false) ?_ ?_
   ·repeat(first|refine C0 ?_|refine C1 ?_|refine X1 rfl rfl ?_|refine X3 rfl rfl rfl ?_|refine X22 rfl rfl hb5 rfl rfl ?_|refine X5 rfl rfl rfl ?_)
    refine RE.splitD (fun g1 => ?_) (fun g1 => ?_)
    ·have g1' : x.ty = 1:=g1
     repeat(first|refine X1 rfl rfl ?_|refine X3 rfl rfl rfl ?_|refine X22 rfl rfl hb5 rfl rfl ?_|refine X6 rfl rfl rfl ?_|refine X14 rfl Tryz.underlying9 rfl ?_|refine RE.want rfl rfl ?_)
     refine RE.splitD (fun g2 => ?_) (fun g2 => ?_)
     ·have g2' : x.pos ≠ t.length:=by omega
      repeat(first|refine X1 rfl rfl ?_|refine X16 rfl rfl rfl rfl ?_|refine RE.want rfl rfl ?_|refine RE.nox rfl rfl rfl rfl ?_|refine RE.nou rfl rfl rfl ?_|refine C2 ?_)
      refine CE.cond_t rfl ?_
      repeat(first|refine C0 ?_|refine C1 ?_|refine X0 rfl rfl ?_|refine C2 ?_)
      (refine CE.ret ?_;(try dsimp only);refine ret1 rfl rfl ?_)
      exact ⟨by rw [hbad (hpartb _ (by rw [hzd]; simp [g1',g2'] <;> rfl) rfl)],e5⟩
     have g2' : x.pos = t.length:=by omega
     repeat(first|refine X1 rfl rfl ?_|refine X3 rfl rfl rfl ?_|refine X22 rfl rfl hb5 rfl rfl ?_|refine X16 rfl rfl rfl rfl ?_|refine X17 rfl rfl rfl ?_|refine X21 rfl rfl rfl ?_|refine RE.want rfl rfl ?_)
     refine RE.splitD (fun g3 => ?_) (fun g3 => ?_)
     ·have g3' : x.text ≠ []:=g3
      repeat(first|refine X16 rfl rfl rfl rfl ?_|refine RE.nox rfl rfl rfl rfl ?_|refine RE.nou rfl rfl rfl ?_|refine C2 ?_)
      refine CE.cond_t rfl ?_
      repeat(first|refine C0 ?_|refine C1 ?_|refine X0 rfl rfl ?_|refine C2 ?_)
      (refine CE.ret ?_;(try dsimp only);refine ret1 rfl rfl ?_)
      exact ⟨by rw [hbad (hpartb _ (by rw [hzd]; simp [g1',g3'] <;> rfl) rfl)],e5⟩
     have g3' : x.text = []:=Classical.byContradiction g3
     repeat(first|refine X1 rfl rfl ?_|refine X3 rfl rfl rfl ?_|refine X22 rfl rfl hb5 rfl rfl ?_|refine X5 rfl rfl rfl ?_|refine RE.want rfl rfl ?_)
     refine RE.splitD (fun g4 => ?_) (fun g4 => ?_)
     ·have g4' : x.ty = 17:=g4
      omega
     repeat(first|refine X17 rfl rfl rfl ?_|refine RE.want rfl rfl ?_|refine RE.nox rfl rfl rfl rfl ?_|refine C2 ?_)
     refine CE.cond_f rfl ?_
     refine CE.skip ?_
     exact ⟨rfl,rfl,⟨rfl,rfl,rfl,rfl,rfl,rfl,rfl,rfl,trivial⟩,hpart _ (by rw [hzd]; simp [g1',g2',g3'] <;> rfl) rfl⟩
    have g1' : ¬ x.ty = 1:=g1
    repeat(first|refine X1 rfl rfl ?_|refine X3 rfl rfl rfl ?_|refine X22 rfl rfl hb5 rfl rfl ?_|refine X5 rfl rfl rfl ?_|refine X17 rfl rfl rfl ?_|refine RE.want rfl rfl ?_|refine RE.nox rfl rfl rfl rfl ?_|refine RE.nou rfl rfl rfl ?_)
    refine RE.splitD (fun g4 => ?_) (fun g4 => ?_)
    ·have g4' : x.ty = 17:=g4
     repeat(first|refine X3 rfl rfl rfl ?_|refine X22 rfl rfl hb5 rfl rfl ?_|refine RE.want rfl rfl ?_)
     refine RE.xc en11 rfl rfl (has_fn (x:=[10]) hxt (by decide)) ?_
     rintro _ w6 ⟨rfl,hw6⟩
     have hw7 : w5 = w6:=hw6.symm
     subst hw7
     repeat(first|refine X16 rfl rfl rfl rfl ?_|refine X17 rfl rfl rfl ?_|refine RE.want rfl rfl ?_|refine C2 ?_)
     refine CE.cond_s rfl (fun g5 => ?_) (fun g5 => ?_)
     ·
      repeat(first|refine C0 ?_|refine C1 ?_|refine X0 rfl rfl ?_|refine C2 ?_)
      (refine CE.ret ?_;(try dsimp only);refine ret1 rfl rfl ?_)
      exact ⟨by rw [hbad (hpartb _ (by rw [hzd]; simp [g4',g5] <;> rfl) rfl)],e5⟩
     ·
      refine CE.skip ?_
      exact ⟨rfl,rfl,⟨rfl,rfl,rfl,rfl,rfl,rfl,rfl,rfl,trivial⟩,hpart _ (by rw [hzd]; simp [g4',g5] <;> rfl) rfl⟩
    have g4' : ¬ x.ty = 17:=g4
    repeat(first|refine X17 rfl rfl rfl ?_|refine RE.want rfl rfl ?_|refine RE.nox rfl rfl rfl rfl ?_|refine C2 ?_)
    refine CE.cond_f rfl ?_
    refine CE.skip ?_
    exact ⟨rfl,rfl,⟨rfl,rfl,rfl,rfl,rfl,rfl,rfl,rfl,trivial⟩,hpart _ (by rw [hzd]; simp [g1',g4'] <;> rfl) rfl⟩
   rintro s _ w' ⟨rfl,hw',hs,hc2⟩
   have hw2 : w5 = w':=hw'.symm
   subst hw2
   refine CE.sub hs ?_
   refine C0 ?_
   refine CE.cut (fun s ds w' => ds = [] ∧ w' = w5 ∧ SubL [(5,I ((if x.ty = 2 then d + 1 else d : Nat))),(8,Ptr bx 0),(18,I k),(17,I rs.length),(16,Sl g 0 rs.length cap0),(1,Sl g 0 rs.length cap0),(0,S t)] s) ?_ ?_
   ·repeat(first|refine C0 ?_|refine C1 ?_|refine X3 rfl rfl rfl ?_|refine X22 rfl rfl hb5 rfl rfl ?_|refine X5 rfl rfl rfl ?_|refine C2 ?_)
    refine CE.cond_d rfl (fun g1 => ?_) (fun g1 => ?_)
    ·have g1' : x.ty = 2:=g1
     repeat(first|refine C1 ?_|refine X1 rfl rfl ?_|refine X0 rfl rfl ?_|refine X18 rfl rfl (by omega) (by omega) rfl ?_)
     refine RE.nilx ?_
     exact ⟨rfl,rfl,by rw [if_pos g1']; rfl,rfl,rfl,rfl,rfl,rfl,rfl,trivial⟩
    ·have g1' : ¬ x.ty = 2:=g1
     refine CE.skip ?_
     exact ⟨rfl,rfl,by rw [if_neg g1']; rfl,rfl,rfl,rfl,rfl,rfl,rfl,trivial⟩
   rintro s _ w' ⟨rfl,hw',hs⟩
   have hw2 : w5 = w':=hw'.symm
   subst hw2
   refine CE.sub hs ?_
   repeat(first|refine C1 ?_|refine X1 rfl rfl ?_|refine X0 rfl rfl ?_|refine X3 rfl rfl rfl ?_|refine X22 rfl rfl hb5 rfl rfl ?_|refine X18 rfl rfl (by omega) (by omega) rfl ?_|refine C2 ?_)
   refine RE.nilx ?_
   refine ⟨(k + 1,(if x.ty = 2 then d + 1 else d),x.pos),by show rs.length - (k + 1) < rs.length - k; omega,rfl,⟨rfl,rfl,rfl,rfl,rfl,rfl,rfl,trivial⟩,e5,hkx,?_,?_⟩
   ·show _ = shGo t (rs.drop (k + 1)) _ _
    rw [hrest]
    exact hokn hc2 hz'
   ·show (if x.ty = 2 then d + 1 else d) ≤ k + 1
    split <;> omega
  ·refine CE.exit ?_
   have hk' : k = rs.length:=by omega
   subst hk'
   rw [List.drop_of_length_le (Nat.le_refl _)] at hgo
   exact ⟨rfl,e2,d,hgo,rfl,rfl,trivial⟩
 ·rintro s _ w2 ⟨rfl,e2,d,hd,hs⟩
  refine CE.sub hs ?_
  rw [hd] at hsh
  dsimp only at hsh
  have hdl:=(shGo_le t rs 0 0 d hd).2
  repeat(first|refine C0 ?_|refine C1 ?_|refine X1 rfl rfl ?_|refine X9 rfl rfl rfl ?_|refine X13 rfl rfl rfl ?_)
  refine RE.splitD (fun g1 => ?_) (fun g1 => ?_)
  ·have g1' : 0 < rs.length:=by omega
   repeat(first|refine X1 rfl rfl ?_|refine X0 rfl rfl ?_|refine X8 rfl rfl rfl ?_|refine X16 rfl rfl rfl rfl ?_|refine RE.want rfl rfl ?_|refine C2 ?_)
   (refine CE.ret ?_;(try dsimp only);refine ret1 rfl rfl ?_)
   refine ⟨?_,e2⟩
   rw [hsh]
   have : decide ((d : Int) ≤ 1) = decide (d ≤ 1):=by
    by_cases h : d ≤ 1
    ·simp [h]; omega
    ·simp [h]; omega
   rw [this]
   simp [g1']
  ·have g1' : ¬ 0 < rs.length:=by omega
   repeat(first|refine X0 rfl rfl ?_|refine X17 rfl rfl rfl ?_|refine RE.nox rfl rfl rfl rfl ?_|refine C2 ?_)
   (refine CE.ret ?_;(try dsimp only);refine ret1 rfl rfl ?_)
   refine ⟨?_,e2⟩
   rw [hsh]
   simp [g1']
theorem nx_ascii {t : List UInt8} {p : Nat} {b : UInt8} (h : t[p]? = some b) (hb : b.toNat < 128) : nx t p = ((b.toNat : Int),1):=by
 have hp:=(List.getElem?_eq_some_iff.1 h).1
 have h0 : (t.drop p).getD 0 0 = b:=by simp [List.getD,List.getElem?_drop,h]
 rw [nx_in hp,Lib.decodeL_N,h0,Lib.decodeN_ascii _ _ _ _ _ hb]
theorem nx_small {t : List UInt8} {p : Nat} {r : Nat} (h : (nx t p).1 = (r : Int)) (hr : r < 128) : ∃ b,t[p]? = some b ∧ b.toNat = r:=by
 rcases Nat.lt_or_ge p t.length with hp | hp
 ·refine ⟨t[p],by simp [hp],?_⟩
  have h0 : (t.drop p).getD 0 0 = t[p]:=by simp [List.getD,List.getElem?_drop,hp]
  rw [nx_in hp,Lib.decodeL_N,h0] at h
  dsimp only at h
  rcases Lib.decodeN_shape (t.drop p).length (t[p]).toNat ((t.drop p).getD 1 0).toNat ((t.drop p).getD 2 0).toNat ((t.drop p).getD 3 0).toNat with ⟨c,e⟩ | ⟨c1,c2,c3,cv,e⟩ | ⟨c1,c2,c3,c4,cv,cs,e⟩ | ⟨c1,c2,c3,c4,c5,cv,cw,e⟩ | e
  all_goals (rw [e] at h; dsimp only at h; omega)
 ·rw [nx_end hp] at h
  have : (-1 : Int) = (r : Int):=h
  omega
theorem fnd_none {x l : List UInt8} : ∀ (d i : Nat),l.length + 1 - i = d → fnd x l i = -1 → ∀ j,i ≤ j → j + x.length ≤ l.length → (l.drop j).take x.length ≠ x:=by
 intro d
 induction d using Nat.strongRecOn with
 | _ d ih =>
  intro i hd h j hj hjl
  rw [fnd] at h
  split at h
  ·split at h
   ·omega
   ·rename_i hne
    by_cases hij : i = j
    ·subst hij; exact hne
    ·exact ih (l.length + 1 - (i + 1)) (by omega) (i + 1) rfl h j (by omega) hjl
  ·omega
theorem hasS_none {l x : List UInt8} (h : hasS l x = false) : ∀ j,j + x.length ≤ l.length → (l.drop j).take x.length ≠ x:=fun j hj => by
 unfold hasS at h
 exact fnd_none _ 0 rfl (by simpa using h) j (Nat.zero_le _) hj
theorem fields31 : (PT.fieldsOf 31).toList = [{ name := "Type", type := 3, offset := 0, embedded := false, tag := "", pkgPath := "", byteOffset := 0 },
    { name := "Pos", type := 3, offset := 1, embedded := false, tag := "", pkgPath := "", byteOffset := 8 },
    { name := "Text", type := 9, offset := 2, embedded := false, tag := "", pkgPath := "", byteOffset := 16 },
    { name := "Failed", type := 4, offset := 3, embedded := false, tag := "", pkgPath := "", byteOffset := 32 },
    { name := "Is", type := 29, offset := 4, embedded := false, tag := "", pkgPath := "", byteOffset := 34 }] := by
 unfold Program.fieldsOf
 rw [Tryz.underlying31]
theorem struct31 : PT.underlying 31 = some (.struct (PT.fieldsOf 31)):=by
 unfold Program.fieldsOf
 rw [Tryz.underlying31]
theorem eqF_step {d : Nat} {f : Field} {fs : List Field} {xs ys : Array Value} {a b : Value} {r k : Bool} {w : World} (hn : f.name ≠ "_") (hp : PT.plainKey f.type = true) (ha : xs[f.offset]? = some a) (hb : ys[f.offset]? = some b)
  (he : (Op.equalIn d f.type a b).run PT w = .ok r w) (hk : (Op.eqFields d xs ys fs).run PT w = .ok k w) : (Op.eqFields d xs ys (f :: fs)).run PT w = .ok (r && k) w:=by
 unfold Op.eqFields
 rw [if_pos hn]
 simp only [Sem.run_bind,run_part_plain w hp ha,run_part_plain w hp hb,he,Result.andThen_ok]
 cases r with
 | true => simpa using hk
 | false => simp
theorem eq31 (x y : RI) (w : World) : (Op.equalIn 10000 31 (.agg x.lst.toArray) (.agg y.lst.toArray)).run PT w = .ok (decide (x = y)) w:=by
 have p3 : PT.plainKey 3 = true:=by kernel_rfl
 have p9 : PT.plainKey 9 = true:=by kernel_rfl
 have p4 : PT.plainKey 4 = true:=by kernel_rfl
 have p29 : PT.plainKey 29 = true:=by kernel_rfl
 rw [run_equalIn_agg w 9999 31 _ _ struct31 Tryz.stoodInHeld31,fields31]
 have hx : decide (x = y) = ((x.ty == y.ty) && (((x.pos : Int) == (y.pos : Int)) && ((x.text == y.text) && ((x.failed == y.failed) && ((x.is == y.is) && true))))):=by
  obtain ⟨a1,a2,a3,a4,a5⟩:=x
  obtain ⟨b1,b2,b3,b4,b5⟩:=y
  rw [Bool.eq_iff_iff]
  simp only [RI.mk.injEq,Bool.and_eq_true,beq_iff_eq,decide_eq_true_eq,Int.natCast_inj,and_true]
 rw [hx]
 refine eqF_step (by decide) p3 rfl rfl (run_equalIn_int w 9998 3 _ .i64 _ _ (by kernel_rfl)) ?_
 refine eqF_step (by decide) p3 rfl rfl (run_equalIn_int w 9998 3 _ .i64 _ _ (by kernel_rfl)) ?_
 refine eqF_step (by decide) p9 rfl rfl (by
  have:=run_equalIn_string w 9998 9 ⟨⟨x.text⟩⟩ ⟨⟨y.text⟩⟩ Tryz.underlying9
  rw [toList_S,toList_S] at this
  exact this) ?_
 refine eqF_step (by decide) p4 rfl rfl (run_equalIn_bool' w 9998 4 _ _ Tryz.underlying4) ?_
 refine eqF_step (by decide) p29 rfl rfl (run_equalIn_int w 9998 29 _ .u16 _ _ Tryz.underlying29) ?_
 rfl
section
variable {n : Nat} {s : Slots} {w : World} {dst : Option Tmp} {ty : TypeId} {pos : String} {af : Array Edge} {g : Option (Nat × Bool)} {x y : Operand}
theorem op_eql31 {a b : RI} {t' : TypeId} (hx : ev s x = some (.agg a.lst.toArray)) (hy : ev s y = some (.agg b.lst.toArray)) : Op1 PT ⟨dst,.binOp .eql 31 x y t',ty,pos,af,g⟩ n s (.bool (decide (a = b))) w:=by
 refine ⟨fun ds a' ha => ?_⟩
 simp only [execOp,ha.ev hx,ha.ev hy,Sem.run_bind,run_eqGuard_agg w _ 31 x y _ _ Tryz.eqGuardType31,Result.andThen_ok,run_eql_struct,eq31,Sem.run_pure]
end
def RowR (w : World) (v : Value) (rs : List RI) : Prop:=
 ∃ a cap,v = .slice a rs.length cap ∧ ∀ k (hk : k < rs.length),∃ g o cur,a = some ⟨g,o,none⟩ ∧ w.heap[g]? = some (.cells cur 31 (0,0)) ∧ (cur.toList.drop (o + k * 5)).take 5 = rs[k].lst
theorem RowR.ext {w w' : World} {v : Value} {rs : List RI} (h : RowR w v rs) (he : Ext w w') : RowR w' v rs:=by
 obtain ⟨a,cap,hv,h⟩:=h
 exact ⟨a,cap,hv,fun k hk => let ⟨g,o,cur,h1,h2,h3⟩:=h k hk; ⟨g,o,cur,h1,he.block h2,h3⟩⟩
theorem RowR.of {B : Nat} {w : World} {v : Value} {rs : List RI} (h : OwnR B w v rs) : RowR w v rs:=by
 obtain ⟨a,cap,hv⟩:=h.len0
 refine ⟨a,cap,hv,fun k hk => ?_⟩
 obtain ⟨g,cap',cur,hv',hg,hcur⟩:=h.item hk
 rw [hv] at hv'
 cases hv'
 exact ⟨g,0,cur,rfl,hg,by rw [Nat.zero_add]; exact hcur⟩
theorem item_cell {w : World} {g k : Nat} {cur : Array Value} {T : TypeId} {l : List Value} {u : Value} (hg : w.heap[g]? = some (.cells cur T (0,0))) (hcur : (cur.toList.drop (k * 5)).take 5 = l) (j : Nat) (hj : j < 5) (hu : l[j]? = some u) :
  w.cell? ⟨g,k * 5 + j,none⟩ = some u:=by
 refine cell_of hg ?_
 rw [← hcur,List.getElem?_take,if_pos hj,List.getElem?_drop] at hu
 simpa using hu
theorem last_at {rs : List RI} (h : 0 < rs.length) : rs.getLast? = some (rs[rs.length - 1]'(by omega)):=by
 rw [List.getLast?_eq_getElem?]; exact List.getElem?_eq_getElem _
end Go.Wk
