/- The specification's lexer: keywords. -/
import Derived.Test.YtmbencknblcocaaGreatDoorYay
namespace Go.Wk
open Go Go.RowKit Go.Proofs
set_option maxRecDepth 100000
def isNl (b : UInt8) : Bool:=decide (b.toNat = 10)
theorem begS_at {t : List UInt8} {p : Nat} {x : List UInt8} (h : begS t p x = true) : p + x.length ≤ t.length ∧ ∀ j,j < x.length → t[p + j]? = x[j]?:=by
 unfold begS at h
 simp only [Bool.and_eq_true,decide_eq_true_eq] at h
 refine ⟨h.1,fun j hj => ?_⟩
 have : ((t.drop p).take x.length)[j]? = x[j]?:=by rw [h.2]
 rw [List.getElem?_take,if_pos hj,List.getElem?_drop] at this
 exact this
theorem kw_lt {t : List UInt8} {p : Nat} (h : begS t p [35,43] = true) : p < runTo isNl t p ∧ runTo isNl t p ≤ t.length:=by
 obtain ⟨h1,h2⟩:=begS_at h
 have h3:=h2 0 (by decide)
 simp only [List.length_cons,List.length_nil] at h1
 have hp : p < t.length:=by omega
 have hv : t[p] = 35:=by
  have:=(List.getElem?_eq_some_iff.1 (show t[p]? = some 35 from h3)).2
  exact this
 rw [runTo_go hp (by rw [hv]; rfl)]
 have:=runTo_le (stop:=isNl) (t:=t) _ (p + 1) rfl (by omega)
 omega
def kwGo (t : List UInt8) (p : Nat) : Nat:=
 if h : begS t p [35,43] = true then kwGo t (if runTo isNl t p < t.length then runTo isNl t p + 1 else runTo isNl t p) else p
termination_by t.length - p
decreasing_by
 have:=kw_lt h
 split <;> omega
def QP.kws (t : List UInt8) (p : QP) : QP:={ p.put 6 0 (t.take (kwGo t p.pos)) with pos:=kwGo t p.pos }
theorem keywords_qfn {X B : Nat} {t : List UInt8} {v : QV} {p : QP} {w : World} (h : QS X B t v p w) (ht : t.length ≤ 100000) (hn : p.rs.length ≤ 900000) (hp : p.pos ≤ t.length) :
  QF X B t v w 63 [] (.tuple #[]) (p.kws t):=by
 have hX:=h.at_
 refine fn_of Tryz.func63 rfl Tryz.ntmps63 rfl ?_
 repeat(first|refine C0 ?_|refine C1 ?_|refine X1 rfl rfl ?_|refine X0 rfl rfl ?_|refine X2 rfl rfl ?_|refine X3 rfl rfl rfl ?_|refine X22 rfl rfl hX rfl rfl ?_|refine C2 ?_)
 refine CE.cut (fun s ds w' => ds = [] ∧ w' = w ∧ kwGo t p.pos ≤ t.length ∧ SubL [(2,I (kwGo t p.pos)),(0,Ptr X 0)] s) ?_ ?_
 ·refine CE.block ?_
  refine CE.loop (α:=Nat) (fun e => [(2,I e),(0,Ptr X 0)]) (fun e w' => w' = w ∧ e ≤ t.length ∧ kwGo t p.pos = kwGo t e) (fun e => t.length - e) p.pos ⟨rfl,rfl,trivial⟩ ⟨rfl,hp,rfl⟩ ?_
  rintro e w1 ⟨hw,he,hrun⟩
  subst hw
  repeat(first|refine C0 ?_|refine C1 ?_|refine X1 rfl rfl ?_|refine X2 rfl rfl ?_|refine X3 rfl rfl rfl ?_|refine X22 rfl rfl hX rfl rfl ?_)
  refine RE.xc en34 rfl rfl (pageHas_fn (i:=e) (x:=[35,43]) (by omega) (by decide) (by omega)) ?_
  rintro _ w2 ⟨rfl,hw⟩
  subst hw
  repeat (refine C2 ?_)
  refine CE.cond_s rfl (fun h1 => ?_) (fun h1 => ?_)
  ·have hlt:=kw_lt h1
   have hgo : kwGo t e = kwGo t (if runTo isNl t e < t.length then runTo isNl t e + 1 else runTo isNl t e):=by conv => lhs; rw [kwGo,dif_pos h1]
   refine C3 ?_
   refine CE.block ?_
   repeat refine C0 ?_
   refine CE.cut (fun s ds w' => ds = [] ∧ w' = w2 ∧ SubL [(2,I (runTo isNl t e)),(0,Ptr X 0)] s) ?_ ?_
   ·refine CE.block ?_
    refine CE.loop (α:=Nat) (fun k => [(2,I k),(0,Ptr X 0)]) (fun k w' => w' = w2 ∧ k ≤ t.length ∧ runTo isNl t e = runTo isNl t k) (fun k => t.length - k) e ⟨rfl,rfl,trivial⟩ ⟨rfl,he,rfl⟩ ?_
    rintro k w3 ⟨hw,hk,hr⟩
    subst hw
    repeat(first|refine C0 ?_|refine C1 ?_|refine X1 rfl rfl ?_|refine X2 rfl rfl ?_|refine X3 rfl rfl rfl ?_|refine X22 rfl rfl hX rfl rfl ?_|refine X7 rfl rfl rfl ?_|refine X14 rfl Tryz.underlying9 rfl ?_)
    refine RE.splitD (fun h2 => ?_) (fun h2 => ?_)
    ·have hk' : k < t.length:=by omega
     have hix : t[((k : Nat) : Int).toNat]? = some t[k]:=by rw [Int.toNat_natCast]; exact List.getElem?_eq_getElem hk'
     repeat(first|refine X1 rfl rfl ?_|refine X2 rfl rfl ?_|refine X3 rfl rfl rfl ?_|refine X22 rfl rfl hX rfl rfl ?_|refine RE.want rfl rfl ?_)
     refine RE.x (op_index_s (b:=t[k]) rfl rfl Tryz.underlying9 (by omega) hix) rfl ?_
     repeat(first|refine X6 rfl rfl rfl ?_|refine X16 rfl rfl rfl rfl ?_|refine RE.want rfl rfl ?_|refine C2 ?_)
     refine CE.cond_d rfl (fun h3 => ?_) (fun h3 => ?_)
     ·refine C3 ?_
      refine CE.block ?_
      repeat(first|refine C1 ?_|refine X1 rfl rfl ?_|refine X0 rfl rfl ?_|refine X18 rfl rfl (by omega) (by omega) rfl ?_)
      refine RE.nilx ?_
      exact ⟨k + 1,by show t.length - (k + 1) < t.length - k; omega,rfl,⟨rfl,rfl,trivial⟩,rfl,hk',hr.trans (runTo_go hk' (decide_eq_false (by omega)))⟩
     ·refine CE.exit ?_
      refine ⟨rfl,rfl,?_⟩
      rw [hr,runTo_at hk' (decide_eq_true (by omega))]
      exact ⟨rfl,rfl,trivial⟩
    ·repeat(first|refine X17 rfl rfl rfl ?_|refine RE.nox rfl rfl rfl rfl ?_|refine C2 ?_)
     refine CE.cond_f rfl ?_
     refine CE.exit ?_
     refine ⟨rfl,rfl,?_⟩
     rw [hr,runTo_end (by omega)]
     exact ⟨rfl,rfl,trivial⟩
   rintro s _ w3 ⟨rfl,hw,hs⟩
   subst hw
   refine CE.sub hs ?_
   generalize runTo isNl t e = q at hlt hgo
   repeat(first|refine C0 ?_|refine C1 ?_|refine X1 rfl rfl ?_|refine X2 rfl rfl ?_|refine X3 rfl rfl rfl ?_|refine X22 rfl rfl hX rfl rfl ?_|refine X7 rfl rfl rfl ?_|refine X14 rfl Tryz.underlying9 rfl ?_|refine C2 ?_)
   refine CE.cond_d rfl (fun h2 => ?_) (fun h2 => ?_)
   ·rw [if_pos (by omega)] at hgo
    repeat(first|refine C1 ?_|refine X1 rfl rfl ?_|refine X0 rfl rfl ?_|refine X18 rfl rfl (by omega) (by omega) rfl ?_)
    refine RE.nilx ?_
    exact ⟨q + 1,by show t.length - (q + 1) < t.length - e; omega,rfl,⟨rfl,rfl,trivial⟩,rfl,by omega,hrun.trans hgo⟩
   ·rw [if_neg (by omega)] at hgo
    refine CE.skip ?_
    exact ⟨q,by show t.length - q < t.length - e; omega,rfl,⟨rfl,rfl,trivial⟩,rfl,by omega,hrun.trans hgo⟩
  ·refine CE.exit ?_
   have e1 : kwGo t e = e:=by rw [kwGo,dif_neg (by rw [h1]; simp)]
   rw [hrun,e1]
   exact ⟨rfl,rfl,he,rfl,rfl,trivial⟩
 rintro s _ w1 ⟨rfl,hw,hle,hs⟩
 subst hw
 refine CE.sub hs ?_
 unfold QP.kws
 generalize kwGo t p.pos = q at hle
 repeat(first|refine C0 ?_|refine C1 ?_|refine X1 rfl rfl ?_|refine X2 rfl rfl ?_|refine X3 rfl rfl rfl ?_|refine X22 rfl rfl hX rfl rfl ?_)
 refine RE.x (op_str_h rfl rfl Tryz.underlying9 (by omega) (by omega)) rfl ?_
 rw [Int.toNat_natCast]
 refine RE.xc en65 rfl rfl (qput_fn (fr:=0) (tx:=t.take q) h (by omega) (by simp; omega)) ?_
 rintro _ w2 ⟨rfl,v2,g2,i2⟩
 have hX2 : HX X w2 t p.pos p.dv v2.l v2.nm p.inl p.wrong p.opn p.loose:=g2.at_
 repeat(first|refine C1 ?_|refine X1 rfl rfl ?_|refine X2 rfl rfl ?_|refine X3 rfl rfl rfl ?_|refine C2 ?_)
 refine RE.xs (e_store rfl rfl rfl hX2 rfl rfl) ?_
 rintro _ w3 hu3
 obtain ⟨g3,i3⟩:=QS.upd (p':={ p.put 6 0 (t.take q) with pos:=q }) g2 hu3 rfl rfl
 (refine RE.nilx ?_; (try dsimp only); refine end0 rfl ?_)
 exact ⟨rfl,_,g3,i2.trans i3⟩
def brGo (t : List UInt8) (q : Bool) (lv : Int) (i : Nat) : Option Nat:=
 if _h : i < t.length then
  if t[i].toNat = 92 then brGo t q lv (i + 2) else
  if t[i].toNat = 34 then brGo t (!q) lv (i + 1) else
  if q = true then brGo t q lv (i + 1) else
  if t[i].toNat = 123 then brGo t q (lv + 1) (i + 1) else
  if t[i].toNat = 125 then (if lv - 1 = 0 then some i else brGo t q (lv - 1) (i + 1)) else brGo t q lv (i + 1)
 else none
termination_by t.length - i
def QP.brace (t : List UInt8) (p : QP) : QP:=
 match brGo t false 0 p.pos with
 | none => p.fail
 | some i => { p.put 5 0 (t.take (i + 1 + eolN t (i + 1))) with pos:=i + 1 + eolN t (i + 1) }
theorem eolN_le {t : List UInt8} {i : Nat} (h : i ≤ t.length) : i + eolN t i ≤ t.length:=by
 unfold eolN
 split
 ·rename_i h1; have:=(begS_at h1).1; simpa using this
 split
 ·rename_i h1; have:=(begS_at h1).1; simpa using this
 split
 ·rename_i h1; have:=(begS_at h1).1; simpa using this
 ·exact h
set_option maxHeartbeats 2000000 in
theorem braced_qfn {X B : Nat} {t : List UInt8} {v : QV} {p : QP} {w : World} (h : QS X B t v p w) (ht : t.length ≤ 100000) (hn : p.rs.length ≤ 900000) (hp : p.pos ≤ t.length) :
  QF X B t v w 62 [] (.tuple #[]) (p.brace t):=by
 have hX:=h.at_
 refine fn_of Tryz.func62 rfl Tryz.ntmps62 rfl ?_
 repeat(first|refine C0 ?_|refine C1 ?_|refine X1 rfl rfl ?_|refine X0 rfl rfl ?_|refine X2 rfl rfl ?_|refine X3 rfl rfl rfl ?_|refine X22 rfl rfl hX rfl rfl ?_|refine C2 ?_)
 refine CE.cut (fun s ds w' => ds = [] ∧ w' = w ∧ brGo t false 0 p.pos = none ∧ SubL [(0,Ptr X 0)] s) ?_ ?_
 ·refine CE.block ?_
  refine CE.loop (α:=Bool × Int × Nat) (fun x => [(4,I x.2.2),(3,.bool x.1),(2,I x.2.1),(0,Ptr X 0)])
   (fun x w' => w' = w ∧ x.2.2 ≤ t.length + 1 ∧ (-(x.2.2 : Int) ≤ x.2.1 ∧ x.2.1 ≤ x.2.2) ∧ brGo t false 0 p.pos = brGo t x.1 x.2.1 x.2.2) (fun x => t.length + 2 - x.2.2) (false,0,p.pos) ⟨rfl,rfl,rfl,rfl,trivial⟩ ⟨rfl,by show p.pos ≤ _; omega,by show -(p.pos : Int) ≤ 0 ∧ (0 : Int) ≤ p.pos; omega,rfl⟩ ?_
  rintro ⟨q,lv,i⟩ w1 ⟨hw,hi,hlv,hrun⟩
  subst hw
  dsimp only at hi hlv hrun
  refine (show CE _ _ _ _ [(4,I i),(3,.bool q),(2,I lv),(0,Ptr X 0)] _ _ from ?_)
  repeat(first|refine C0 ?_|refine C1 ?_|refine X1 rfl rfl ?_|refine X2 rfl rfl ?_|refine X3 rfl rfl rfl ?_|refine X22 rfl rfl hX rfl rfl ?_|refine X7 rfl rfl rfl ?_|refine X14 rfl Tryz.underlying9 rfl ?_|refine C2 ?_)
  refine CE.cond_d rfl (fun h1 => ?_) (fun h1 => ?_)
  ·have hil : i < t.length:=by omega
   have hix : t[((i : Nat) : Int).toNat]? = some t[i]:=by rw [Int.toNat_natCast]; exact List.getElem?_eq_getElem hil
   have hgo:=brGo.eq_def t q lv i
   rw [dif_pos hil] at hgo
   generalize t[i] = b at hix hgo
   refine C3 ?_
   repeat refine C0 ?_
   refine CE.block ?_
   repeat(first|refine C0 ?_|refine C1 ?_|refine X1 rfl rfl ?_|refine X2 rfl rfl ?_|refine X3 rfl rfl rfl ?_|refine X22 rfl rfl hX rfl rfl ?_)
   refine RE.x (op_index_s (b:=b) rfl rfl Tryz.underlying9 (by omega) hix) rfl ?_
   repeat(first|refine X0 rfl rfl ?_|refine C2 ?_)
   refine CE.block ?_
   repeat(first|refine C0 ?_|refine C1 ?_|refine X1 rfl rfl ?_|refine X0 rfl rfl ?_|refine X5 rfl rfl rfl ?_|refine C2 ?_)
   refine CE.cond_d rfl (fun h2 => ?_) (fun h2 => ?_)
   ·rw [if_pos (show b.toNat = 92 by omega)] at hgo
    repeat(first|refine C1 ?_|refine X1 rfl rfl ?_|refine X0 rfl rfl ?_|refine X18 rfl rfl (by omega) (by omega) rfl ?_|refine C2 ?_)
    refine RE.nilx ?_
    exact ⟨(q,lv,i + 2),by show t.length + 2 - (i + 2) < t.length + 2 - i; omega,rfl,⟨rfl,rfl,rfl,rfl,trivial⟩,rfl,by show i + 2 ≤ _; omega,by show -((i + 2 : Nat) : Int) ≤ lv ∧ lv ≤ ((i + 2 : Nat) : Int); omega,hrun.trans hgo⟩
   rw [if_neg (show ¬ b.toNat = 92 by omega)] at hgo
   repeat(first|refine C0 ?_|refine C1 ?_|refine X1 rfl rfl ?_|refine X0 rfl rfl ?_|refine X5 rfl rfl rfl ?_|refine C2 ?_)
   refine CE.cond_d rfl (fun h3 => ?_) (fun h3 => ?_)
   ·rw [if_pos (show b.toNat = 34 by omega)] at hgo
    repeat(first|refine C1 ?_|refine X1 rfl rfl ?_|refine X0 rfl rfl ?_|refine X11 rfl rfl ?_|refine X18 rfl rfl (by omega) (by omega) rfl ?_|refine C2 ?_)
    refine RE.nilx ?_
    exact ⟨(!q,lv,i + 1),by show t.length + 2 - (i + 1) < t.length + 2 - i; omega,rfl,⟨rfl,rfl,rfl,rfl,trivial⟩,rfl,by show i + 1 ≤ _; omega,by show -((i + 1 : Nat) : Int) ≤ lv ∧ lv ≤ ((i + 1 : Nat) : Int); omega,hrun.trans hgo⟩
   rw [if_neg (show ¬ b.toNat = 34 by omega)] at hgo
   repeat(first|refine C0 ?_|refine C1 ?_|refine X1 rfl rfl ?_|refine X0 rfl rfl ?_|refine C2 ?_)
   refine CE.cond_s rfl (fun h4 => ?_) (fun h4 => ?_)
   ·rw [if_pos h4] at hgo
    refine C3 ?_
    repeat(first|refine C1 ?_|refine X1 rfl rfl ?_|refine X0 rfl rfl ?_|refine X18 rfl rfl (by omega) (by omega) rfl ?_)
    refine RE.nilx ?_
    exact ⟨(q,lv,i + 1),by show t.length + 2 - (i + 1) < t.length + 2 - i; omega,rfl,⟨rfl,rfl,rfl,rfl,trivial⟩,rfl,by show i + 1 ≤ _; omega,by show -((i + 1 : Nat) : Int) ≤ lv ∧ lv ≤ ((i + 1 : Nat) : Int); omega,hrun.trans hgo⟩
   rw [if_neg (by rw [h4]; simp)] at hgo
   repeat(first|refine C0 ?_|refine C1 ?_|refine X1 rfl rfl ?_|refine X0 rfl rfl ?_|refine X5 rfl rfl rfl ?_|refine C2 ?_)
   refine CE.cond_d rfl (fun h5 => ?_) (fun h5 => ?_)
   ·rw [if_pos (show b.toNat = 123 by omega)] at hgo
    repeat(first|refine C1 ?_|refine X1 rfl rfl ?_|refine X0 rfl rfl ?_|refine X18 rfl rfl (by omega) (by omega) rfl ?_|refine C2 ?_)
    refine RE.nilx ?_
    exact ⟨(q,(lv + 1),i + 1),by show t.length + 2 - (i + 1) < t.length + 2 - i; omega,rfl,⟨rfl,rfl,rfl,rfl,trivial⟩,rfl,by show i + 1 ≤ _; omega,by show -((i + 1 : Nat) : Int) ≤ (lv + 1) ∧ (lv + 1) ≤ ((i + 1 : Nat) : Int); omega,hrun.trans hgo⟩
   rw [if_neg (show ¬ b.toNat = 123 by omega)] at hgo
   repeat(first|refine C0 ?_|refine C1 ?_|refine X1 rfl rfl ?_|refine X0 rfl rfl ?_|refine X5 rfl rfl rfl ?_|refine C2 ?_)
   refine CE.cond_d rfl (fun h6 => ?_) (fun h6 => ?_)
   ·rw [if_pos (show b.toNat = 125 by omega)] at hgo
    repeat(first|refine C0 ?_|refine C1 ?_|refine X1 rfl rfl ?_|refine X0 rfl rfl ?_|refine X5 rfl rfl rfl ?_|refine X19 rfl rfl (by omega) (by omega) rfl ?_|refine C2 ?_)
    refine CE.cond_d rfl (fun h7 => ?_) (fun h7 => ?_)
    ·rw [if_pos h7] at hgo
     have hp' : p.brace t = { p.put 5 0 (t.take (i + 1 + eolN t (i + 1))) with pos:=i + 1 + eolN t (i + 1) }:=by unfold QP.brace; rw [hrun.trans hgo]
     rw [hp']
     have hle:=eolN_le (t:=t) (i:=i + 1) (by omega)
     repeat(first|refine C0 ?_|refine C1 ?_|refine X1 rfl rfl ?_|refine X18 rfl rfl (by omega) (by omega) rfl ?_)
     refine RE.xc en85 rfl rfl (lineEnd_fn (i:=i + 1) h (by omega) (by omega)) ?_
     rintro _ w2 ⟨rfl,hw⟩
     subst hw
     generalize eolN t (i + 1) = n at hle
     repeat(first|refine C0 ?_|refine C1 ?_|refine X1 rfl rfl ?_|refine X0 rfl rfl ?_|refine X2 rfl rfl ?_|refine X3 rfl rfl rfl ?_|refine X22 rfl rfl hX rfl rfl ?_|refine X18 rfl rfl (by omega) (by omega) rfl ?_|refine C2 ?_)
     refine RE.x (op_str_h rfl rfl Tryz.underlying9 (by omega) (by omega)) rfl ?_
     rw [show ((i : Int) + 1 + n).toNat = i + 1 + n by omega]
     refine RE.xc en65 rfl rfl (qput_fn (fr:=0) (tx:=t.take (i + 1 + n)) h (by omega) (by simp; omega)) ?_
     rintro _ w3 ⟨rfl,v3,g3,i3⟩
     have hX3 : HX X w3 t p.pos p.dv v3.l v3.nm p.inl p.wrong p.opn p.loose:=g3.at_
     repeat(first|refine C0 ?_|refine C1 ?_|refine X1 rfl rfl ?_|refine X2 rfl rfl ?_|refine X3 rfl rfl rfl ?_|refine C2 ?_)
     refine RE.xs (e_store rfl rfl rfl hX3 rfl rfl) ?_
     rintro _ w4 hu4
     obtain ⟨g4,i4⟩:=QS.upd (p':={ p.put 5 0 (t.take (i + 1 + n)) with pos:=i + 1 + n }) g3 hu4 rfl rfl
     repeat (refine C2 ?_)
     (refine CE.ret ?_; (try dsimp only); refine ret0 rfl ?_)
     exact ⟨rfl,_,g4,i3.trans i4⟩
    ·rw [if_neg h7] at hgo
     refine C3 ?_
     repeat(first|refine C1 ?_|refine X1 rfl rfl ?_|refine X0 rfl rfl ?_|refine X18 rfl rfl (by omega) (by omega) rfl ?_)
     refine RE.nilx ?_
     exact ⟨(q,(lv - 1),i + 1),by show t.length + 2 - (i + 1) < t.length + 2 - i; omega,rfl,⟨rfl,rfl,rfl,rfl,trivial⟩,rfl,by show i + 1 ≤ _; omega,by show -((i + 1 : Nat) : Int) ≤ (lv - 1) ∧ (lv - 1) ≤ ((i + 1 : Nat) : Int); omega,hrun.trans hgo⟩
   ·rw [if_neg (show ¬ b.toNat = 125 by omega)] at hgo
    refine C3 ?_
    repeat(first|refine C1 ?_|refine X1 rfl rfl ?_|refine X0 rfl rfl ?_|refine X18 rfl rfl (by omega) (by omega) rfl ?_)
    refine RE.nilx ?_
    exact ⟨(q,lv,i + 1),by show t.length + 2 - (i + 1) < t.length + 2 - i; omega,rfl,⟨rfl,rfl,rfl,rfl,trivial⟩,rfl,by show i + 1 ≤ _; omega,by show -((i + 1 : Nat) : Int) ≤ lv ∧ lv ≤ ((i + 1 : Nat) : Int); omega,hrun.trans hgo⟩
  ·refine CE.exit ?_
   have : brGo t q lv i = none:=by rw [brGo,dif_neg (by omega)]
   exact ⟨rfl,rfl,hrun.trans this,rfl,trivial⟩
 rintro s _ w1 ⟨rfl,hw,hnone,hs⟩
 subst hw
 refine CE.sub hs ?_
 unfold QP.brace
 rw [hnone]
 repeat(first|refine C1 ?_|refine X1 rfl rfl ?_)
 refine RE.xc en84 rfl rfl (qfail_fn h (by omega)) ?_
 rintro _ w2 ⟨rfl,v2,g2,i2⟩
 (refine RE.nilx ?_; (try dsimp only); refine end0 rfl ?_)
 exact ⟨rfl,_,g2,i2⟩
end Go.Wk
