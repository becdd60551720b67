/- The law of pages. -/
import Derived.Test.YtmbencknblcocaaGreatDoorYbn
namespace Go.Wk
open Go Go.RowKit Go.Proofs
set_option maxRecDepth 100000
theorem err_last {t : List UInt8} {r : D} (h : Err r) : ∃ x,(r.ps.map (told t)).getLast? = some x ∧ x.ty = 0:=by
 obtain ⟨e,h1,h2⟩:=h
 refine ⟨told t e,?_,h2⟩
 rw [List.getLast?_map,h1]
 rfl
set_option maxHeartbeats 4000000 in
theorem law5_fn {B : Nat} {t : List UInt8} {f d : Bool} {w : World} (hT : TabsB B w) (hB : B ≤ w.heap.size) : Fn PT 5 [S t,.bool f,.bool d] w (fun u w' => u = .bool true ∧ Ext w w'):=by
 refine fn_of Tryz.func5 rfl Tryz.ntmps5 rfl ?_
 repeat(first|refine C0 ?_|refine C1 ?_|refine X1 rfl rfl ?_|refine X0 rfl rfl ?_|refine X9 rfl rfl rfl ?_|refine X14 rfl Tryz.underlying9 rfl ?_|refine C2 ?_)
 refine CE.cond_d rfl (fun h1 => ?_) (fun h1 => ?_)
 ·repeat(first|refine C0 ?_|refine C1 ?_|refine X0 rfl rfl ?_|refine C2 ?_)
  (refine CE.ret ?_;(try dsimp only);refine ret1 rfl rfl ?_)
  exact ⟨rfl,Ext.refl _⟩
 refine C3 ?_
 repeat(first|refine C0 ?_|refine C1 ?_|refine X1 rfl rfl ?_|refine X9 rfl rfl rfl ?_|refine X14 rfl Tryz.underlying9 rfl ?_|refine C2 ?_)
 refine CE.cond_d rfl (fun h2 => ?_) (fun h2 => ?_)
 ·repeat(first|refine C0 ?_|refine C1 ?_|refine X0 rfl rfl ?_|refine C2 ?_)
  (refine CE.ret ?_;(try dsimp only);refine ret1 rfl rfl ?_)
  exact ⟨rfl,Ext.refl _⟩
 refine C3 ?_
 have ht : t.length ≤ 65536:=by omega
 obtain ⟨r,hr,hp⟩:=parseL_fn (t:=t) (f:=f) (d:=d) hT hB (by omega)
 have hg:=gd_lex hr (inv0 t (!f)) (fun p hp => by cases hp)
 have hfew:=lex_few (by omega) hr
 have hne:=ne_lex hr (inv0 t (!f)) (fun h => by cases h)
 have hmax : maxLen = 9223372036854775807:=rfl
 repeat(first|refine C0 ?_|refine C1 ?_|refine X1 rfl rfl ?_)
 refine RE.xc en12 rfl rfl hp ?_
 rintro v w1 ⟨hv,e1⟩
 have hxb : ∀ x ∈ r.ps.map (told t),x.pos ≤ 1000000 ∧ x.text.length ≤ 1000000:=by
  intro x hx
  obtain ⟨p,hp,rfl⟩:=List.mem_map.1 hx
  have g1:=pos_le (hg p hp)
  have g2:=ptext_le (hg p hp)
  exact ⟨show p.pos ≤ _ by omega,show (ptext t p).length ≤ _ by omega⟩
 have hrl : (r.ps.map (told t)).length ≤ 20000000:=by rw [List.length_map]; exact hfew
 obtain ⟨a0,cap0,hve⟩:=OwnR.len0 hv
 subst hve
 have hs6:=shape_lex hr
 repeat(first|refine C0 ?_|refine C1 ?_|refine X1 rfl rfl ?_|refine X0 rfl rfl ?_|refine C2 ?_)
 refine RE.xc en18 rfl rfl (pageWrong_fn (by omega)) ?_
 rintro _ w2 ⟨rfl,e2⟩
 have e12:=e1.trans e2
 have hv2:=ownsRow_ext hv e2
 repeat (refine C2 ?_)
 refine CE.cond_s rfl (fun h3 => ?_) (fun h3 => ?_)
 ·have hq : t.length ≤ 20000 ∧ asciiB t = true ∧ (readQ t f d).opn = false ∧ (readQ t f d).wrong = true:=by
   unfold qWrong at h3
   by_cases hx : 20000 < t.length ∨ asciiB t = false
   ·rw [if_pos hx] at h3; cases h3
   ·rw [if_neg hx] at h3
    simp only [Bool.and_eq_true,Bool.not_eq_true'] at h3
    refine ⟨by omega,?_,h3.1,h3.2⟩
    cases hy : asciiB t with
    | true => rfl
    | false => exact absurd (Or.inr hy) hx
  have hE : Err r ∨ hasS t inlS = true:=by
   rcases read_sim (asc_of hq.2.1) hr with h4 | h4 | h4
   ·rw [hq.2.2.1] at h4; cases h4
   ·exact h4.2
   ·rw [hq.2.2.2] at h4; cases h4.1
  have hpl : 0 < (r.ps.map (told t)).length:=by
   rw [List.length_map]
   cases hx : r.ps with
   | nil => exact absurd hx hne
   | cons _ _ => simp
  have hE2 : (∃ x,(r.ps.map (told t)).getLast? = some x ∧ x.ty = 0) ∨ hasS t inlS = true:=by
   rcases hE with h | h
   ·exact Or.inl (err_last h)
   ·exact Or.inr h
  generalize r.ps.map (told t) = rs at hv hv2 hxb hrl hs6 hpl hE2
  have hlast:=last_at hpl
  repeat(first|refine C0 ?_|refine C1 ?_|refine X1 rfl rfl ?_)
  refine RE.xc en19 rfl rfl (shape_fn hv2 (by omega) hrl hxb) ?_
  rintro _ w3 ⟨rfl,e3⟩
  rw [hs6]
  obtain ⟨g,cap,cur,hve,hg3,hcur⟩:=OwnR.item (B:=B) (w:=w2) (xs:=rs) (k:=rs.length - 1) hv2 (by omega)
  cases hve
  have hg4:=e3.block hg3
  generalize rs[rs.length - 1] = x at hcur hlast
  have hx0 : x.ty = 0 ∨ hasS t inlS = true:=by
   rcases hE2 with ⟨y,h5,h6⟩ | h5
   ·rw [hlast] at h5
    injection h5 with h5
    exact Or.inl (h5 ▸ h6)
   ·exact Or.inr h5
  repeat(first|refine X1 rfl rfl ?_|refine X13 rfl rfl rfl ?_|refine X19 rfl rfl (by omega) (by omega) rfl ?_|refine RE.want rfl rfl ?_)
  refine RE.x (op_indexAddr rfl rfl rfl (by omega) (by omega)) rfl ?_
  have e0 : 0 + ((rs.length : Int) - 1).toNat * 5 = (rs.length - 1) * 5:=by omega
  rw [e0]
  repeat(first|refine X4 rfl rfl rfl ?_|refine RE.want rfl rfl ?_)
  refine RE.x (op_load rfl rfl (item_cell hg4 hcur 0 (by decide) rfl)) rfl ?_
  repeat(first|refine X1 rfl rfl ?_|refine X5 rfl rfl rfl ?_|refine RE.want rfl rfl ?_)
  refine RE.splitD (fun h5 => ?_) (fun h5 => ?_)
  ·repeat(first|refine X0 rfl rfl ?_|refine X16 rfl rfl rfl rfl ?_|refine RE.want rfl rfl ?_|refine RE.nox rfl rfl rfl rfl ?_|refine C2 ?_)
   (refine CE.ret ?_;(try dsimp only);refine ret1 rfl rfl ?_)
   exact ⟨rfl,e12.trans e3⟩
  ·repeat(first|refine X1 rfl rfl ?_|refine RE.want rfl rfl ?_)
   refine RE.xc en11 rfl rfl (has_fn (x:=inlS) (by omega) (by decide)) ?_
   rintro _ w4 ⟨rfl,hw4⟩
   subst hw4
   rw [hx0.resolve_left h5]
   repeat(first|refine X0 rfl rfl ?_|refine X16 rfl rfl rfl rfl ?_|refine X17 rfl rfl rfl ?_|refine RE.want rfl rfl ?_|refine C2 ?_)
   (refine CE.ret ?_;(try dsimp only);refine ret1 rfl rfl ?_)
   exact ⟨rfl,e12.trans e3⟩
 refine C3 ?_
 repeat(first|refine C0 ?_|refine C1 ?_|refine X1 rfl rfl ?_)
 refine RE.xc en20 rfl rfl (pageKnown_fn (by omega)) ?_
 rintro _ w3 ⟨rfl,e3⟩
 have hv3:=ownsRow_ext hv2 e3
 cases h4 : qKnown t f d with
 | false =>
  repeat(first|refine X1 rfl rfl ?_|refine X0 rfl rfl ?_|refine X11 rfl rfl ?_|refine X16 rfl rfl rfl rfl ?_|refine RE.nox rfl rfl rfl rfl ?_|refine C2 ?_)
  (refine CE.ret ?_;(try dsimp only);refine ret1 rfl rfl ?_)
  exact ⟨rfl,e12.trans e3⟩
 | true =>
  have hq : t.length ≤ 20000 ∧ asciiB t = true ∧ (readQ t f d).opn = false ∧ (readQ t f d).wrong = false:=by
   unfold qKnown at h4
   unfold qWrong at h3
   by_cases hx : 20000 < t.length ∨ asciiB t = false
   ·rw [if_pos hx] at h4; cases h4
   ·rw [if_neg hx] at h4 h3
    simp only [Bool.and_eq_true,Bool.not_eq_true'] at h4
    rw [h4.1] at h3
    refine ⟨by omega,?_,h4.1,by simpa using h3⟩
    cases hy : asciiB t with
    | true => rfl
    | false => exact absurd (Or.inr hy) hx
  have hsame : r.ps.map (told t) = (readQ t f d).rs:=by
   rcases read_sim (asc_of hq.2.1) hr with h5 | h5 | h5
   ·rw [hq.2.2.1] at h5; cases h5
   ·rw [hq.2.2.2] at h5; cases h5.1
   ·exact h5.2
  repeat(first|refine X1 rfl rfl ?_|refine X11 rfl rfl ?_|refine RE.want rfl rfl ?_)
  refine RE.xc en22 rfl rfl (specParse_fn (by omega)) ?_
  rintro v4 w4 ⟨hv4,e4⟩
  rw [← hsame] at hv4
  have hv5:=RowR.of (ownsRow_ext hv3 e4)
  repeat (refine RE.want rfl rfl ?_)
  refine RE.xc en21 rfl rfl (sameItems_fn hv5 hv4 hrl) ?_
  rintro _ w5 ⟨rfl,e5⟩
  repeat(first|refine X0 rfl rfl ?_|refine X17 rfl rfl rfl ?_|refine C2 ?_)
  (refine CE.ret ?_;(try dsimp only);refine ret1 rfl rfl ?_)
  exact ⟨rfl,((e12.trans e3).trans e4).trans e5⟩
end Go.Wk
