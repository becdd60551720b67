/- The main part, in both lexers. -/
import Derived.Test.YtmbencknblcocaaGreatDoorYbm
import Derived.Test.YtmbencknblcocaaGreatDoorYbk
namespace Go.Wk
open Go Go.RowKit Go.Proofs
set_option maxRecDepth 100000
theorem comment_sim {t : List UInt8} {nd : Bool} {d r : D} {q : QP} {N : Nat} (hA : Asc t) (K : Cont t nd r N q.pos) (R : Rel t nd d q) (hpos : d.pos = q.pos) (hst : d.start = d.pos) (hcl : d.clos = 0)
  (hb : begS t q.pos cm1 = true ∨ begS t q.pos cm2 = true) (h : Lexes t nd (scOut t (outSc t d)) r) : Fin t r (mainN t N (q.comment t).pos (q.comment t)):=by
 have hl5 : q.pos + 5 ≤ t.length:=by
  rcases hb with e | e
  ·exact (begS_at e).1
  ·exact (begS_at e).1
 have hc3 : chr t (q.pos + 3) = 47:=by
  show (t.getD (q.pos + 3) 0).toNat = 47
  rcases hb with e | e <;> (rw [begS_get e (i:=3) (by decide)]; rfl)
 have hc4 : chr t (q.pos + 4) = 42:=by
  show (t.getD (q.pos + 4) 0).toNat = 42
  rcases hb with e | e <;> (rw [begS_get e (i:=4) (by decide)]; rfl)
 have hc2 : (chr t (q.pos + 2) = 60 ∧ begS t q.pos bs124 = false ∧ comEnd t q.pos = [42,47,62,125,125]) ∨ (chr t (q.pos + 2) = 37 ∧ begS t q.pos bs124 = true ∧ comEnd t q.pos = [42,47,37,125,125]):=by
  rcases hb with e | e
  ·left
   have h1 : chr t (q.pos + 2) = 60:=by
    show (t.getD (q.pos + 2) 0).toNat = 60
    rw [begS_get e (i:=2) (by decide)]; rfl
   refine ⟨h1,?_,by unfold comEnd; rw [if_neg (by omega)]⟩
   cases hx : begS t q.pos bs124 with
   | false => rfl
   | true =>
    have h2 : chr t (q.pos + 2) = 37:=by
     show (t.getD (q.pos + 2) 0).toNat = 37
     rw [begS_get hx (i:=2) (by decide)]; rfl
    omega
  ·right
   have h1 : chr t (q.pos + 2) = 37:=by
    show (t.getD (q.pos + 2) 0).toNat = 37
    rw [begS_get e (i:=2) (by decide)]; rfl
   exact ⟨h1,begS_pre (x:=bs124) (y:=[47,42]) e,by unfold comEnd; rw [if_pos h1]⟩
 unfold QP.comment QP.commentK
 by_cases h1 : begS t (q.pos + 4) (comEnd t q.pos) = true ∨ q.inl ≠ []
 ·rw [if_pos h1]
  exact goal_over (opened_over q) (fin_open rfl)
 rw [if_neg h1]
 have hqi : q.inl = []:=Classical.byContradiction fun e => h1 (Or.inr e)
 have hdi:=R.noinl hqi
 have hpb : pre bs124 (t.drop d.pos) = begS t q.pos bs124:=by rw [hpos]; exact pre_begS (by decide)
 have hsc : outSc t d = (some 125,{ d with ld:=if begS t q.pos bs124 = true then 10 else 8,rd:=if begS t q.pos bs124 = true then 11 else 9 }):=by
  unfold outSc
  rw [hpb,if_neg (by rw [hdi]; simp)]
 rw [hsc] at h
 have h2:=lgo (show Lexes t nd (some 125,_) r from h)
 have he : bs152 ++ rightD (if begS t q.pos bs124 = true then 11 else 9) = comEnd t q.pos:=by
  rcases hc2 with ⟨_,e2,e3⟩ | ⟨_,e2,e3⟩ <;> (rw [e2,e3]; rfl)
 generalize (if begS t q.pos bs124 = true then 10 else 8 : Int) = ld at h2
 generalize (if begS t q.pos bs124 = true then 11 else 9 : Int) = rd at h2 he
 have h3 : stp t nd 125 { d with ld:=ld,rd:=rd } = (some 142,{ d with ld:=ld,rd:=rd,pos:=d.pos + 3 }):=by
  show outLeft t _ = _
  unfold outLeft
  rw [if_pos]
  show pre bs141 (t.drop (d.pos + 3)) = true
  rw [hpos,pre_begS (by decide)]
  exact begS_cons (by omega) hc3 (begS_cons (by omega) hc4 (begS_nil (by omega)))
 rw [h3] at h2
 have h4:=lgo h2
 have heH : ∃ y,comEnd t q.pos = 42 :: 47 :: y:=by rcases hc2 with ⟨_,_,e3⟩ | ⟨_,_,e3⟩ <;> exact ⟨_,e3⟩
 obtain ⟨y,hy⟩:=heH
 have hen : comEnd t q.pos ≠ []:=by rw [hy]; simp
 have hb3 : begS t (q.pos + 3) (comEnd t q.pos) = false:=by rw [hy]; exact begS_no (by rw [hc3]; decide)
 have hb4 : begS t (q.pos + 4) (comEnd t q.pos) = false:=by
  cases hx : begS t (q.pos + 4) (comEnd t q.pos) with
  | false => rfl
  | true => exact absurd (Or.inl hx) h1
 have hel:=comEnd_len t q.pos
 have he4 : (comEnd t q.pos).getD 4 0 = 125:=by rcases hc2 with ⟨_,_,e3⟩ | ⟨_,_,e3⟩ <;> (rw [e3]; rfl)
 generalize comEnd t q.pos = e at he hen hb3 hb4 hel hy he4
 have hf:=fnd_toS (x:=e) (t:=t) (p:=q.pos + 3) hen (by omega) _ 0 rfl (by omega)
 rw [Nat.add_zero,toS_go (by omega) hb3,toS_go (by omega) hb4] at hf
 have hkl:=toS_le (x:=e) (t:=t) _ (q.pos + 5) rfl hl5
 have hkb:=toS_beg (x:=e) (t:=t) _ (q.pos + 5) rfl
 have hf' : fnd e (t.drop (q.pos + 3)) 0 = if begS t (toS e t (q.pos + 5)) e = true then ((toS e t (q.pos + 5) - (q.pos + 3) : Nat) : Int) else -1:=hf
 clear hf
 generalize toS e t (q.pos + 5) = k at hf' hkl hkb
 have h5 : Lexes t nd (outComment t { d with ld:=ld,rd:=rd,pos:=d.pos + 3 }) r:=h4
 unfold outComment at h5
 have hfe : fnd (bs152 ++ rightD rd) (t.drop (d.pos + 3)) 0 = fnd e (t.drop (q.pos + 3)) 0:=by rw [he,hpos]
 by_cases h6 : t.length ≤ k
 ·rw [if_pos h6]
  have : fnd (bs152 ++ rightD rd) (t.drop (d.pos + 3)) 0 = -1:=by
   rw [hfe,hf',if_neg]
   rw [begS_end hen h6]
   simp
  rw [if_pos (by show fnd (bs152 ++ rightD rd) (t.drop (d.pos + 3)) 0 ≤ 1; omega)] at h5
  exact goal_over (loosed_over q) (fin_over (loosed_over q) (Or.inl (lbad h5)))
 rw [if_neg h6]
 have hk:=hkb (by omega)
 have hk5:=(begS_at hk).1
 rw [hel] at hk5
 have hF : fnd (bs152 ++ rightD rd) (t.drop (d.pos + 3)) 0 = ((k - (q.pos + 3) : Nat) : Int):=by rw [hfe,hf',if_pos hk]
 rw [if_neg (by show ¬ fnd (bs152 ++ rightD rd) (t.drop (d.pos + 3)) 0 ≤ 1; omega)] at h5
 have hF2 : d.pos + 3 + (fnd (bs152 ++ rightD rd) (t.drop (d.pos + 3)) 0).toNat = k:=by rw [hF,hpos]; omega
 refine K _ _ h5 ?_ ?_ ?_ hcl (by show k + 5 ≤ _; omega) (by show q.pos < k + 5; omega)
 ·have ht1:=told_solid (t:=t) (lo:=q.pos) (hi:=q.pos + 3) (by omega) (by show blankB (t.getD (q.pos + 2) 0) = false; unfold blankB; show (decide (chr t (q.pos + 2) = 32) || decide (chr t (q.pos + 2) = 9) || decide (chr t (q.pos + 2) = 13)) = false; rcases hc2 with e | e <;> (rw [e.1]; rfl)) (by show chr t (q.pos + 2) ≠ 10; omega)
  have hc44 : chr t (k + 4) = 125:=by
   show (t.getD (k + 4) 0).toNat = 125
   rw [begS_get hk (i:=4) (by rw [hel]; decide),he4]
   rfl
  have ht3:=told_solid (t:=t) (lo:=k + 2) (hi:=k + 5) (by omega) (by show blankB (t.getD (k + 4) 0) = false; unfold blankB; show (decide (chr t (k + 4) = 32) || decide (chr t (k + 4) = 9) || decide (chr t (k + 4) = 13)) = false; rw [hc44]; rfl) (by show chr t (k + 4) ≠ 10; omega)
  refine R.to ?_ rfl rfl rfl rfl rfl ?_ ?_ ?_ ?_ ?_
  ·rw [text_em (by rcases Nat.lt_or_ge (q.pos + 5) k with h | h; exact Or.inl h; exact Or.inr ⟨rfl,by omega⟩)]
   show toldL t (((d.ps ++ emitI t 18 d.start (d.pos + 3)) ++ emitI t 18 (d.pos + 3 + 2) (d.pos + 3 + (fnd (bs152 ++ rightD rd) (t.drop (d.pos + 3)) 0).toNat)) ++ emitI t 18 (d.pos + 3 + (fnd (bs152 ++ rightD rd) (t.drop (d.pos + 3)) 0).toNat + 2) (d.pos + 3 + (fnd (bs152 ++ rightD rd) (t.drop (d.pos + 3)) 0).toNat + 5)) = ((q.rs ++ [tell 18 q.pos (wordA t q.pos (q.pos + 3)) false]) ++ toldL t (emitI t 18 (q.pos + 5) k)) ++ [tell 18 (k + 2) (wordA t (k + 2) (k + 5)) false]
   rw [hF2,hst,hpos,toldL_app,toldL_app,toldL_app,R.rs,ht1,ht3]
  ·rw [text_em (by rcases Nat.lt_or_ge (q.pos + 5) k with h | h; exact Or.inl h; exact Or.inr ⟨rfl,by omega⟩)]
  ·rw [text_em (by rcases Nat.lt_or_ge (q.pos + 5) k with h | h; exact Or.inl h; exact Or.inr ⟨rfl,by omega⟩)]
  ·rw [text_em (by rcases Nat.lt_or_ge (q.pos + 5) k with h | h; exact Or.inl h; exact Or.inr ⟨rfl,by omega⟩)]
  ·rw [text_em (by rcases Nat.lt_or_ge (q.pos + 5) k with h | h; exact Or.inl h; exact Or.inr ⟨rfl,by omega⟩)]
  ·rw [text_em (by rcases Nat.lt_or_ge (q.pos + 5) k with h | h; exact Or.inl h; exact Or.inr ⟨rfl,by omega⟩)]
 ·show d.pos + 3 + (fnd (bs152 ++ rightD rd) (t.drop (d.pos + 3)) 0).toNat + 5 = k + 5
  omega
 ·show d.pos + 3 + (fnd (bs152 ++ rightD rd) (t.drop (d.pos + 3)) 0).toNat + 5 = k + 5
  omega
theorem txt_rel {t : List UInt8} {nd : Bool} {d : D} {q : QP} {m : Nat} (R : Rel t nd d q) (hs : d.start ≤ m) : Rel t nd (({ d with pos:=m } : D).txt t) (q.text t d.start m false) ∧ (({ d with pos:=m } : D).txt t).pos = m ∧ (({ d with pos:=m } : D).txt t).start = m ∧
  (({ d with pos:=m } : D).txt t).clos = d.clos ∧ (({ d with pos:=m } : D).txt t).dv = d.dv ∧ (({ d with pos:=m } : D).txt t).chk = d.chk:=by
 unfold D.txt
 by_cases h : d.start < m
 ·rw [if_pos (show ({ d with pos:=m } : D).start < ({ d with pos:=m } : D).pos from h),text_em (Or.inl h)]
  refine ⟨R.to ?_ rfl rfl rfl rfl rfl rfl rfl rfl rfl rfl,rfl,rfl,rfl,rfl,rfl⟩
  show toldL t (d.ps ++ emitI t 18 d.start m) = _
  rw [toldL_app,R.rs]
 ·have e : d.start = m:=by omega
  rw [if_neg (show ¬ ({ d with pos:=m } : D).start < ({ d with pos:=m } : D).pos from h),e,text_none]
  exact ⟨R.to R.rs rfl rfl rfl rfl rfl rfl rfl rfl rfl rfl,rfl,rfl,rfl,rfl,rfl⟩
theorem isSC_eq (t : List UInt8) (p : Nat) : isSC t p = (begS t p bs124 || begS t p bs137):=by
 unfold isSC
 rw [pre_begS (by decide),pre_begS (by decide)]
theorem dv_hd {d : D} (h : d.dv = bs103 ∨ d.dv = bs100) {t : List UInt8} {p : Nat} (hc : chr t p ≠ 60 ∧ chr t p ≠ 35) : begS t p d.dv = false:=by
 rcases h with e | e
 ·rw [e]; exact begS_no hc.1
 ·rw [e]; exact begS_no hc.2
theorem main_sim {t : List UInt8} {nd : Bool} {r : D} (hA : Asc t) : ∀ (n fr : Nat) (d : D) (q : QP),Lexes t nd (some 42,d) r → Rel t nd d q → d.start = fr → fr ≤ d.pos → d.pos ≤ q.pos → q.pos ≤ t.length → NoMark t q.dv d.pos q.pos → d.clos = 0 → t.length + 1 ≤ n + q.pos →
  Fin t r (mainN t n fr q):=by
 intro n
 induction n with
 | zero => intro fr d q h R hs hf hd hl hN hc hn; omega
 | succ n ih =>
  intro fr d q h R hs hf hd hl hN hc hn
  rw [mainN,if_neg R.over]
  have hN' : NoMark t (edv nd d) d.pos q.pos:=by rw [← R.dv]; exact hN
  have h1 : Lexes t nd (outMain t nd d) r:=lgo h
  by_cases c1 : t.length ≤ q.pos
  ·rw [if_pos c1]
   have hqe : q.pos = t.length:=by omega
   rw [hqe] at hN' hd
   rw [main_end hd R.dvne hN'] at h1
   have h2:=lgo h1
   have h3 : stp t nd 77 { d with pos:=t.length } = (none,(({ d with pos:=t.length } : D).txt t).em t 1):=rfl
   rw [h3] at h2
   rw [lend h2]
   obtain ⟨T1,T2,T3,T4,T5,T6⟩:=txt_rel (m:=t.length) R (by omega)
   refine Or.inr (Or.inr ⟨?_,?_⟩)
   ·rw [← hs]; exact T1.wr
   ·show toldL t ((({ d with pos:=t.length } : D).txt t).ps ++ emitI t 1 (({ d with pos:=t.length } : D).txt t).start (({ d with pos:=t.length } : D).txt t).pos) = (q.text t fr t.length false).rs ++ [tell 1 t.length [] false]
    rw [toldL_app,told_emit (by decide),T2,T3,T1.rs,hs,word_nil]
  rw [if_neg c1]
  have hqt : q.pos < t.length:=by omega
  by_cases c2 : begS t q.pos [123,123,123] = true
  ·rw [if_pos c2]
   exact fin_open rfl
  rw [if_neg c2]
  have K : Cont t nd r n q.pos:=by
   intro d' q' h' R' p' s' c' l' m'
   exact ih q'.pos d' q' h' R' s' (by omega) (by omega) l' (fun j a b => by omega) c' (by omega)
  have txt:=txt_rel (m:=q.pos) R (by omega)
  obtain ⟨T0,T2,T3,T4,T5,T6⟩:=txt
  have T1 : Rel t nd (({ d with pos:=q.pos } : D).txt t) (q.text t fr q.pos false):=by rw [← hs]; exact T0
  clear T0
  have hq1 : ∃ q1,q1 = q.text t fr q.pos false:=⟨_,rfl⟩
  obtain ⟨q1,hq1⟩:=hq1
  have hq1p : q1.pos = q.pos:=by rw [hq1]; obtain ⟨rs,e⟩:=text_same t q fr q.pos false; rw [e]
  have hq1d : q1.dv = q.dv:=by rw [hq1]; obtain ⟨rs,e⟩:=text_same t q fr q.pos false; rw [e]
  rw [← hq1] at T1 ⊢
  have hdt : ∃ dt,dt = ({ d with pos:=q.pos } : D).txt t:=⟨_,rfl⟩
  obtain ⟨dt,hdt⟩:=hdt
  rw [← hdt] at T1 T2 T3 T4 T5 T6
  have mark:=main_mark (t:=t) (nd:=nd) (d:=d) (m:=q.pos) hd hqt R.dvne hN'
  rw [← R.dv] at mark
  by_cases c3 : begS t q.pos cm1 = true ∨ begS t q.pos cm2 = true
  ·rw [if_pos c3]
   have h20 : begS t q.pos bs120 = true:=by
    rcases c3 with e | e
    ·exact begS_pre (x:=bs120) (y:=[60,47,42]) e
    ·exact begS_pre (x:=bs120) (y:=[37,47,42]) e
   obtain ⟨s1,s2,m1,m2,m3⟩:=mark (Or.inl h20)
   have hsc : isSC t q.pos = true:=by
    rw [isSC_eq]
    rcases c3 with e | e
    ·rw [begS_pre (x:=bs137) (y:=[47,42]) e]; simp
    ·rw [begS_pre (x:=bs124) (y:=[47,42]) e]; simp
   have hlx : outLex t nd s1 s2 { d with pos:=q.pos } = outSc t dt:=by
    unfold outLex
    rw [if_pos ⟨m2 h20,hsc⟩,hdt]
   rw [m1,hlx] at h1
   exact comment_sim hA (by rw [hq1p]; exact K) T1 (by rw [T2,hq1p]) (by rw [T2,T3]) (by rw [T4]; exact hc) (by rw [hq1p]; exact c3) h1
  rw [if_neg c3]
  have c31 : begS t q.pos cm1 = false:=by cases hx : begS t q.pos cm1 with | false => rfl | true => exact absurd (Or.inl hx) c3
  have c32 : begS t q.pos cm2 = false:=by cases hx : begS t q.pos cm2 with | false => rfl | true => exact absurd (Or.inr hx) c3
  by_cases c4 : begS t q.pos bs137 = true ∨ begS t q.pos bs124 = true
  ·rw [if_pos c4]
   have h20 : begS t q.pos bs120 = true:=by
    rcases c4 with e | e
    ·exact begS_pre (x:=bs120) (y:=[60]) e
    ·exact begS_pre (x:=bs120) (y:=[37]) e
   obtain ⟨s1,s2,m1,m2,m3⟩:=mark (Or.inl h20)
   have hsc : isSC t q.pos = true:=by
    rw [isSC_eq]
    rcases c4 with e | e <;> (rw [e]; simp)
   have hlx : outLex t nd s1 s2 { d with pos:=q.pos } = outSc t dt:=by
    unfold outLex
    rw [if_pos ⟨m2 h20,hsc⟩,hdt]
   rw [m1,hlx] at h1
   exact shortcode_sim hA (by rw [hq1p]; exact K) T1 (by rw [T2,hq1p]) (by rw [T2,T3]) (by rw [T4]; exact hc) (by rw [hq1p]; exact c4) (by rw [hq1p]; exact c31) (by rw [hq1p]; exact c32) h1
  rw [if_neg c4]
  have hsc : isSC t q.pos = false:=by
   rw [isSC_eq]
   cases h7 : begS t q.pos bs124 with
   | true => exact absurd (Or.inr h7) c4
   | false =>
    cases h8 : begS t q.pos bs137 with
    | true => exact absurd (Or.inl h8) c4
    | false => rfl
  by_cases c5 : begS t q.pos bs120 = true
  ·rw [if_pos c5]
   obtain ⟨s1,s2,m1,m2,m3⟩:=mark (Or.inl c5)
   obtain ⟨_,hc123⟩:=begS_hd c5
   have hc123 : chr t q.pos = 123:=hc123
   obtain ⟨hl2,hc124⟩:=begS_hd (begS_tl c5)
   have hc124 : chr t (q.pos + 1) = 123:=hc124
   have hlx : outLex t nd s1 s2 { d with pos:=q.pos } = (some 42,{ dt with pos:=q.pos + 1 }):=by
    unfold outLex
    rw [if_neg (by rw [hsc]; simp),if_neg,hdt]
    show ¬ (nd = false ∧ s2 = false ∧ pre d.dv (t.drop q.pos) = true)
    rw [pre_begS R.dvne,dv_hd R.dv0 (by omega)]
    simp
   rw [m1,hlx] at h1
   refine ih q.pos _ _ h1 (T1.to T1.rs rfl rfl rfl rfl rfl rfl rfl rfl rfl rfl) T3 (by show q.pos ≤ q.pos + 1; omega) (by show q.pos + 1 ≤ q.pos + 2; omega) (by show q.pos + 2 ≤ _; omega) ?_ (by show dt.clos = 0; rw [T4]; exact hc) (by show _ ≤ n + (q.pos + 2); omega)
   intro j a b
   have hj : j = q.pos + 1:=by
    have a' : q.pos + 1 ≤ j:=a
    have b' : j < q.pos + 2:=b
    omega
   subst hj
   refine ⟨?_,fun _ => ?_⟩
   ·cases hx : begS t (q.pos + 1) bs120 with
    | false => rfl
    | true => exact absurd (begS_cons (b:=123) hqt hc123 hx) c2
   ·show begS t (q.pos + 1) q1.dv = false
    rw [hq1d,R.dv]
    unfold edv
    split
    ·rename_i hne _
     exfalso
     apply hne
     show q1.dv = []
     rw [hq1d,R.dv]
     unfold edv
     rename_i hx
     rw [if_pos hx]
    ·exact dv_hd R.dv0 (by omega)
  rw [if_neg c5]
  have c5' : begS t q.pos bs120 = false:=by simpa using c5
  by_cases c6 : q.dv ≠ [] ∧ begS t q.pos q.dv = true
  ·rw [if_pos c6]
   obtain ⟨s1,s2,m1,m2,m3⟩:=mark (Or.inr c6)
   have hnd : ¬ (nd = true ∨ d.chk = true):=by
    intro e
    apply c6.1
    rw [R.dv]
    unfold edv
    rw [if_pos e]
   have hdv : q.dv = d.dv:=by rw [R.dv]; unfold edv; rw [if_neg hnd]
   have hel:=(begS_at c6.2).1
   have hdl : 0 < q.dv.length:=by
    cases hx : q.dv with
    | nil => exact absurd hx c6.1
    | cons _ _ => simp
   have her:=runTo_le (stop:=notW) (t:=t) _ (q.pos + q.dv.length) rfl hel
   have hlx : outLex t nd s1 s2 { d with pos:=q.pos } = (some 42,outDiv t dt):=by
    unfold outLex
    rw [if_neg (by rw [hsc]; simp),if_pos,hdt]
    show nd = false ∧ s2 = false ∧ pre d.dv (t.drop q.pos) = true
    refine ⟨?_,m3 c6.1 c6.2,?_⟩
    ·cases hx : nd with
     | false => rfl
     | true => exact absurd (Or.inl hx) hnd
    ·rw [pre_begS R.dvne,← hdv]
     exact c6.2
   rw [m1,hlx] at h1
   have hod : outDiv t dt = ({ dt with chk:=true,pos:=runTo notW t (q.pos + q.dv.length) } : D).em t 2:=by
    unfold outDiv
    rw [skip_sp hA,T2,T5,hdv]
   rw [hod] at h1
   refine ih _ _ _ h1 ⟨?_,T1.nms,T1.nm0,T1.inl,T1.inlN,?_,?_,T1.wr,T1.op⟩ rfl (Nat.le_refl _) (Nat.le_refl _) her.2 (fun j a b => ?_) (by show dt.clos = 0; rw [T4]; exact hc) (by show _ ≤ n + runTo notW t (q.pos + q.dv.length); omega)
   ·show toldL t (dt.ps ++ emitI t 2 dt.start (runTo notW t (q.pos + q.dv.length))) = q1.rs ++ [tell 2 q.pos (wordA t q.pos (runTo notW t (q.pos + q.dv.length))) false]
    rw [toldL_app,told_emit (by decide),T1.rs,T3]
   ·exact (if_pos (Or.inr rfl)).symm
   ·show dt.dv = _ ∨ dt.dv = _
    rw [T5]; exact R.dv0
   ·have a' : runTo notW t (q.pos + q.dv.length) ≤ j:=a
    have b' : j < runTo notW t (q.pos + q.dv.length):=b
    omega
  rw [if_neg c6]
  refine ih fr d _ h (R.to R.rs rfl rfl rfl rfl rfl rfl rfl rfl rfl rfl) hs hf (by show d.pos ≤ q.pos + 1; omega) (by show q.pos + 1 ≤ _; omega) (fun j a b => ?_) hc (by show _ ≤ n + (q.pos + 1); omega)
  have b' : j < q.pos + 1:=b
  by_cases hj : j = q.pos
  ·subst hj
   refine ⟨c5',fun e => ?_⟩
   cases hx : begS t q.pos q.dv with
   | false => rfl
   | true => exact absurd ⟨e,hx⟩ c6
  ·exact hN j a (by omega)
theorem crE_eol {t : List UInt8} (hA : Asc t) {p : Nat} : crE t p = (p + eolN t p,decide (0 < eolN t p)):=by
 unfold crE eolN
 rcases Nat.lt_or_ge p t.length with hp | hp
 ·rw [nx1 hA hp,nx2 hA hp]
  by_cases h13 : chr t p = 13
  ·rw [if_pos (show (chr t p : Int) = 13 by omega),decide_eq_true (show (chr t p : Int) = 13 by omega)]
   dsimp only
   rw [Bool.true_or]
   have hb10 : begS t p [10] = false:=begS_no (by rw [h13]; decide)
   have hb13 : begS t p [13] = true:=begS_one.2 ⟨hp,h13⟩
   rcases Nat.lt_or_ge (p + 1) t.length with hp1 | hp1
   ·rw [nx1 hA hp1,nx2 hA hp1]
    by_cases h10 : chr t (p + 1) = 10
    ·have hbb : begS t p [13,10] = true:=begS_cons hp h13 (begS_one.2 ⟨hp1,h10⟩)
     rw [if_pos (show (chr t (p + 1) : Int) = 10 by omega),if_pos hbb]
     rfl
    ·have hbb : begS t p [13,10] = false:=by
      cases hx : begS t p [13,10] with
      | false => rfl
      | true => exact absurd (begS_hd (begS_tl hx)).2 h10
     rw [if_neg (show ¬ (chr t (p + 1) : Int) = 10 by omega),if_neg (by rw [hbb]; simp),if_neg (by rw [hb10]; simp),if_pos hb13]
     rfl
   ·have hbb : begS t p [13,10] = false:=by
     cases hx : begS t p [13,10] with
     | false => rfl
     | true => have:=(begS_hd (begS_tl hx)).1; omega
    rw [nx0 hp1,if_neg (by decide),if_neg (by rw [hbb]; simp),if_neg (by rw [hb10]; simp),if_pos hb13]
    rfl
  ·have hbb : begS t p [13,10] = false:=begS_no h13
   have hb13 : begS t p [13] = false:=begS_no h13
   rw [if_neg (show ¬ (chr t p : Int) = 13 by omega),decide_eq_false (show ¬ (chr t p : Int) = 13 by omega)]
   dsimp only
   rw [Bool.false_or,nx1 hA hp,nx2 hA hp,if_neg (show ¬ begS t p [13,10] = true by rw [hbb]; simp)]
   by_cases h10 : chr t p = 10
   ·have hb10 : begS t p [10] = true:=begS_one.2 ⟨hp,h10⟩
    rw [if_pos (show (chr t p : Int) = 10 by omega),decide_eq_true (show (chr t p : Int) = 10 by omega),if_pos hb10]
    rfl
   ·have hb10 : begS t p [10] = false:=begS_no h10
    rw [if_neg (show ¬ (chr t p : Int) = 10 by omega),decide_eq_false (show ¬ (chr t p : Int) = 10 by omega),if_neg (by rw [hb10]; simp),if_neg (by rw [hb13]; simp)]
    rfl
 ·rw [nx0 hp,if_neg (by decide)]
  dsimp only
  rw [nx0 hp,if_neg (by decide),if_neg (by rw [begS_end (by decide) hp]; simp),if_neg (by rw [begS_end (by decide) hp]; simp),if_neg (by rw [begS_end (by decide) hp]; simp)]
  rfl
theorem fm_go {t : List UInt8} (hA : Asc t) {c : UInt8} (hc : c.toNat = 43 ∨ c.toNat = 45) {fr n : Nat} : ∀ (m i : Nat),t.length - i = m → fr ≤ i → i ≤ t.length → loneCR t i = false →
  (fnGo t [c,c,c] fr n (i + 1) = none → fmFind t [c,c,c] false i = none) ∧ (∀ j,fnGo t [c,c,c] fr n (i + 1) = some (some j) → fmFind t [c,c,c] false i = some j):=by
 intro m
 induction m using Nat.strongRecOn with
 | _ m ih =>
  intro i hm hf hl hlone
  have eu:=fnGo.eq_def t [c,c,c] fr n (i + 1)
  have ev:=fmFind.eq_def t [c,c,c] false i
  rw [if_neg (by simp)] at ev
  rcases Nat.lt_or_ge i t.length with hi | hi
  ·rw [dif_pos (show i + 1 ≤ t.length by omega)] at eu
   rw [dif_pos hi,nx1 hA hi,nx2 hA hi,pre_begS (by simp)] at ev
   cases hl1 : loneCR t (i + 1) with
   | true =>
    rw [if_pos hl1] at eu
    rw [eu]
    exact ⟨fun h => (by cases h),fun j h => (by cases h)⟩
   | false =>
    rw [if_neg (by rw [hl1]; simp)] at eu
    have hfr : freshB t fr n (i + 1) = decide (chr t i = 10):=by
     unfold freshB
     rw [decide_eq_false (show ¬ i + 1 = fr by omega),Bool.false_and,Bool.false_or,decide_eq_true (show fr < i + 1 by omega),Bool.true_and,Nat.add_sub_cancel,List.getElem?_eq_getElem hi,chr_get hi]
     refine decide_eq_decide.2 ⟨fun e => ?_,fun e => ?_⟩
     ·injection e with e1; rw [e1]; rfl
     ·congr 1; exact UInt8.toNat_inj.1 e
    rw [hfr] at eu
    by_cases h10 : chr t i = 10
    ·have hie : isEol (chr t i : Int) = true:=by rw [h10]; rfl
     rw [hie,Bool.true_and] at ev
     cases hb : begS t (i + 1) [c,c,c] with
     | true =>
      rw [if_pos ⟨decide_eq_true h10,hb⟩] at eu
      rw [if_pos hb] at ev
      rw [eu,ev]
      exact ⟨fun h => (by cases h),fun j h => Option.some.inj h⟩
     | false =>
      rw [if_neg (by rw [hb]; simp)] at eu
      rw [if_neg (by rw [hb]; simp)] at ev
      rw [eu,ev]
      exact ih _ (by omega) (i + 1) rfl (by omega) hi hl1
    ·rw [if_neg (by simp [h10])] at eu
     have hev : (isEol (chr t i : Int) && begS t (i + 1) [c,c,c]) = false:=by
      by_cases h13 : chr t i = 13
      ·have hcr : begS t i [13,10] = true:=by
        unfold loneCR at hlone
        have : t[i]? = some 13:=by rw [List.getElem?_eq_getElem hi]; congr 1; rw [chr_get hi] at h13; exact UInt8.toNat_inj.1 h13
        rw [decide_eq_true this,Bool.true_and] at hlone
        simpa using hlone
       have h2:=(begS_hd (begS_tl hcr)).2
       have h2 : chr t (i + 1) = 10:=h2
       rw [begS_no (show chr t (i + 1) ≠ c.toNat by omega),Bool.and_false]
      ·have : isEol (chr t i : Int) = false:=by
        unfold isEol
        rw [decide_eq_false (by omega),decide_eq_false (by omega)]
        rfl
       rw [this,Bool.false_and]
     rw [hev,if_neg (by simp)] at ev
     rw [eu,ev]
     exact ih _ (by omega) (i + 1) rfl (by omega) hi hl1
  ·rw [dif_neg (by omega)] at eu ev
   rw [eu,ev]
   exact ⟨fun _ => rfl,fun j h => (by cases h)⟩
theorem fm_start {t : List UInt8} (hA : Asc t) {c : UInt8} (hc : c.toNat = 43 ∨ c.toNat = 45) {fr n : Nat} (hf : fr ≤ t.length) :
  (fnGo t [c,c,c] fr n fr = none → fmFind t [c,c,c] (decide (0 < n)) fr = none) ∧ (∀ j,fnGo t [c,c,c] fr n fr = some (some j) → fmFind t [c,c,c] (decide (0 < n)) fr = some j):=by
 have eu:=fnGo.eq_def t [c,c,c] fr n fr
 rw [dif_pos hf] at eu
 cases hl1 : loneCR t fr with
 | true =>
  rw [if_pos hl1] at eu
  rw [eu]
  exact ⟨fun h => (by cases h),fun j h => (by cases h)⟩
 | false =>
  rw [if_neg (by rw [hl1]; simp)] at eu
  have hfr : freshB t fr n fr = decide (0 < n):=by
   unfold freshB
   rw [decide_eq_true rfl,Bool.true_and,decide_eq_false (show ¬ fr < fr by omega),Bool.false_and,Bool.or_false]
  rw [hfr] at eu
  have hg:=fm_go hA hc (fr:=fr) (n:=n) _ fr rfl (Nat.le_refl _) hf hl1
  by_cases hn : 0 < n
  ·rw [decide_eq_true hn] at eu ⊢
   have ev:=fmFind.eq_def t [c,c,c] true fr
   rw [if_pos rfl,pre_begS (by simp)] at ev
   cases hb : begS t fr [c,c,c] with
   | true =>
    rw [if_pos ⟨rfl,hb⟩] at eu
    rw [if_pos hb] at ev
    rw [eu,ev]
    exact ⟨fun h => (by cases h),fun j h => Option.some.inj h⟩
   | false =>
    rw [if_neg (by rw [hb]; simp)] at eu
    rw [if_neg (by rw [hb]; simp)] at ev
    rw [eu,ev]
    exact hg
  ·rw [decide_eq_false hn] at eu ⊢
   rw [if_neg (by simp)] at eu
   rw [eu]
   exact hg
theorem readA_over {t : List UInt8} {r : D} {q : QP} {fr : Nat} (ho : q.over) (h : Fin t r q) : Fin t r (readA t fr q):=by
 unfold readA
 rw [if_pos (show q.wrong = true ∨ q.opn = true from ho)]
 exact h
theorem readA_main {t : List UInt8} {nd : Bool} {d r : D} {q : QP} {fr : Nat} (hA : Asc t) (h : Lexes t nd (some 42,d) r) (R : Rel t nd d q) (hs : d.start = fr) (hf : fr ≤ d.pos) (hd : d.pos ≤ q.pos) (hl : q.pos ≤ t.length) (hN : NoMark t q.dv d.pos q.pos) (hc : d.clos = 0) : Fin t r (readA t fr q):=by
 unfold readA
 rw [if_neg R.over]
 exact main_sim hA _ fr d q h R hs hf hd hl hN hc (by omega)
theorem err_more (t : List UInt8) (d : D) (lo hi p s : Nat) : Err { d with pos:=p,start:=s,ps:=d.ps ++ [PI.bad t lo hi] }:=⟨PI.bad t lo hi,List.getLast?_concat,bad_ty t _ _⟩
theorem fence_sim {t : List UInt8} {nd : Bool} {d r : D} {q : QP} {c : UInt8} {tp : Int} {st : Nat} (hA : Asc t) (hc : c.toNat = 43 ∨ c.toNat = 45) (htp : tp = 3 ∨ tp = 4) (R : Rel t nd d q) (hcl : d.clos = 0) (hp : q.pos < t.length) (hcq : chr t q.pos = c.toNat)
  (h : Lexes t nd (nextOf (nextV (fmOut t [c,c,c] tp c.toNat st (q.pos + 1)).1),{ d with pos:=(fmOut t [c,c,c] tp c.toNat st (q.pos + 1)).2.1,start:=(fmOut t [c,c,c] tp c.toNat st (q.pos + 1)).2.2.1,ps:=d.ps ++ (fmOut t [c,c,c] tp c.toNat st (q.pos + 1)).2.2.2 }) r) :
  Fin t r (readA t (q.fenced t tp [c,c,c]).pos (q.fenced t tp [c,c,c])):=by
 have hfm : ∃ O,fmOut t [c,c,c] tp c.toNat st (q.pos + 1) = O:=⟨_,rfl⟩
 obtain ⟨O,hfm⟩:=hfm
 rw [hfm] at h
 unfold fmOut at hfm
 dsimp only at hfm
 unfold QP.fenced
 by_cases hb : begS t q.pos [c,c,c] = false
 ·rw [if_pos hb]
  have hE : Err r:=by
   by_cases h1 : (nx t (q.pos + 1)).1 ≠ (c.toNat : Int)
   ·rw [if_pos h1] at hfm
    rw [← hfm] at h
    rw [lend h]
    exact err_more ..
   ·rw [if_neg h1] at hfm
    have h1' : (nx t (q.pos + 1)).1 = (c.toNat : Int):=Classical.not_not.1 h1
    have hp1 : q.pos + 1 < t.length:=by
     rcases Nat.lt_or_ge (q.pos + 1) t.length with hx | hx
     ·exact hx
     ·rw [nx0 hx] at h1'; omega
    rw [nx1 hA hp1] at h1'
    rw [nx2 hA hp1] at hfm
    by_cases h2 : (nx t (q.pos + 1 + 1)).1 ≠ (c.toNat : Int)
    ·rw [if_pos h2] at hfm
     rw [← hfm] at h
     rw [lend h]
     exact err_more ..
    ·exfalso
     have h2' : (nx t (q.pos + 1 + 1)).1 = (c.toNat : Int):=Classical.not_not.1 h2
     have hp2 : q.pos + 1 + 1 < t.length:=by
      rcases Nat.lt_or_ge (q.pos + 1 + 1) t.length with hx | hx
      ·exact hx
      ·rw [nx0 hx] at h2'; omega
     rw [nx1 hA hp2] at h2'
     have : begS t q.pos [c,c,c] = true:=begS_cons hp hcq (begS_cons hp1 (by omega) (begS_cons hp2 (by omega) (begS_nil (by omega))))
     rw [this] at hb
     cases hb
  exact readA_over (fail_over q) (fin_over (fail_over q) (Or.inl hE))
 rw [if_neg hb]
 have hb' : begS t q.pos [c,c,c] = true:=by simpa using hb
 obtain ⟨hp1,hc1⟩:=begS_hd (begS_tl hb')
 obtain ⟨hp2,hc2⟩:=begS_hd (begS_tl (begS_tl hb'))
 have hp3 : q.pos + 3 ≤ t.length:=by omega
 rw [nx1 hA hp1,nx2 hA hp1,nx1 hA hp2,nx2 hA hp2,if_neg (by omega),if_neg (by omega),show q.pos + 1 + 1 + 1 = q.pos + 3 by omega,crE_eol hA] at hfm
 dsimp only at hfm
 have hel:=eolN_le (t:=t) (i:=q.pos + 3) hp3
 have hst:=fm_start hA hc (fr:=q.pos + 3 + eolN t (q.pos + 3)) (n:=eolN t (q.pos + 3)) hel
 have hsp:=fun j => fnGo_spec (t:=t) (three:=[c,c,c]) (fr:=q.pos + 3 + eolN t (q.pos + 3)) (n:=eolN t (q.pos + 3)) _ (q.pos + 3 + eolN t (q.pos + 3)) j rfl
 generalize q.pos + 3 + eolN t (q.pos + 3) = fr at hfm hel hst hsp
 generalize eolN t (q.pos + 3) = n at hfm hst hsp
 cases hg : fnGo t [c,c,c] fr n fr with
 | none =>
  rw [hst.1 hg] at hfm
  rw [← hfm] at h
  have hE : Err r:=by
   rw [lend h]
   exact err_more ..
  exact readA_over (fail_over q) (fin_over (fail_over q) (Or.inl hE))
 | some o =>
  cases o with
  | none => exact readA_over (Or.inr rfl) (fin_open rfl)
  | some j =>
   rw [hst.2 j hg] at hfm
   dsimp only at hfm
   rw [crE_eol hA] at hfm
   rw [← hfm] at h
   have hbj:=(hsp j hg).2.1
   have hlj:=(begS_at hbj).1
   have hlj : j + 3 ≤ t.length:=hlj
   have hej:=eolN_le (t:=t) (i:=j + 3) hlj
   have ht18 : tp ≠ 18:=by rcases htp with e | e <;> omega
   have h' : Lexes t nd (some 42,{ d with pos:=j + 3 + eolN t (j + 3),start:=j + 3 + eolN t (j + 3),ps:=d.ps ++ emitI t tp fr j }) r:=h
   exact readA_main hA h' (R.emit (ty:=tp) (lo:=fr) (hi:=j) ht18 rfl rfl rfl rfl rfl rfl rfl rfl rfl rfl rfl rfl) rfl (Nat.le_refl _) (Nat.le_refl _) hej (fun a x y => by
    have x' : j + 3 + eolN t (j + 3) ≤ a:=x
    have y' : a < j + 3 + eolN t (j + 3):=y
    omega) hcl
theorem js_br {t : List UInt8} (hA : Asc t) : ∀ (m i : Nat) (b : Bool) (lv : Int),t.length - i = m → 1 ≤ lv → (brGo t b lv i = none → (jsGo t b lv i).1 = false) ∧ (∀ j,brGo t b lv i = some j → jsGo t b lv i = (true,j + 1)):=by
 intro m
 induction m using Nat.strongRecOn with
 | _ m ih =>
  intro i b lv hm hlv
  have eu:=brGo.eq_def t b lv i
  have ev:=jsGo.eq_def t b lv i
  rcases Nat.lt_or_ge i t.length with hi | hi
  ·rw [dif_pos hi,← chr_get hi] at eu
   rw [dif_pos hi] at ev
   unfold jsLv jsQ jsPos at ev
   rw [nx1 hA hi,nx2 hA hi] at ev
   by_cases c92 : chr t i = 92
   ·rw [if_pos c92] at eu
    rw [if_neg (show ¬ (chr t i : Int) = 123 by omega),if_neg (show ¬ (chr t i : Int) = 125 by omega),if_neg (show ¬ lv = 0 by omega),if_neg (show ¬ (chr t i : Int) = 34 by omega),if_pos (show (chr t i : Int) = 92 by omega)] at ev
    rw [eu,ev]
    rcases Nat.lt_or_ge (i + 1) t.length with hi1 | hi1
    ·rw [nx2 hA hi1]
     exact ih _ (by omega) (i + 2) b lv rfl hlv
    ·rw [nx00 hi1]
     have e1 : brGo t b lv (i + 2) = none:=by rw [brGo,dif_neg (by omega)]
     have e2 : jsGo t b lv (i + 1 + 0) = (false,i + 1 + 0):=by rw [jsGo,dif_neg (by omega)]
     rw [e1,e2]
     exact ⟨fun _ => rfl,fun j h => (by cases h)⟩
   rw [if_neg c92] at eu
   by_cases c34 : chr t i = 34
   ·rw [if_pos c34] at eu
    rw [if_neg (show ¬ (chr t i : Int) = 123 by omega),if_neg (show ¬ (chr t i : Int) = 125 by omega),if_neg (show ¬ lv = 0 by omega),if_pos (show (chr t i : Int) = 34 by omega),if_neg (show ¬ (chr t i : Int) = 92 by omega)] at ev
    rw [eu,ev]
    exact ih _ (by omega) (i + 1) (!b) lv rfl hlv
   rw [if_neg c34] at eu
   have n34 : ¬ (chr t i : Int) = 34:=by omega
   have n92 : ¬ (chr t i : Int) = 92:=by omega
   rw [if_neg n34,if_neg n92] at ev
   cases b with
   | true =>
    rw [if_pos rfl] at eu
    have hlvs : (if (chr t i : Int) = 123 then (if true = true then lv else lv + 1) else if (chr t i : Int) = 125 then (if true = true then lv else lv - 1) else lv) = lv:=by
     split
     ·rfl
     ·split <;> rfl
    rw [hlvs,if_neg (show ¬ lv = 0 by omega)] at ev
    rw [eu,ev]
    exact ih _ (by omega) (i + 1) true lv rfl hlv
   | false =>
    rw [if_neg (by simp)] at eu
    by_cases c123 : chr t i = 123
    ·rw [if_pos c123] at eu
     have hlvs : (if (chr t i : Int) = 123 then (if false = true then lv else lv + 1) else if (chr t i : Int) = 125 then (if false = true then lv else lv - 1) else lv) = lv + 1:=by
      rw [if_pos (by omega),if_neg (by simp)]
     rw [hlvs,if_neg (show ¬ lv + 1 = 0 by omega)] at ev
     rw [eu,ev]
     exact ih _ (by omega) (i + 1) false (lv + 1) rfl (by omega)
    rw [if_neg c123] at eu
    by_cases c125 : chr t i = 125
    ·rw [if_pos c125] at eu
     have hlvs : (if (chr t i : Int) = 123 then (if false = true then lv else lv + 1) else if (chr t i : Int) = 125 then (if false = true then lv else lv - 1) else lv) = lv - 1:=by
      rw [if_neg (by omega),if_pos (by omega),if_neg (by simp)]
     rw [hlvs] at ev
     by_cases h0 : lv - 1 = 0
     ·rw [if_pos h0] at eu ev
      rw [eu,ev]
      exact ⟨fun h => (by cases h),fun j h => by rw [Option.some.inj h]⟩
     ·rw [if_neg h0] at eu ev
      rw [eu,ev]
      exact ih _ (by omega) (i + 1) false (lv - 1) rfl (by omega)
    rw [if_neg c125] at eu
    have hlvs : (if (chr t i : Int) = 123 then (if false = true then lv else lv + 1) else if (chr t i : Int) = 125 then (if false = true then lv else lv - 1) else lv) = lv:=by
     rw [if_neg (by omega),if_neg (by omega)]
    rw [hlvs,if_neg (show ¬ lv = 0 by omega)] at ev
    rw [eu,ev]
    exact ih _ (by omega) (i + 1) false lv rfl hlv
  ·rw [dif_neg (by omega)] at eu ev
   rw [eu,ev]
   exact ⟨fun _ => rfl,fun j h => (by cases h)⟩
theorem js_start {t : List UInt8} (hA : Asc t) {i : Nat} (hi : i < t.length) (hc : chr t i = 123) : (brGo t false 0 i = none → (jsGo t false 0 i).1 = false) ∧ (∀ j,brGo t false 0 i = some j → jsGo t false 0 i = (true,j + 1)):=by
 have eu:=brGo.eq_def t false 0 i
 have ev:=jsGo.eq_def t false 0 i
 rw [dif_pos hi,← chr_get hi,if_neg (by omega),if_neg (by omega),if_neg (by simp),if_pos hc] at eu
 rw [dif_pos hi] at ev
 unfold jsLv jsQ jsPos at ev
 rw [nx1 hA hi,nx2 hA hi,if_pos (show (chr t i : Int) = 123 by omega),if_neg (show ¬ false = true by simp),if_neg (show ¬ (0 : Int) + 1 = 0 by omega),if_neg (show ¬ (chr t i : Int) = 34 by omega),if_neg (show ¬ (chr t i : Int) = 92 by omega)] at ev
 rw [eu,ev]
 exact js_br hA _ (i + 1) false (0 + 1) rfl (by omega)
theorem word0 (t : List UInt8) (e : Nat) : wordA t 0 e = t.take e:=by unfold wordA; simp
theorem brace_sim {t : List UInt8} {nd : Bool} {d r : D} {q : QP} (hA : Asc t) (R : Rel t nd d q) (hcl : d.clos = 0) (hst : d.start = 0) (hpos : d.pos = q.pos + 1) (hp : q.pos < t.length) (hcq : chr t q.pos = 123) (h : Lexes t nd (some 72,d) r) :
  Fin t r (readA t (q.brace t).pos (q.brace t)):=by
 have h1 : Lexes t nd (outJson t d) r:=lgo h
 unfold outJson at h1
 rw [hpos,Nat.add_sub_cancel] at h1
 have hj:=js_start hA hp hcq
 unfold QP.brace
 cases hg : brGo t false 0 q.pos with
 | none =>
  rw [hj.1 hg,if_neg (by simp)] at h1
  exact readA_over (fail_over q) (fin_over (fail_over q) (Or.inl (lbad h1)))
 | some j =>
  rw [hj.2 j hg,if_pos rfl] at h1
  dsimp only at h1
  rw [crE_eol hA] at h1
  have hb:=brGo_spec _ _ _ _ _ rfl hg
  have he:=eolN_le (t:=t) (i:=j + 1) (by omega)
  refine readA_main hA h1 (R.emit (ty:=5) (lo:=0) (hi:=j + 1 + eolN t (j + 1)) (by decide) ?_ ?_ rfl rfl rfl rfl rfl rfl rfl rfl rfl rfl) rfl (Nat.le_refl _) (Nat.le_refl _) he (fun a x y => by
    have x' : j + 1 + eolN t (j + 1) ≤ a:=x
    have y' : a < j + 1 + eolN t (j + 1):=y
    omega) hcl
  ·show d.ps ++ emitI t 5 d.start (j + 1 + eolN t (j + 1)) = _
   rw [hst]
  ·show q.rs ++ [tell 5 0 (t.take (j + 1 + eolN t (j + 1))) false] = _
   rw [word0]
theorem org_nl {t : List UInt8} (hA : Asc t) : ∀ (m p : Nat),t.length - p = m → orgGo t p = if runTo isNl t p < t.length then (if begS t (runTo isNl t p + 1) bs99 = false then runTo isNl t p + 1 else orgGo t (runTo isNl t p + 1)) else runTo isNl t p:=by
 intro m
 induction m using Nat.strongRecOn with
 | _ m ih =>
  intro p hm
  have eu:=orgGo.eq_def t p
  rcases Nat.lt_or_ge p t.length with hp | hp
  ·rw [dif_pos hp,nx1 hA hp,nx2 hA hp,pre_begS (by decide)] at eu
   by_cases c10 : chr t p = 10
   ·have hnl : isNl t[p] = true:=decide_eq_true (by rw [← chr_get hp]; exact c10)
    rw [runTo_at hp hnl,if_pos hp,eu]
    by_cases hb : begS t (p + 1) bs99 = false
    ·rw [if_pos ⟨by omega,hb⟩,if_pos hb]
    ·rw [if_neg (fun e => hb e.2),if_neg hb]
   ·have hnl : isNl t[p] = false:=decide_eq_false (by rw [← chr_get hp]; exact c10)
    rw [runTo_go hp hnl,eu,if_neg (fun e => c10 (by omega))]
    exact ih _ (by omega) (p + 1) rfl
  ·rw [dif_neg (by omega)] at eu
   rw [eu,runTo_end (by omega),if_neg (by omega)]
theorem org_kw {t : List UInt8} (hA : Asc t) : ∀ (m p : Nat),t.length - p = m → begS t p [35,43] = true → orgGo t p = kwGo t p:=by
 intro m
 induction m using Nat.strongRecOn with
 | _ m ih =>
  intro p hm hb
  have hlt:=kw_lt hb
  rw [org_nl hA _ p rfl,kwGo,dif_pos hb]
  by_cases h1 : runTo isNl t p < t.length
  ·rw [if_pos h1,if_pos h1]
   by_cases h2 : begS t (runTo isNl t p + 1) bs99 = false
   ·rw [if_pos h2,kwGo,dif_neg]
    show ¬ begS t (runTo isNl t p + 1) bs99 = true
    rw [h2]; simp
   ·rw [if_neg h2]
    exact ih _ (by omega) _ rfl (show begS t (runTo isNl t p + 1) bs99 = true by simpa using h2)
  ·rw [if_neg h1,if_neg h1,kwGo,dif_neg]
   rw [begS_end (by decide) (by omega)]
   simp
theorem front_sim {t : List UInt8} {d : Bool} {r : D} (hA : Asc t) (h : Lexes t (!d) (some 41,d0) r) : Fin t r (readA t ((qp0 d).front t).1 ((qp0 d).front t).2):=by
 have R0 : Rel t (!d) d0 (qp0 d):=by
  refine ⟨rfl,fun s => rfl,fun _ => rfl,rfl,fun e => (by cases e),?_,Or.inl rfl,rfl,rfl⟩
  cases d <;> rfl
 have hdv : (qp0 d).dv = [] ∨ (qp0 d).dv = bs103:=by cases d; exact Or.inl rfl; exact Or.inr rfl
 have h1 : Lexes t (!d) (outIntro t d0) r:=lgo h
 unfold outIntro at h1
 have hps : (qp0 d).pos = 0:=rfl
 unfold QP.front
 rw [hps]
 have hal:=runTo_le (stop:=notW) (t:=t) _ 0 rfl (Nat.zero_le _)
 have hin : ∃ O,inOut t d0.start d0.pos = O:=⟨_,rfl⟩
 obtain ⟨O,hin⟩:=hin
 rw [hin] at h1
 unfold inOut at hin
 dsimp only at hin
 have hd0s : d0.start = 0:=rfl
 have hd0p : d0.pos = 0:=rfl
 rw [hd0s,hd0p,skip_sp hA] at hin
 generalize runTo notW t 0 = a at hal hin
 have hq : ∃ q : QP,q = { qp0 d with pos:=a }:=⟨_,rfl⟩
 obtain ⟨q,hq⟩:=hq
 have hqp : q.pos = a:=by rw [hq]
 have Rq : ∀ (x s : Nat),Rel t (!d) { d0 with pos:=x,start:=s } q:=fun x s => by rw [hq]; exact R0.to R0.rs rfl rfl rfl rfl rfl rfl rfl rfl rfl rfl
 have hqd : q.dv = [] ∨ q.dv = bs103:=by rw [hq]; exact hdv
 have hqo : q.opn = false:=by rw [hq]; rfl
 rw [← hq]
 unfold QP.frontA
 rw [hqp]
 by_cases c1 : a = t.length
 ·rw [if_pos c1]
  rw [nx0 (by omega),nx00 (by omega),if_pos rfl] at hin
  rw [← hin] at h1
  have h2 : Lexes t (!d) (some 42,{ d0 with pos:=a + 0,start:=0,ps:=d0.ps ++ [] }) r:=h1
  exact readA_main hA h2 (Rq (a + 0) 0) rfl (Nat.zero_le _) (by show a + 0 ≤ q.pos; omega) (by show q.pos ≤ _; omega) (fun j x y => by
   have x' : a + 0 ≤ j:=x
   have y' : j < q.pos:=y
   omega) rfl
 rw [if_neg c1]
 have hat : a < t.length:=by omega
 rw [nx1 hA hat,nx2 hA hat,if_neg (by omega)] at hin
 by_cases c2 : chr t a = 45
 ·rw [if_pos c2]
  rw [if_neg (by omega),if_pos (by omega)] at hin
  rw [← hin] at h1
  have h2 : Lexes t (!d) (nextOf (nextV (fmOut t [45,45,45] 3 (45 : UInt8).toNat 0 (q.pos + 1)).1),{ ({ d0 with pos:=0,start:=0 } : D) with pos:=(fmOut t [45,45,45] 3 (45 : UInt8).toNat 0 (q.pos + 1)).2.1,start:=(fmOut t [45,45,45] 3 (45 : UInt8).toNat 0 (q.pos + 1)).2.2.1,ps:=d0.ps ++ (fmOut t [45,45,45] 3 (45 : UInt8).toNat 0 (q.pos + 1)).2.2.2 }) r:=by
   rw [hqp]; exact h1
  exact fence_sim hA (Or.inr rfl) (Or.inl rfl) (Rq 0 0) rfl (by omega) (by rw [hqp]; exact c2) h2
 rw [if_neg c2]
 by_cases c3 : chr t a = 43
 ·rw [if_pos c3]
  rw [if_pos (by omega)] at hin
  rw [← hin] at h1
  have h2 : Lexes t (!d) (nextOf (nextV (fmOut t [43,43,43] 4 (43 : UInt8).toNat 0 (q.pos + 1)).1),{ ({ d0 with pos:=0,start:=0 } : D) with pos:=(fmOut t [43,43,43] 4 (43 : UInt8).toNat 0 (q.pos + 1)).2.1,start:=(fmOut t [43,43,43] 4 (43 : UInt8).toNat 0 (q.pos + 1)).2.2.1,ps:=d0.ps ++ (fmOut t [43,43,43] 4 (43 : UInt8).toNat 0 (q.pos + 1)).2.2.2 }) r:=by
   rw [hqp]; exact h1
  exact fence_sim hA (Or.inl rfl) (Or.inr rfl) (Rq 0 0) rfl (by omega) (by rw [hqp]; exact c3) h2
 rw [if_neg c3]
 rw [if_neg (by omega),if_neg (by omega)] at hin
 by_cases c4 : chr t a = 123
 ·rw [if_pos c4]
  rw [if_pos (by omega)] at hin
  rw [← hin] at h1
  have h2 : Lexes t (!d) (some 72,{ d0 with pos:=a + 1,start:=0 }) r:=h1
  exact brace_sim hA (Rq (a + 1) 0) rfl rfl (by show a + 1 = q.pos + 1; omega) (by omega) (by rw [hqp]; exact c4) h2
 rw [if_neg c4]
 rw [if_neg (by omega)] at hin
 have hbr : begS t a bs120 = false:=begS_no c4
 by_cases c5 : chr t a = 35
 ·rw [if_pos (by omega)] at hin
  rw [← hin] at h1
  have h2 : Lexes t (!d) (some 73,{ d0 with pos:=a + 1,start:=0 }) r:=h1
  have h3 : Lexes t (!d) (outOrg t { d0 with pos:=a + 1,start:=0 }) r:=lgo h2
  unfold outOrg at h3
  have e1 : pre bs99 (t.drop (({ d0 with pos:=a + 1,start:=0 } : D).pos - 1)) = begS t a [35,43]:=pre_begS (by decide)
  rw [e1] at h3
  by_cases c6 : begS t a [35,43] = true
  ·rw [if_pos c6]
   rw [if_pos c6] at h3
   have e2 : orgGo t (({ d0 with pos:=a + 1,start:=0 } : D).pos - 1) = kwGo t a:=org_kw hA _ a rfl c6
   rw [e2] at h3
   have hk:=kwGo_le (t:=t) _ a rfl (by omega)
   unfold QP.kws
   rw [hqp]
   refine readA_main hA h3 ⟨?_,fun s => ?_,fun _ => ?_,?_,fun e => (by cases e),?_,Or.inr rfl,?_,?_⟩ rfl (Nat.le_refl _) (Nat.le_refl _) hk.2 (fun j x y => by
    have x' : kwGo t a ≤ j:=x
    have y' : j < kwGo t a:=y
    omega) rfl
   ·show toldL t ([] ++ emitI t 6 0 (kwGo t a)) = q.rs ++ [tell 6 0 (t.take (kwGo t a)) false]
    rw [toldL_app,told_emit (by decide),word0,hq]
    rfl
   ·rw [hq]; rfl
   ·show q.nms = []
    rw [hq]; rfl
   ·rw [hq]; rfl
   ·show (if q.dv ≠ [] then bs100 else []) = edv (!d) _
    rw [hq]
    cases d <;> rfl
   ·rw [hq]; rfl
   ·rw [hq]; rfl
  ·rw [if_neg c6]
   rw [if_neg c6] at h3
   have h4 : Lexes t (!d) (some 42,{ d0 with pos:=a,start:=0 }) r:=h3
   have hnd : begS t a q.dv = false ∨ q.dv = []:=by
    rcases hqd with e | e
    ·exact Or.inr e
    ·left; rw [e]; exact begS_no (by rw [c5]; decide)
   have hop : (q.opn || (decide (q.dv ≠ []) && begS t a q.dv)) = false:=by
    rw [hqo,Bool.false_or]
    rcases hnd with e | e
    ·rw [e,Bool.and_false]
    ·rw [e]; rfl
   rw [hop]
   refine readA_main hA h4 ((Rq a 0).to (Rq a 0).rs rfl rfl rfl rfl rfl rfl rfl rfl rfl hqo.symm) rfl (Nat.zero_le _) (by show a ≤ a + 1; omega) (by show a + 1 ≤ _; omega) (fun j x y => ?_) rfl
   have x' : a ≤ j:=x
   have y' : j < a + 1:=y
   have hj : j = a:=by omega
   subst hj
   refine ⟨hbr,fun e => ?_⟩
   rcases hnd with e2 | e2
   ·exact e2
   ·exact absurd e2 e
 ·have c6 : begS t a [35,43] = false:=begS_no c5
  rw [if_neg (by rw [c6]; simp)]
  rw [if_neg (by omega)] at hin
  rw [← hin] at h1
  have h4 : Lexes t (!d) (some 42,{ d0 with pos:=a + 1,start:=0 }) r:=h1
  cases hop : (q.opn || (decide (q.dv ≠ []) && begS t a q.dv)) with
  | true => exact readA_over (Or.inr rfl) (fin_open rfl)
  | false =>
   exact readA_main hA h4 ((Rq (a + 1) 0).to (Rq (a + 1) 0).rs rfl rfl rfl rfl rfl rfl rfl rfl rfl hqo.symm) rfl (Nat.zero_le _) (Nat.le_refl _) (by show a + 1 ≤ _; omega) (fun j x y => by
    have x' : a + 1 ≤ j:=x
    have y' : j < a + 1:=y
    omega) rfl
theorem read_sim {t : List UInt8} {f d : Bool} {r : D} (hA : Asc t) (h : Lexes t (!d) (some (st0 (!f)),d0) r) : Fin t r (readQ t f d):=by
 unfold readQ
 cases f with
 | true => exact front_sim hA h
 | false =>
  rw [if_neg (by simp)]
  have R0 : Rel t (!d) d0 (qp0 d):=by
   refine ⟨rfl,fun s => rfl,fun _ => rfl,rfl,fun e => (by cases e),?_,Or.inl rfl,rfl,rfl⟩
   cases d <;> rfl
  have h2 : Lexes t (!d) (some 42,d0) r:=h
  exact readA_main hA h2 R0 rfl (Nat.le_refl _) (Nat.le_refl _) (Nat.zero_le _) (fun j x y => by
   have y' : j < 0:=y
   omega) rfl
end Go.Wk
