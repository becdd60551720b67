/- What stands behind a name, in both lexers. -/
import Derived.Test.YtmbencknblcocaaGreatDoorYbl
namespace Go.Wk
open Go Go.RowKit Go.Proofs
set_option maxRecDepth 100000
theorem fail_inl (p : QP) : p.fail.inl = p.inl:=by unfold QP.fail; split <;> rfl
theorem quoted_inl (t : List UInt8) (p : QP) (k : Int) : (p.quoted t k).inl = p.inl:=by
 unfold QP.quoted
 split <;> first | rfl|exact fail_inl _
theorem value_inl (t : List UInt8) (p : QP) : (p.value t).inl = p.inl:=by
 unfold QP.value
 split
 ·exact quoted_inl _ _ _
 ·unfold QP.valueK
  split <;> rfl
theorem parameter_inl (t : List UInt8) (nm po : Bool) (p : QP) : (p.parameter t nm po).2.2.inl = p.inl:=by
 unfold QP.parameter QP.parameterK
 repeat' split
 all_goals first | rfl|exact fail_inl _|exact value_inl _ _
theorem goal_over {t : List UInt8} {r : D} {q : QP} {n fr : Nat} (ho : q.over) (h : Fin t r q) : Fin t r (mainN t n fr q):=by
 rw [mainN_over ho]; exact h
theorem fin_rel {t : List UInt8} {nd : Bool} {d : D} {q : QP} {right : List UInt8} (R : Rel t nd d q) (hR : RD d right) (hp : d.pos = q.pos) (hs : d.start = d.pos) (hb : begS t q.pos right = true) :
  Rel t nd (({ d with clos:=0,pos:=d.pos + 3 }).em t d.rd) (q.fin right):=by
 have hw:=begS_word hb
 rw [hR.len] at hw
 have h18 : d.rd ≠ 18:=by rcases hR.rd with e | e <;> omega
 refine R.emit (ty:=d.rd) (lo:=q.pos) (hi:=q.pos + 3) h18 ?_ ?_ rfl rfl rfl rfl rfl rfl rfl rfl rfl rfl
 ·show d.ps ++ emitI t d.rd d.start (d.pos + 3) = _
  rw [hs,hp]
 ·show q.rs ++ [tell (if right = pct3 then 11 else 9) q.pos right false] = _
  rw [hR.kind,hw]
def Cont (t : List UInt8) (nd : Bool) (r : D) (N m0 : Nat) : Prop:=
 ∀ (d' : D) (q' : QP),Lexes t nd (some 42,d') r → Rel t nd d' q' → d'.pos = q'.pos → d'.start = q'.pos → d'.clos = 0 → q'.pos ≤ t.length → m0 < q'.pos → Fin t r (mainN t N q'.pos q')
theorem Cont.right {t : List UInt8} {nd : Bool} {r : D} {N m0 : Nat} (K : Cont t nd r N m0) {d : D} {q : QP} {right : List UInt8} (R : Rel t nd d q) (hR : RD d right) (hp : d.pos = q.pos) (hs : d.start = d.pos) (hb : begS t q.pos right = true) (hm : m0 ≤ q.pos) (h : Lexes t nd (some 144,d) r) :
  Fin t r (mainN t N (q.fin right).pos (q.fin right)):=by
 have h1:=ins_right hR (by rw [hp]; exact hb) h
 have hl:=(begS_at hb).1
 rw [hR.len] at hl
 have e1 : (q.fin right).pos = q.pos + 3:=rfl
 exact K _ _ h1 (fin_rel R hR hp hs hb) (by show d.pos + 3 = q.pos + 3; omega) (by show d.pos + 3 = q.pos + 3; omega) rfl (by omega) (by omega)
theorem par_sim {t : List UInt8} {nd : Bool} {r : D} {right : List UInt8} {inline : Bool} {N m0 : Nat} (hA : Asc t) (K : Cont t nd r N m0) : ∀ (n : Nat) (nm po ap : Bool) (d : D) (q : QP),Lexes t nd (some 144,d) r → RelP t nd right d q nm po →
  (inline = false → q.inl = []) → q.pos ≤ t.length → m0 ≤ q.pos → t.length + 1 ≤ n + q.pos → Fin t r (mainN t N (parN t right inline n nm po ap q).pos (parN t right inline n nm po ap q)):=by
 intro n
 induction n with
 | zero => intro nm po ap d q h R hi hl hm hn; omega
 | succ n ih =>
  intro nm po ap d q h R hi hl hm hn
  have hal:=runTo_le (stop:=notW) (t:=t) _ q.pos rfl hl
  have has:=runTo_stop (st:=notW) (t:=t) _ q.pos rfl
  have h1:=ins_skip hA _ d rfl R.rd R.st (by rw [R.pos]; exact hl) h
  rw [R.pos] at h1
  rw [parN,if_neg R.rel.over]
  generalize runTo notW t q.pos = a at hal has h1
  have hd1 : ∃ d1,d1 = ({ d with pos:=a,start:=a } : D):=⟨_,rfl⟩
  obtain ⟨d1,hd1⟩:=hd1
  have hq1 : ∃ q1,q1 = ({ q with pos:=a } : QP):=⟨_,rfl⟩
  obtain ⟨q1,hq1⟩:=hq1
  have R1 : RelP t nd right d1 q1 nm po:=by
   rw [hd1,hq1]
   exact ⟨R.rel.to R.rel.rs rfl rfl rfl rfl rfl rfl rfl rfl rfl rfl,⟨R.rd.eq,R.rd.rd⟩,rfl,rfl,R.step,R.clos,R.par,R.np,R.name⟩
  have hq1p : q1.pos = a:=by rw [hq1]
  have hq1i : q1.inl = q.inl:=by rw [hq1]
  have hd1p : d1.pos = a:=by rw [hd1]
  rw [← hd1] at h1
  by_cases h2 : a = t.length
  ·rw [if_pos h2,← hq1]
   exact goal_over (fail_over q1) (fin_over (fail_over q1) (Or.inl (ins_end R1.rd (by omega) h1)))
  rw [if_neg h2]
  have hat : a < t.length:=by omega
  have hwa : whiteB (t.getD a 0) = false:=by
   have:=has hat
   unfold notW at this
   simpa using this
  by_cases h3 : begS t a right = true
  ·rw [if_pos h3,← hq1]
   exact K.right R1.rel R1.rd R1.pos R1.st (by rw [hq1p]; exact h3) (by omega) h1
  rw [if_neg h3]
  have h3' : begS t a right = false:=by simpa using h3
  by_cases h4 : begS t a gt3 = true ∨ begS t a pct3 = true
  ·rw [if_pos h4,← hq1]
   have hc : chr t d1.pos = 62 ∨ chr t d1.pos = 37:=by
    rw [hd1p]
    rcases h4 with h4 | h4
    ·exact Or.inl (begS_hd h4).2
    ·exact Or.inr (begS_hd h4).2
   exact goal_over (fail_over q1) (fin_over (fail_over q1) (Or.inl (ins_other hA R1.rd (by omega) (by rw [hd1p]; exact h3') hc h1)))
  rw [if_neg h4]
  by_cases h5 : inline = true ∨ (decide (q.pos < a) || (!nm && !po && ap)) = false
  ·rw [if_pos h5]
   exact goal_over (Or.inr rfl) (fin_open rfl)
  rw [if_neg h5]
  have hinl : inline = false:=by
   cases hx : inline with
   | false => rfl
   | true => exact absurd (Or.inl hx) h5
  have hqi:=hi hinl
  by_cases h6 : begS t a [47] = true
  ·rw [if_pos h6]
   have h7:=(ins_slash hA R1.rd (by rw [hd1p]; exact h6) h1).2 R1.name
   have hml:=runTo_le (stop:=notW) (t:=t) _ (a + 1) rfl hat
   have hw47 : wordA t a (a + 1) = [47]:=begS_word h6
   have hdi : d1.inl = false:=R1.rel.noinl (by rw [hq1i]; exact hqi)
   have hd2 : ∃ d2,d2 = ({ d1 with pos:=d1.pos + 1,clos:=d1.clos + 1,inl:=false,step:=0 } : D).em t 12:=⟨_,rfl⟩
   obtain ⟨d2,hd2⟩:=hd2
   rw [← hd2] at h7
   have hd2p : d2.pos = a + 1:=by rw [hd2,← hd1p]; rfl
   have hd2R : RD d2 right:=by rw [hd2]; exact ⟨R1.rd.eq,R1.rd.rd⟩
   have h8:=ins_skip hA _ d2 rfl hd2R (by rw [hd2]; rfl) (by omega) h7
   rw [hd2p] at h8
   have R2 : Rel t nd { d2 with pos:=runTo notW t (a + 1),start:=runTo notW t (a + 1) } { q.put 12 a [47] with pos:=runTo notW t (a + 1) }:=by
    refine R1.rel.emit (ty:=12) (lo:=a) (hi:=a + 1) (by decide) ?_ ?_ (by rw [hd2]; rfl) (by rw [hd2]; rfl) (by rw [hd2]; exact hdi.symm) (by rw [hd2]; rfl) (by rw [hd2]; rfl) (by rw [hq1]) (by rw [hq1]) (by rw [hq1]) (by rw [hq1]) (by rw [hq1])
    ·show d2.ps = _
     rw [hd2]
     show d1.ps ++ emitI t 12 d1.start (d1.pos + 1) = _
     rw [R1.st,hd1p]
    ·rw [hq1,hw47]
   by_cases h9 : begS t (runTo notW t (a + 1)) right = false
   ·rw [if_pos h9]
    exact goal_over (Or.inr rfl) (fin_open rfl)
   ·rw [if_neg h9]
    exact K.right R2 ⟨hd2R.eq,hd2R.rd⟩ rfl rfl (by simpa using h9) (by show m0 ≤ runTo notW t (a + 1); omega) h8
  rw [if_neg h6]
  have h6' : begS t a [47] = false:=by simpa using h6
  by_cases h7 : chr t a = 34 ∨ chr t a = 96
  ·rw [if_pos h7]
   have hlg:=lgo h1
   have hsp : isSp (chr t a : Int) = false:=by rw [whiteC hat]; exact hwa
   have hst : stp t nd 144 d1 = outParam t d1 false:=by
    show outInside t d1 = _
    unfold outInside
    rw [R1.rd.pre,hd1p,if_neg (by rw [h3']; simp),nx1 hA hat,if_neg (by omega),if_neg (by rw [hsp]; simp),if_neg (by omega),if_neg (by omega),if_neg (by omega),if_pos ⟨R1.step,by omega⟩]
   rw [hst] at hlg
   unfold outParam at hlg
   have hcd : chr t d1.pos = chr t a:=by rw [hd1p]
   have hc7 : (chr t d1.pos : Int) = 34 ∨ ((chr t d1.pos : Int) = 96 ∧ false = false):=by
    rcases h7 with e | e
    ·exact Or.inl (by omega)
    ·exact Or.inr ⟨by omega,rfl⟩
   rw [nx1 hA (show d1.pos < t.length by omega),if_pos hc7] at hlg
   have hpar:=R1.par
   cases nm with
   | true =>
    rw [if_pos rfl,← hq1]
    have hp2 : d1.par = 2:=hpar
    rw [if_pos hp2] at hlg
    exact goal_over (loosed_over q1) (fin_over (loosed_over q1) (Or.inl (lbad hlg)))
   | false =>
    rw [if_neg (by simp),← hq1]
    have hp2 : ¬ d1.par = 2:=by
     intro e
     rw [e] at hpar
     cases po <;> simp at hpar
    rw [if_neg hp2] at hlg
    have hlg2 : Lexes t nd (if chr t q1.pos = 34 then outQuo t { d1 with par:=1 } true 15 else outRaw t { d1 with par:=1 } 15) r:=by
     rw [hq1p]
     by_cases h34 : chr t a = 34
     ·rw [if_pos (by omega)] at hlg
      rw [if_pos h34]
      exact hlg
     ·rw [if_neg (by omega)] at hlg
      rw [if_neg h34]
      exact hlg
    have R2 : Rel t nd { d1 with par:=1 } q1:=R1.rel.to R1.rel.rs rfl rfl rfl rfl rfl rfl rfl rfl rfl rfl
    rcases quoted_sim hA R2 R1.pos (by omega) (by rw [hq1p]; exact h7) hlg2 with h8 | ⟨d',h8,R8,p8,s8,m8⟩
    ·rw [parN_over h8.1]
     exact goal_over h8.1 h8.2
    ·have hg : Gw t q1 (q1.quoted t 15):=gw_quoted
     have hnov : ¬ (q1.quoted t 15).over:=R8.over
     have hf:=hg.resolve_left hnov
     have:=hf.lt; have:=hf.le
     refine ih false true false d' _ h8 ⟨R8,⟨?_,?_⟩,p8,s8,?_,?_,?_,by simp,?_⟩ (fun _ => by rw [quoted_inl,hq1i]; exact hqi) hf.le (by omega) (by omega)
     ·rw [m8.rd]; exact R1.rd.eq
     ·rw [m8.rd]; exact R1.rd.rd
     ·rw [m8.step]; exact R1.step
     ·rw [m8.clos]; exact R1.clos
     ·rw [m8.par]; rfl
     ·rw [m8.name]; exact R1.name
  rw [if_neg h7,← hq1]
  rcases parameter_sim hA R1 (by omega) (by rw [hq1p]; exact h3') (by rw [hq1p]; exact hwa) (by rw [hq1p]; exact h6') (by rw [hq1p]; exact h7) h1 with h8 | ⟨d',h8,R8⟩
  ·rw [parN_over h8.1]
   exact goal_over h8.1 h8.2
  ·have hg : Gw t q1 (q1.parameter t nm po).2.2:=gw_parameter (by omega)
   have hnov : ¬ (q1.parameter t nm po).2.2.over:=R8.rel.over
   have hf:=hg.resolve_left hnov
   have:=hf.lt; have:=hf.le
   exact ih _ _ false d' _ h8 R8 (fun _ => by rw [parameter_inl,hq1i]; exact hqi) hf.le (by omega) (by omega)
theorem begS_pre {t x y : List UInt8} {p : Nat} (h : begS t p (x ++ y) = true) : begS t p x = true:=by
 unfold begS at h ⊢
 simp only [Bool.and_eq_true,decide_eq_true_eq,List.length_append] at h
 rw [decide_eq_true (show p + x.length ≤ t.length by omega),Bool.true_and]
 refine decide_eq_true ?_
 have h2:=congrArg (List.take x.length) h.2
 rw [List.take_take,Nat.min_eq_left (by omega),List.take_left] at h2
 exact h2
theorem begS_snoc {t x : List UInt8} {p : Nat} {b : UInt8} (h : begS t p x = true) (hl : p + x.length < t.length) (hb : chr t (p + x.length) = b.toNat) : begS t p (x ++ [b]) = true:=by
 unfold begS at h ⊢
 simp only [Bool.and_eq_true,decide_eq_true_eq] at h
 rw [List.length_append,decide_eq_true (show p + (x.length + [b].length) ≤ t.length by simp; omega),Bool.true_and]
 refine decide_eq_true ?_
 show (t.drop p).take (x.length + 1) = _
 rw [List.take_add_one,h.2,List.getElem?_drop,List.getElem?_eq_getElem hl]
 rw [chr_get hl] at hb
 rw [UInt8.toNat_inj.1 hb]
 rfl
theorem has_of {t x : List UInt8} {k : Nat} (h : begS t k x = true) : hasS t x = true:=by
 unfold hasS
 refine decide_eq_true (fun e => ?_)
 have h2:=fnd_none _ 0 rfl e k (Nat.zero_le _) (begS_at h).1
 unfold begS at h
 simp only [Bool.and_eq_true,decide_eq_true_eq] at h
 exact h2 h.2
theorem begS_get {t x : List UInt8} {p : Nat} (h : begS t p x = true) {i : Nat} (hi : i < x.length) : t.getD (p + i) 0 = x.getD i 0:=by
 have:=(begS_at h).2 i hi
 rw [List.getElem?_eq_getElem hi] at this
 rw [getD_of this,getD_of (List.getElem?_eq_getElem hi)]
theorem idGo_word {t : List UInt8} (hA : Asc t) {inl : Bool} : ∀ (n p : Nat),t.length - p = n → idGo t inl p = idGo t inl (runTo notWd t p):=by
 intro n
 induction n using Nat.strongRecOn with
 | _ n ih =>
  intro p hn
  rcases Nat.lt_or_ge p t.length with hp | hp
  ·cases hs : notWd t[p] with
   | true => rw [runTo_at hp hs]
   | false =>
    rw [runTo_go hp hs,← ih _ (by omega) (p + 1) rfl]
    have e:=idGo.eq_def t inl p
    have hc : isANH (chr t p : Int) = true ∨ (chr t p : Int) = 47:=by
     unfold notWd at hs
     simp only [Bool.not_eq_false',Bool.or_eq_true,decide_eq_true_eq] at hs
     rcases hs with hs | hs
     ·left; rw [chr_get hp,isANH_b (hA.get hp)]; exact hs
     ·right; rw [chr_get hp]; omega
    rw [dif_pos hp,nx1 hA hp,nx2 hA hp,if_pos hc] at e
    exact e
  ·rw [runTo_end (by omega)]
theorem idGo_end {t : List UInt8} {inl : Bool} {p : Nat} (hp : t.length ≤ p) : idGo t inl p = (true,p,inl):=by
 rw [idGo,dif_neg (by omega)]
theorem notWd_c {t : List UInt8} (hA : Asc t) {p : Nat} (hp : p < t.length) (h : notWd (t.getD p 0) = true) : ¬ (isANH (chr t p : Int) = true ∨ (chr t p : Int) = 47):=by
 rw [getD_get hp] at h
 unfold notWd at h
 simp only [Bool.not_eq_true',Bool.or_eq_false_iff,decide_eq_false_iff_not] at h
 rw [chr_get hp,isANH_b (hA.get hp),h.1]
 rintro (e | e)
 ·cases e
 ·omega
theorem idGo_stop {t : List UInt8} (hA : Asc t) {inl : Bool} {p : Nat} (hp : p < t.length) (h : notWd (t.getD p 0) = true) (h46 : chr t p ≠ 46) : idGo t inl p = (true,p,inl):=by
 rw [idGo,dif_pos hp,nx1 hA hp,if_neg (notWd_c hA hp h),if_neg (by omega)]
theorem idGo_dot {t : List UInt8} (hA : Asc t) {inl : Bool} {p : Nat} (hp : p < t.length) (h46 : chr t p = 46) (hn : begS t p inlSp = false) : idGo t inl p = (false,p + 1,false):=by
 have h1 : pre bs174 (t.drop (p + 1)) = false:=by
  rw [pre_begS (by decide)]
  cases hb : begS t (p + 1) bs174 with
  | false => rfl
  | true =>
   have : begS t p inlSp = true:=begS_cons hp h46 hb
   rw [this] at hn
   cases hn
 rw [idGo,dif_pos hp,nx1 hA hp,nx2 hA hp,h46,if_neg (by decide +kernel),if_pos (show ((46 : Nat) : Int) = 46 from rfl),if_neg (by rw [h1]; simp)]
theorem idGo_inline {t : List UInt8} (hA : Asc t) {inl : Bool} {p : Nat} (hb : begS t p inlSp = true) : idGo t inl p = (true,p + 7,true):=by
 obtain ⟨hp,h46⟩:=begS_hd hb
 have h46 : chr t p = 46:=h46
 have hl:=(begS_at hb).1
 have hl : p + 8 ≤ t.length:=hl
 have h1 : pre bs174 (t.drop (p + 1)) = true:=by
  rw [pre_begS (by decide)]
  exact begS_tl hb
 have hw : ∀ i : Nat,i < 7 → 1 ≤ i → notWd (inlSp.getD i 0) = false:=by decide
 have hr : runTo notWd t (p + 1) = p + 7:=by
  refine runTo_uniq _ (p + 1) rfl (by omega) (by omega) (fun j a b => ?_) (Or.inr ?_)
  ·have:=begS_get hb (i:=j - p) (by show j - p < 8; omega)
   rw [show p + (j - p) = j by omega] at this
   rw [this]
   exact hw _ (by omega) (by omega)
  ·rw [begS_get hb (i:=7) (by decide)]
   decide
 rw [idGo,dif_pos hp,nx1 hA hp,nx2 hA hp,h46,if_neg (by decide +kernel),if_pos (show ((46 : Nat) : Int) = 46 from rfl),if_pos h1,idGo_word hA _ (p + 1) rfl,hr]
 have h7 : t.getD (p + 7) 0 = 32:=by rw [begS_get hb (i:=7) (by decide)]; rfl
 refine idGo_stop hA (by omega) ?_ ?_
 ·rw [h7]; decide
 ·show (t.getD (p + 7) 0).toNat ≠ 46
  rw [h7]; decide
theorem elem_snoc (l : List (List UInt8)) (w s : List UInt8) : (l ++ [w]).elem s = (if s = w then true else l.elem s):=by
 simp only [List.elem_eq_mem,List.mem_append,List.mem_singleton]
 by_cases h : s = w <;> simp [h]
theorem word_ne {t : List UInt8} {i j : Nat} (h1 : i < j) (h2 : i < t.length) : wordA t i j ≠ []:=by rw [word_cons h1 h2]; simp
theorem name_sim {t : List UInt8} {nd : Bool} {d r : D} {q : QP} {right : List UInt8} (hA : Asc t) (R : Rel t nd d q) (hR : RD d right) (hpos : d.pos = q.pos) (hst : d.start = d.pos) (hinl : q.inl = []) (hcl : d.clos = 0) (hsp : d.step = 0) (hpr : d.par = 0)
  (hp : q.pos < t.length) (hw : wordB (t.getD q.pos 0) = true) (h : Lexes t nd (some 162,d) r) :
  ((q.name t).1 = false ∧ (q.name t).2.over ∧ Fin t r (q.name t).2) ∨ ((q.name t).1 = true ∧ ∃ d',Lexes t nd (some 144,d') r ∧ RelP t nd right d' (q.name t).2 false false):=by
 have h1 : Lexes t nd (outIdent t d) r:=lgo h
 have hdi:=R.noinl hinl
 unfold outIdent at h1
 rw [hdi,hst,hpos,idGo_word hA _ q.pos rfl] at h1
 unfold QP.name
 have hw0 : notWd t[q.pos] = false:=by
  rw [getD_get hp] at hw
  unfold notWd; rw [hw]; rfl
 have hgo : runTo notWd t q.pos = runTo notWd t (q.pos + 1):=runTo_go hp hw0
 have hkl:=runTo_le (stop:=notWd) (t:=t) _ (q.pos + 1) rfl hp
 have hks:=runTo_stop (st:=notWd) (t:=t) _ (q.pos + 1) rfl
 rw [← hgo] at hkl hks
 generalize runTo notWd t q.pos = k at hkl hks h1
 unfold QP.nameK
 have c1 : ¬ (k < t.length ∧ 128 ≤ chr t k):=by have:=hA.chr k; omega
 rw [if_neg c1]
 have hclos : ¬ (0 < d.clos):=by omega
 have hparm : d.par = (if (false : Bool) = true then 2 else if (false : Bool) = true then 1 else 0):=hpr
 by_cases c2 : begS t k inlSp = true ∧ k + 7 < t.length
 ·rw [if_pos c2]
  rw [idGo_inline hA c2.1,if_neg (by simp),if_neg (fun e => hclos e.1),if_neg hclos,if_pos rfl] at h1
  refine Or.inr ⟨rfl,_,h1,⟨?_,?_,?_,?_,?_,?_,R.dv0,R.wr,R.op⟩,⟨hR.eq,hR.rd⟩,rfl,rfl,?_,rfl,hparm,by simp,?_⟩
  ·show toldL t (d.ps ++ emitI t 14 q.pos (k + 7)) = q.rs ++ [tell 14 q.pos (wordA t q.pos (k + 7)) false]
   rw [toldL_app,told_emit (by decide),R.rs]
  ·intro s
   show (if s = wordA t q.pos (k + 7) then true else d.opn s) = (q.nms ++ [wordA t q.pos (k + 7)]).elem s
   rw [elem_snoc,R.nms]
  ·intro e
   exact absurd e (word_ne (show q.pos < k + 7 by omega) hp)
  ·rfl
  ·exact fun _ => ⟨word_ne (show q.pos < k + 7 by omega) hp,has_of (begS_pre (x:=inlS) (y:=[32]) c2.1)⟩
  ·exact R.dv
  ·show 0 < d.step + 1; omega
  ·exact word_ne (show q.pos < k + 7 by omega) hp
 rw [if_neg c2]
 by_cases c3 : begS t k [46] = true
 ·rw [if_pos c3]
  obtain ⟨hk,h46⟩:=begS_one.1 c3
  have hns : begS t k inlSp = false:=by
   cases hb : begS t k inlSp with
   | false => rfl
   | true =>
    have hl:=(begS_at hb).1
    have hl : k + 8 ≤ t.length:=hl
    exact absurd ⟨hb,by omega⟩ c2
  rw [idGo_dot hA hk h46 hns,if_pos rfl] at h1
  exact Or.inl ⟨rfl,fail_over q,fin_over (fail_over q) (Or.inl (lbad h1))⟩
 rw [if_neg c3]
 by_cases c4 : k = t.length
 ·rw [if_pos c4]
  rw [idGo_end (by omega),if_neg (by simp),if_neg (fun e => hclos e.1),if_neg hclos,if_neg (by simp)] at h1
  refine Or.inl ⟨rfl,loosed_over q,fin_over (loosed_over q) (Or.inl (ins_end (right:=right) (by exact ⟨hR.eq,hR.rd⟩) ?_ h1))⟩
  show t.length ≤ k
  omega
 rw [if_neg c4]
 by_cases c5 : whiteB (t.getD k 0) = false ∧ begS t k gt3 = false ∧ begS t k pct3 = false
 ·rw [if_pos c5]
  exact Or.inl ⟨rfl,opened_over q,fin_open rfl⟩
 rw [if_neg c5]
 have hk : k < t.length:=by omega
 have h46 : chr t k ≠ 46:=fun e => c3 (begS_one.2 ⟨hk,e⟩)
 have hqk : q.pos < k:=by omega
 rw [idGo_stop hA hk (hks hk) h46,if_neg (by simp),if_neg (fun e => hclos e.1),if_neg hclos,if_neg (by simp)] at h1
 refine Or.inr ⟨rfl,_,h1,⟨?_,?_,?_,?_,?_,?_,R.dv0,R.wr,R.op⟩,⟨hR.eq,hR.rd⟩,rfl,rfl,?_,rfl,hparm,by simp,?_⟩
 ·show toldL t (d.ps ++ emitI t 13 q.pos k) = q.rs ++ [tell 13 q.pos (wordA t q.pos k) false]
  rw [toldL_app,told_emit (by decide),R.rs]
 ·intro s
  show (if s = wordA t q.pos k then true else d.opn s) = (q.nms ++ [wordA t q.pos k]).elem s
  rw [elem_snoc,R.nms]
 ·intro e
  exact absurd e (word_ne hqk hp)
 ·exact hinl
 ·intro e; cases e
 ·exact R.dv
 ·show 0 < d.step + 1; omega
 ·exact word_ne hqk hp
theorem end_skip {t : List UInt8} {nd : Bool} {r : D} {right : List UInt8} (hA : Asc t) : ∀ (n : Nat) (d : D),t.length - d.pos = n → RD d right → d.start = d.pos → d.pos ≤ t.length → Lexes t nd (some 175,d) r →
  ∃ x,Lexes t nd (some 175,{ d with pos:=runTo notW t d.pos,start:=runTo notW t d.pos,inl:=x }) r:=by
 intro n
 induction n using Nat.strongRecOn with
 | _ n ih =>
  intro d hn hR hs hl h
  have stay : ∀ (e : runTo notW t d.pos = d.pos),∃ x,Lexes t nd (some 175,{ d with pos:=runTo notW t d.pos,start:=runTo notW t d.pos,inl:=x }) r:=by
   intro e
   refine ⟨d.inl,?_⟩
   rw [e]
   have : ({ d with pos:=d.pos,start:=d.pos,inl:=d.inl } : D) = d:=eta_pos d hs
   rw [this]
   exact h
  rcases Nat.lt_or_ge d.pos t.length with hp | hp
  ·cases hw : whiteB (t.getD d.pos 0) with
   | false => exact stay (runTo_at hp (by rw [getD_get hp] at hw; unfold notW; rw [hw]; rfl))
   | true =>
    have hgo : runTo notW t d.pos = runTo notW t (d.pos + 1):=runTo_go hp (by rw [getD_get hp] at hw; unfold notW; rw [hw]; rfl)
    have hc:=white_c hw
    have h1:=lgo h
    have h2 : stp t nd 175 d = (some 175,{ d with inl:=false,pos:=d.pos + 1,start:=d.pos + 1 }):=by
     show outEnd t d = _
     unfold outEnd
     rw [hR.pre,if_neg (by rw [hR.no (by omega) (by omega)]; simp),nx1 hA hp,if_pos (by rw [whiteC hp]; exact hw),nx2 hA hp]
    rw [h2] at h1
    rw [hgo]
    exact ih _ (by show t.length - (d.pos + 1) < n; omega) { d with inl:=false,pos:=d.pos + 1,start:=d.pos + 1 } rfl ⟨hR.eq,hR.rd⟩ rfl (by show d.pos + 1 ≤ _; omega) h1
  ·exact stay (runTo_end (by omega))
theorem end_bad {t : List UInt8} {nd : Bool} {d r : D} {right : List UInt8} (hA : Asc t) (hR : RD d right) (hb : begS t d.pos right = false) (hw : d.pos < t.length → whiteB (t.getD d.pos 0) = false) (h : Lexes t nd (some 175,d) r) : Err r:=by
 have h1:=lgo h
 have h2 : stp t nd 175 d = (none,({ d with inl:=false,pos:=d.pos + (nx t d.pos).2 }).bad t):=by
  show outEnd t d = _
  unfold outEnd
  rw [hR.pre,if_neg (by rw [hb]; simp),if_neg]
  rcases Nat.lt_or_ge d.pos t.length with hp | hp
  ·rw [nx1 hA hp,whiteC hp,hw hp]; simp
  ·rw [nx0 hp]; decide
 rw [h2] at h1
 exact lbad h1
theorem end_right {t : List UInt8} {nd : Bool} {d r : D} {right : List UInt8} (hR : RD d right) (hb : begS t d.pos right = true) (h : Lexes t nd (some 175,d) r) : Lexes t nd (some 42,({ d with inl:=false,clos:=0,pos:=d.pos + 3 }).em t d.rd) r:=by
 have h1:=lgo h
 have h2 : stp t nd 175 d = (some 154,{ d with inl:=false }):=by
  show outEnd t d = _
  unfold outEnd
  rw [hR.pre,if_pos hb]
 rw [h2] at h1
 exact lgo h1
structure CP (t right : List UInt8) (q : QP) (b k : Nat) (kind : Int) : Prop where
 hb : b = runTo notW t (q.pos + 1)
 bl : b < t.length
 w : wordB (t.getD b 0) = true
 c45 : chr t b ≠ 45
 hk : (begS t (runTo notWd t b) inlS = true ∧ k = runTo notWd t b + 7 ∧ kind = 14) ∨ (begS t (runTo notWd t b) inlS = false ∧ k = runTo notWd t b ∧ kind = 13)
 bad : clBad t right (decide (kind = 14) || decide (q.inl ≠ [])) k = false
 mis : ¬ (q.inl ≠ [] ∧ q.inl ≠ wordA t b k)
theorem closing_cases (t right : List UInt8) (q : QP) : (q.closing t right).opn = true ∨ ∃ b k kind,CP t right q b k kind ∧ q.closing t right = q.closingN t right q.pos b k kind:=by
 unfold QP.closing QP.closingA
 have hb : ∃ b,b = runTo notW t (q.pos + 1):=⟨_,rfl⟩
 obtain ⟨b,hb⟩:=hb
 rw [← hb]
 by_cases h1 : t.length ≤ b ∨ wordB (t.getD b 0) = false ∨ chr t b = 45
 ·rw [if_pos h1]
  exact Or.inl rfl
 rw [if_neg h1]
 have hbl : b < t.length:=by omega
 have hw : wordB (t.getD b 0) = true:=by
  cases hx : wordB (t.getD b 0) with
  | true => rfl
  | false => exact absurd (Or.inr (Or.inl hx)) h1
 have key : ∀ (k : Nat) (kind : Int),((begS t (runTo notWd t b) inlS = true ∧ k = runTo notWd t b + 7 ∧ kind = 14) ∨ (begS t (runTo notWd t b) inlS = false ∧ k = runTo notWd t b ∧ kind = 13)) →
   (q.closingN t right q.pos b k kind).opn = true ∨ ∃ b' k' kind',CP t right q b' k' kind' ∧ q.closingN t right q.pos b k kind = q.closingN t right q.pos b' k' kind':=by
  intro k kind hk
  by_cases h2 : clBad t right (decide (kind = 14) || decide (q.inl ≠ [])) k = true
  ·left
   unfold QP.closingN
   rw [if_pos h2]
  ·by_cases h3 : q.inl ≠ [] ∧ q.inl ≠ wordA t b k
   ·left
    unfold QP.closingN
    rw [if_neg h2,if_pos h3]
   ·exact Or.inr ⟨b,k,kind,⟨hb,hbl,hw,fun e => h1 (Or.inr (Or.inr e)),hk,by simpa using h2,h3⟩,rfl⟩
 by_cases h2 : begS t (runTo notWd t b) inlS = true
 ·rw [if_pos h2]
  exact key _ _ (Or.inl ⟨h2,rfl,rfl⟩)
 ·rw [if_neg h2]
  exact key _ _ (Or.inr ⟨by simpa using h2,rfl,rfl⟩)
theorem CP.more {t right : List UInt8} {q : QP} {b k : Nat} {kind : Int} (hA : Asc t) (h : CP t right q b k kind) (hr : right = gt3 ∨ right = pct3) :
  b < k ∧ k < t.length ∧ idGo t false b = (true,k,decide (kind = 14)) ∧ (kind = 14 ∨ kind = 13) ∧ (q.inl ≠ [] → chr t k = 32):=by
 have hbl0:=h.bl
 have hb0 : notWd t[b] = false:=by
  have:=h.w
  rw [getD_get hbl0] at this
  unfold notWd; rw [this]; rfl
 have hgo : runTo notWd t b = runTo notWd t (b + 1):=runTo_go h.bl hb0
 have hkl:=runTo_le (stop:=notWd) (t:=t) _ (b + 1) rfl h.bl
 have hks:=runTo_stop (st:=notWd) (t:=t) _ (b + 1) rfl
 have hig:=idGo_word hA (inl:=false) _ b rfl
 rw [← hgo] at hkl hks
 have hk:=h.hk
 have hbad:=h.bad
 generalize runTo notWd t b = k0 at hk hkl hks hig
 unfold clBad at hbad
 simp only [Bool.or_eq_false_iff] at hbad
 obtain ⟨⟨⟨b1,b2⟩,b3⟩,b4⟩:=hbad
 have hkt : k < t.length:=by have:=of_decide_eq_false b1; omega
 rcases hk with ⟨e1,e2,e3⟩ | ⟨e1,e2,e3⟩
 ·have hc : chr t k = 32:=by
   rw [e3] at b3
   have : decide (chr t k ≠ 32) = false:=b3
   have:=of_decide_eq_false this
   omega
  have hsp : begS t k0 inlSp = true:=begS_snoc (x:=inlS) (b:=32) e1 (by show k0 + 7 < _; omega) (by show chr t (k0 + 7) = 32; rw [← e2]; exact hc)
  refine ⟨by omega,hkt,?_,Or.inl e3,fun _ => hc⟩
  rw [hig,idGo_inline hA hsp,e2,e3]
  rfl
 ·have hc46 : chr t k ≠ 46:=by
   rw [e3] at b3 b4
   by_cases hi : q.inl ≠ []
   ·rw [decide_eq_true hi] at b3
    have : decide (chr t k ≠ 32) = false:=b3
    have:=of_decide_eq_false this
    omega
   ·rw [decide_eq_false hi] at b4
    have hw : (!whiteB (t.getD k 0) && !begS t k right) = false:=b4
    intro e
    have h1 : whiteB (t.getD k 0) = false:=by
     have e2 : (t.getD k 0).toNat = 46:=e
     unfold whiteB
     rw [e2]
     rfl
    have h2 : begS t k right = false:=by
     rcases hr with hr | hr <;> (rw [hr]; exact begS_no (by rw [e]; decide))
    rw [h1,h2] at hw
    cases hw
  refine ⟨by omega,hkt,?_,Or.inr e3,fun hi => ?_⟩
  ·rw [hig,← e2,idGo_stop hA hkt (by rw [e2]; exact hks (by omega)) hc46,e3]
   rfl
  ·rw [e3,decide_eq_true hi] at b3
   have : decide (chr t k ≠ 32) = false:=b3
   have:=of_decide_eq_false this
   omega
theorem closing_sim {t : List UInt8} {nd : Bool} {d r : D} {q : QP} {right : List UInt8} {N m0 : Nat} (hA : Asc t) (K : Cont t nd r N m0) (R : Rel t nd d q) (hR : RD d right) (hpos : d.pos = q.pos) (hst : d.start = d.pos) (hcl : d.clos = 0)
  (hm : m0 ≤ q.pos) (hc : begS t q.pos [47] = true) (h : Lexes t nd (some 144,d) r) : Fin t r (mainN t N (q.closing t right).pos (q.closing t right)):=by
 rcases closing_cases t right q with ho | ⟨b,k,kind,hC,he⟩
 ·exact goal_over (Or.inr ho) (fin_open ho)
 rw [he]
 obtain ⟨hbk,hkt,hid,hkind,_⟩:=hC.more hA hR.hd
 unfold QP.closingN
 rw [if_neg (by rw [hC.bad]; simp),if_neg hC.mis]
 obtain ⟨hp,h47⟩:=begS_one.1 hc
 have hbl:=runTo_le (stop:=notW) (t:=t) _ (q.pos + 1) rfl hp
 rw [← hC.hb] at hbl
 have hw47 : wordA t q.pos (q.pos + 1) = [47]:=begS_word hc
 obtain ⟨hs1,hs2⟩:=ins_slash hA hR (by rw [hpos]; exact hc) h
 have hbad : d.name = [] → Fin t r ({ q with pos:=b } : QP).loosed:=fun e => fin_over (loosed_over _) (Or.inl (hs1 e))
 have hd2 : ∃ d2,d2 = ({ d with pos:=d.pos + 1,clos:=d.clos + 1,inl:=false,step:=0 } : D).em t 12:=⟨_,rfl⟩
 obtain ⟨d2,hd2⟩:=hd2
 rw [← hd2] at hs2
 have p2 : d2.pos = q.pos + 1:=by rw [hd2,← hpos]; rfl
 have R2 : RD d2 right:=by rw [hd2]; exact ⟨hR.eq,hR.rd⟩
 have goon : d.name ≠ [] → Lexes t nd (outIdent t { d2 with pos:=b,start:=b }) r:=by
  intro e
  have h3:=ins_skip hA _ d2 rfl R2 (by rw [hd2]; rfl) (by omega) (hs2 e)
  rw [p2,← hC.hb] at h3
  have hst2 : d2.step = 0:=by rw [hd2]; rfl
  have h4:=ins_word (d:={ d2 with pos:=b,start:=b }) (right:=right) hA ⟨R2.eq,R2.rd⟩ hC.bl hC.w hC.c45 (by show ¬ 0 < d2.step; omega) h3
  have h5:=lgo h4
  exact h5
 have hclos : (0 : Int) < d2.clos:=by rw [hd2]; show 0 < d.clos + 1; omega
 have hinl2 : d2.inl = false:=by rw [hd2]; rfl
 have hopn2 : d2.opn = d.opn:=by rw [hd2]; rfl
 have hps2 : d2.ps = d.ps ++ emitI t 12 q.pos (q.pos + 1):=by
  rw [hd2]
  show d.ps ++ emitI t 12 d.start (d.pos + 1) = _
  rw [hst,hpos]
 have out1 : outIdent t { d2 with pos:=b,start:=b } = if d2.opn (wordA t b k) = false then (none,({ d2 with pos:=k,start:=b,inl:=decide (kind = 14) } : D).bad t) else
   (some 175,({ d2 with pos:=k,start:=b,inl:=decide (kind = 14),clos:=0,name:=wordA t b k,opn:=updB d2.opn (wordA t b k) true,step:=d2.step + 1 } : D).em t (if decide (kind = 14) = true then 14 else 13)):=by
  unfold outIdent
  show (if (idGo t d2.inl b).1 = false then _ else _) = _
  rw [hinl2,hid,if_neg (by simp)]
  by_cases ho : d2.opn (wordA t b k) = false
  ·rw [if_pos ho,if_pos ⟨hclos,ho⟩]
  ·rw [if_neg ho,if_neg (fun e => ho e.2),if_pos hclos]
 by_cases hkn : q.nms.elem (wordA t b k) = false
 ·rw [if_pos hkn]
  refine goal_over (loosed_over _) ?_
  by_cases hn : d.name = []
  ·exact hbad hn
  ·have h3:=goon hn
   rw [out1,if_pos (by rw [hopn2,R.nms]; exact hkn)] at h3
   exact fin_over (loosed_over _) (Or.inl (lbad h3))
 rw [if_neg hkn]
 have hkn' : q.nms.elem (wordA t b k) = true:=by simpa using hkn
 have hn : d.name ≠ []:=by
  intro e
  rw [R.nm0 e] at hkn'
  cases hkn'
 have h3:=goon hn
 rw [out1,if_neg (by rw [hopn2,R.nms]; simpa using hkn)] at h3
 have hkd : (if decide (kind = 14) = true then 14 else 13 : Int) = kind:=by
  rcases hkind with e | e <;> (rw [e]; decide)
 rw [hkd] at h3
 have hd4 : ∃ d4,d4 = ({ d2 with pos:=k,start:=b,inl:=decide (kind = 14),clos:=0,name:=wordA t b k,opn:=updB d2.opn (wordA t b k) true,step:=d2.step + 1 } : D).em t kind:=⟨_,rfl⟩
 obtain ⟨d4,hd4⟩:=hd4
 rw [← hd4] at h3
 have p4 : d4.pos = k:=by rw [hd4]; rfl
 have R4 : RD d4 right:=by rw [hd4]; exact ⟨R2.eq,R2.rd⟩
 obtain ⟨x,h5⟩:=end_skip hA _ d4 rfl R4 (by rw [hd4]; rfl) (by omega) h3
 rw [p4] at h5
 have hml:=runTo_le (stop:=notW) (t:=t) _ k rfl (by omega)
 have hms:=runTo_stop (st:=notW) (t:=t) _ k rfl
 generalize runTo notW t k = m at hml hms h5
 by_cases h6 : begS t m right = false
 ·rw [if_pos h6]
  refine goal_over (loosed_over _) (fin_over (loosed_over _) (Or.inl (end_bad (right:=right) hA (by exact ⟨R4.eq,R4.rd⟩) h6 (fun hlt => ?_) h5)))
  have:=hms hlt
  unfold notW at this
  simpa using this
 ·rw [if_neg h6]
  have h6' : begS t m right = true:=by simpa using h6
  have h7:=end_right (right:=right) (by exact ⟨R4.eq,R4.rd⟩) h6' h5
  have hl:=(begS_at h6').1
  rw [hR.len] at hl
  have hrd4 : d4.rd = d.rd:=by rw [hd4,hd2]; rfl
  have h18 : d.rd ≠ 18:=by rcases hR.rd with e | e <;> omega
  have hk18 : kind ≠ 18:=by rcases hkind with e | e <;> omega
  have hw:=begS_word h6'
  rw [hR.len] at hw
  refine K _ _ h7 ⟨?_,?_,?_,?_,?_,?_,?_,R.wr,R.op⟩ rfl rfl rfl hl (by show m0 < m + 3; omega)
  ·show toldL t (d4.ps ++ emitI t d4.rd m (m + 3)) = ((q.rs ++ [tell 12 q.pos [47] false]) ++ [tell kind b (wordA t b k) false]) ++ [tell (if right = pct3 then 11 else 9) m right false]
   have e4 : d4.ps = d2.ps ++ emitI t kind b k:=by rw [hd4]; rfl
   rw [hrd4,toldL_app,told_emit h18,e4,toldL_app,told_emit hk18,hps2,toldL_app,told_emit (by decide),R.rs,hw47,hw,hR.kind]
  ·intro s
   show d4.opn s = q.nms.elem s
   have e4 : d4.opn = updB d2.opn (wordA t b k) true:=by rw [hd4]; rfl
   rw [e4]
   show (if s = wordA t b k then true else d2.opn s) = _
   rw [hopn2]
   by_cases hs : s = wordA t b k
   ·rw [if_pos hs,hs]; exact hkn'.symm
   ·rw [if_neg hs]; exact R.nms s
  ·intro e
   have e4 : d4.name = wordA t b k:=by rw [hd4]; rfl
   have e5 : d4.name = []:=e
   rw [e4] at e5
   exact absurd e5 (word_ne hbk hC.bl)
  ·rfl
  ·intro e; cases e
  ·show q.dv = edv nd _
   rw [R.dv]
   unfold edv
   show _ = if nd = true ∨ d4.chk = true then [] else d4.dv
   rw [hd4,hd2]
   rfl
  ·show d4.dv = _ ∨ d4.dv = _
   rw [hd4,hd2]
   exact R.dv0
theorem notW_white {b : UInt8} (h : notW b = true) : whiteB b = false:=by unfold notW at h; simpa using h
theorem getD_drop (t : List UInt8) (p j : Nat) : (t.drop p).getD j 0 = t.getD (p + j) 0:=by
 rw [List.getD_eq_getElem?_getD,List.getD_eq_getElem?_getD,List.getElem?_drop]
theorem runTo_drop {st : UInt8 → Bool} {t : List UInt8} {p : Nat} (hp : p ≤ t.length) : runTo st (t.drop p) 0 = runTo st t p - p:=by
 have hl:=runTo_le (stop:=st) (t:=t) _ p rfl hp
 have ha:=runTo_all (st:=st) (t:=t) _ p rfl
 have hs:=runTo_stop (st:=st) (t:=t) _ p rfl
 generalize runTo st t p = k at hl ha hs
 refine runTo_uniq _ 0 rfl (Nat.zero_le _) (by rw [List.length_drop]; omega) (fun j _ h => ?_) ?_
 ·rw [getD_drop]; exact ha _ (by omega) (by omega)
 ·rcases Nat.lt_or_ge k t.length with h | h
  ·right
   rw [getD_drop,show p + (k - p) = k by omega]
   exact hs h
  ·left
   rw [List.length_drop]; omega
theorem trimA_go {t : List UInt8} (hA : Asc t) : ∀ (n p : Nat),t.length - p = n → trimA (t.drop p) = trimA (t.drop (runTo notW t p)):=by
 intro n
 induction n using Nat.strongRecOn with
 | _ n ih =>
  intro p hn
  rcases Nat.lt_or_ge p t.length with hp | hp
  ·cases hs : notW t[p] with
   | true => rw [runTo_at hp hs]
   | false =>
    rw [runTo_go hp hs,← ih _ (by omega) (p + 1) rfl,List.drop_eq_getElem_cons hp]
    have h1:=hA.get hp
    have h2 : Lib.isSp t[p] = true:=by
     rw [isSpL_b]
     unfold notW at hs
     simpa using hs
    rw [trimA,if_neg (by omega),if_pos h2]
  ·rw [runTo_end (by omega)]
theorem backT_take {l : List UInt8} (hA : Asc l) {i : Nat} (hi : i < l.length) (hw : whiteB (l.getD i 0) = false) : ∀ k,i < k → ∃ k',i < k' ∧ backT l k = l.take k'
 | 0,h => by omega
 | k + 1,h => by
  have hc:=hA.chr k
  have e : (l.getD k 0).toNat = chr l k:=rfl
  rw [backT,if_neg (by omega),isSpL_b]
  cases hs : whiteB (l.getD k 0) with
  | true =>
   rw [if_pos rfl]
   refine backT_take hA hi hw k ?_
   have : ¬ i = k:=by
    intro e
    rw [e] at hw
    rw [hw] at hs
    cases hs
   omega
  | false =>
   rw [if_neg (by simp)]
   exact ⟨k + 1,by omega,by simp⟩
theorem inlOk_of {t right : List UInt8} {q : QP} {b k m : Nat} {kind : Int} (hA : Asc t) (hr : right = gt3 ∨ right = pct3) (hC : CP t right q b k kind) (ha : q.pos = runTo notW t (m + 3)) (hm : m + 3 ≤ t.length) (h47 : begS t q.pos [47] = true) (hi : q.inl ≠ [])
  (hb : begS t (runTo notW t k) right = true) : inlOk t q.inl m = true:=by
 obtain ⟨hbk,hkt,hid,hkind,h32⟩:=hC.more hA hr
 obtain ⟨hp,hc47⟩:=begS_one.1 h47
 have hc47 : chr t q.pos = 47:=hc47
 have hal:=runTo_le (stop:=notW) (t:=t) _ (m + 3) rfl hm
 rw [← ha] at hal
 have hnm : q.inl = wordA t b k:=Classical.byContradiction fun e => hC.mis ⟨hi,e⟩
 have hsl : slashAt (t.drop (m + 3)) = ((q.pos - (m + 3) : Nat) : Int):=by
  have e1 : skipTo notSp (t.drop (m + 3)) 0 = q.pos - (m + 3):=by rw [skip_sp (hA.drop _),runTo_drop hm,← ha]
  have e2 : q.pos - (m + 3) < (t.drop (m + 3)).length:=by rw [List.length_drop]; omega
  unfold slashAt
  rw [e1,if_pos]
  refine ⟨e2,?_⟩
  rw [nx1 (hA.drop _) e2]
  have : chr (t.drop (m + 3)) (q.pos - (m + 3)) = chr t q.pos:=by
   unfold chr
   rw [getD_drop,show m + 3 + (q.pos - (m + 3)) = q.pos by omega]
  rw [this,hc47]
  rfl
 unfold inlOk
 rw [hsl,decide_eq_true (show ((q.pos - (m + 3) : Nat) : Int) ≠ -1 by omega),Bool.true_and,List.drop_drop,show m + 3 + (((q.pos - (m + 3) : Nat) : Int) + 1).toNat = q.pos + 1 by omega,trimA_go hA _ (q.pos + 1) rfl,← hC.hb]
 have hbl:=hC.bl
 have hwb : whiteB (t.getD b 0) = false:=white_word _ hC.w
 have e3 : trimA (t.drop b) = backT (t.drop b) (t.drop b).length:=by
  rw [List.drop_eq_getElem_cons hbl]
  have h1:=hA.get hbl
  rw [trimA,if_neg (by omega),if_neg]
  rw [isSpL_b,← getD_get hbl,hwb]
  simp
 have hml:=runTo_le (stop:=notW) (t:=t) _ k rfl (by omega)
 have hms:=runTo_stop (st:=notW) (t:=t) _ k rfl
 have hmt : runTo notW t k < t.length:=by
  rcases hr with e | e <;> (rw [e] at hb; exact (begS_hd hb).1)
 have hkm : k < runTo notW t k:=by
  have h3 : notW t[k] = false:=by
   have : chr t k = 32:=h32 hi
   rw [chr_get hkt] at this
   unfold notW whiteB
   rw [this]
   rfl
  rw [runTo_go hkt h3]
  have:=(runTo_le (stop:=notW) (t:=t) _ (k + 1) rfl hkt).1
  omega
 obtain ⟨k',hk',e4⟩:=backT_take (hA.drop b) (i:=runTo notW t k - b) (by rw [List.length_drop]; omega) (by rw [getD_drop,show b + (runTo notW t k - b) = runTo notW t k by omega]; exact notW_white (hms hmt)) (t.drop b).length (by rw [List.length_drop]; omega)
 rw [e3,e4,hnm]
 have h32':=h32 hi
 have hw32 : wordA t b k ++ [32] = wordA t b (k + 1):=by
  rw [word_snoc (by omega) hkt]
  congr 2
  rw [chr_get hkt] at h32'
  exact (UInt8.toNat_inj.1 h32').symm
 rw [hw32]
 unfold pre
 refine decide_eq_true ?_
 have hlen : (wordA t b (k + 1)).length = k + 1 - b:=by unfold wordA; simp; omega
 rw [hlen,List.take_take,Nat.min_eq_left (by omega)]
 rfl
def scOut (t : List UInt8) (x : Option Nat × D) : Option Nat × D:=match x with | (none,e) => (some 77,{ e with pos:=t.length }) | (some f,e) => (some f,e)
theorem shortcode_sim {t : List UInt8} {nd : Bool} {d r : D} {q : QP} {N : Nat} (hA : Asc t) (K : Cont t nd r N q.pos) (R : Rel t nd d q) (hpos : d.pos = q.pos) (hst : d.start = d.pos) (hcl : d.clos = 0)
  (hb : begS t q.pos bs137 = true ∨ begS t q.pos bs124 = true) (hc1 : begS t q.pos cm1 = false) (hc2 : begS t q.pos cm2 = false) (h : Lexes t nd (scOut t (outSc t d)) r) : Fin t r (mainN t N (q.shortcode t).pos (q.shortcode t)):=by
 have hl3 : q.pos + 3 ≤ t.length:=by
  rcases hb with e | e
  ·exact (begS_at e).1
  ·exact (begS_at e).1
 have hgetc : chr t (q.pos + 2) = 37 ↔ begS t q.pos bs124 = true:=by
  rcases hb with e | e
  ·have h1 : chr t (q.pos + 2) = 60:=by
    show (t.getD (q.pos + 2) 0).toNat = 60
    rw [begS_get e (i:=2) (by decide)]; rfl
   constructor
   ·intro h2; omega
   ·intro h2
    show (t.getD (q.pos + 2) 0).toNat = 37
    rw [begS_get h2 (i:=2) (by decide)]; rfl
  ·have h1 : chr t (q.pos + 2) = 37:=by
    show (t.getD (q.pos + 2) 0).toNat = 37
    rw [begS_get e (i:=2) (by decide)]; rfl
   exact ⟨fun _ => e,fun _ => h1⟩
 have hncom : begS t (q.pos + 3) bs141 = false:=by
  cases hx : begS t (q.pos + 3) bs141 with
  | false => rfl
  | true =>
   have key : ∀ (x : List UInt8),x.length = 3 → begS t q.pos x = true → begS t q.pos (x ++ bs141) = true:=by
    intro x hx3 hx1
    have h2:=begS_snoc (x:=x) (b:=47) hx1 (by rw [hx3]; exact (begS_hd hx).1) (by rw [hx3]; exact (begS_hd hx).2)
    have h3:=begS_hd (begS_tl hx)
    have h4:=begS_snoc (x:=x ++ [47]) (b:=42) h2 (by simp [hx3]; exact h3.1) (by simp [hx3]; exact h3.2)
    rw [List.append_assoc] at h4
    exact h4
   rcases hb with e | e
   ·rw [show cm1 = bs137 ++ bs141 from rfl,key bs137 rfl e] at hc1; cases hc1
   ·rw [show cm2 = bs124 ++ bs141 from rfl,key bs124 rfl e] at hc2; cases hc2
 have hal:=runTo_le (stop:=notW) (t:=t) _ (q.pos + 3) rfl hl3
 have has:=runTo_stop (st:=notW) (t:=t) _ (q.pos + 3) rfl
 unfold QP.shortcode
 have hkd : ∃ kind : Int,kind = if chr t (q.pos + 2) = 37 then 10 else 8:=⟨_,rfl⟩
 obtain ⟨kind,hkd⟩:=hkd
 have hk18 : kind ≠ 18:=by rw [hkd]; split <;> omega
 rw [← hkd]
 have hrg : ∃ right,right = rightOf t q.pos:=⟨_,rfl⟩
 obtain ⟨right,hrg⟩:=hrg
 rw [← hrg]
 have hq1 : ∃ q1 : QP,q1 = { q.put kind q.pos (wordA t q.pos (q.pos + 3)) with pos:=runTo notW t (q.pos + 3) }:=⟨_,rfl⟩
 obtain ⟨q1,hq1⟩:=hq1
 rw [← hq1]
 have hq1p : q1.pos = runTo notW t (q.pos + 3):=by rw [hq1]
 have hq1i : q1.inl = q.inl:=by rw [hq1]
 have goon : outSc t d = (some 125,{ d with ld:=if pre bs124 (t.drop d.pos) = true then 10 else 8,rd:=if pre bs124 (t.drop d.pos) = true then 11 else 9 }) →
   ∃ d1,Lexes t nd (some 144,d1) r ∧ Rel t nd d1 q1 ∧ RD d1 right ∧ d1.pos = q1.pos ∧ d1.start = d1.pos ∧ d1.clos = 0 ∧ d1.step = 0 ∧ d1.par = 0:=by
  intro e
  rw [e] at h
  have h1:=lgo (show Lexes t nd (some 125,_) r from h)
  have hpb : pre bs124 (t.drop d.pos) = begS t q.pos bs124:=by rw [hpos]; exact pre_begS (by decide)
  have hld : (if pre bs124 (t.drop d.pos) = true then 10 else 8 : Int) = kind:=by
   rw [hkd,hpb]
   by_cases hx : begS t q.pos bs124 = true
   ·rw [if_pos hx,if_pos (hgetc.2 hx)]
   ·rw [if_neg hx,if_neg (fun e => hx (hgetc.1 e))]
  have hrd : right = rightD (if pre bs124 (t.drop d.pos) = true then 11 else 9):=by
   rw [hrg,hpb]
   unfold rightOf
   by_cases hx : begS t q.pos bs124 = true
   ·rw [if_pos hx,if_pos (hgetc.2 hx)]; rfl
   ·rw [if_neg hx,if_neg (fun e => hx (hgetc.1 e))]; rfl
  have hrd2 : (if pre bs124 (t.drop d.pos) = true then 11 else 9 : Int) = 9 ∨ (if pre bs124 (t.drop d.pos) = true then 11 else 9 : Int) = 11:=by
   split
   ·exact Or.inr rfl
   ·exact Or.inl rfl
  rw [hld] at h1
  generalize (if pre bs124 (t.drop d.pos) = true then 11 else 9 : Int) = rd at hrd hrd2 h1
  have h2 : stp t nd 125 { d with ld:=kind,rd:=rd } = (some 144,{ ({ d with ld:=kind,rd:=rd,pos:=d.pos + 3 } : D).em t kind with step:=0,par:=0 }):=by
   show outLeft t _ = _
   unfold outLeft
   rw [if_neg]
   show ¬ pre bs141 (t.drop (d.pos + 3)) = true
   rw [hpos,pre_begS (by decide),hncom]
   simp
  rw [h2] at h1
  have hd2 : ∃ d2 : D,d2 = { ({ d with ld:=kind,rd:=rd,pos:=d.pos + 3 } : D).em t kind with step:=0,par:=0 }:=⟨_,rfl⟩
  obtain ⟨d2,hd2⟩:=hd2
  rw [← hd2] at h1
  have p2 : d2.pos = q.pos + 3:=by rw [hd2,← hpos]; rfl
  have h3:=ins_skip (right:=right) hA _ d2 rfl ⟨by rw [hd2]; exact hrd,by rw [hd2]; exact hrd2⟩ (by rw [hd2]; rfl) (by omega) h1
  rw [p2,← hq1p] at h3
  refine ⟨_,h3,?_,⟨by show right = rightD d2.rd; rw [hd2]; exact hrd,by show d2.rd = 9 ∨ d2.rd = 11; rw [hd2]; exact hrd2⟩,rfl,rfl,by show d2.clos = 0; rw [hd2]; exact hcl,by show d2.step = 0; rw [hd2],by show d2.par = 0; rw [hd2]⟩
  refine R.emit (ty:=kind) (lo:=q.pos) (hi:=q.pos + 3) hk18 ?_ (by rw [hq1]) (by show d2.opn = _; rw [hd2]; rfl) (by show d2.name = _; rw [hd2]; rfl) (by show d2.inl = _; rw [hd2]; rfl) (by show d2.chk = _; rw [hd2]; rfl) (by show d2.dv = _; rw [hd2]; rfl) (by rw [hq1]) (by rw [hq1]) (by rw [hq1]) (by rw [hq1]) (by rw [hq1])
  show d2.ps = _
  rw [hd2]
  show d.ps ++ emitI t kind d.start (d.pos + 3) = _
  rw [hst,hpos]
 have hrr : right = gt3 ∨ right = pct3:=by
  rw [hrg]; unfold rightOf
  split
  ·exact Or.inr rfl
  ·exact Or.inl rfl
 have hr3 : right.length = 3:=by rcases hrr with e | e <;> (rw [e]; rfl)
 have hwr : q1.wrong = false ∧ q1.opn = false:=by rw [hq1]; exact ⟨R.wr,R.op⟩
 by_cases hinl : d.inl = true
 ·-- an inline shortcode is open
  have hqi : q.inl = d.name:=by rw [R.inl,if_pos hinl]
  have hne : q1.inl ≠ []:=by rw [hq1i,hqi]; exact (R.inlN hinl).1
  have hhas:=(R.inlN hinl).2
  by_cases ho : (q1.shortA t right).over
  ·exact goal_over ho (fin_over ho (Or.inr hhas))
  have h47 : begS t q1.pos [47] = true ∧ q1.pos ≠ t.length:=by
   refine ⟨?_,?_⟩
   ·cases hx : begS t q1.pos [47] with
    | true => rfl
    | false =>
     exfalso
     apply ho
     unfold QP.shortA
     split
     ·exact fail_over _
     rw [if_neg (by rw [hx]; simp)]
     split
     ·exact Or.inr rfl
     split
     ·exact fail_over _
     ·exact opened_over _
   ·intro e
    apply ho
    unfold QP.shortA
    rw [if_pos e]
    exact fail_over _
  have hsh : q1.shortA t right = q1.closing t right:=by
   unfold QP.shortA
   rw [if_neg h47.2,if_pos h47.1]
  rw [hsh] at ho ⊢
  have hok : inlOk t d.name d.pos = true:=by
   rcases closing_cases t right q1 with hc | ⟨b,k,kd,hC,he⟩
   ·exact absurd (Or.inr hc) ho
   ·rw [he] at ho
    have hbr : begS t (runTo notW t k) right = true:=by
     cases hx : begS t (runTo notW t k) right with
     | true => rfl
     | false =>
      exfalso
      apply ho
      unfold QP.closingN
      rw [if_neg (by rw [hC.bad]; simp),if_neg hC.mis]
      split
      ·exact loosed_over _
      ·exact loosed_over _
    have:=inlOk_of (m:=q.pos) hA hrr hC hq1p hl3 h47.1 hne hbr
    rw [hq1i,hqi] at this
    rw [hpos]
    exact this
  obtain ⟨d1,h1,R1,D1,p1,s1,c1,_,_⟩:=goon (by unfold outSc; rw [if_neg (by rw [hok]; simp)])
  exact closing_sim (m0:=q.pos) hA K R1 D1 p1 s1 c1 (by rw [hq1p]; omega) h47.1 h1
 ·have hinl' : d.inl = false:=by simpa using hinl
  have hqi : q1.inl = []:=by rw [hq1i,R.inl,if_neg hinl]
  obtain ⟨d1,h1,R1,D1,p1,s1,c1,st1,pr1⟩:=goon (by unfold outSc; rw [if_neg (fun e => hinl e.1)])
  unfold QP.shortA
  by_cases e1 : q1.pos = t.length
  ·rw [if_pos e1]
   exact goal_over (fail_over q1) (fin_over (fail_over q1) (Or.inl (ins_end D1 (by omega) h1)))
  rw [if_neg e1]
  have hq1t : q1.pos < t.length:=by omega
  by_cases e2 : begS t q1.pos [47] = true
  ·rw [if_pos e2]
   exact closing_sim (m0:=q.pos) hA K R1 D1 p1 s1 c1 (by rw [hq1p]; omega) e2 h1
  rw [if_neg e2]
  by_cases e3 : begS t q1.pos right = true
  ·rw [if_pos e3,if_neg (by rw [hqi]; simp)]
   exact K.right R1 D1 p1 s1 e3 (by rw [hq1p]; omega) h1
  rw [if_neg e3]
  by_cases e4 : wordB (t.getD q1.pos 0) = false ∨ chr t q1.pos = 45
  ·rw [if_pos e4]
   have h128 : decide (128 ≤ chr t q1.pos) = false:=decide_eq_false (by have:=hA.chr q1.pos; omega)
   rw [h128,Bool.false_or]
   by_cases e5 : begS t q1.pos gt3 = true ∨ begS t q1.pos pct3 = true
   ·have hx : (!begS t q1.pos gt3 && !begS t q1.pos pct3) = false:=by
     rcases e5 with e | e
     ·rw [e]; rfl
     ·rw [e]; simp
    rw [hx]
    have hcc : chr t d1.pos = 62 ∨ chr t d1.pos = 37:=by
     rw [p1]
     rcases e5 with e | e
     ·exact Or.inl (begS_hd e).2
     ·exact Or.inr (begS_hd e).2
    exact goal_over (fail_over _) (fin_over (fail_over _) (Or.inl (ins_other hA D1 (by omega) (by rw [p1]; simpa using e3) hcc h1)))
   ·have hx : (!begS t q1.pos gt3 && !begS t q1.pos pct3) = true:=by
     have a1 : begS t q1.pos gt3 = false:=by cases hy : begS t q1.pos gt3 with | false => rfl | true => exact absurd (Or.inl hy) e5
     have a2 : begS t q1.pos pct3 = false:=by cases hy : begS t q1.pos pct3 with | false => rfl | true => exact absurd (Or.inr hy) e5
     rw [a1,a2]; rfl
    rw [hx]
    have ho : (({ q1 with opn:=true } : QP).fail).opn = true:=by
     unfold QP.fail
     rw [if_neg (by simp)]
    exact goal_over (Or.inr ho) (fin_open ho)
  rw [if_neg e4,if_neg (by rw [hqi]; simp)]
  have hw : wordB (t.getD q1.pos 0) = true:=by
   cases hx : wordB (t.getD q1.pos 0) with
   | true => rfl
   | false => exact absurd (Or.inl hx) e4
  have h2:=ins_word hA D1 (by omega) (by rw [p1]; exact hw) (by rw [p1]; exact fun e => e4 (Or.inr e)) (by omega) h1
  rcases name_sim hA R1 D1 p1 s1 hqi c1 st1 pr1 hq1t hw h2 with ⟨n1,n2,n3⟩ | ⟨n1,d2,n2,n3⟩
  ·rw [if_neg (by rw [n1]; simp)]
   exact goal_over n2 n3
  ·rw [if_pos n1]
   have hf:=name_fwd hq1t hw n1
   have hfl:=hf.lt
   have hfe:=hf.le
   unfold QP.parameters
   exact par_sim hA K _ false false true d2 _ n2 n3 (fun e => by simpa using e) hfe (by omega) (by omega)
end Go.Wk
