/- The items' shape: the front, the main section, all. -/
import Derived.Test.YtmbencknblcocaaGreatDoorYau
namespace Go.Wk
open Go Go.RowKit Go.Proofs
set_option maxRecDepth 100000
theorem si_json {t : List UInt8} {d : D} (h : SI t 72 d) (hi : Inv t (some 72,d)) : SO t (outJson t d):=by
 have h2:=hi.pl; have h9:=hi.fr (Or.inl rfl)
 dsimp only at h2 h9
 have hj:=jsGo_spec t _ (d.pos - 1) false 0 rfl (by omega)
 unfold outJson
 generalize jsGo t false 0 (d.pos - 1) = G at hj
 obtain ⟨b,q⟩:=G
 dsimp only at *
 split
 ·rename_i hb
  have hq:=hj.2.2.1 hb
  have hc1:=crE_ge t q
  have hc2:=crE_le t hj.2.1
  generalize (crE t q).1 = q2 at *
  have k : SI t 42 { d with pos:=q2 }:=h.to h.inl rfl (Nat.le_refl _) id (fun _ => Or.inl rfl)
  exact so_some (k.em (show d.start ≤ q2 by omega) hc2 (by decide) (fun _ => ⟨k.lt rfl,Or.inl (show d.start < q2 by omega)⟩)) (by decide)
 ·have k : SI t 42 { d with pos:=q }:=h.to h.inl rfl (Nat.le_refl _) id (fun _ => Or.inl rfl)
  exact so_none (k.bad (show d.start ≤ q by omega) hj.2.1)
theorem si_org {t : List UInt8} {d : D} (h : SI t 73 d) (hi : Inv t (some 73,d)) : SO t (outOrg t d):=by
 have h2:=hi.pl; have h9:=hi.fr (Or.inr rfl)
 dsimp only at h2 h9
 have hj:=orgGo_spec t _ (d.pos - 1) rfl (by omega)
 unfold outOrg
 generalize orgGo t (d.pos - 1) = q at hj
 split
 ·have k : SI t 42 { d with pos:=q,dv:=bs100 }:=h.to h.inl rfl (Nat.le_refl _) id (fun _ => Or.inl rfl)
  exact so_some (k.em (show d.start ≤ q by omega) hj.2 (by decide) (fun _ => ⟨k.lt rfl,by show d.start < q ∨ q < t.length; omega⟩)) (by decide)
 ·exact so_some (h.to h.inl rfl (Nat.le_refl _) id (fun _ => Or.inl rfl)) (by decide)
theorem so_fm {t b3 : List UInt8} {tp dr : Int} {d : D} {p : Nat} (h : SI t 41 d) (hb : b3.length = 3) (htp : tp = 3 ∨ tp = 4) (hp : p ≤ t.length) (hs : d.start ≤ p) :
  SO t (nextOf (nextV (fmOut t b3 tp dr d.start p).1),{ d with pos:=(fmOut t b3 tp dr d.start p).2.1,start:=(fmOut t b3 tp dr d.start p).2.2.1,ps:=d.ps ++ (fmOut t b3 tp dr d.start p).2.2.2 }):=by
 have h1:=nx_le t hp
 have h2:=nx_le t h1
 have bad : ∀ s q : Nat,d.start ≤ s → s ≤ q → q ≤ t.length → SO t (none,{ d with pos:=q,start:=s,ps:=d.ps ++ [PI.bad t s q] }):=by
  intro s q a b c
  have k : SI t 144 { d with pos:=q,start:=s }:=h.to h.inl rfl a id (fun h => by cases h)
  exact so_none (k.bad b c)
 unfold fmOut
 dsimp only
 split
 ·exact bad d.start (p + (nx t p).2) (Nat.le_refl _) (by omega) h1
 ·split
  ·exact bad d.start (p + (nx t p).2 + (nx t (p + (nx t p).2)).2) (Nat.le_refl _) (by omega) h2
  ·have h3:=crE_le t h2
   have h4:=crE_ge t (p + (nx t p).2 + (nx t (p + (nx t p).2)).2)
   generalize crE t (p + (nx t p).2 + (nx t (p + (nx t p).2)).2) = C at h3 h4 ⊢
   obtain ⟨c,b⟩:=C
   dsimp only at h3 h4 ⊢
   split
   ·exact bad c t.length (by omega) h3 (Nat.le_refl _)
   ·rename_i f hf
    obtain ⟨h5,h6⟩:=fmFind_spec t b3 _ c b rfl h3 f hf
    have h7:=pre3 h6 hb
    rw [List.length_drop] at h7
    have h8:=crE_le t (show f + 3 ≤ t.length by omega)
    have h9:=crE_ge t (f + 3)
    have hlt : f < t.length:=by
     have h10 : (t.drop f).take b3.length = b3:=of_decide_eq_true h6
     have:=congrArg List.length h10
     rw [hb,List.length_take,List.length_drop] at this
     omega
    generalize (crE t (f + 3)).1 = e at h8 h9 ⊢
    have k0 : SI t 42 { d with pos:=f,start:=c }:=by
     have:=h.to (g:=42) (e:={ d with pos:=f,start:=c }) h.inl rfl (show d.start ≤ c by omega) id (fun _ => Or.inl rfl)
     exact this
    have k1 : SI t 42 (({ d with pos:=f,start:=c } : D).em t tp):=k0.em (show c ≤ f from h5) (show f ≤ t.length by omega) (by omega) (fun _ => ⟨k0.lt rfl,Or.inr hlt⟩)
    exact so_some (k1.to (e:={ d with pos:=e,start:=e,ps:=d.ps ++ emitI t tp c f }) h.inl rfl (show f ≤ e by omega) id (fun _ => Or.inl rfl)) (by decide)
theorem si_intro {t : List UInt8} {d : D} (h : SI t 41 d) (hi : Inv t (some 41,d)) : SO t (outIntro t d):=by
 have h1:=hi.sp; have h2:=hi.pl
 dsimp only at h1 h2
 have hq:=skipTo_le (stop:=notSp) (t:=t) _ _ rfl h2
 have hn:=nx_le t hq.1
 have plain : ∀ g : Nat,g ≠ 77 → SO t (nextOf (fnV g),{ d with pos:=skipTo notSp t d.pos + (nx t (skipTo notSp t d.pos)).2,start:=d.start,ps:=d.ps ++ [] }):=by
  intro g hg
  exact so_some (h.to h.inl (List.append_nil _) (Nat.le_refl _) id (fun _ => Or.inl rfl)) hg
 unfold outIntro
 generalize hI : inOut t d.start d.pos = I
 unfold inOut at hI
 dsimp only at hI
 split at hI
 ·subst hI; exact plain 42 (by decide)
 ·split at hI
  ·subst hI; exact so_fm h rfl (Or.inr rfl) hn (by omega)
  ·split at hI
   ·subst hI; exact so_fm h rfl (Or.inl rfl) hn (by omega)
   ·split at hI
    ·subst hI; exact plain 72 (by decide)
    ·split at hI
     ·subst hI; exact plain 73 (by decide)
     ·subst hI; exact plain 42 (by decide)
theorem si_main {t : List UInt8} {nd : Bool} {d : D} (h : SI t 42 d) (hi : Inv t (some 42,d)) : SO t (outMain t nd d):=by
 have h1:=hi.sp; have h2:=hi.pl
 dsimp only at h1 h2
 unfold outMain
 split
 ·rename_i hge
  exact ⟨h.to h.inl rfl (Nat.le_refl _) id (fun _ => Or.inl rfl),fun _ => by show d.pos = _; omega⟩
 rename_i hlt
 split
 ·exact ⟨h.to h.inl rfl (Nat.le_refl _) id (fun _ => Or.inl rfl),fun _ => rfl⟩
 rename_i hne
 have hmem:=minGo_pos (l:=ixs t nd d) (fun x hx => by obtain ⟨j,hj,_⟩:=ixs_mem (d:=d) hi.dv0 hx; omega) hne
 obtain ⟨j,hj,hjl,_⟩:=ixs_mem (d:=d) hi.dv0 hmem.2
 rw [hj,Int.toNat_natCast]
 have hp : d.pos + j < t.length:=by omega
 have T:=txt_spec t (d:={ d with pos:=d.pos + j }) (show d.start ≤ d.pos + j by omega)
 have kp : SI t 42 { d with pos:=d.pos + j }:=h.to h.inl rfl (Nat.le_refl _) id (fun _ => Or.inl rfl)
 have kT : SI t 42 (({ d with pos:=d.pos + j } : D).txt t):=by
  unfold D.txt
  split
  ·rename_i hgt
   exact kp.em (show d.start ≤ d.pos + j by omega) (show d.pos + j ≤ t.length by omega) (by decide) (fun _ => ⟨kp.lt rfl,Or.inl hgt⟩)
  ·exact kp
 unfold outLex
 generalize hT : ({ d with pos:=d.pos + j } : D).txt t = T1 at T kT ⊢
 obtain ⟨t1,t2,t3,t4,t5,t6,t7,t8,t9,t10⟩:=T
 dsimp only at t1 t2 t3 t4 t5 t6 t7 t8 t9 t10 ⊢
 by_cases hsc : decide (scAt t d = -1) = false ∧ isSC t (d.pos + j) = true
 ·rw [if_pos hsc]
  unfold outSc
  have hil : ¬ (T1.inl = true ∧ inlOk t T1.name T1.pos = false):=by rw [kT.inl]; simp
  rw [if_neg hil]
  exact so_some (kT.to kT.inl rfl (Nat.le_refl _) id (fun _ => Or.inl rfl)) (by decide)
 ·rw [if_neg hsc]
  by_cases hdv : nd = false ∧ decide (nextDiv t d = -1) = false ∧ pre d.dv (t.drop (d.pos + j)) = true
  ·rw [if_pos hdv]
   have h3:=pre_len hdv.2.2
   have h4':=List.length_pos_iff.2 hi.dv0
   dsimp only at h4'
   rw [List.length_drop] at h3
   have hq:=skipTo_le (stop:=notSp) (t:=t) _ _ rfl (show d.pos + j + d.dv.length ≤ t.length by omega)
   have hchk : d.chk = false:=by
    have h5:=hdv.2.1
    unfold nextDiv at h5
    cases hc : d.chk with
    | false => rfl
    | true => rw [hc] at h5; simp at h5
   unfold outDiv
   have e1 : T1.pos + T1.dv.length = d.pos + j + d.dv.length:=by rw [t1,t5]
   rw [e1]
   generalize skipTo notSp t (d.pos + j + d.dv.length) = q at hq
   obtain ⟨k1,k2,_,k4⟩:=emit_row (t:=t) (ty:=2) (lo:=T1.start) (hi:=q) (by omega) hq.1 (by decide)
   have hd0 : divs T1.ps = 0:=by
    have:=kT.div
    rw [t7,hchk] at this
    simpa using this
   refine so_some (e:=({ T1 with chk:=true,pos:=q } : D).em t 2) ⟨kT.inl,kT.row.app k1 fun p hp' q' hq' => Nat.le_trans (kT.le p hp') (k2 q' hq').1,fun p hp' => ?_,?_,fun _ p hp' => ?_⟩ (by decide)
   ·rcases List.mem_append.1 hp' with hp' | hp'
    ·exact Nat.le_trans (kT.le p hp') (show T1.start ≤ q by omega)
    ·exact (k2 p hp').2.1
   ·show divs (T1.ps ++ emitI t 2 T1.start q) ≤ 1
    rw [divs_app,hd0]
    omega
   ·rcases List.mem_append.1 hp' with hp' | hp'
    ·exact kT.lt rfl p hp'
    ·have:=(k2 p hp').2.2 (by omega); omega
  ·rw [if_neg hdv]
   exact so_some (kT.to kT.inl rfl (Nat.le_refl _) id (fun _ => Or.inl rfl)) (by decide)
structure DI (d : D) : Prop where
 ld : d.ld = 8 ∨ d.ld = 10
 rd : d.rd = 9 ∨ d.rd = 11
theorem di_step {t : List UInt8} {nd : Bool} {f : Nat} {d : D} (h : DI d) : DI (stp t nd f d).2:=by
 have same : ∀ e : D,e.ld = d.ld → e.rd = d.rd → DI e:=fun e a b => ⟨by rw [a]; exact h.ld,by rw [b]; exact h.rd⟩
 have quo : ∀ (e : D) (al : Bool) (ty : Int),e.ld = d.ld → e.rd = d.rd → DI (outQuo t e al ty).2:=by
  intro e al ty a b
  unfold outQuo
  split <;> exact same _ a b
 have raw : ∀ (e : D) (ty : Int),e.ld = d.ld → e.rd = d.rd → DI (outRaw t e ty).2:=by
  intro e ty a b
  unfold outRaw
  split <;> exact same _ a b
 have par : ∀ (e : D) (eq : Bool),e.ld = d.ld → e.rd = d.rd → DI (outParam t e eq).2:=by
  intro e eq a b
  unfold outParam
  split
  ·split
   ·exact same _ a b
   ·split
    ·exact quo _ _ _ a b
    ·exact raw _ _ a b
  ·split
   ·exact same _ a b
   ·unfold outPar2
    repeat' split
    all_goals exact same _ a b
 unfold stp
 split
 ·exact same _ rfl rfl
 ·have txt : ∀ e : D,(e.txt t).ld = e.ld ∧ (e.txt t).rd = e.rd:=by
   intro e; unfold D.txt; split <;> exact ⟨rfl,rfl⟩
  unfold outMain
  split
  ·exact same _ rfl rfl
  ·split
   ·exact same _ rfl rfl
   ·have ho : DI (outLex t nd (decide (scAt t d = -1)) (decide (nextDiv t d = -1)) { d with pos:=d.pos + (minGo (-1) (ixs t nd d)).toNat }).2:=by
     obtain ⟨a,b⟩:=txt { d with pos:=d.pos + (minGo (-1) (ixs t nd d)).toNat }
     unfold outLex
     split
     ·unfold outSc
      split
      ·exact same _ a b
      ·constructor
       ·show (if _ then (10 : Int) else 8) = 8 ∨ (if _ then (10 : Int) else 8) = 10
        split
        ·exact Or.inr rfl
        ·exact Or.inl rfl
       ·show (if _ then (11 : Int) else 9) = 9 ∨ (if _ then (11 : Int) else 9) = 11
        split
        ·exact Or.inr rfl
        ·exact Or.inl rfl
     ·split
      ·exact same _ a b
      ·exact same _ a b
    generalize outLex t nd (decide (scAt t d = -1)) (decide (nextDiv t d = -1)) { d with pos:=d.pos + (minGo (-1) (ixs t nd d)).toNat } = O at ho
    obtain ⟨o,e⟩:=O
    cases o with
    | none => exact ⟨ho.ld,ho.rd⟩
    | some g => exact ho
 ·unfold outJson; split <;> exact same _ rfl rfl
 ·unfold outOrg; split <;> exact same _ rfl rfl
 ·unfold outDone
  dsimp only
  split <;> exact same _ rfl rfl
 ·unfold outLeft; split <;> exact same _ rfl rfl
 ·unfold outComment; split <;> exact same _ rfl rfl
 ·unfold outInside
  repeat' split
  all_goals first|exact same _ rfl rfl|exact quo _ _ _ rfl rfl|exact raw _ _ rfl rfl|exact par _ _ rfl rfl
 ·exact same _ rfl rfl
 ·exact same _ rfl rfl
 ·unfold outIdent
  repeat' split
  all_goals exact same _ rfl rfl
 ·unfold outEnd
  repeat' split
  all_goals exact same _ rfl rfl
 ·exact h
theorem so_step {t : List UInt8} {nd : Bool} {f : Nat} {d : D} (hno : hasS t inlS = false) (h : SI t f d) (hi : Inv t (some f,d)) (hd : DI d) (he : f = 77 → d.pos = t.length) : SO t (stp t nd f d):=by
 have hok:=hi.ok
 simp only [okSt,List.elem_eq_mem,List.mem_cons,List.not_mem_nil,or_false,decide_eq_true_eq] at hok
 rcases hok with rfl | rfl | rfl | rfl | rfl | rfl | rfl | rfl | rfl | rfl | rfl | rfl
 ·exact si_intro h hi
 ·exact si_main h hi
 ·exact si_json h hi
 ·exact si_org h hi
 ·exact si_done h hi (he rfl)
 ·exact si_left h hi hd.ld
 ·exact si_comment h hi
 ·exact si_inside h hi
 ·exact si_right h hi hd.rd
 ·exact si_val h hi
 ·exact si_ident hno h hi
 ·exact si_end h hi
theorem fi_lex {t : List UInt8} {nd : Bool} (hno : hasS t inlS = false) {x : Option Nat × D} {r : D} (h : Lexes t nd x r) : Inv t x → DI x.2 → SO t x → FI t r.ps:=by
 induction h with
 | done d => intro _ _ h; exact h
 | step f d r _ ih => intro hi hd h; exact ih (nxt_all hi).inv (di_step hd) (so_step hno h.1 hi hd h.2)
theorem fi_all {t : List UInt8} {nf nd : Bool} {r : D} (hno : hasS t inlS = false) (h : Lexes t nd (some (st0 nf),d0) r) : FI t r.ps:=by
 refine fi_lex hno h (inv0 t nf) ⟨Or.inl rfl,Or.inl rfl⟩ ?_
 refine so_some ⟨rfl,⟨(fun p hp => by cases hp),List.Pairwise.nil⟩,(fun p hp => by cases hp),Nat.zero_le _,fun _ p hp => by cases hp⟩ (by cases nf <;> decide)
def Gd (t : List UInt8) (l : List PI) : Prop:=∀ p ∈ l,Good t p
theorem Gd.app {t : List UInt8} {a b : List PI} (h : Gd t a) (k : Gd t b) : Gd t (a ++ b):=fun p hp => (List.mem_append.1 hp).elim (h p) (k p)
theorem gd_emit {t : List UInt8} {ty : Int} {lo hi : Nat} (h1 : lo ≤ hi) (h2 : hi ≤ t.length) : Gd t (emitI t ty lo hi):=by
 have g : ∀ ty' a b,a ≤ b → b ≤ t.length → Good t (mk3 t (ty',a,b)):=fun ty' a b h1 h2 => good_of t ty' false a b false h1 h2
 unfold emitI emitL
 intro p hp
 by_cases h18 : ty = 18
 ·rw [if_pos h18] at hp
  rcases emScan_spec t lo hi h1 hi (Nat.le_refl _) (Or.inr (Or.inr trivial)) (fun i a b => absurd b (by omega)) with e | ⟨e,_⟩ | ⟨m,e,hm1,hm2,_⟩
  ·rw [e] at hp; rw [List.mem_singleton.1 hp]; exact g _ _ _ h1 h2
  ·rw [e] at hp; rw [List.mem_singleton.1 hp]; exact g _ _ _ h1 h2
  ·rw [e] at hp
   have : p = mk3 t (18,lo,m) ∨ p = mk3 t (17,m,hi):=by simpa using hp
   rcases this with rfl | rfl
   ·exact g _ _ _ (by omega) (by omega)
   ·exact g _ _ _ (by omega) h2
 ·rw [if_neg h18] at hp
  rw [List.mem_singleton.1 hp]; exact g _ _ _ h1 h2
theorem gd_em {t : List UInt8} {d : D} {ty : Int} (h : Gd t d.ps) (h1 : d.start ≤ d.pos) (h2 : d.pos ≤ t.length) : Gd t (d.em t ty).ps:=h.app (gd_emit h1 h2)
theorem gd_bad {t : List UInt8} {d : D} (h : Gd t d.ps) (h1 : d.start ≤ d.pos) (h2 : d.pos ≤ t.length) : Gd t (d.bad t).ps:=h.app fun p hp => by
 rw [List.mem_singleton.1 hp]; exact good_of t 0 true d.start d.pos false h1 h2
theorem gd_quoI {t : List UInt8} {ty : Int} {es : Bool} {lo hi : Nat} (h1 : lo ≤ hi) (h2 : hi ≤ t.length) (hty : ty = 15 ∨ ty = 16) : Gd t (quoI t ty es lo hi):=fun p hp => ((quo_row h1 h2 hty).1.mid p hp).good
theorem gd_quo {t : List UInt8} {d : D} {al : Bool} {ty : Int} (h : Gd t d.ps) (hp : d.pos ≤ t.length) (hs : d.start ≤ d.pos) (hty : ty = 15 ∨ ty = 16) : Gd t (outQuo t d al ty).2.ps:=by
 have k:=qtGo_spec t al _ d.pos false false false d.start rfl hp hs
 unfold outQuo
 generalize qtGo t al false false false d.pos d.start = G at k
 obtain ⟨kk,es,q,s⟩:=G
 obtain ⟨k1,k2,k3,k4⟩:=k
 dsimp only at *
 split
 ·exact gd_bad (d:={ d with pos:=q,start:=s }) h k3 k2
 ·exact h.app (gd_quoI k3 k2 hty)
theorem gd_raw {t : List UInt8} {d : D} {ty : Int} (h : Gd t d.ps) (h96 : (nx t d.pos).1 = 96) (hty : ty = 15 ∨ ty = 16) : Gd t (outRaw t d ty).2.ps:=by
 have hin : d.pos < t.length:=nx_pos_of (by omega)
 have hq:=skipTo_le (stop:=isTick) (t:=t) _ _ rfl (show d.pos + 1 ≤ t.length by omega)
 unfold outRaw
 generalize skipTo isTick t (d.pos + 1) = q at hq
 split
 ·exact gd_bad (d:={ d with start:=d.pos + 1,pos:=q }) h hq.2 hq.1
 ·exact h.app (gd_quoI (es:=false) hq.2 hq.1 hty)
theorem gd_param {t : List UInt8} {d : D} {eq : Bool} (h : Gd t d.ps) (hp : d.pos ≤ t.length) (hs : d.start ≤ d.pos) : Gd t (outParam t d eq).2.ps:=by
 have hn:=nx_le t hp
 have bad : Gd t (({ d with pos:=d.pos + (nx t d.pos).2 } : D).bad t).ps:=gd_bad (d:={ d with pos:=d.pos + (nx t d.pos).2 }) h (show d.start ≤ d.pos + (nx t d.pos).2 by omega) hn
 unfold outParam
 split
 ·rename_i h1
  split
  ·exact bad
  ·split
   ·exact gd_quo (d:={ d with par:=1 }) h hp hs (Or.inl rfl)
   ·rename_i h34
    exact gd_raw (d:={ d with par:=1 }) h ((h1.resolve_left h34).1) (Or.inl rfl)
 ·split
  ·exact bad
  ·have hq : d.pos ≤ parEnd t d.pos ∧ parEnd t d.pos ≤ t.length:=by
    unfold parEnd
    split
    ·have:=skipTo_le (stop:=parStop) (t:=t) _ _ rfl hn
     omega
    ·omega
   generalize parEnd t d.pos = q at hq
   generalize parEq t d.pos = ne
   have hsq : d.start ≤ q:=by omega
   unfold outPar2
   split
   ·exact gd_em (d:={ d with pos:=q,par:=if ne then 2 else 1 }) h hsq hq.2
   ·split
    ·exact gd_bad (d:={ d with pos:=q }) h hsq hq.2
    ·split
     ·exact gd_bad (d:={ d with pos:=q }) h hsq hq.2
     ·exact gd_em (d:={ d with pos:=q }) h hsq hq.2
theorem gd_step {t : List UInt8} {nd : Bool} {f : Nat} {d : D} (h : Gd t d.ps) (hi : Inv t (some f,d)) : Gd t (stp t nd f d).2.ps:=by
 have h1:=hi.sp; have h2:=hi.pl
 dsimp only at h1 h2
 have hn:=nx_le t h2
 have hok:=hi.ok
 simp only [okSt,List.elem_eq_mem,List.mem_cons,List.not_mem_nil,or_false,decide_eq_true_eq] at hok
 rcases hok with rfl | rfl | rfl | rfl | rfl | rfl | rfl | rfl | rfl | rfl | rfl | rfl
 ·-- 41
  have hq:=skipTo_le (stop:=notSp) (t:=t) _ _ rfl h2
  have hn2:=nx_le t hq.1
  have fm : ∀ (b3 : List UInt8) (tp dr : Int),b3.length = 3 → Gd t (fmOut t b3 tp dr d.start (skipTo notSp t d.pos + (nx t (skipTo notSp t d.pos)).2)).2.2.2:=by
   intro b3 tp dr hb
   have hs : d.start ≤ skipTo notSp t d.pos + (nx t (skipTo notSp t d.pos)).2:=by omega
   generalize skipTo notSp t d.pos + (nx t (skipTo notSp t d.pos)).2 = p at hn2 hs
   have m1:=nx_le t hn2
   have m2:=nx_le t m1
   have bd : ∀ s q,s ≤ q → q ≤ t.length → Gd t [PI.bad t s q]:=fun s q a b p hp => by rw [List.mem_singleton.1 hp]; exact good_of t 0 true s q false a b
   unfold fmOut
   dsimp only
   split
   ·exact bd _ _ (by omega) m1
   ·split
    ·exact bd _ _ (by omega) m2
    ·have h3:=crE_le t m2
     generalize crE t (p + (nx t p).2 + (nx t (p + (nx t p).2)).2) = C at h3 ⊢
     obtain ⟨c,b⟩:=C
     dsimp only at h3 ⊢
     split
     ·exact bd _ _ h3 (Nat.le_refl _)
     ·rename_i f hf
      obtain ⟨h5,h6⟩:=fmFind_spec t b3 _ c b rfl h3 f hf
      have h7:=pre3 h6 hb
      rw [List.length_drop] at h7
      have hlt : f ≤ t.length:=by
       have h10 : (t.drop f).take b3.length = b3:=of_decide_eq_true h6
       have:=congrArg List.length h10
       rw [hb,List.length_take,List.length_drop] at this
       omega
      exact gd_emit h5 hlt
  have nil : Gd t []:=fun p hp => by cases hp
  show Gd t (d.ps ++ (inOut t d.start d.pos).2.2.2)
  refine h.app ?_
  unfold inOut
  dsimp only
  repeat' split
  all_goals first|exact nil|exact fm _ _ _ rfl
 ·-- 42
  show Gd t (outMain t nd d).2.ps
  unfold outMain
  split
  ·exact h
  rename_i hlt
  split
  ·exact h
  rename_i hne
  have hmem:=minGo_pos (l:=ixs t nd d) (fun x hx => by obtain ⟨j,hj,_⟩:=ixs_mem (d:=d) hi.dv0 hx; omega) hne
  obtain ⟨j,hj,hjl,_⟩:=ixs_mem (d:=d) hi.dv0 hmem.2
  rw [hj,Int.toNat_natCast]
  have hp : d.pos + j < t.length:=by omega
  have T:=txt_spec t (d:={ d with pos:=d.pos + j }) (show d.start ≤ d.pos + j by omega)
  have kT : Gd t (({ d with pos:=d.pos + j } : D).txt t).ps:=by
   unfold D.txt
   split
   ·exact gd_em (d:={ d with pos:=d.pos + j }) h (show d.start ≤ d.pos + j by omega) (show d.pos + j ≤ t.length by omega)
   ·exact h
  unfold outLex
  generalize hT : ({ d with pos:=d.pos + j } : D).txt t = T1 at T kT ⊢
  obtain ⟨t1,t2,t3,t4,t5,t6,t7,t8,t9,t10⟩:=T
  dsimp only at t1 t2 t3 t4 t5 t6 t7 t8 t9 t10 ⊢
  by_cases hsc : decide (scAt t d = -1) = false ∧ isSC t (d.pos + j) = true
  ·rw [if_pos hsc]
   unfold outSc
   by_cases hil : T1.inl = true ∧ inlOk t T1.name T1.pos = false
   ·rw [if_pos hil]
    exact gd_bad kT (by omega) (by omega)
   ·rw [if_neg hil]; exact kT
  ·rw [if_neg hsc]
   by_cases hdv : nd = false ∧ decide (nextDiv t d = -1) = false ∧ pre d.dv (t.drop (d.pos + j)) = true
   ·rw [if_pos hdv]
    have h3:=pre_len hdv.2.2
    rw [List.length_drop] at h3
    have hq:=skipTo_le (stop:=notSp) (t:=t) _ _ rfl (show d.pos + j + d.dv.length ≤ t.length by omega)
    unfold outDiv
    have e1 : T1.pos + T1.dv.length = d.pos + j + d.dv.length:=by rw [t1,t5]
    rw [e1]
    exact gd_em (d:={ T1 with chk:=true,pos:=_ }) kT (show T1.start ≤ skipTo notSp t (d.pos + j + d.dv.length) by omega) hq.1
   ·rw [if_neg hdv]; exact kT
 ·-- 72
  have h9:=hi.fr (Or.inl rfl)
  dsimp only at h9
  have hj:=jsGo_spec t _ (d.pos - 1) false 0 rfl (by omega)
  show Gd t (outJson t d).2.ps
  unfold outJson
  split
  ·have hc2:=crE_le t hj.2.1
   have hc1:=crE_ge t (jsGo t false 0 (d.pos - 1)).2
   exact gd_em (d:={ d with pos:=_ }) h (show d.start ≤ (crE t (jsGo t false 0 (d.pos - 1)).2).1 by omega) hc2
  ·exact gd_bad (d:={ d with pos:=_ }) h (show d.start ≤ (jsGo t false 0 (d.pos - 1)).2 by omega) hj.2.1
 ·-- 73
  have h9:=hi.fr (Or.inr rfl)
  dsimp only at h9
  have hj:=orgGo_spec t _ (d.pos - 1) rfl (by omega)
  show Gd t (outOrg t d).2.ps
  unfold outOrg
  split
  ·exact gd_em (d:={ d with pos:=_,dv:=bs100 }) h (show d.start ≤ orgGo t (d.pos - 1) by omega) hj.2
  ·exact h
 ·show Gd t ((if d.start < d.pos then d.em t 18 else d).em t 1).ps
  split
  ·exact gd_em (gd_em h h1 h2) (Nat.le_refl _) h2
  ·exact gd_em h h1 h2
 ·have h3:=hi.lf rfl
  dsimp only at h3
  show Gd t (outLeft t d).2.ps
  unfold outLeft
  split
  ·exact h
  ·exact gd_em (d:={ d with pos:=d.pos + 3 }) h (show d.start ≤ d.pos + 3 by omega) h3
 ·show Gd t (outComment t d).2.ps
  unfold outComment
  split
  ·exact gd_bad h h1 h2
  ·rename_i hle
   obtain ⟨j,hj,hjl⟩:=(fnd_bd (x:=bs152 ++ rightD d.rd) (l:=t.drop d.pos)).resolve_left (by omega)
   rw [List.length_append,rightD_len,List.length_drop] at hjl
   have hb : bs152.length = 2:=rfl
   rw [hj,Int.toNat_natCast]
   have k1:=gd_em (ty:=18) h h1 h2
   have k2:=gd_em (ty:=18) (d:={ d.em t 18 with pos:=d.pos + j,start:=d.pos + 2 }) k1 (show d.pos + 2 ≤ d.pos + j by omega) (show d.pos + j ≤ t.length by omega)
   exact gd_em (ty:=18) (d:={ ({ d.em t 18 with pos:=d.pos + j,start:=d.pos + 2 } : D).em t 18 with pos:=d.pos + j + 5,start:=d.pos + j + 2 }) k2 (show d.pos + j + 2 ≤ d.pos + j + 5 by omega) (show d.pos + j + 5 ≤ t.length by omega)
 ·have bad : Gd t (({ d with pos:=d.pos + (nx t d.pos).2 } : D).bad t).ps:=gd_bad (d:={ d with pos:=d.pos + (nx t d.pos).2 }) h (show d.start ≤ d.pos + (nx t d.pos).2 by omega) hn
  have hq:=skipTo_le (stop:=notSp) (t:=t) _ _ rfl hn
  show Gd t (outInside t d).2.ps
  unfold outInside
  split
  ·exact h
  split
  ·exact bad
  split
  ·exact h
  split
  ·split
   ·exact gd_quo (d:={ d with pos:=_,start:=_ }) h hq.1 (Nat.le_refl _) (Or.inr rfl)
   ·split
    ·rename_i h96
     exact gd_raw (d:={ d with pos:=_,start:=_ }) h h96 (Or.inr rfl)
    ·exact h
  split
  ·split
   ·exact bad
   ·exact gd_em (d:={ d with pos:=_,clos:=d.clos + 1,inl:=false,step:=0 }) h (show d.start ≤ d.pos + (nx t d.pos).2 by omega) hn
  split
  ·split
   ·exact gd_param (d:={ d with pos:=_,start:=_ }) h hn (Nat.le_refl _)
   ·exact h
  split
  ·exact gd_param h h2 h1
  split
  ·exact h
  ·exact bad
 ·have h3:=hi.rt rfl
  dsimp only at h3
  exact gd_em (d:={ d with clos:=0,pos:=d.pos + 3 }) h (show d.start ≤ d.pos + 3 by omega) h3
 ·have hq:=skipTo_le (stop:=isSp) (t:=t) _ _ rfl h2
  exact gd_em (d:={ d with pos:=skipTo isSp t d.pos }) h (show d.start ≤ skipTo isSp t d.pos by omega) hq.1
 ·have hq:=idGo_spec t _ d.pos d.inl rfl h2
  show Gd t (outIdent t d).2.ps
  unfold outIdent
  generalize idGo t d.inl d.pos = G at hq
  obtain ⟨b,q,i⟩:=G
  have hqp : d.start ≤ q:=Nat.le_trans h1 hq.1
  have hqn : q ≤ t.length:=hq.2.1
  dsimp only
  split
  ·exact gd_bad (d:={ d with pos:=q,inl:=false }) h hqp hqn
  ·split
   ·exact gd_bad (d:={ d with pos:=q,inl:=i }) h hqp hqn
   ·exact gd_em (d:={ d with pos:=q,inl:=i,clos:=0,name:=wordA t d.start q,opn:=updB d.opn (wordA t d.start q) true,step:=d.step + 1 }) h hqp hqn
 ·show Gd t (outEnd t d).2.ps
  unfold outEnd
  split
  ·exact h
  ·split
   ·exact h
   ·exact gd_bad (d:={ d with inl:=false,pos:=_ }) h (show d.start ≤ d.pos + (nx t d.pos).2 by omega) hn
theorem gd_lex {t : List UInt8} {nd : Bool} {x : Option Nat × D} {r : D} (h : Lexes t nd x r) : Inv t x → Gd t x.2.ps → Gd t r.ps:=by
 induction h with
 | done d => intro _ h; exact h
 | step f d r _ ih => intro hi h; exact ih (nxt_all hi).inv (gd_step h hi)
theorem len_lex {t : List UInt8} {nd : Bool} {x : Option Nat × D} {r : D} (h : Lexes t nd x r) : Inv t x → r.ps.length ≤ x.2.ps.length + 6 * mu t x:=by
 induction h with
 | done d => intro _; exact Nat.le_add_right _ _
 | step f d r _ ih =>
  intro hi
  have k:=nxt_all (nd:=nd) hi
  have h1:=ih k.inv
  have h2:=k.mu
  have h3:=k.len
  dsimp only at *
  omega
theorem bad_ne (t : List UInt8) (d : D) : (d.bad t).ps ≠ []:=by
 show d.ps ++ [_] ≠ []
 simp
theorem ne_quo {t : List UInt8} {d : D} {al : Bool} {ty : Int} (h : (outQuo t d al ty).1 = none) : (outQuo t d al ty).2.ps ≠ []:=by
 unfold outQuo at h ⊢
 split
 ·exact bad_ne _ _
 ·rename_i hk; rw [if_neg hk] at h; cases h
theorem ne_raw {t : List UInt8} {d : D} {ty : Int} (h : (outRaw t d ty).1 = none) : (outRaw t d ty).2.ps ≠ []:=by
 unfold outRaw at h ⊢
 split
 ·exact bad_ne _ _
 ·rename_i hk; rw [if_neg hk] at h; cases h
theorem ne_param {t : List UInt8} {d : D} {eq : Bool} (h : (outParam t d eq).1 = none) : (outParam t d eq).2.ps ≠ []:=by
 unfold outParam outPar2 at h ⊢
 revert h
 repeat' split
 all_goals first | (intro _; exact bad_ne _ _) | (intro h; exact ne_quo h) | (intro h; exact ne_raw h) | (intro h; cases h)
theorem ne_step {t : List UInt8} {nd : Bool} {f : Nat} {d : D} (hok : okSt (some f) = true) (h : (stp t nd f d).1 = none) : (stp t nd f d).2.ps ≠ []:=by
 simp only [okSt,List.elem_eq_mem,List.mem_cons,List.not_mem_nil,or_false,decide_eq_true_eq] at hok
 revert h
 rcases hok with rfl | rfl | rfl | rfl | rfl | rfl | rfl | rfl | rfl | rfl | rfl | rfl
 ·have fm : ∀ (b3 : List UInt8) (tp dr : Int) (p : Nat),nextOf (nextV (fmOut t b3 tp dr d.start p).1) = none → d.ps ++ (fmOut t b3 tp dr d.start p).2.2.2 ≠ []:=by
   intro b3 tp dr p
   unfold fmOut
   dsimp only
   split
   ·intro _; simp
   ·split
    ·intro _; simp
    ·split
     ·intro _; simp
     ·intro h; cases h
  show nextOf (inOut t d.start d.pos).1 = none → d.ps ++ (inOut t d.start d.pos).2.2.2 ≠ []
  unfold inOut
  dsimp only
  repeat' split
  all_goals first|exact fm _ _ _ _ | (intro h; cases h)
 ·show (outMain t nd d).1 = none → _
  unfold outMain
  split
  ·intro h; cases h
  ·split
   ·intro h; cases h
   ·generalize outLex t nd (decide (scAt t d = -1)) (decide (nextDiv t d = -1)) { d with pos:=d.pos + (minGo (-1) (ixs t nd d)).toNat } = O
    obtain ⟨o,e⟩:=O
    cases o <;> (intro h; cases h)
 ·show (outJson t d).1 = none → (outJson t d).2.ps ≠ []
  unfold outJson
  split
  ·intro h; cases h
  ·intro _; exact bad_ne _ _
 ·show (outOrg t d).1 = none → _
  unfold outOrg
  split <;> (intro h; cases h)
 ·intro _
  show ((if d.start < d.pos then d.em t 18 else d).em t 1).ps ≠ []
  intro e
  have:=(em_len t (if d.start < d.pos then d.em t 18 else d) 1).2
  rw [e] at this
  simp at this
 ·show (outLeft t d).1 = none → _
  unfold outLeft
  split <;> (intro h; cases h)
 ·show (outComment t d).1 = none → (outComment t d).2.ps ≠ []
  unfold outComment
  split
  ·intro _; exact bad_ne _ _
  ·intro h; cases h
 ·show (outInside t d).1 = none → (outInside t d).2.ps ≠ []
  unfold outInside
  repeat' split
  all_goals first | (intro _; exact bad_ne _ _) | (intro h; exact ne_quo h) | (intro h; exact ne_raw h) | (intro h; exact ne_param h) | (intro h; cases h)
 ·intro h; cases h
 ·intro h; cases h
 ·show (outIdent t d).1 = none → (outIdent t d).2.ps ≠ []
  unfold outIdent
  repeat' split
  all_goals first | (intro _; exact bad_ne _ _) | (intro h; cases h)
 ·show (outEnd t d).1 = none → (outEnd t d).2.ps ≠ []
  unfold outEnd
  repeat' split
  all_goals first | (intro _; exact bad_ne _ _) | (intro h; cases h)
theorem ne_lex {t : List UInt8} {nd : Bool} {x : Option Nat × D} {r : D} (h : Lexes t nd x r) : Inv t x → (x.1 = none → x.2.ps ≠ []) → r.ps ≠ []:=by
 induction h with
 | done d => intro _ h; exact h rfl
 | step f d r _ ih => intro hi _; exact ih (nxt_all hi).inv (ne_step hi.ok)
theorem begS_take {t : List UInt8} {lo hi : Nat} (h1 : lo ≤ hi) (h2 : hi ≤ t.length) : begS t lo ((t.drop lo).take (hi - lo)) = true:=by
 unfold begS
 have hl : ((t.drop lo).take (hi - lo)).length = hi - lo:=by simp; omega
 rw [hl]
 simp
 omega
theorem sh_mid {t : List UInt8} {p : PI} {a : Nat} (h : Mid t p) (ha : a ≤ p.pos) (hl : p.pos ≤ t.length) : shBad t false a (told t p) = false:=by
 have h1:=h.ty
 have e1 : (told t p).ty = p.ty:=rfl
 have e2 : (told t p).failed = p.err:=rfl
 have e3 : (told t p).pos = p.pos:=rfl
 have e4 : (told t p).text = ptext t p:=rfl
 have e5 : (told t p).is = foldBits 0 0 (asks (told t p).ty (told t p).text):=rfl
 unfold shBad
 rw [e5,e1,e2,e3,e4,h.err]
 have b1 : begS t p.pos (ptext t p) = true ∨ p.ty = 15 ∨ p.ty = 16:=by
  by_cases h15 : p.ty = 15
  ·exact Or.inr (Or.inl h15)
  ·by_cases h16 : p.ty = 16
   ·exact Or.inr (Or.inr h16)
   ·left
    have hs:=h.seg h15 h16
    obtain ⟨g1,g2⟩:=h.good.one hs
    have hp : p.pos = p.lo:=by unfold PI.pos; rw [hs]
    have ht : ptext t p = (t.drop p.lo).take (p.hi - p.lo):=by unfold ptext; rw [hs]
    rw [hp,ht]
    exact begS_take g1 g2
 have b2 : p.ty = 17 → hasS (ptext t p) [10] = false:=by
  intro h17
  have hs:=h.seg (by omega) (by omega)
  have ht : ptext t p = (t.drop p.lo).take (p.hi - p.lo):=by unfold ptext; rw [hs]
  unfold hasS
  rw [decide_eq_false_iff_not,Classical.not_not,ht]
  rcases fnd_bd (x:=[10]) (l:=(t.drop p.lo).take (p.hi - p.lo)) with e | ⟨j,e,hj⟩
  ·exact e
  ·exfalso
   obtain ⟨_,_,h3⟩:=fnd_spec _ _ _ rfl e
   have hj' : j < p.hi - p.lo:=by rw [List.length_take] at hj; simp at hj; omega
   refine h.ind h17 (p.lo + j) (by omega) (by omega) ?_
   have h4 : (((t.drop p.lo).take (p.hi - p.lo)).drop j)[0]? = some 10:=by
    have:=congrArg (fun l : List UInt8 => l[0]?) h3
    simp only [List.length_cons,List.length_nil] at this
    rw [List.getElem?_take,if_pos (by decide)] at this
    exact this
   rw [List.getElem?_drop,List.getElem?_take,if_pos (by omega),List.getElem?_drop] at h4
   simpa using h4
 have c1 : decide (p.ty ≤ 1) = false:=by simp; omega
 have c2 : decide (p.ty = 0) = false:=by simp; omega
 have c3 : decide (p.ty = 1) = false:=by simp; omega
 have c4 : decide (p.ty < 0) = false:=by simp; omega
 have c5 : decide (p.ty > 18) = false:=by simp; omega
 have c6 : decide (p.pos < a) = false:=by simp; omega
 have c7 : decide (p.pos > t.length) = false:=by simp; omega
 rw [c1,c2,c3,c4,c5,c6,c7]
 by_cases h17 : p.ty = 17
 ·rw [b2 h17]
  rcases b1 with b | b | b <;> simp [b]
 ·rcases b1 with b | b | b <;> simp [b,h17]
theorem sh_last {t : List UInt8} {e : PI} {a : Nat} (h : (e.ty = 0 ∧ e.err = true ∧ e.segs = []) ∨ (e.ty = 1 ∧ e.err = false ∧ e.segs = [] ∧ e.lo = t.length ∧ e.hi = t.length ∧ a ≤ t.length)) : shBad t true a (told t e) = false:=by
 have e1 : (told t e).ty = e.ty:=rfl
 have e2 : (told t e).failed = e.err:=rfl
 have e3 : (told t e).pos = e.pos:=rfl
 have e4 : (told t e).text = ptext t e:=rfl
 have e5 : (told t e).is = foldBits 0 0 (asks (told t e).ty (told t e).text):=rfl
 unfold shBad
 rw [e5,e1,e2,e3,e4]
 rcases h with ⟨h1,h2,_⟩ | ⟨h1,h2,h3,h4,h5,h6⟩
 ·rw [h1,h2]; simp
 ·have hp : e.pos = t.length:=by unfold PI.pos; rw [h3]; exact h4
  have ht : ptext t e = []:=by unfold ptext; rw [h3]; simp [h4]
  rw [h1,h2,hp,ht]
  have hb : begS t t.length [] = true:=by simp [begS]
  rw [hb]
  simp
  omega
theorem shGo_fi {t : List UInt8} {e : PI} (he : (e.ty = 0 ∧ e.err = true ∧ e.segs = []) ∨ (e.ty = 1 ∧ e.err = false ∧ e.segs = [] ∧ e.lo = t.length ∧ e.hi = t.length)) :
  ∀ (ps : List PI) (d a : Nat),Row t ps → (∀ p ∈ ps,p.pos ≤ t.length) → (∀ p ∈ ps,a ≤ p.pos) → a ≤ t.length → shGo t ((ps ++ [e]).map (told t)) d a = some (d + divs ps)
 | [],d,a,_,_,_,ha => by
  have hb : shBad t true a (told t e) = false:=sh_last (by
   rcases he with h | ⟨h1,h2,h3,h4,h5⟩
   ·exact Or.inl h
   ·exact Or.inr ⟨h1,h2,h3,h4,h5,ha⟩)
  have h2 : (told t e).ty ≠ 2:=by
   show e.ty ≠ 2
   rcases he with h | h <;> omega
  show shGo t [told t e] d a = _
  unfold shGo
  simp only [List.isEmpty_nil,hb,Bool.false_eq_true,if_false,h2]
  split <;> rfl
 | p :: r,d,a,hr,hl,hm,ha => by
  have hp:=hr.mid p (List.mem_cons_self ..)
  have hpl:=hl p (List.mem_cons_self ..)
  have hb:=sh_mid hp (hm p (List.mem_cons_self ..)) hpl
  have hne : ((r ++ [e]).map (told t)).isEmpty = false:=by simp
  have h0 : (told t p).ty ≠ 0:=by show p.ty ≠ 0; have:=hp.ty; omega
  have hmono:=List.pairwise_cons.1 hr.mono
  have ih:=shGo_fi he r (if (told t p).ty = 2 then d + 1 else d) (told t p).pos ⟨fun q hq => hr.mid q (List.mem_cons_of_mem _ hq),hmono.2⟩ (fun q hq => hl q (List.mem_cons_of_mem _ hq)) (fun q hq => hmono.1 q hq) hpl
  show shGo t (told t p :: (r ++ [e]).map (told t)) d a = _
  unfold shGo
  rw [hne,hb]
  simp only [Bool.false_eq_true,if_false,h0]
  rw [ih]
  congr 1
  have hd : divs (p :: r) = (if p.ty = 2 then 1 else 0) + divs r:=by
   unfold divs
   by_cases h2 : p.ty = 2
   ·simp [h2]; omega
   ·simp [h2]
  rw [hd]
  show (if p.ty = 2 then d + 1 else d) + divs r = _
  split <;> omega
theorem pos_le {t : List UInt8} {p : PI} (h : Good t p) : p.pos ≤ t.length:=by
 unfold PI.pos
 split
 ·rename_i hs
  have:=h.one hs
  omega
 ·rename_i s r hs
  have:=h.seg s (by rw [hs]; exact List.mem_cons_self ..)
  omega
theorem shape_lex {t : List UInt8} {nf nd : Bool} {r : D} (h : Lexes t nd (some (st0 nf),d0) r) : shapeB t (r.ps.map (told t)) = true:=by
 unfold shapeB
 cases hh : hasS t inlS with
 | true =>
  rw [if_pos rfl]
  have:=ne_lex h (inv0 t nf) (fun h => by cases h)
  have:=List.length_pos_iff.2 this
  simpa using this
 | false =>
  rw [if_neg (by simp)]
  obtain ⟨ps,e,hps,hrow,hdiv,hge,he⟩:=(fi_all hh h).out
  rw [hps]
  have hk:=shGo_fi (t:=t) (e:=e) (by rcases he with h | ⟨h1,h2,h3,h4,h5,_⟩; exact Or.inl h; exact Or.inr ⟨h1,h2,h3,h4,h5⟩) ps 0 0 hrow (fun p hp => pos_le (hrow.mid p hp).good) (fun _ _ => Nat.zero_le _) (Nat.zero_le _)
  rw [hk]
  simp
  omega
theorem ptext_le {t : List UInt8} {p : PI} (h : Good t p) : (ptext t p).length ≤ t.length:=by
 unfold ptext
 split
 ·rename_i hs
  have:=h.one hs
  simp; omega
 ·rename_i ss hne
  exact h.len.2
theorem parseG_fn {B : Nat} {t : List UInt8} {f d : Bool} {ps : List PI} {w : World} (hr : Runs t (!f) (!d) ps) (hT : TabsB B w) (hB : B ≤ w.heap.size) (ht : t.length ≤ 1000000) (hn : ps.length ≤ 20000000)
  (hg : ∀ p ∈ ps,Good t p) :
  Fn PT 12 [S t,.bool f,.bool d] w (fun u w' => OwnR B w' u (ps.map (told t)) ∧ Ext w w'):=by
 refine fn_of Tryz.func12 rfl Tryz.ntmps12 rfl ?_
 repeat(first|refine C0 ?_|refine C1 ?_|refine X1 rfl rfl ?_|refine X0 rfl rfl ?_|refine C2 ?_)
 refine RE.xe (e_conv_sb rfl) rfl ?_
 rintro v w1 ⟨b,hb,hb1,hb2,e1⟩
 have hB1 : B ≤ w1.heap.size:=by have:=e1.size; omega
 repeat (refine X1 rfl rfl ?_)
 refine RE.xc en26 rfl rfl (items_fn (B:=B) (t:=t) (ps:=ps) hB1 hn ?_) ?_
 ·intro w2 e2
  obtain ⟨a,cp,rfl,hcp,hcl⟩:=hb
  have hb' : HBk b w2 (.slice a t.length cp) t:=HBk.ext ⟨a,cp,rfl,hcp,hcl⟩ e2
  have hB2 : B ≤ w2.heap.size:=by have:=e2.size; omega
  have hT2:=hT.ext hB (e1.trans e2)
  refine Fn.mono (ParseBytes_fn hr hb' (by have:=e2.size; omega) hT2 hB2 ht) ?_
  rintro u w3 ⟨it,xs,rfl,h1,h2,e3⟩
  refine ⟨it,xs,rfl,h1,h2,e3,?_⟩
  intro w4 e4 x p hp hrep
  have g:=hg p hp
  have hB4 : B ≤ w4.heap.size:=by have:=e3.size; have:=e4.size; omega
  cases hs : p.segs with
  | nil =>
   obtain ⟨g2,g3⟩:=g.one hs
   have:=val_one (B:=B) (x:=x) (by rw [hrep.sn,hs]; rfl) (hb'.ext (e3.trans e4)) (by rw [hrep.lo,hrep.hi]; exact g2) (by rw [hrep.hi]; exact g3) (hT2.ext hB2 (e3.trans e4)) hB4 ht
   have hpt : ptext t p = (t.drop p.lo).take (p.hi - p.lo):=by unfold ptext; rw [hs]
   rw [hpt,← hrep.lo,← hrep.hi]
   exact this
  | cons s r =>
   have hne : p.segs ≠ []:=by rw [hs]; simp
   have hpt : ptext t p = segText t p.segs:=by unfold ptext segText; rw [hs]
   have hl:=g.len
   rw [hpt]
   exact val_segs hrep hne (hb'.ext (e3.trans e4)) (by have:=e2.size; have:=e3.size; have:=e4.size; omega) g.seg (by omega) (by omega) (hT2.ext hB2 (e3.trans e4)) hB4 ht
 rintro u w2 ⟨h1,e2⟩
 repeat(first|refine X0 rfl rfl ?_|refine C2 ?_)
 (refine CE.ret ?_;(try dsimp only);refine ret1 rfl rfl ?_)
 exact ⟨h1,e1.trans e2⟩
theorem lex_few {t : List UInt8} {nf nd : Bool} {r : D} (ht : t.length ≤ 150000) (h : Lexes t nd (some (st0 nf),d0) r) : r.ps.length ≤ 20000000:=by
 have h1:=len_lex h (inv0 t nf)
 have h2 : mu t (some (st0 nf),d0) ≤ 16 * t.length + 20:=by
  show 16 * (t.length - 0) + rank (some (st0 nf)) ≤ _
  have : rank (some (st0 nf)) ≤ 20:=by cases nf <;> decide
  omega
 have h3 : (some (st0 nf),d0).2.ps.length = 0:=rfl
 omega
theorem parseL_fn {B : Nat} {t : List UInt8} {f d : Bool} {w : World} (hT : TabsB B w) (hB : B ≤ w.heap.size) (ht : t.length ≤ 150000) :
  ∃ r,Lexes t (!d) (some (st0 (!f)),d0) r ∧ Fn PT 12 [S t,.bool f,.bool d] w (fun u w' => OwnR B w' u (r.ps.map (told t)) ∧ Ext w w'):=by
 obtain ⟨r,hr⟩:=lexes_ex (t:=t) (nd:=!d) _ (some (st0 (!f)),d0) rfl (inv0 t (!f))
 exact ⟨r,hr,parseG_fn (runs_lex (by omega) hr) hT hB (by omega) (lex_few ht hr) (gd_lex hr (inv0 t (!f)) (fun p hp => by cases hp))⟩
end Go.Wk
