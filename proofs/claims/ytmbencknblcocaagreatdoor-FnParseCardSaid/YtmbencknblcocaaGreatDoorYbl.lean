/- Texts of ASCII: the two lexers' ways of reading. -/
import Derived.Test.YtmbencknblcocaaGreatDoorYbb
import Derived.Test.YtmbencknblcocaaGreatDoorYav
import Derived.Test.YtmbencknblcocaaGreatDoorYaj
namespace Go.Wk
open Go Go.RowKit Go.Proofs
set_option maxRecDepth 100000
def Asc (t : List UInt8) : Prop:=∀ b ∈ t,b.toNat < 128
theorem asc_of {t : List UInt8} (h : asciiB t = true) : Asc t:=by
 intro b hb
 have:=of_decide_eq_true (List.all_eq_true.1 h b hb)
 omega
theorem Asc.get {t : List UInt8} (h : Asc t) {p : Nat} (hp : p < t.length) : t[p].toNat < 128:=h _ (List.getElem_mem hp)
theorem Asc.drop {t : List UInt8} (h : Asc t) (n : Nat) : Asc (t.drop n):=fun b hb => h b (List.mem_of_mem_drop hb)
theorem Asc.take {t : List UInt8} (h : Asc t) (n : Nat) : Asc (t.take n):=fun b hb => h b (List.mem_of_mem_take hb)
theorem nxA {t : List UInt8} (h : Asc t) {p : Nat} (hp : p < t.length) : nx t p = ((chr t p : Int),1):=by
 rw [chr_of (List.getElem?_eq_getElem hp)]
 exact nx_ascii (List.getElem?_eq_getElem hp) (h.get hp)
theorem nx1 {t : List UInt8} (h : Asc t) {p : Nat} (hp : p < t.length) : (nx t p).1 = (chr t p : Int):=by rw [nxA h hp]
theorem nx2 {t : List UInt8} (h : Asc t) {p : Nat} (hp : p < t.length) : (nx t p).2 = 1:=by rw [nxA h hp]
theorem nx0 {t : List UInt8} {p : Nat} (hp : t.length ≤ p) : (nx t p).1 = -1:=by rw [nx_end hp]
theorem nx00 {t : List UInt8} {p : Nat} (hp : t.length ≤ p) : (nx t p).2 = 0:=by rw [nx_end hp]
theorem chr_get {t : List UInt8} {p : Nat} (hp : p < t.length) : chr t p = t[p].toNat:=chr_of (List.getElem?_eq_getElem hp)
theorem getD_get {t : List UInt8} {p : Nat} (hp : p < t.length) : t.getD p 0 = t[p]:=getD_of (List.getElem?_eq_getElem hp)
theorem chr_none {t : List UInt8} {p : Nat} (hp : t.length ≤ p) : chr t p = 0:=by
 unfold chr
 rw [List.getD_eq_getElem?_getD,List.getElem?_eq_none hp]
 rfl
theorem Asc.chr {t : List UInt8} (h : Asc t) (p : Nat) : chr t p < 128:=by
 rcases Nat.lt_or_ge p t.length with hp | hp
 ·rw [chr_get hp]; exact h.get hp
 ·rw [chr_none hp]; omega
theorem byteAll {P : UInt8 → Prop} (h : ∀ i : Fin 256,P (UInt8.ofNat i.val)) (b : UInt8) : P b:=by
 have:=h ⟨b.toNat,b.toNat_lt⟩
 rwa [show UInt8.ofNat (⟨b.toNat,b.toNat_lt⟩ : Fin 256).val = b from UInt8.ofNat_toNat] at this
theorem isSp_b (b : UInt8) : isSp (b.toNat : Int) = whiteB b:=byteAll (P:=fun b => isSp (b.toNat : Int) = whiteB b) (by decide +kernel) b
theorem isSpL_b (b : UInt8) : Lib.isSp b = whiteB b:=byteAll (P:=fun b => Lib.isSp b = whiteB b) (by decide +kernel) b
theorem isANH_b {b : UInt8} (h : b.toNat < 128) : isANH (b.toNat : Int) = wordB b:=byteAll (P:=fun b => b.toNat < 128 → isANH (b.toNat : Int) = wordB b) (by decide +kernel) b h
theorem isAN_b {b : UInt8} (h : b.toNat < 128) : isAN (b.toNat : Int) = (wordB b && decide (b.toNat ≠ 45)):=byteAll (P:=fun b => b.toNat < 128 → isAN (b.toNat : Int) = (wordB b && decide (b.toNat ≠ 45))) (by decide +kernel) b h
theorem parStop_b {b : UInt8} (h : b.toNat < 128) : parStop (b.toNat : Int) = notPar b:=byteAll (P:=fun b => b.toNat < 128 → parStop (b.toNat : Int) = notPar b) (by decide +kernel) b h
theorem parC_b {b : UInt8} (h : b.toNat < 128) : parC (b.toNat : Int) = !notPar b:=byteAll (P:=fun b => b.toNat < 128 → parC (b.toNat : Int) = !notPar b) (by decide +kernel) b h
theorem white_word (b : UInt8) (h : wordB b = true) : whiteB b = false:=byteAll (P:=fun b => wordB b = true → whiteB b = false) (by decide +kernel) b h
theorem skip_run {t : List UInt8} (h : Asc t) {stop : Int → Bool} {st : UInt8 → Bool} (hs : ∀ b : UInt8,b.toNat < 128 → stop (b.toNat : Int) = st b) : ∀ (n p : Nat),t.length - p = n → skipTo stop t p = runTo st t p:=by
 intro n
 induction n using Nat.strongRecOn with
 | _ n ih =>
  intro p hn
  rcases Nat.lt_or_ge p t.length with hp | hp
  ·have h1:=nxA h hp
   have h2:=hs t[p] (h.get hp)
   rw [chr_get hp] at h1
   cases hst : st t[p] with
   | true =>
    rw [hst] at h2
    rw [runTo_at hp hst,skipTo_stop (Or.inr (by rw [h1]; exact h2))]
   | false =>
    rw [hst] at h2
    rw [runTo_go hp hst,skipTo_go hp (by rw [h1]; exact h2),h1]
    exact ih _ (by omega) (p + 1) rfl
  ·rw [runTo_end (by omega),skipTo_stop (Or.inl hp)]
theorem skip_sp {t : List UInt8} (h : Asc t) (p : Nat) : skipTo notSp t p = runTo notW t p:=skip_run h (fun b _ => by unfold notSp notW; rw [isSp_b]) _ p rfl
theorem skip_par {t : List UInt8} (h : Asc t) (p : Nat) : skipTo parStop t p = runTo notPar t p:=skip_run h (fun _ hb => parStop_b hb) _ p rfl
theorem skip_isSp {t : List UInt8} (h : Asc t) (p : Nat) : skipTo isSp t p = runTo whiteB t p:=skip_run h (fun b _ => isSp_b b) _ p rfl
def tickB (b : UInt8) : Bool:=decide (b.toNat = 96)
theorem skip_tick {t : List UInt8} (h : Asc t) (p : Nat) : skipTo isTick t p = runTo tickB t p:=skip_run h (fun b _ => by unfold isTick tickB; exact decide_eq_decide.2 (by omega)) _ p rfl
theorem runTo_stop {st : UInt8 → Bool} {t : List UInt8} : ∀ (n p : Nat),t.length - p = n → runTo st t p < t.length → st (t.getD (runTo st t p) 0) = true:=by
 intro n
 induction n using Nat.strongRecOn with
 | _ n ih =>
  intro p hn hlt
  rcases Nat.lt_or_ge p t.length with hp | hp
  ·cases hs : st t[p] with
   | true => rw [runTo_at hp hs,getD_get hp]; exact hs
   | false =>
    rw [runTo_go hp hs] at hlt ⊢
    exact ih _ (by omega) (p + 1) rfl hlt
  ·rw [runTo_end (by omega)] at hlt; omega
theorem runTo_all {st : UInt8 → Bool} {t : List UInt8} : ∀ (n p : Nat),t.length - p = n → ∀ j,p ≤ j → j < runTo st t p → st (t.getD j 0) = false:=by
 intro n
 induction n using Nat.strongRecOn with
 | _ n ih =>
  intro p hn j h1 h2
  rcases Nat.lt_or_ge p t.length with hp | hp
  ·cases hs : st t[p] with
   | true => rw [runTo_at hp hs] at h2; omega
   | false =>
    rw [runTo_go hp hs] at h2
    by_cases e : j = p
    ·subst e; rw [getD_get hp]; exact hs
    ·exact ih _ (by omega) (p + 1) rfl j (by omega) h2
  ·rw [runTo_end (by omega)] at h2; omega
theorem runTo_uniq {st : UInt8 → Bool} {t : List UInt8} {k : Nat} : ∀ (n p : Nat),t.length - p = n → p ≤ k → k ≤ t.length → (∀ j,p ≤ j → j < k → st (t.getD j 0) = false) → (k = t.length ∨ st (t.getD k 0) = true) → runTo st t p = k:=by
 intro n
 induction n using Nat.strongRecOn with
 | _ n ih =>
  intro p hn h1 h2 h3 h4
  by_cases e : p = k
  ·subst e
   rcases Nat.lt_or_ge p t.length with hp | hp
   ·have h5:=h4.resolve_left (by omega)
    rw [getD_get hp] at h5
    exact runTo_at hp h5
   ·exact runTo_end (by omega)
  ·have hp : p < t.length:=by omega
   have h5:=h3 p (Nat.le_refl _) (by omega)
   rw [getD_get hp] at h5
   rw [runTo_go hp h5]
   exact ih _ (by omega) (p + 1) rfl (by omega) h2 (fun j a b => h3 j (by omega) b) h4
theorem pre_begS {x t : List UInt8} {p : Nat} (hx : x ≠ []) : pre x (t.drop p) = begS t p x:=by
 unfold pre begS
 by_cases h : p + x.length ≤ t.length
 ·rw [decide_eq_true h,Bool.true_and]
 ·rw [decide_eq_false h,Bool.false_and]
  refine decide_eq_false (fun e => ?_)
  have h1:=congrArg List.length e
  simp at h1
  have : 0 < x.length:=by cases x with | nil => exact absurd rfl hx | cons _ _ => simp
  omega
theorem begS_hd {t x : List UInt8} {p : Nat} {b : UInt8} (h : begS t p (b :: x) = true) : p < t.length ∧ chr t p = b.toNat:=by
 obtain ⟨h1,h2⟩:=begS_at h
 have:=h2 0 (by simp)
 simp only [List.length_cons] at h1
 exact ⟨by omega,chr_of (by simpa using this)⟩
theorem begS_no {t x : List UInt8} {p : Nat} {b : UInt8} (h : chr t p ≠ b.toNat) : begS t p (b :: x) = false:=by
 cases hb : begS t p (b :: x) with
 | false => rfl
 | true => exact absurd (begS_hd hb).2 h
theorem begS_end {t x : List UInt8} {p : Nat} (hx : x ≠ []) (h : t.length ≤ p) : begS t p x = false:=by
 cases hb : begS t p x with
 | false => rfl
 | true =>
  have h1:=(begS_at hb).1
  have : 0 < x.length:=by cases x with | nil => exact absurd rfl hx | cons _ _ => simp
  omega
theorem begS_tl {t x : List UInt8} {p : Nat} {b : UInt8} (h : begS t p (b :: x) = true) : begS t (p + 1) x = true:=by
 obtain ⟨h1,h2⟩:=begS_at h
 unfold begS
 simp only [List.length_cons] at h1
 rw [decide_eq_true (show p + 1 + x.length ≤ t.length by omega),Bool.true_and]
 refine decide_eq_true ?_
 apply List.ext_getElem?
 intro j
 by_cases hj : j < x.length
 ·have:=h2 (j + 1) (by simp; omega)
  rw [List.getElem?_take,if_pos hj,List.getElem?_drop,show p + 1 + j = p + (j + 1) by omega,this]
  rfl
 ·rw [List.getElem?_eq_none (by simp; omega),List.getElem?_eq_none (by omega)]
theorem begS_cons {t x : List UInt8} {p : Nat} {b : UInt8} (h : p < t.length) (hb : chr t p = b.toNat) (hx : begS t (p + 1) x = true) : begS t p (b :: x) = true:=by
 obtain ⟨h1,h2⟩:=begS_at hx
 unfold begS
 rw [decide_eq_true (show p + (b :: x).length ≤ t.length by simp; omega),Bool.true_and]
 refine decide_eq_true ?_
 apply List.ext_getElem?
 intro j
 by_cases hj : j < (b :: x).length
 ·rw [List.getElem?_take,if_pos hj,List.getElem?_drop]
  cases j with
  | zero =>
   rw [Nat.add_zero,List.getElem?_eq_getElem h]
   show some _ = some b
   rw [chr_get h] at hb
   congr 1
   exact UInt8.toNat_inj.1 hb
  | succ j =>
   rw [show p + (j + 1) = p + 1 + j by omega,h2 j (by simpa using hj)]
   rfl
 ·rw [List.getElem?_eq_none (by simp at hj ⊢; omega),List.getElem?_eq_none (by omega)]
theorem begS_nil {t : List UInt8} {p : Nat} (h : p ≤ t.length) : begS t p [] = true:=by
 unfold begS
 simp [h]
theorem begS_one {t : List UInt8} {p : Nat} {b : UInt8} : begS t p [b] = true ↔ p < t.length ∧ chr t p = b.toNat:=
 ⟨begS_hd,fun h => begS_cons h.1 h.2 (begS_nil h.1)⟩
theorem told_of (t : List UInt8) (ty : Int) (lo hi : Nat) (str : Bool) : told t (PI.of t ty lo hi str) = tell ty lo (wordA t lo hi) false:=by
 obtain ⟨e1,e2,e3,e4,e5,e6⟩:=fix_eq t ⟨ty,false,[],lo,hi,0,str⟩
 unfold told PI.of
 rw [e1,e2,e6]
 have : ptext t (PI.fix t ⟨ty,false,[],lo,hi,0,str⟩) = wordA t lo hi:=by
  unfold ptext
  rw [e3]
  dsimp only
  rw [e4,e5]
  rfl
 rw [this]
 rfl
theorem bad_ty (t : List UInt8) (lo hi : Nat) : (PI.bad t lo hi).ty = 0:=(fix_eq t ⟨0,true,[],lo,hi,0,false⟩).1
def toldL (t : List UInt8) (l : List PI) : List RI:=l.map (told t)
theorem toldL_app (t : List UInt8) (a b : List PI) : toldL t (a ++ b) = toldL t a ++ toldL t b:=List.map_append
theorem told_emit {t : List UInt8} {ty : Int} {lo hi : Nat} (h : ty ≠ 18) : toldL t (emitI t ty lo hi) = [tell ty lo (wordA t lo hi) false]:=by
 unfold toldL emitI emitL
 rw [if_neg h]
 show [told t (mk3 t (ty,lo,hi))] = _
 unfold mk3
 rw [told_of]
def spans (t : List UInt8) (l : List (Int × Nat × Nat)) : List RI:=l.map fun x => tell x.1 x.2.1 (wordA t x.2.1 x.2.2) false
theorem told_spans (t : List UInt8) (l : List (Int × Nat × Nat)) : toldL t (l.map (mk3 t)) = spans t l:=by
 unfold toldL spans
 rw [List.map_map]
 apply List.map_congr_left
 intro x _
 show told t (mk3 t x) = _
 unfold mk3
 rw [told_of]
def cutAt (t : List UInt8) (lo hi b : Nat) : List (Int × Nat × Nat):=
 if b = lo then [(17,lo,hi)] else if b < hi ∧ t.getD (b - 1) 0 = 10 then [(18,lo,b),(17,b,hi)] else [(18,lo,hi)]
theorem emScan_bk {t : List UInt8} {lo hi : Nat} : ∀ k,lo < k → k ≤ hi → emScan t lo hi k = cutAt t lo hi (bk t lo k)
 | 0,h,_ => by omega
 | k + 1,h,hk => by
  rw [emScan,if_neg (by omega)]
  have hc : ∀ n : Nat,(t.getD k 0).toNat = n → (t.getD k 0 = 10 ↔ n = 10):=fun n hn => ⟨fun e => by rw [← hn,e]; rfl,fun e => UInt8.toNat_inj.1 (by rw [hn,e]; rfl)⟩
  have hbl : blankB (t.getD k 0) = (decide ((t.getD k 0).toNat = 32) || decide ((t.getD k 0).toNat = 9) || decide ((t.getD k 0).toNat = 13)):=rfl
  have hc10:=hc _ rfl
  dsimp only
  rw [bk]
  generalize hb : (t.getD k 0).toNat = b at hbl hc10
  by_cases h1 : b ≠ 32 ∧ b ≠ 9 ∧ b ≠ 13 ∧ b ≠ 10
  ·rw [if_pos h1,if_neg (by rw [hbl]; simp; omega)]
   unfold cutAt
   rw [if_neg (by omega),Nat.add_sub_cancel,if_neg (by rw [hc10]; omega)]
  rw [if_neg h1]
  by_cases h10 : b = 10
  ·have hbf : blankB (t.getD k 0) = false:=by rw [hbl]; simp; omega
   have hbk : (if lo < k + 1 ∧ blankB (t.getD k 0) = true then bk t lo k else k + 1) = k + 1:=if_neg (by rw [hbf]; simp)
   rw [hbk,if_neg (show ¬ (k = lo ∧ b ≠ 10) by omega)]
   unfold cutAt
   rw [if_neg (show ¬ k + 1 = lo by omega),Nat.add_sub_cancel]
   by_cases h2 : k + 1 < hi
   ·rw [if_pos (show b = 10 ∧ k + 1 < hi from ⟨h10,h2⟩),if_pos (show k + 1 < hi ∧ t.getD k 0 = 10 from ⟨h2,hc10.2 h10⟩)]
   ·rw [if_neg (show ¬ (b = 10 ∧ k + 1 < hi) by omega),if_pos (show b = 10 ∧ k + 1 = hi from ⟨h10,by omega⟩),if_neg (show ¬ (k + 1 < hi ∧ t.getD k 0 = 10) from fun e => h2 e.1)]
  ·have hbt : blankB (t.getD k 0) = true:=by rw [hbl]; simp; omega
   have hbk : (if lo < k + 1 ∧ blankB (t.getD k 0) = true then bk t lo k else k + 1) = bk t lo k:=if_pos ⟨by omega,hbt⟩
   rw [hbk,if_neg (show ¬ (b = 10 ∧ k + 1 < hi) by omega),if_neg (show ¬ (b = 10 ∧ k + 1 = hi) by omega)]
   by_cases h2 : k = lo
   ·rw [if_pos (show k = lo ∧ b ≠ 10 from ⟨h2,h10⟩),bk_end (by omega)]
    unfold cutAt
    rw [if_pos h2]
   ·rw [if_neg (show ¬ (k = lo ∧ b ≠ 10) by omega)]
    exact emScan_bk k (by omega) (by omega)
theorem text_em {t : List UInt8} {p : QP} {lo hi : Nat} {e : Bool} (h : lo < hi ∨ e = true ∧ lo = hi) : p.text t lo hi e = { p with rs:=p.rs ++ toldL t (emitI t 18 lo hi) }:=by
 unfold emitI emitL
 rw [if_pos rfl,told_spans]
 unfold QP.text
 rcases h with h | ⟨h,h2⟩
 ·rw [if_neg (by omega),emScan_bk hi h (Nat.le_refl _)]
  unfold cutAt spans
  split
  ·rfl
  ·split
   ·show ({ p with rs:=(p.rs ++ [_]) ++ [_] } : QP) = _
    rw [List.append_assoc]
    rfl
   ·rfl
 ·subst h2
  rw [if_pos rfl,if_pos h]
  have : emScan t lo lo lo = [(18,lo,lo)]:=by
   cases lo with
   | zero => rfl
   | succ k => rw [emScan,if_pos (by omega)]
  rw [this]
  unfold spans
  show _ = ({ p with rs:=p.rs ++ [tell 18 lo (wordA t lo lo) false] } : QP)
  have hw : wordA t lo lo = []:=by unfold wordA; simp
  rw [hw]
theorem text_none {t : List UInt8} {p : QP} {lo : Nat} : p.text t lo lo false = p:=by
 unfold QP.text
 rw [if_pos rfl,if_neg (by simp)]
theorem told_solid {t : List UInt8} {lo hi : Nat} (h : lo < hi) (hb : blankB (t.getD (hi - 1) 0) = false) (h10 : chr t (hi - 1) ≠ 10) : toldL t (emitI t 18 lo hi) = [tell 18 lo (wordA t lo hi) false]:=by
 unfold emitI emitL
 rw [if_pos rfl,told_spans,emScan_bk hi h (Nat.le_refl _)]
 have : bk t lo hi = hi:=by
  obtain ⟨j,rfl⟩ : ∃ j,hi = j + 1:=⟨hi - 1,by omega⟩
  rw [Nat.add_sub_cancel] at hb
  rw [bk,if_neg (by rw [hb]; simp)]
 rw [this]
 unfold cutAt
 rw [if_neg (by omega),if_neg (by omega)]
 rfl
theorem toS_uniq {x t : List UInt8} {k : Nat} : ∀ (n p : Nat),t.length - p = n → p ≤ k → k ≤ t.length → (∀ j,p ≤ j → j < k → begS t j x = false) → (k = t.length ∨ begS t k x = true) → toS x t p = k:=by
 intro n
 induction n using Nat.strongRecOn with
 | _ n ih =>
  intro p hn h1 h2 h3 h4
  by_cases e : p = k
  ·subst e
   rcases Nat.lt_or_ge p t.length with hp | hp
   ·exact toS_at hp (h4.resolve_left (by omega))
   ·exact toS_end (by omega)
  ·have hp : p < t.length:=by omega
   rw [toS_go hp (h3 p (Nat.le_refl _) (by omega))]
   exact ih _ (by omega) (p + 1) rfl (by omega) h2 (fun j a b => h3 j (by omega) b) h4
theorem begS_drop {x t : List UInt8} {p i : Nat} (hp : p ≤ t.length) : (decide (i + x.length ≤ (t.drop p).length) && decide (((t.drop p).drop i).take x.length = x)) = begS t (p + i) x:=by
 unfold begS
 rw [List.length_drop,List.drop_drop]
 congr 1
 exact decide_eq_decide.2 (by omega)
theorem fnd_toS {x t : List UInt8} {p : Nat} (hx : x ≠ []) (hp : p ≤ t.length) : ∀ (n i : Nat),t.length + 1 - (p + i) = n → p + i ≤ t.length → fnd x (t.drop p) i = if begS t (toS x t (p + i)) x = true then ((toS x t (p + i) - p : Nat) : Int) else -1:=by
 have hxl : 0 < x.length:=by cases x with | nil => exact absurd rfl hx | cons _ _ => simp
 intro n
 induction n using Nat.strongRecOn with
 | _ n ih =>
  intro i hn hi
  have hb:=begS_drop (x:=x) (t:=t) (p:=p) (i:=i) hp
  rw [fnd]
  by_cases h1 : i + x.length ≤ (t.drop p).length
  ·rw [if_pos h1]
   rw [decide_eq_true h1,Bool.true_and] at hb
   have hlt : p + i < t.length:=by rw [List.length_drop] at h1; omega
   by_cases h2 : ((t.drop p).drop i).take x.length = x
   ·rw [decide_eq_true h2] at hb
    rw [if_pos h2,toS_at hlt hb.symm,if_pos hb.symm]
    congr 1
    omega
   ·rw [decide_eq_false h2] at hb
    rw [if_neg h2,toS_go hlt hb.symm,ih _ (by omega) (i + 1) rfl (by omega)]
    rfl
  ·rw [if_neg h1,if_neg]
   intro h2
   have:=(begS_at h2).1
   have:=(toS_le (x:=x) (t:=t) _ (p + i) rfl hi).1
   rw [List.length_drop] at h1
   omega
def edv (nd : Bool) (d : D) : List UInt8:=if nd = true ∨ d.chk = true then [] else d.dv
def NoMark (t dv : List UInt8) (a b : Nat) : Prop:=∀ j,a ≤ j → j < b → begS t j bs120 = false ∧ (dv ≠ [] → begS t j dv = false)
theorem fnd_first {x t : List UInt8} {p m : Nat} (hx : x ≠ []) (hp : p ≤ m) (hm : m ≤ t.length) (h : ∀ j,p ≤ j → j < m → begS t j x = false) :
  (begS t m x = true → fnd x (t.drop p) 0 = ((m - p : Nat) : Int)) ∧ (m = t.length → fnd x (t.drop p) 0 = -1) ∧ (fnd x (t.drop p) 0 = -1 ∨ ((m - p : Nat) : Int) ≤ fnd x (t.drop p) 0):=by
 have hf:=fnd_toS (x:=x) (t:=t) (p:=p) hx (by omega) _ 0 rfl (by omega)
 rw [Nat.add_zero] at hf
 refine ⟨fun hb => ?_,fun he => ?_,?_⟩
 ·rw [toS_uniq _ p rfl hp hm h (Or.inr hb),if_pos hb] at hf
  exact hf
 ·rw [toS_uniq _ p rfl hp hm h (Or.inl he),if_neg (by rw [begS_end hx (by omega)]; simp)] at hf
  exact hf
 ·by_cases hb : begS t (toS x t p) x = true
  ·rw [if_pos hb] at hf
   right
   rw [hf]
   have : m ≤ toS x t p:=by
    rcases Nat.lt_or_ge (toS x t p) m with hlt | hge
    ·have h1:=(toS_le (x:=x) (t:=t) _ p rfl (by omega)).1
     rw [h _ h1 hlt] at hb
     cases hb
    ·exact hge
   omega
  ·rw [if_neg hb] at hf
   exact Or.inl hf
theorem min2 {i1 i2 k : Int} (hk : 0 ≤ k) (h1 : i1 = -1 ∨ k ≤ i1) (h2 : i2 = -1 ∨ k ≤ i2) (h : i1 = k ∨ i2 = k) : idxs false i1 i2 ≠ [] ∧ minGo (-1) (idxs false i1 i2) = k:=by
 unfold idxs
 rw [if_neg (by simp)]
 by_cases e1 : i1 = -1
 ·have e2 : i2 = k:=by omega
  subst e1 e2
  have : ([(-1 : Int),i2].filter fun i => decide (i ≠ -1)) = [i2]:=by simp; omega
  rw [this]
  refine ⟨by simp,?_⟩
  unfold minGo
  rw [if_neg (by omega),if_pos rfl]
  rfl
 ·by_cases e2 : i2 = -1
  ·have e3 : i1 = k:=by omega
   subst e2 e3
   have : ([i1,(-1 : Int)].filter fun i => decide (i ≠ -1)) = [i1]:=by simp [e1]
   rw [this]
   refine ⟨by simp,?_⟩
   unfold minGo
   rw [if_neg (by omega),if_pos rfl]
   rfl
  ·have : ([i1,i2].filter fun i => decide (i ≠ -1)) = [i1,i2]:=by simp; omega
   rw [this]
   refine ⟨by simp,?_⟩
   unfold minGo
   rw [if_neg (by omega),if_pos rfl]
   unfold minGo
   rw [if_neg (by omega),if_neg (by omega)]
   split
   ·show i2 = k; omega
   ·show i1 = k; omega
theorem min1 {i1 i2 k : Int} (hk : 0 ≤ k) (h : i1 = k) : idxs true i1 i2 ≠ [] ∧ minGo (-1) (idxs true i1 i2) = k:=by
 unfold idxs
 rw [if_pos rfl]
 have : ([i1].filter fun i => decide (i ≠ -1)) = [i1]:=by simp; omega
 rw [this]
 refine ⟨by simp,?_⟩
 unfold minGo
 rw [if_neg (by omega),if_pos rfl]
 exact h
theorem main_end {t : List UInt8} {nd : Bool} {d : D} (hp : d.pos ≤ t.length) (hdv : d.dv ≠ []) (h : NoMark t (edv nd d) d.pos t.length) : outMain t nd d = (some 77,{ d with pos:=t.length }):=by
 unfold outMain
 by_cases h1 : t.length ≤ d.pos
 ·rw [if_pos h1]
  have : d.pos = t.length:=by omega
  rw [← this]
 ·rw [if_neg h1,if_pos]
  have e1 : scAt t d = -1:=(fnd_first (by decide) hp (Nat.le_refl _) (fun j a b => (h j a b).1)).2.1 rfl
  unfold ixs
  rw [e1]
  cases hnd : nd with
  | true => rfl
  | false =>
   have e2 : nextDiv t d = -1:=by
    unfold nextDiv
    by_cases hc : d.chk = true
    ·rw [if_pos hc]
    ·rw [if_neg hc]
     have hed : edv nd d = d.dv:=by unfold edv; rw [if_neg (by rw [hnd]; simp; simpa using hc)]
     rw [hed] at h
     exact (fnd_first hdv hp (Nat.le_refl _) (fun j a b => (h j a b).2 hdv)).2.1 rfl
   rw [e2]
   rfl
theorem main_mark {t : List UInt8} {nd : Bool} {d : D} {m : Nat} (hp : d.pos ≤ m) (hm : m < t.length) (hdv : d.dv ≠ []) (h : NoMark t (edv nd d) d.pos m) (hk : begS t m bs120 = true ∨ (edv nd d ≠ [] ∧ begS t m (edv nd d) = true)) :
  ∃ s1 s2,outMain t nd d = (match outLex t nd s1 s2 { d with pos:=m } with | (none,e) => (some 77,{ e with pos:=t.length }) | (some f,e) => (some f,e)) ∧ (begS t m bs120 = true → s1 = false) ∧ (edv nd d ≠ [] → begS t m (edv nd d) = true → s2 = false):=by
 have k1:=fnd_first (x:=bs120) (by decide) hp (Nat.le_of_lt hm) (fun j a b => (h j a b).1)
 have key : ixs t nd d ≠ [] ∧ minGo (-1) (ixs t nd d) = ((m - d.pos : Nat) : Int) ∧ (edv nd d ≠ [] → begS t m (edv nd d) = true → nextDiv t d ≠ -1):=by
  by_cases hnd : nd = true
  ·have he : edv nd d = []:=by unfold edv; rw [if_pos (Or.inl hnd)]
   have hb : begS t m bs120 = true:=hk.resolve_right (fun e => e.1 he)
   have:=min1 (i2:=nextDiv t d) (show (0 : Int) ≤ ((m - d.pos : Nat) : Int) by omega) (k1.1 hb)
   unfold ixs
   rw [hnd]
   exact ⟨this.1,this.2,fun e => absurd (hnd ▸ he) e⟩
  ·have hnf : nd = false:=by simpa using hnd
   by_cases hc : d.chk = true
   ·have he : edv nd d = []:=by unfold edv; rw [if_pos (Or.inr hc)]
    have hb : begS t m bs120 = true:=hk.resolve_right (fun e => e.1 he)
    have e2 : nextDiv t d = -1:=by unfold nextDiv; rw [if_pos hc]
    have:=min2 (i2:=nextDiv t d) (show (0 : Int) ≤ ((m - d.pos : Nat) : Int) by omega) (Or.inr (Int.le_of_eq (k1.1 hb).symm)) (Or.inl e2) (Or.inl (k1.1 hb))
    unfold ixs
    rw [hnf] at he ⊢
    exact ⟨this.1,this.2,fun e => absurd he e⟩
   ·have he : edv nd d = d.dv:=by unfold edv; rw [if_neg (by rw [hnf]; simp; simpa using hc)]
    rw [he] at h hk
    have k2:=fnd_first (x:=d.dv) hdv hp (Nat.le_of_lt hm) (fun j a b => (h j a b).2 hdv)
    have e2 : nextDiv t d = fnd d.dv (t.drop d.pos) 0:=by unfold nextDiv; rw [if_neg hc]
    have hor : scAt t d = ((m - d.pos : Nat) : Int) ∨ nextDiv t d = ((m - d.pos : Nat) : Int):=by
     rcases hk with hk | hk
     ·exact Or.inl (k1.1 hk)
     ·exact Or.inr (e2.trans (k2.1 hk.2))
    have:=min2 (show (0 : Int) ≤ ((m - d.pos : Nat) : Int) by omega) k1.2.2 (by rw [e2]; exact k2.2.2) hor
    unfold ixs
    rw [hnf]
    refine ⟨this.1,this.2,fun _ hb => ?_⟩
    rw [← hnf,he] at hb
    rw [e2,k2.1 hb]
    omega
 refine ⟨decide (scAt t d = -1),decide (nextDiv t d = -1),?_,fun hb => decide_eq_false (by have:=k1.1 hb; unfold scAt; omega),fun a b => decide_eq_false (key.2.2 a b)⟩
 unfold outMain
 rw [if_neg (by omega),if_neg key.1]
 have e3 : d.pos + (minGo (-1) (ixs t nd d)).toNat = m:=by rw [key.2.1]; omega
 rw [e3]
 rfl
def Err (r : D) : Prop:=∃ e,r.ps.getLast? = some e ∧ e.ty = 0
theorem err_bad (t : List UInt8) (d : D) : Err (d.bad t):=⟨PI.bad t d.start d.pos,List.getLast?_concat,bad_ty t _ _⟩
def Fin (t : List UInt8) (r : D) (q : QP) : Prop:=q.opn = true ∨ (q.wrong = true ∧ (Err r ∨ hasS t inlS = true)) ∨ (q.wrong = false ∧ toldL t r.ps = q.rs)
theorem fin_open {t : List UInt8} {r : D} {q : QP} (h : q.opn = true) : Fin t r q:=Or.inl h
theorem fin_over {t : List UInt8} {r : D} {q : QP} (h : q.over) (hE : Err r ∨ hasS t inlS = true) : Fin t r q:=by
 rcases h with h | h
 ·exact Or.inr (Or.inl ⟨h,hE⟩)
 ·exact Or.inl h
theorem lgo {t : List UInt8} {nd : Bool} {f : Nat} {d r : D} (h : Lexes t nd (some f,d) r) : Lexes t nd (stp t nd f d) r:=by cases h; assumption
theorem lend {t : List UInt8} {nd : Bool} {d r : D} (h : Lexes t nd (none,d) r) : r = d:=by cases h; rfl
theorem lbad {t : List UInt8} {nd : Bool} {d r : D} (h : Lexes t nd (none,d.bad t) r) : Err r:=by rw [lend h]; exact err_bad t d
structure Rel (t : List UInt8) (nd : Bool) (d : D) (q : QP) : Prop where
 rs : toldL t d.ps = q.rs
 nms : ∀ s,d.opn s = q.nms.elem s
 nm0 : d.name = [] → q.nms = []
 inl : q.inl = if d.inl = true then d.name else []
 inlN : d.inl = true → d.name ≠ [] ∧ hasS t inlS = true
 dv : q.dv = edv nd d
 dv0 : d.dv = bs103 ∨ d.dv = bs100
 wr : q.wrong = false
 op : q.opn = false
theorem Rel.over {t : List UInt8} {nd : Bool} {d : D} {q : QP} (h : Rel t nd d q) : ¬ (q.wrong = true ∨ q.opn = true):=by
 rw [h.wr,h.op]; simp
theorem Rel.noinl {t : List UInt8} {nd : Bool} {d : D} {q : QP} (h : Rel t nd d q) (hi : q.inl = []) : d.inl = false:=by
 cases hd : d.inl with
 | false => rfl
 | true =>
  have h1:=h.inl
  rw [hd,if_pos rfl,hi] at h1
  exact absurd h1.symm (h.inlN hd).1
theorem Rel.dvne {t : List UInt8} {nd : Bool} {d : D} {q : QP} (h : Rel t nd d q) : d.dv ≠ []:=by
 rcases h.dv0 with e | e <;> (rw [e]; decide)
theorem Rel.to {t : List UInt8} {nd : Bool} {d d' : D} {q q' : QP} (h : Rel t nd d q) (hrs : toldL t d'.ps = q'.rs) (e1 : d'.opn = d.opn) (e2 : d'.name = d.name) (e3 : d'.inl = d.inl) (e4 : d'.chk = d.chk) (e5 : d'.dv = d.dv)
  (f1 : q'.nms = q.nms) (f2 : q'.inl = q.inl) (f3 : q'.dv = q.dv) (f4 : q'.wrong = q.wrong) (f5 : q'.opn = q.opn) : Rel t nd d' q':=
 ⟨hrs,by rw [e1,f1]; exact h.nms,by rw [e2,f1]; exact h.nm0,by rw [f2,e2,e3]; exact h.inl,by rw [e2,e3]; exact h.inlN,by rw [f3,h.dv]; unfold edv; rw [e4,e5],by rw [e5]; exact h.dv0,by rw [f4]; exact h.wr,by rw [f5]; exact h.op⟩
theorem Rel.emit {t : List UInt8} {nd : Bool} {d d' : D} {q q' : QP} {ty : Int} {lo hi : Nat} (h : Rel t nd d q) (hty : ty ≠ 18) (hps : d'.ps = d.ps ++ emitI t ty lo hi) (hq : q'.rs = q.rs ++ [tell ty lo (wordA t lo hi) false]) (e1 : d'.opn = d.opn) (e2 : d'.name = d.name) (e3 : d'.inl = d.inl) (e4 : d'.chk = d.chk) (e5 : d'.dv = d.dv)
  (f1 : q'.nms = q.nms) (f2 : q'.inl = q.inl) (f3 : q'.dv = q.dv) (f4 : q'.wrong = q.wrong) (f5 : q'.opn = q.opn) : Rel t nd d' q':=
 h.to (by rw [hps,toldL_app,told_emit hty,h.rs,hq]) e1 e2 e3 e4 e5 f1 f2 f3 f4 f5
theorem begS_word {t x : List UInt8} {p : Nat} (h : begS t p x = true) : wordA t p (p + x.length) = x:=by
 unfold begS at h
 simp only [Bool.and_eq_true,decide_eq_true_eq] at h
 unfold wordA
 rw [Nat.add_sub_cancel_left]
 exact h.2
structure RD (d : D) (right : List UInt8) : Prop where
 eq : right = rightD d.rd
 rd : d.rd = 9 ∨ d.rd = 11
theorem RD.len {d : D} {right : List UInt8} (h : RD d right) : right.length = 3:=by
 rcases h.rd with e | e <;> (rw [h.eq,e]; rfl)
theorem RD.kind {d : D} {right : List UInt8} (h : RD d right) : (if right = pct3 then 11 else 9 : Int) = d.rd:=by
 rcases h.rd with e | e <;> (rw [h.eq,e]; decide)
theorem RD.ne {d : D} {right : List UInt8} (h : RD d right) : right ≠ []:=by
 rcases h.rd with e | e <;> (rw [h.eq,e]; decide)
theorem RD.hd {d : D} {right : List UInt8} (h : RD d right) : right = gt3 ∨ right = pct3:=by
 rcases h.rd with e | e
 ·left; rw [h.eq,e]; decide
 ·right; rw [h.eq,e]; decide
theorem RD.no {d : D} {right t : List UInt8} {p : Nat} (h : RD d right) (h1 : chr t p ≠ 62) (h2 : chr t p ≠ 37) : begS t p right = false:=by
 rcases h.hd with e | e
 ·rw [e]; exact begS_no h1
 ·rw [e]; exact begS_no h2
theorem RD.chr {d : D} {right t : List UInt8} {p : Nat} (h : RD d right) (hb : begS t p right = true) : p < t.length ∧ (chr t p = 62 ∨ chr t p = 37):=by
 rcases h.hd with e | e
 ·rw [e] at hb; exact ⟨(begS_hd hb).1,Or.inl (begS_hd hb).2⟩
 ·rw [e] at hb; exact ⟨(begS_hd hb).1,Or.inr (begS_hd hb).2⟩
theorem RD.pre {d : D} {right t : List UInt8} {p : Nat} (h : RD d right) : pre (rightD d.rd) (t.drop p) = begS t p right:=by
 rw [← h.eq]; exact pre_begS h.ne
theorem whiteC {t : List UInt8} {p : Nat} (hp : p < t.length) : isSp (chr t p : Int) = whiteB (t.getD p 0):=by
 rw [chr_get hp,getD_get hp]; exact isSp_b _
theorem white_c {t : List UInt8} {p : Nat} (h : whiteB (t.getD p 0) = true) : chr t p = 32 ∨ (9 ≤ chr t p ∧ chr t p ≤ 13):=by
 unfold whiteB at h
 simpa [chr] using h
theorem eta_pos (d : D) (h : d.start = d.pos) : ({ d with pos:=d.pos,start:=d.pos } : D) = d:=by
 cases d; cases h; rfl
theorem ins_skip {t : List UInt8} {nd : Bool} {r : D} {right : List UInt8} (hA : Asc t) : ∀ (n : Nat) (d : D),t.length - d.pos = n → RD d right → d.start = d.pos → d.pos ≤ t.length → Lexes t nd (some 144,d) r →
  Lexes t nd (some 144,{ d with pos:=runTo notW t d.pos,start:=runTo notW t d.pos }) r:=by
 intro n
 induction n using Nat.strongRecOn with
 | _ n ih =>
  intro d hn hR hs hl h
  rcases Nat.lt_or_ge d.pos t.length with hp | hp
  ·cases hw : whiteB (t.getD d.pos 0) with
   | false =>
    have : runTo notW t d.pos = d.pos:=runTo_at hp (by rw [getD_get hp] at hw; unfold notW; rw [hw]; rfl)
    rw [this,eta_pos d hs]
    exact h
   | true =>
    have hgo : runTo notW t d.pos = runTo notW t (d.pos + 1):=runTo_go hp (by rw [getD_get hp] at hw; unfold notW; rw [hw]; rfl)
    have hc:=white_c hw
    have h1:=lgo h
    have h2 : stp t nd 144 d = (some 144,{ d with pos:=d.pos + 1,start:=d.pos + 1 }):=by
     show outInside t d = _
     unfold outInside
     rw [hR.pre,if_neg (by rw [hR.no (by omega) (by omega)]; simp),nx1 hA hp,if_neg (by omega),if_pos (by rw [whiteC hp]; exact hw),nx2 hA hp]
    rw [h2] at h1
    rw [hgo]
    exact ih _ (by show t.length - (d.pos + 1) < n; omega) { d with pos:=d.pos + 1,start:=d.pos + 1 } rfl ⟨hR.eq,hR.rd⟩ rfl (by show d.pos + 1 ≤ _; omega) h1
  ·have : runTo notW t d.pos = d.pos:=runTo_end (by omega)
   rw [this,eta_pos d hs]
   exact h
theorem ins_right {t : List UInt8} {nd : Bool} {d r : D} {right : List UInt8} (hR : RD d right) (hb : begS t d.pos right = true) (h : Lexes t nd (some 144,d) r) : Lexes t nd (some 42,({ d with clos:=0,pos:=d.pos + 3 }).em t d.rd) r:=by
 have h1:=lgo h
 have h2 : stp t nd 144 d = (some 154,d):=by
  show outInside t d = _
  unfold outInside
  rw [hR.pre,if_pos hb]
 rw [h2] at h1
 exact lgo h1
theorem ins_end {t : List UInt8} {nd : Bool} {d r : D} {right : List UInt8} (hR : RD d right) (hp : t.length ≤ d.pos) (h : Lexes t nd (some 144,d) r) : Err r:=by
 have h1:=lgo h
 have h2 : stp t nd 144 d = (none,({ d with pos:=d.pos + (nx t d.pos).2 }).bad t):=by
  show outInside t d = _
  unfold outInside
  rw [hR.pre,if_neg (by rw [begS_end hR.ne hp]; simp),nx0 hp,if_pos rfl]
 rw [h2] at h1
 exact lbad h1
theorem ins_other {t : List UInt8} {nd : Bool} {d r : D} {right : List UInt8} (hA : Asc t) (hR : RD d right) (hp : d.pos < t.length) (hb : begS t d.pos right = false) (hc : chr t d.pos = 62 ∨ chr t d.pos = 37) (h : Lexes t nd (some 144,d) r) : Err r:=by
 have h1:=lgo h
 have hsp : isSp (chr t d.pos : Int) = false:=by rcases hc with e | e <;> (rw [e]; decide)
 have han : isANH (chr t d.pos : Int) = false:=by rcases hc with e | e <;> (rw [e]; decide +kernel)
 have han2 : isAN (chr t d.pos : Int) = false:=by rcases hc with e | e <;> (rw [e]; decide +kernel)
 have h2 : stp t nd 144 d = (none,({ d with pos:=d.pos + (nx t d.pos).2 }).bad t):=by
  show outInside t d = _
  unfold outInside
  rw [hR.pre,if_neg (by rw [hb]; simp),nx1 hA hp,if_neg (by omega),if_neg (by rw [hsp]; simp),if_neg (by omega),if_neg (by omega),if_neg (by omega),if_neg (show ¬ (0 < d.step ∧ (isANH (chr t d.pos : Int) = true ∨ (chr t d.pos : Int) = 34 ∨ (chr t d.pos : Int) = 96)) by rw [han]; rintro ⟨_,e | e | e⟩; cases e; omega; omega),if_neg (by rw [han2]; simp)]
 rw [h2] at h1
 exact lbad h1
theorem ins_slash {t : List UInt8} {nd : Bool} {d r : D} {right : List UInt8} (hA : Asc t) (hR : RD d right) (hc : begS t d.pos [47] = true) (h : Lexes t nd (some 144,d) r) :
  (d.name = [] → Err r) ∧ (d.name ≠ [] → Lexes t nd (some 144,({ d with pos:=d.pos + 1,clos:=d.clos + 1,inl:=false,step:=0 }).em t 12) r):=by
 obtain ⟨hp,hc⟩:=begS_one.1 hc
 have hc : chr t d.pos = 47:=hc
 have h1:=lgo h
 have h2 : stp t nd 144 d = if d.name = [] then (none,({ d with pos:=d.pos + 1 }).bad t) else (some 144,({ d with pos:=d.pos + 1,clos:=d.clos + 1,inl:=false,step:=0 }).em t 12):=by
  show outInside t d = _
  unfold outInside
  rw [hR.pre,if_neg (by rw [hR.no (by omega) (by omega)]; simp),nx1 hA hp,if_neg (by omega),if_neg (by rw [hc]; decide),if_neg (by omega),if_pos (by omega),nx2 hA hp]
 rw [h2] at h1
 refine ⟨fun e => ?_,fun e => ?_⟩
 ·rw [if_pos e] at h1; exact lbad h1
 ·rw [if_neg e] at h1; exact h1
theorem ins_word {t : List UInt8} {nd : Bool} {d r : D} {right : List UInt8} (hA : Asc t) (hR : RD d right) (hp : d.pos < t.length) (hw : wordB (t.getD d.pos 0) = true) (hc : chr t d.pos ≠ 45) (hs : ¬ 0 < d.step) (h : Lexes t nd (some 144,d) r) : Lexes t nd (some 162,d) r:=by
 have h1:=lgo h
 rw [getD_get hp] at hw
 have hb:=hA.get hp
 have hch:=chr_get hp
 have hn : ∀ n : Nat,n = 62 ∨ n = 37 ∨ n = 61 ∨ n = 47 ∨ n = 92 → chr t d.pos ≠ n:=by
  intro n hn e
  rw [hch] at e
  have : ∀ b : UInt8,wordB b = true → b.toNat ≠ 62 ∧ b.toNat ≠ 37 ∧ b.toNat ≠ 61 ∧ b.toNat ≠ 47 ∧ b.toNat ≠ 92:=fun b => byteAll (P:=fun b => wordB b = true → b.toNat ≠ 62 ∧ b.toNat ≠ 37 ∧ b.toNat ≠ 61 ∧ b.toNat ≠ 47 ∧ b.toNat ≠ 92) (by decide +kernel) b
  have:=this _ hw
  omega
 have h62:=hn 62 (by omega); have h37:=hn 37 (by omega); have h61:=hn 61 (by omega); have h47:=hn 47 (by omega); have h92:=hn 92 (by omega)
 have h2 : stp t nd 144 d = (some 162,d):=by
  show outInside t d = _
  unfold outInside
  rw [hR.pre,if_neg (by rw [hR.no h62 h37]; simp),nx1 hA hp,if_neg (by omega),if_neg (by rw [whiteC hp,getD_get hp,white_word _ hw]; simp),if_neg (by omega),if_neg (by omega),if_neg (by omega),if_neg (by omega)]
  rw [hch,isAN_b hb,hw,if_pos]
  rw [← hch]
  simpa using hc
 rw [h2] at h1
 exact h1
def no92 (b : UInt8) : Bool:=decide (b.toNat ≠ 92)
def filt (t : List UInt8) (s j : Nat) : List UInt8:=(wordA t s j).filter no92
theorem word_nil (t : List UInt8) (s : Nat) : wordA t s s = []:=by unfold wordA; simp
theorem word_snoc {t : List UInt8} {s i : Nat} (h1 : s ≤ i) (h2 : i < t.length) : wordA t s (i + 1) = wordA t s i ++ [t[i]]:=by
 unfold wordA
 rw [show i + 1 - s = (i - s) + 1 by omega,List.take_add_one,List.getElem?_drop,show s + (i - s) = i by omega,List.getElem?_eq_getElem h2]
 rfl
theorem word_cons {t : List UInt8} {i j : Nat} (h1 : i < j) (h2 : i < t.length) : wordA t i j = t[i] :: wordA t (i + 1) j:=by
 unfold wordA
 rw [List.drop_eq_getElem_cons h2,show j - i = (j - (i + 1)) + 1 by omega,List.take_succ_cons]
theorem filt_snoc {t : List UInt8} {s i : Nat} (h1 : s ≤ i) (h2 : i < t.length) : filt t s (i + 1) = filt t s i ++ (if chr t i = 92 then [] else [t[i]]):=by
 unfold filt
 rw [word_snoc h1 h2,List.filter_append]
 congr 1
 rw [chr_get h2]
 by_cases h : t[i].toNat = 92
 ·rw [if_pos h,List.filter_cons_of_neg (by unfold no92; simp [h])]
  rfl
 ·rw [if_neg h,List.filter_cons_of_pos (by unfold no92; simp [h])]
  rfl
theorem filt_cons {t : List UInt8} {i j : Nat} (h1 : i < j) (h2 : i < t.length) : filt t i j = (if chr t i = 92 then [] else [t[i]]) ++ filt t (i + 1) j:=by
 unfold filt
 rw [word_cons h1 h2,chr_get h2]
 by_cases h : t[i].toNat = 92
 ·rw [if_pos h,List.filter_cons_of_neg (by unfold no92; simp [h])]
  rfl
 ·rw [if_neg h,List.filter_cons_of_pos (by unfold no92; simp [h])]
  rfl
theorem filt_nil (t : List UInt8) (s : Nat) : filt t s s = []:=by unfold filt; rw [word_nil]; rfl
theorem qt34 {t : List UInt8} (hA : Asc t) {s : Nat} : ∀ (n i : Nat) (es : Bool) (tx : List UInt8),t.length - i = n → s ≤ i → tx = filt t s i → (es = false → tx = wordA t s i) → (s < i → chr t s ≠ 92) → (es = true → s < i) →
  (quGo t 34 s i tx = none → (qtGo t true true es false i s).1 = 0) ∧
  (∀ j tx',quGo t 34 s i tx = some (some (j,tx')) → ∃ es',qtGo t true true es false i s = (1,es',j,s) ∧ tx' = filt t s j ∧ (es' = false → tx' = wordA t s j) ∧ (es' = true → s < j ∧ chr t s ≠ 92)):=by
 intro n
 induction n using Nat.strongRecOn with
 | _ n ih =>
  intro i es tx hn hs htx hw h92 hes
  have eu:=quGo.eq_def t 34 s i tx
  have ev:=qtGo.eq_def t true true es false i s
  rcases Nat.lt_or_ge i t.length with hi | hi
  ·rw [dif_pos hi,← chr_get hi] at eu
   rw [dif_pos hi,nx1 hA hi,nx2 hA hi] at ev
   have fs:=filt_snoc hs hi
   have ws:=word_snoc hs hi
   by_cases c92 : chr t i = 92
   ·by_cases ho : (34 : Nat) = 96 ∨ i = s ∨ begS t (i + 1) [34] = false
    ·rw [if_pos ⟨c92,ho⟩] at eu
     rw [eu]
     exact ⟨fun h => (by cases h),fun j tx' h => (by cases h)⟩
    ·rw [if_neg (fun h => ho h.2),if_pos c92] at eu
     have hb : begS t (i + 1) [34] = true:=by
      cases hb : begS t (i + 1) [34] with
      | true => rfl
      | false => exact absurd (Or.inr (Or.inr hb)) ho
     obtain ⟨h1,h2⟩:=begS_one.1 hb
     have h2 : chr t (i + 1) = 34:=h2
     rw [if_pos (by omega),nx1 hA h1,if_pos (by omega),if_pos rfl,if_pos rfl] at ev
     have ew:=qtGo.eq_def t true true true true (i + 1) s
     rw [dif_pos h1,nx1 hA h1,nx2 hA h1,if_neg (by omega),if_neg (by omega),if_pos (by omega),if_pos rfl] at ew
     rw [eu,ev,ew]
     have fs2:=filt_snoc (t:=t) (s:=s) (i:=i + 1) (by omega) h1
     rw [if_neg (by omega)] at fs2
     rw [if_pos c92,List.append_nil] at fs
     have hb34 : t[i + 1] = 34:=by rw [chr_get h1] at h2; exact UInt8.toNat_inj.1 h2
     refine ih _ (by omega) (i + 2) true (tx ++ [34]) rfl (by omega) ?_ (by simp) (fun _ => ?_) (fun _ => by omega)
     ·rw [fs2,fs,← htx,hb34]
     ·exact h92 (by have : ¬ i = s:=fun e => ho (Or.inr (Or.inl e)); omega)
   rw [if_neg (fun h => c92 h.1),if_neg c92] at eu
   rw [if_neg (by omega)] at ev
   by_cases c34 : chr t i = 34
   ·rw [if_pos c34] at eu
    rw [if_neg (by omega),if_pos (by omega),if_neg (by simp),if_pos rfl] at ev
    rw [eu,ev]
    refine ⟨fun h => (by cases h),fun j tx' h => ?_⟩
    injection h with h; injection h with h; injection h with ha hb
    subst ha hb
    exact ⟨es,rfl,htx,hw,fun e => ⟨hes e,h92 (hes e)⟩⟩
   rw [if_neg c34] at eu
   by_cases c10 : chr t i = 10
   ·rw [if_pos ⟨c10,rfl⟩] at eu
    rw [if_pos (by omega)] at ev
    rw [eu,ev]
    exact ⟨fun _ => rfl,fun j tx' h => (by cases h)⟩
   rw [if_neg (fun h => c10 h.1)] at eu
   rw [if_neg (by omega),if_neg (by omega)] at ev
   rw [if_neg c92] at fs
   rw [eu,ev]
   refine ih _ (by omega) (i + 1) es (tx ++ [t[i]]) rfl (by omega) (by rw [fs,← htx]) (fun e => by rw [ws,← hw e]) (fun _ => ?_) (fun e => by have:=hes e; omega)
   by_cases e : s = i
   ·rw [e]; exact c92
   ·exact h92 (by omega)
  ·rw [dif_neg (by omega)] at eu ev
   rw [eu,ev]
   exact ⟨fun _ => rfl,fun j tx' h => (by cases h)⟩
theorem chr_take {t : List UInt8} {i j : Nat} (h : i < j) : chr (t.take j) i = chr t i:=by
 unfold chr
 rw [List.getD_eq_getElem?_getD,List.getD_eq_getElem?_getD,List.getElem?_take,if_pos h]
theorem segText_cons (t : List UInt8) (x : Nat × Nat) (r : List (Nat × Nat)) : segText t (x :: r) = wordA t x.1 x.2 ++ segText t r:=rfl
theorem seg_text {t : List UInt8} (hA : Asc t) {j : Nat} (hj : j ≤ t.length) : ∀ (n i k : Nat),j - i = n → k ≤ i → i ≤ j → segText t (segGo (t.take j) i k) = wordA t k i ++ filt t i j:=by
 have hul : (t.take j).length = j:=by simp; omega
 intro n
 induction n using Nat.strongRecOn with
 | _ n ih =>
  intro i k hn hk hi
  have e:=segGo.eq_def (t.take j) i k
  rcases Nat.lt_or_ge i j with hij | hij
  ·have hil : i < (t.take j).length:=by omega
   rw [dif_pos hil,nx1 (hA.take j) hil,nx2 (hA.take j) hil,chr_take hij] at e
   have fc:=filt_cons hij (show i < t.length by omega)
   by_cases c92 : chr t i = 92
   ·rw [if_pos (by omega)] at e
    rw [if_pos c92,List.nil_append] at fc
    rw [e,fc]
    have hh:=ih _ (by omega) (i + 1) (i + 1) rfl (Nat.le_refl _) hij
    rw [word_nil,List.nil_append] at hh
    by_cases hki : k < i
    ·rw [if_pos hki]
     show segText t ((k,i) :: segGo (t.take j) (i + 1) (i + 1)) = _
     rw [segText_cons,hh]
    ·rw [if_neg hki,List.nil_append,hh,show k = i by omega,word_nil,List.nil_append]
   ·rw [if_neg (by omega)] at e
    rw [if_neg c92] at fc
    rw [e,fc,ih _ (by omega) (i + 1) k rfl (by omega) hij,word_snoc hk (by omega),List.append_assoc]
  ·have hij2 : i = j:=by omega
   subst hij2
   rw [dif_neg (by omega),hul] at e
   rw [e,filt_nil,List.append_nil]
   by_cases hki : k < i
   ·rw [if_pos hki]
    show segText t [(k,i)] = _
    rw [segText_cons]
    show wordA t k i ++ [] = _
    rw [List.append_nil]
   ·rw [if_neg hki,show k = i by omega,word_nil]
    rfl
theorem seg_hd {u : List UInt8} (hA : Asc u) : ∀ (n i k : Nat),u.length - i = n → k ≤ i → i ≤ u.length → (k < i ∨ (i < u.length ∧ chr u i ≠ 92)) → ∃ x r,segGo u i k = (k,x) :: r:=by
 intro n
 induction n using Nat.strongRecOn with
 | _ n ih =>
  intro i k hn hk hi h
  have e:=segGo.eq_def u i k
  rcases Nat.lt_or_ge i u.length with hil | hil
  ·rw [dif_pos hil,nx1 hA hil,nx2 hA hil] at e
   by_cases c92 : chr u i = 92
   ·have hki : k < i:=by
     rcases h with h | h
     ·exact h
     ·exact absurd c92 h.2
    rw [if_pos (by omega),if_pos hki] at e
    exact ⟨_,_,e⟩
   ·rw [if_neg (by omega)] at e
    rw [e]
    exact ih _ (by omega) (i + 1) k rfl (by omega) hil (Or.inl (by omega))
  ·rw [dif_neg (by omega),if_pos (by omega)] at e
   exact ⟨_,_,e⟩
theorem told_quo {t : List UInt8} (hA : Asc t) {ty : Int} {es : Bool} {s j : Nat} {tx : List UInt8} (hsj : s ≤ j) (hj : j ≤ t.length) (hf : tx = filt t s j) (he : es = false → tx = wordA t s j) (ht : es = true → s < j ∧ chr t s ≠ 92) :
  toldL t (quoI t ty es s j) = [tell ty s tx false]:=by
 unfold quoI
 cases es with
 | false =>
  rw [if_neg (by simp)]
  show [told t (PI.of t ty s j true)] = _
  rw [told_of,he rfl]
 | true =>
  rw [if_pos rfl]
  obtain ⟨h1,h2⟩:=ht rfl
  have hul : (t.take j).length = j:=by simp; omega
  obtain ⟨x,r,e⟩:=seg_hd (hA.take j) _ s s rfl (Nat.le_refl _) (by omega) (Or.inr ⟨by omega,by rw [chr_take h1]; exact h2⟩)
  have hst:=seg_text hA hj _ s s rfl (Nat.le_refl _) hsj
  rw [word_nil,List.nil_append,← hf,e] at hst
  unfold segI
  rw [e]
  show [told t (PI.fix t ⟨ty,false,(s,x) :: r,0,0,0,false⟩)] = _
  obtain ⟨k1,k2,k3,k4,k5,k6⟩:=fix_eq t ⟨ty,false,(s,x) :: r,0,0,0,false⟩
  unfold told
  rw [k1,k2,k6]
  have : ptext t (PI.fix t ⟨ty,false,(s,x) :: r,0,0,0,false⟩) = tx:=by
   unfold ptext
   rw [k3]
   exact hst
  rw [this]
  rfl
theorem raw96 {t : List UInt8} {s : Nat} : ∀ (n i : Nat) (tx : List UInt8),t.length - i = n → s ≤ i → i ≤ t.length → tx = wordA t s i →
  (quGo t 96 s i tx = none → runTo tickB t i = t.length) ∧ (∀ j tx',quGo t 96 s i tx = some (some (j,tx')) → runTo tickB t i = j ∧ j < t.length ∧ s ≤ j ∧ tx' = wordA t s j):=by
 intro n
 induction n using Nat.strongRecOn with
 | _ n ih =>
  intro i tx hn hs hl htx
  have eu:=quGo.eq_def t 96 s i tx
  rcases Nat.lt_or_ge i t.length with hi | hi
  ·rw [dif_pos hi] at eu
   by_cases c92 : t[i].toNat = 92
   ·rw [if_pos ⟨c92,Or.inl rfl⟩] at eu
    rw [eu]
    exact ⟨fun h => (by cases h),fun j tx' h => (by cases h)⟩
   rw [if_neg (fun h => c92 h.1),if_neg c92] at eu
   by_cases c96 : t[i].toNat = 96
   ·rw [if_pos c96] at eu
    rw [eu]
    refine ⟨fun h => (by cases h),fun j tx' h => ?_⟩
    injection h with h; injection h with h; injection h with ha hb
    subst ha hb
    exact ⟨runTo_at hi (decide_eq_true c96),hi,hs,htx⟩
   rw [if_neg c96,if_neg (by omega)] at eu
   rw [eu,runTo_go hi (decide_eq_false c96)]
   exact ih _ (by omega) (i + 1) _ rfl (by omega) hi (by rw [htx,word_snoc hs hi])
  ·rw [dif_neg (by omega)] at eu
   rw [eu]
   exact ⟨fun _ => by rw [runTo_end (by omega)]; omega,fun j tx' h => (by cases h)⟩
structure Same (d d' : D) : Prop where
 step : d'.step = d.step
 par : d'.par = d.par
 clos : d'.clos = d.clos
 rd : d'.rd = d.rd
 name : d'.name = d.name
theorem quoted_sim {t : List UInt8} {nd : Bool} {d r : D} {q : QP} {ty : Int} (hA : Asc t) (R : Rel t nd d q) (hpos : d.pos = q.pos) (hp : q.pos < t.length) (hc : chr t q.pos = 34 ∨ chr t q.pos = 96)
  (h : Lexes t nd (if chr t q.pos = 34 then outQuo t d true ty else outRaw t d ty) r) :
  ((q.quoted t ty).over ∧ Fin t r (q.quoted t ty)) ∨ ∃ d',Lexes t nd (some 144,d') r ∧ Rel t nd d' (q.quoted t ty) ∧ d'.pos = (q.quoted t ty).pos ∧ d'.start = d'.pos ∧ Same d d':=by
 unfold QP.quoted
 rcases hc with hc | hc
 ·rw [if_pos hc] at h
  rw [hc]
  have hk:=qt34 hA (s:=q.pos + 1) _ (q.pos + 1) false [] rfl (Nat.le_refl _) (by rw [filt_nil]) (fun _ => by rw [word_nil]) (fun e => by omega) (fun e => by cases e)
  have h0 : qtGo t true false false false d.pos d.start = qtGo t true true false false (q.pos + 1) (q.pos + 1):=by
   rw [hpos]
   have e:=qtGo.eq_def t true false false false q.pos d.start
   rw [dif_pos hp,nx1 hA hp,nx2 hA hp,if_neg (by omega),if_neg (by omega),if_pos (by omega),if_neg (by simp),if_neg (by simp)] at e
   exact e
  unfold outQuo at h
  rw [h0] at h
  cases hg : quGo t 34 (q.pos + 1) (q.pos + 1) [] with
  | none =>
   rw [if_pos (hk.1 hg)] at h
   exact Or.inl ⟨fail_over q,fin_over (fail_over q) (Or.inl (lbad h))⟩
  | some o =>
   cases o with
   | none => exact Or.inl ⟨opened_over q,fin_open rfl⟩
   | some x =>
    obtain ⟨j,tx⟩:=x
    obtain ⟨es,he,hf,hw,ht⟩:=hk.2 j tx hg
    have hj:=quGo_spec _ _ _ _ _ rfl hg
    rw [he,if_neg (show ¬ (1 : Nat) = 0 by decide)] at h
    refine Or.inr ⟨_,h,?_,rfl,rfl,rfl,rfl,rfl,rfl,rfl⟩
    refine R.to ?_ rfl rfl rfl rfl rfl rfl rfl rfl rfl rfl
    show toldL t (d.ps ++ quoI t ty es (q.pos + 1) j) = q.rs ++ [tell ty (q.pos + 1) tx false]
    rw [toldL_app,R.rs,told_quo hA hj.1 (by omega) hf hw ht]
 ·rw [if_neg (by omega)] at h
  rw [hc]
  have hk:=raw96 (t:=t) (s:=q.pos + 1) _ (q.pos + 1) [] rfl (Nat.le_refl _) hp (by rw [word_nil])
  unfold outRaw at h
  rw [skip_tick hA,hpos] at h
  cases hg : quGo t 96 (q.pos + 1) (q.pos + 1) [] with
  | none =>
   rw [if_pos (Nat.le_of_eq (hk.1 hg).symm)] at h
   exact Or.inl ⟨fail_over q,fin_over (fail_over q) (Or.inl (lbad h))⟩
  | some o =>
   cases o with
   | none => exact Or.inl ⟨opened_over q,fin_open rfl⟩
   | some x =>
    obtain ⟨j,tx⟩:=x
    obtain ⟨h1,h2,h3,h4⟩:=hk.2 j tx hg
    rw [h1,if_neg (by omega)] at h
    refine Or.inr ⟨_,h,?_,rfl,rfl,rfl,rfl,rfl,rfl,rfl⟩
    refine R.to ?_ rfl rfl rfl rfl rfl rfl rfl rfl rfl rfl
    show toldL t (d.ps ++ [PI.of t ty (q.pos + 1) j true]) = q.rs ++ [tell ty (q.pos + 1) tx false]
    rw [toldL_app,R.rs]
    show q.rs ++ [told t (PI.of t ty (q.pos + 1) j true)] = _
    rw [told_of,h4]
theorem val_c (b : UInt8) (h : valC b = true) : b.toNat ≠ 34 ∧ b.toNat ≠ 92 ∧ b.toNat ≠ 96:=byteAll (P:=fun b => valC b = true → b.toNat ≠ 34 ∧ b.toNat ≠ 92 ∧ b.toNat ≠ 96) (by decide +kernel) b h
theorem word_c (b : UInt8) (h : wordB b = true) : b.toNat ≠ 62 ∧ b.toNat ≠ 37 ∧ b.toNat ≠ 61 ∧ b.toNat ≠ 47 ∧ b.toNat ≠ 92 ∧ b.toNat ≠ 34 ∧ b.toNat ≠ 96 ∧ b.toNat ≠ 46:=byteAll (P:=fun b => wordB b = true → b.toNat ≠ 62 ∧ b.toNat ≠ 37 ∧ b.toNat ≠ 61 ∧ b.toNat ≠ 47 ∧ b.toNat ≠ 92 ∧ b.toNat ≠ 34 ∧ b.toNat ≠ 96 ∧ b.toNat ≠ 46) (by decide +kernel) b h
def valAt (t : List UInt8) (d : D) : Option Nat × D:=
 if (nx t d.pos).1 = 34 ∨ (nx t d.pos).1 = 92 then outQuo t d (decide ((nx t d.pos).1 ≠ 92)) 16
 else if (nx t d.pos).1 = 96 then outRaw t d 16 else (some 158,d)
theorem ins_eq {t : List UInt8} {nd : Bool} {d r : D} {right : List UInt8} (hA : Asc t) (hR : RD d right) (hp : d.pos < t.length) (hc : chr t d.pos = 61) (h : Lexes t nd (some 144,d) r) :
  Lexes t nd (valAt t { d with pos:=runTo notW t (d.pos + 1),start:=runTo notW t (d.pos + 1) }) r:=by
 have h1:=lgo h
 have h2 : stp t nd 144 d = valAt t { d with pos:=runTo notW t (d.pos + 1),start:=runTo notW t (d.pos + 1) }:=by
  show outInside t d = _
  unfold outInside valAt
  rw [hR.pre,if_neg (by rw [hR.no (by omega) (by omega)]; simp),nx1 hA hp,if_neg (by omega),if_neg (by rw [hc]; decide),if_pos (by omega),nx2 hA hp,skip_sp hA]
 rw [h2] at h1
 exact h1
theorem value_sim {t : List UInt8} {nd : Bool} {d r : D} {q : QP} (hA : Asc t) (R : Rel t nd d q) (hpos : d.pos = q.pos) (hst : d.start = d.pos) (hl : q.pos ≤ t.length) (h : Lexes t nd (valAt t d) r) :
  ((q.value t).over ∧ Fin t r (q.value t)) ∨ ∃ d',Lexes t nd (some 144,d') r ∧ Rel t nd d' (q.value t) ∧ d'.pos = (q.value t).pos ∧ d'.start = d'.pos ∧ Same d d':=by
 unfold QP.value
 unfold valAt at h
 by_cases h1 : q.pos < t.length ∧ (chr t q.pos = 34 ∨ chr t q.pos = 96)
 ·rw [if_pos h1]
  rw [hpos,nx1 hA h1.1] at h
  refine quoted_sim hA R hpos h1.1 h1.2 ?_
  rcases h1.2 with hc | hc
  ·rw [if_pos (by omega),decide_eq_true (show (chr t q.pos : Int) ≠ 92 by omega)] at h
   rw [if_pos hc]
   exact h
  ·rw [if_neg (by omega),if_pos (by omega)] at h
   rw [if_neg (by omega)]
   exact h
 ·rw [if_neg h1]
  unfold QP.valueK
  have hkl:=runTo_le (stop:=stopV) (t:=t) _ q.pos rfl hl
  have hka:=runTo_all (st:=stopV) (t:=t) _ q.pos rfl
  generalize runTo stopV t q.pos = k at hkl hka
  by_cases h2 : k = t.length ∨ k = q.pos ∨ whiteB (t.getD k 0) = false
  ·rw [if_pos h2]
   exact Or.inl ⟨opened_over q,fin_open rfl⟩
  ·rw [if_neg h2]
   have hk : q.pos < k ∧ k < t.length:=⟨by have : ¬ k = q.pos:=fun e => h2 (Or.inr (Or.inl e)); omega,by have : ¬ k = t.length:=fun e => h2 (Or.inl e); omega⟩
   have hwk : whiteB (t.getD k 0) = true:=by
    cases hw : whiteB (t.getD k 0) with
    | true => rfl
    | false => exact absurd (Or.inr (Or.inr hw)) h2
   have hv0:=hka q.pos (Nat.le_refl _) hk.1
   have hqt : q.pos < t.length:=by omega
   have hvc : valC (t.getD q.pos 0) = true:=by
    unfold stopV at hv0
    simp only [Bool.or_eq_false_iff] at hv0
    simpa using hv0.2
   have hcc:=val_c _ hvc
   have hch : chr t q.pos = (t.getD q.pos 0).toNat:=rfl
   rw [hpos,nx1 hA hqt,if_neg (by omega),if_neg (by omega)] at h
   have h3:=lgo h
   have hsk : skipTo isSp t d.pos = k:=by
    rw [hpos,skip_isSp hA]
    refine runTo_uniq _ q.pos rfl (by omega) (by omega) (fun j a b => ?_) (Or.inr hwk)
    have:=hka j a b
    unfold stopV at this
    simp only [Bool.or_eq_false_iff] at this
    exact this.1
   have h4 : stp t nd 158 d = (some 144,({ d with pos:=k }).em t 16):=by
    show outVal t d = _
    unfold outVal
    rw [hsk]
   rw [h4] at h3
   refine Or.inr ⟨_,h3,?_,rfl,rfl,rfl,rfl,rfl,rfl,rfl⟩
   refine R.emit (ty:=16) (lo:=q.pos) (hi:=k) (by decide) ?_ rfl rfl rfl rfl rfl rfl rfl rfl rfl rfl rfl
   show d.ps ++ emitI t 16 d.start k = _
   rw [hst,hpos]
structure RelP (t : List UInt8) (nd : Bool) (right : List UInt8) (d : D) (q : QP) (nm po : Bool) : Prop where
 rel : Rel t nd d q
 rd : RD d right
 pos : d.pos = q.pos
 st : d.start = d.pos
 step : 0 < d.step
 clos : d.clos = 0
 par : d.par = if nm = true then 2 else if po = true then 1 else 0
 np : ¬ (nm = true ∧ po = true)
 name : d.name ≠ []
theorem parameter_sim {t : List UInt8} {nd : Bool} {d r : D} {q : QP} {right : List UInt8} {nm po : Bool} (hA : Asc t) (R : RelP t nd right d q nm po) (hp : q.pos < t.length) (hb : begS t q.pos right = false) (hw : whiteB (t.getD q.pos 0) = false)
  (h47 : begS t q.pos [47] = false) (hqt : ¬ (chr t q.pos = 34 ∨ chr t q.pos = 96)) (h : Lexes t nd (some 144,d) r) :
  ((q.parameter t nm po).2.2.over ∧ Fin t r (q.parameter t nm po).2.2) ∨ ∃ d',Lexes t nd (some 144,d') r ∧ RelP t nd right d' (q.parameter t nm po).2.2 (q.parameter t nm po).1 (q.parameter t nm po).2.1:=by
 unfold QP.parameter
 have hkl:=runTo_le (stop:=notPar) (t:=t) _ q.pos rfl (Nat.le_of_lt hp)
 have hk1 : notPar t[q.pos] = false → runTo notPar t q.pos = runTo notPar t (q.pos + 1):=fun e => runTo_go hp e
 have hk2 : notPar t[q.pos] = true → runTo notPar t q.pos = q.pos:=fun e => runTo_at hp e
 have hkd : ∃ k,k = runTo notPar t q.pos:=⟨_,rfl⟩
 obtain ⟨k,hkd⟩:=hkd
 rw [← hkd] at hkl hk1 hk2 ⊢
 unfold QP.parameterK
 by_cases h1 : k = q.pos ∨ k = t.length ∨ chr t q.pos = 46 ∨ chr t q.pos = 45
 ·rw [if_pos h1]
  exact Or.inl ⟨opened_over q,fin_open rfl⟩
 rw [if_neg h1]
 have hk : q.pos < k ∧ k < t.length:=⟨by have : ¬ k = q.pos:=fun e => h1 (Or.inl e); omega,by have : ¬ k = t.length:=fun e => h1 (Or.inr (Or.inl e)); omega⟩
 have hnp : notPar t[q.pos] = false:=by
  cases hx : notPar t[q.pos] with
  | false => rfl
  | true => have:=hk2 hx; omega
 have hke:=hk1 hnp
 have hch:=chr_get hp
 have hb128:=hA.get hp
 have hwb : wordB t[q.pos] = true:=by
  unfold notPar at hnp
  simp only [Bool.not_eq_false',Bool.or_eq_true,decide_eq_true_eq] at hnp
  rcases hnp with hnp | hnp
  ·exact hnp
  ·exact absurd (Or.inr (Or.inr (Or.inl (hch.trans hnp)))) h1
 have hwc:=word_c _ hwb
 rw [← hch] at hwc
 have hR:=R.rd
 have hdp:=R.pos
 have h2:=lgo h
 have hpe : parEnd t d.pos = k:=by
  unfold parEnd
  rw [hdp,nx1 hA hp,hch,parC_b hb128,hnp]
  show (if (true : Bool) = true then _ else _) = _
  rw [if_pos rfl,nx2 hA hp,skip_par hA,← hke]
 have hpq : parEq t d.pos = decide (chr t k = 61):=by
  unfold parEq
  rw [hpe,hdp,nx1 hA hp,hch,parC_b hb128,hnp,nx1 hA hk.2]
  show (true && _) = _
  rw [Bool.true_and]
  exact decide_eq_decide.2 (by omega)
 have h3 : stp t nd 144 d = outPar2 t { d with pos:=k } (decide (chr t k = 61)):=by
  show outInside t d = _
  unfold outInside
  rw [hR.pre,hdp,if_neg (by rw [hb]; simp),nx1 hA hp,if_neg (by omega),if_neg (by rw [whiteC hp,hw]; simp),if_neg (by omega),if_neg (by omega),if_neg (by omega),if_pos ⟨R.step,Or.inl (by rw [hch,isANH_b hb128]; exact hwb)⟩]
  unfold outParam
  rw [hpe,hpq,hdp,nx1 hA hp,if_neg (by omega),if_neg (by omega)]
 rw [h3] at h2
 unfold outPar2 at h2
 have hpar:=R.par
 have hrs : ∀ (d' : D) (x : Int),d' = ({ d with pos:=k,par:=x } : D).em t 15 → d'.ps = d.ps ++ emitI t 15 q.pos k:=by
  intro d' x e
  rw [e]
  show d.ps ++ emitI t 15 d.start k = _
  rw [R.st,hdp]
 by_cases h4 : chr t k = 61
 ·rw [if_pos h4]
  rw [decide_eq_true h4] at h2
  cases po with
  | true =>
   rw [if_pos rfl]
   have hnm : nm = false:=by
    cases nm with
    | false => rfl
    | true => exact absurd ⟨rfl,rfl⟩ R.np
   rw [hnm] at hpar
   have hpar1 : d.par = 1:=hpar
   rw [if_neg (show ¬ d.par = 0 by omega),if_pos ⟨rfl,hpar1⟩] at h2
   exact Or.inl ⟨fail_over q,fin_over (fail_over q) (Or.inl (lbad h2))⟩
  | false =>
   rw [if_neg (by simp)]
   have h5 : Lexes t nd (some 144,({ d with pos:=k,par:=2 } : D).em t 15) r:=by
    cases nm with
    | true =>
     have hpar1 : d.par = 2:=hpar
     rw [if_neg (show ¬ d.par = 0 by omega),if_neg (show ¬ (true = true ∧ d.par = 1) by omega),if_neg (show ¬ (true = false ∧ d.par = 2) by simp)] at h2
     have e : ({ d with pos:=k,par:=2 } : D) = { d with pos:=k }:=by rw [← hpar1]
     rw [e]
     exact h2
    | false =>
     have hpar1 : d.par = 0:=hpar
     rw [if_pos hpar1] at h2
     exact h2
   have hd5 : ∃ d5,d5 = ({ d with pos:=k,par:=2 } : D).em t 15:=⟨_,rfl⟩
   obtain ⟨d5,hd5⟩:=hd5
   rw [← hd5] at h5
   have h5p : d5.pos = k:=by rw [hd5]; rfl
   have h5R : RD d5 right:=by rw [hd5]; exact ⟨hR.eq,hR.rd⟩
   have hrl:=runTo_le (stop:=notW) (t:=t) _ (k + 1) rfl hk.2
   have h6:=ins_eq hA h5R (by rw [h5p]; exact hk.2) (by rw [h5p]; exact h4) h5
   rw [h5p] at h6
   have R6 : Rel t nd { d5 with pos:=runTo notW t (k + 1),start:=runTo notW t (k + 1) } { q.put 15 q.pos (wordA t q.pos k) with pos:=runTo notW t (k + 1) }:=
    R.rel.emit (ty:=15) (lo:=q.pos) (hi:=k) (by decide) (hrs d5 2 hd5) rfl (by rw [hd5]; rfl) (by rw [hd5]; rfl) (by rw [hd5]; rfl) (by rw [hd5]; rfl) (by rw [hd5]; rfl) rfl rfl rfl rfl rfl
   rcases value_sim hA R6 rfl rfl hrl.2 h6 with h7 | ⟨d',h7,R7,p7,s7,m7⟩
   ·exact Or.inl h7
   ·refine Or.inr ⟨d',h7,R7,⟨?_,?_⟩,p7,s7,?_,?_,?_,by simp,?_⟩
    ·rw [m7.rd]; exact h5R.eq
    ·rw [m7.rd]; exact h5R.rd
    ·rw [m7.step]; show 0 < d5.step; rw [hd5]; exact R.step
    ·rw [m7.clos]; show d5.clos = 0; rw [hd5]; exact R.clos
    ·rw [m7.par]; show d5.par = 2; rw [hd5]; rfl
    ·rw [m7.name]; show d5.name ≠ []; rw [hd5]; exact R.name
 rw [if_neg h4]
 rw [decide_eq_false h4] at h2
 by_cases h5 : whiteB (t.getD k 0) = false ∧ begS t k gt3 = false ∧ begS t k pct3 = false
 ·rw [if_pos h5]
  exact Or.inl ⟨opened_over q,fin_open rfl⟩
 rw [if_neg h5]
 by_cases h6 : k < runTo notW t k ∧ begS t (runTo notW t k) [61] = true
 ·rw [if_pos h6]
  exact Or.inl ⟨opened_over q,fin_open rfl⟩
 rw [if_neg h6]
 cases nm with
 | true =>
  rw [if_pos rfl]
  have hpar1 : d.par = 2:=hpar
  rw [if_neg (show ¬ d.par = 0 by omega),if_neg (show ¬ (false = true ∧ d.par = 1) by simp),if_pos ⟨rfl,hpar1⟩] at h2
  exact Or.inl ⟨fail_over q,fin_over (fail_over q) (Or.inl (lbad h2))⟩
 | false =>
  rw [if_neg (by simp)]
  have h7 : Lexes t nd (some 144,({ d with pos:=k,par:=1 } : D).em t 15) r:=by
   cases po with
   | true =>
    have hpar1 : d.par = 1:=hpar
    rw [if_neg (show ¬ d.par = 0 by omega),if_neg (show ¬ (false = true ∧ d.par = 1) by simp),if_neg (show ¬ (false = false ∧ d.par = 2) by omega)] at h2
    have e : ({ d with pos:=k,par:=1 } : D) = { d with pos:=k }:=by rw [← hpar1]
    rw [e]
    exact h2
   | false =>
    have hpar1 : d.par = 0:=hpar
    rw [if_pos hpar1] at h2
    exact h2
  refine Or.inr ⟨_,h7,?_,⟨hR.eq,hR.rd⟩,rfl,rfl,R.step,R.clos,rfl,by simp,R.name⟩
  exact R.rel.emit (ty:=15) (lo:=q.pos) (hi:=k) (by decide) (hrs _ 1 rfl) rfl rfl rfl rfl rfl rfl rfl rfl rfl rfl rfl
end Go.Wk
