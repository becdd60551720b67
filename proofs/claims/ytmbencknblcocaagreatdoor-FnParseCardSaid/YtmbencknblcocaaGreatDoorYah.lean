/- White space: what bytes.TrimSpace leaves. -/
import Derived.Lib.TrimUEq
import Derived.Lib.SpaceUEq
import Derived.Shelf.Spec.BytesTrimFunc
import Derived.Test.YtmbencknblcocaaGreatDoorYaf
import Derived.Test.YtmbencknblcocaaGreatDoorYag
import Derived.Test.YtmbencknblcocaaGreatDoorYae
import Derived.Laws.Tables
import Derived.Laws.Shifts
namespace Go.Wk
open Go Go.Lib
def nonSp (l : List UInt8) : Bool:=!(stripL l.length l).isEmpty
theorem find_seq {l : List UInt8} (h : headSpace l ≠ 0) : ∃ q,spaceSeqs.find? (·.isPrefixOf l) = some q ∧ q ∈ spaceSeqs ∧ q.isPrefixOf l = true ∧ headSpace l = q.length:=by
 unfold headSpace at *
 cases hf : spaceSeqs.find? (·.isPrefixOf l) with
 | none => rw [hf] at h; exact absurd rfl h
 | some q => exact ⟨q,rfl,List.mem_of_find?_eq_some hf,by simpa using List.find?_some hf,rfl⟩
theorem seq_pos : ∀ q ∈ spaceSeqs,0 < q.length:=by decide
theorem headSpace_of {l q : List UInt8} (hq : q ∈ spaceSeqs) (hp : q.isPrefixOf l = true) : headSpace l ≠ 0:=by
 unfold headSpace
 cases hf : spaceSeqs.find? (·.isPrefixOf l) with
 | none =>
  have:=List.find?_eq_none.1 hf q hq
  exact absurd hp this
 | some r =>
  have:=seq_pos r (List.mem_of_find?_eq_some hf)
  show r.length ≠ 0
  omega
theorem headSpace_le {l : List UInt8} : headSpace l ≤ l.length:=by
 by_cases h : headSpace l = 0
 ·omega
 ·obtain ⟨q,_,_,hp,he⟩:=find_seq h
  rw [he]
  exact (List.isPrefixOf_iff_prefix.1 hp).length_le
theorem stripL_fuel : ∀ (f g : Nat) (l : List UInt8),l.length ≤ f → l.length ≤ g → stripL f l = stripL g l
 | 0,g,l,hf,hg => by
  have : l = []:=List.eq_nil_of_length_eq_zero (by omega)
  subst this
  cases g with
  | zero => rfl
  | succ g => simp [stripL,headSpace_nil]
 | f + 1,0,l,hf,hg => by
  have : l = []:=List.eq_nil_of_length_eq_zero (by omega)
  subst this
  simp [stripL,headSpace_nil]
 | f + 1,g + 1,l,hf,hg => by
  unfold stripL
  split
  ·rfl
  ·rename_i h
   have hle:=headSpace_le (l:=l)
   exact stripL_fuel f g _ (by simp; omega) (by simp; omega)
theorem strip_step {l : List UInt8} (h : headSpace l ≠ 0) : stripL l.length l = stripL (l.drop (headSpace l)).length (l.drop (headSpace l)):=by
 have hle:=headSpace_le (l:=l)
 cases hl : l.length with
 | zero => omega
 | succ n =>
  rw [stripL,if_neg h]
  exact stripL_fuel _ _ _ (by simp; omega) (Nat.le_refl _)
theorem strip_stop {l : List UInt8} (h : headSpace l = 0) : stripL l.length l = l:=by
 cases hl : l.length with
 | zero => rfl
 | succ n => rw [stripL,if_pos h]
theorem nonSp_step {l : List UInt8} (h : headSpace l ≠ 0) : nonSp l = nonSp (l.drop (headSpace l)):=by unfold nonSp; rw [strip_step h]
theorem nonSp_stop {l : List UInt8} (h : headSpace l = 0) (hl : l ≠ []) : nonSp l = true:=by
 unfold nonSp; rw [strip_stop h]
 cases l with
 | nil => exact absurd rfl hl
 | cons b r => rfl
theorem stripR_nil : ∀ (f : Nat) (l : List UInt8),stripR f l = [] → l = [] ∨ headSpace l ≠ 0
 | 0,l,h => Or.inl h
 | f + 1,l,h => by
  unfold stripR at h
  split at h
  ·exact Or.inl h
  ·rename_i ht
   rcases stripR_nil f _ h with h1 | h1
   ·-- all of l is one sequence
    right
    unfold tailSpace at ht
    cases hf : spaceSeqs.find? (·.isSuffixOf l) with
    | none => rw [hf] at ht; exact absurd rfl ht
    | some q =>
     have hq:=List.mem_of_find?_eq_some hf
     have hs : q.isSuffixOf l = true:=by simpa using List.find?_some hf
     have hts : tailSpace l = q.length:=by unfold tailSpace; rw [hf]; rfl
     have hsuf:=List.isSuffixOf_iff_suffix.1 hs
     have hlen:=congrArg List.length h1
     simp [hts] at hlen
     have hle:=hsuf.length_le
     have hpos:=seq_pos q hq
     have : q = l:=hsuf.eq_of_length (by omega)
     subst this
     exact headSpace_of hq (List.isPrefixOf_iff_prefix.2 (List.prefix_refl _))
   ·right
    obtain ⟨q,_,hq,hp,_⟩:=find_seq h1
    refine headSpace_of hq (List.isPrefixOf_iff_prefix.2 ?_)
    exact (List.isPrefixOf_iff_prefix.1 hp).trans (List.take_prefix _ _)
theorem trimU_nil (l : List UInt8) : trimSpaceU l = [] ↔ stripL l.length l = []:=by
 unfold trimSpaceU
 constructor
 ·intro h
  rcases stripR_nil _ _ h with h1 | h1
  ·exact h1
  ·exfalso
   have : ∀ (n : Nat) (l : List UInt8),l.length ≤ n → headSpace (stripL l.length l) = 0:=by
    intro n
    induction n with
    | zero =>
     intro l hl
     have : l = []:=List.eq_nil_of_length_eq_zero (by omega)
     subst this
     exact headSpace_nil
    | succ n ih =>
     intro l hl
     by_cases hh : headSpace l = 0
     ·rw [strip_stop hh]; exact hh
     ·rw [strip_step hh]
      have:=headSpace_le (l:=l)
      exact ih _ (by simp; omega)
   exact h1 (this _ l (Nat.le_refl _))
 ·intro h
  rw [h]
  cases l.length with
  | zero => rfl
  | succ n => simp [stripR,tailSpace_nil]
theorem idx_eq (s : ByteArray) : ∀ (f pos : Nat),idxFuncFrom isSpaceR false s f pos = leftFrom s f pos
 | 0,_ => rfl
 | f + 1,pos => by
  unfold idxFuncFrom leftFrom
  split
  ·cases h : isSpaceR (Utf8.decode s pos).1 with
   | false => simp
   | true => simpa using idx_eq s f _
  ·rfl
theorem lastIdx_eq (s : ByteArray) : ∀ (f i : Nat),lastIdxFuncFrom isSpaceR false s f i = rightFrom s f i
 | 0,_ => rfl
 | f + 1,i => by
  unfold lastIdxFuncFrom rightFrom
  split
  ·cases h : isSpaceR (decodeLastL (s.data.toList.take i)).1 with
   | false => simp
   | true => simpa using lastIdx_eq s f _
  ·rfl
theorem rightEnd_eq (s : ByteArray) : rightEndF isSpaceR s = rightEnd s:=by
 unfold rightEndF rightEnd
 rw [show lastIdxFunc isSpaceR false s = rightIdx s from lastIdx_eq s _ _]
theorem trimCut_len (l : List UInt8) (b off cap : Nat) : ∃ a m c,Go.Proofs.trimCut isSpaceR ⟨⟨l⟩⟩ b off cap = .slice a m c ∧ (0 < m ↔ nonSp l = true):=by
 unfold Go.Proofs.trimCut
 have hI : idxFunc isSpaceR false ⟨⟨l⟩⟩ = leftIdx ⟨⟨l⟩⟩:=idx_eq _ _ _
 rw [hI]
 have hg : (goTrim ⟨⟨l⟩⟩).data.toList = trimSpaceU l:=by rw [goTrim_eq,trimSpaceU_eq]
 have hns : nonSp l = true ↔ trimSpaceU l ≠ []:=by
  unfold nonSp
  rw [Ne,trimU_nil]
  cases stripL l.length l <;> simp
 rw [hns,← hg]
 unfold goTrim goTrimLeft goTrimRight
 by_cases h : leftIdx ⟨⟨l⟩⟩ = -1
 ·rw [if_pos h,if_pos h]
  refine ⟨_,_,_,rfl,?_⟩
  constructor
  ·intro h; omega
  ·intro h
   exact absurd (by rfl) h
 ·rw [if_neg h,if_neg h]
  refine ⟨_,_,_,rfl,?_⟩
  rw [rightEnd_eq]
  have hr : leftIdx ⟨⟨l⟩⟩ = -1 ∨ (((0 : Nat) : Int) ≤ leftIdx ⟨⟨l⟩⟩ ∧ leftIdx ⟨⟨l⟩⟩ < (ByteArray.mk ⟨l⟩).size):=leftFrom_range ⟨⟨l⟩⟩ _ 0
  have hr:=hr.resolve_left h
  generalize hs : (ByteArray.mk ⟨l⟩).extract (leftIdx ⟨⟨l⟩⟩).toNat (ByteArray.mk ⟨l⟩).size = s
  have hsz : 0 < s.size:=by
   rw [← hs]
   simp
   omega
  constructor
  ·intro h1 h2
   have h3 : (s.extract 0 (rightEnd s)).size = 0:=by
    show (s.extract 0 (rightEnd s)).data.size = 0
    rw [← Array.length_toList,h2]
    rfl
   rw [ByteArray.size_extract] at h3
   omega
  ·intro h1
   rcases Nat.eq_zero_or_pos (rightEnd s) with h2 | h2
   ·exfalso
    apply h1
    rw [h2]
    exact List.eq_nil_of_length_eq_zero (by simp)
   ·exact h2
end Go.Wk
namespace Go.Wk
open Go Go.RowKit Go.Proofs
set_option maxRecDepth 100000
section
variable {n : Nat} {s : Slots} {w : World} {dst : Option Tmp} {ty : TypeId} {pos : String} {af : Array Edge} {g : Option (Nat × Bool)} {x y : Operand}
def okArr (P : Program) (t e m : Nat) : Bool:=match P.underlying t,P.info? e with | some (.array k u),some i => k == m && u == e && i.size == 1 | _,_ => false
theorem op_indexAddrA {t e m b o : Nat} {i : Int} {k : IntKind} (hx : ev s x = some (Ptr b o)) (hy : ev s y = some (.int k i)) (ht : okArr PT t e m = true) (h0 : 0 ≤ i) (h1 : i < m) :
  Op1 PT ⟨dst,.indexAddr t x y,ty,pos,af,g⟩ n s (Ptr b (o + i.toNat)) w:=by
 refine ⟨fun ds a ha => ?_⟩
 unfold okArr at ht
 split at ht
 ·rename_i q u j hu hj
  simp only [Bool.and_eq_true,beq_iff_eq] at ht
  obtain ⟨⟨rfl,rfl⟩,hz⟩:=ht
  have he : PT.elem t = u:=by simp [Program.elem,hu]
  have hl : PT.arrayLen t = q:=by simp [Program.arrayLen,hu]
  have h2:=run_indexAt_array (P:=PT) w t ⟨b,o,none⟩ k i (by rw [hu,he,hl])
  have h3 : (sizeOf u).run PT w = .ok 1 w:=by simp [sizeOf,typeInfo,hj,hz]
  rw [if_pos ⟨h0,by rw [hl]; exact h1⟩,he,h3] at h2
  simp only [Result.andThen_ok,Addr.add_lit,Nat.mul_one] at h2
  simp [execOp,ha.ev hx,ha.ev hy,h2]
 ·cases ht
end
theorem trimFunc_fn {B : Nat} {w : World} {b : Nat} {v : Value} {l : List UInt8} (h : HBk b w v l) (hl : l ≠ []) (hT : TabsB B w) (hB : B ≤ w.heap.size) (hs : l.length ≤ 1000000) :
  Fn PT 107 [v,fnV 108] w (fun u w' => (∃ a m c,u = .slice a m c ∧ (0 < m ↔ nonSp l = true)) ∧ Ext w w'):=by
 obtain ⟨a,cp,rfl,hcp,hcl⟩:=h
 obtain ⟨o,rfl,hcells⟩:=hcl hl
 have hp : PredGrows PT 108 #[] Lib.isSpaceR w:=by
  intro W x hx hb
  have:=Tryz.unicode_IsSpace_any (x : Int) W (by omega) (by omega) (hT.ext hB hb).tabs.white
  rw [Lib.isSpaceZ_nat] at this
  exact this
 have h1:=Any7.bytes_TrimFunc Tryz.lays42 108 #[] en108 Lib.isSpaceR ⟨⟨l⟩⟩ b o cp w (by rw [size_S]; exact hcp) (by rw [size_S]; omega) (fun j hj => by
   rw [size_S] at hj
   rw [hcells j hj]
   have : (ByteArray.mk ⟨l⟩).get! j = l[j]:=by
    show (Array.mk l)[j]! = _
    simp [hj]
   rw [this]) hT.tabs.u8 hp
 rw [size_S] at h1
 obtain ⟨a',m,c',he,hm⟩:=trimCut_len l b o cp
 rw [he] at h1
 exact ⟨Calls.mono h1 fun _ _ ⟨he,hb⟩ => ⟨_,he,⟨_,_,_,rfl,hm⟩,hb⟩⟩
theorem asc_cell {w : World} (h : Tabs w) (q : Nat) (hq : q < 256) : w.cell? ⟨0,q,none⟩ = some (.int .u8 (if Lib.isSp (UInt8.ofNat q) then 1 else 0)):=by
 have hg : PT.globalNamed "bytes.asciiSpace" = some 0 := by kernel_rfl
 rw [h.asc.cell hg q (by rw [Lib.asciiSpaceTab_length]; exact hq),Lib.asciiSpaceTab_at q hq]
theorem head_sp {b : UInt8} {r : List UInt8} (h : Lib.isSp b = true) : Lib.headSpace (b :: r) = 1:=by
 have hm : ∀ i : Fin 256,Lib.isSp (UInt8.ofNat i.val) = true → [UInt8.ofNat i.val] ∈ Lib.spaceSeqs:=by decide
 have h1 : [b] ∈ Lib.spaceSeqs:=by
  have:=hm ⟨b.toNat,b.toNat_lt⟩
  simp at this
  exact this h
 have h2:=headSpace_of h1 (l:=b :: r) (by simp)
 obtain ⟨q,_,hq,hp,he⟩:=find_seq h2
 rw [he]
 have hl : ∀ i : Fin 256,Lib.isSp (UInt8.ofNat i.val) = true → ∀ q ∈ Lib.spaceSeqs,q.head? = some (UInt8.ofNat i.val) → q.length = 1:=by decide
 have:=hl ⟨b.toNat,b.toNat_lt⟩ (by simpa using h) q hq (by
  obtain ⟨z,hz⟩:=List.isPrefixOf_iff_prefix.1 hp
  cases q with
  | nil => have:=seq_pos [] hq; simp at this
  | cons c q => simp at hz; simp [hz.1])
 exact this
theorem head_ns {b : UInt8} {r : List UInt8} (h : Lib.isSp b = false) (h1 : b.toNat < 128) : Lib.headSpace (b :: r) = 0:=by
 by_cases h2 : Lib.headSpace (b :: r) = 0
 ·exact h2
 ·exfalso
  obtain ⟨q,_,hq,hp,he⟩:=find_seq h2
  have hl : ∀ i : Fin 256,Lib.isSp (UInt8.ofNat i.val) = false → i.val < 128 → ∀ q ∈ Lib.spaceSeqs,q.head? ≠ some (UInt8.ofNat i.val):=by decide
  refine hl ⟨b.toNat,b.toNat_lt⟩ (by simpa using h) h1 q hq ?_
  obtain ⟨z,hz⟩:=List.isPrefixOf_iff_prefix.1 hp
  cases q with
  | nil => have:=seq_pos [] hq; simp at this
  | cons c q => simp at hz; simp [hz.1]
set_option maxHeartbeats 3000000 in
theorem trim_fn {B : Nat} {w : World} {b : Nat} {v : Value} {l : List UInt8} (h : HBk b w v l) (hT : TabsB B w) (hB : B ≤ w.heap.size) (hs : l.length ≤ 1000000) :
  Fn PT 83 [v] w (fun u w' => (∃ a m c,u = .slice a m c ∧ (0 < m ↔ nonSp l = true)) ∧ Ext w w'):=by
 obtain ⟨a,cp,rfl,hcp,hcl⟩:=h
 have h : HBk b w (.slice a l.length cp) l:=⟨_,_,rfl,hcp,hcl⟩
 refine fn_of Tryz.func83 rfl Tryz.ntmps83 rfl ?_
 repeat(first|refine C0 ?_|refine C1 ?_|refine X1 rfl rfl ?_|refine X0 rfl rfl ?_|refine X13 rfl rfl rfl ?_|refine C2 ?_)
 refine CE.cut (fun s ds w' => ds = [] ∧ w' = w ∧ nonSp l = false) ?_ ?_
 ·refine CE.block ?_
  refine CE.loop (α:=Nat) (fun i => [(9,I i),(8,I l.length),(7,.slice a l.length cp),(0,.slice a l.length cp)]) (fun i w' => w' = w ∧ i ≤ l.length ∧ nonSp l = nonSp (l.drop i)) (fun i => l.length - i) 0 ⟨rfl,rfl,rfl,rfl,trivial⟩ ⟨rfl,Nat.zero_le _,by simp⟩ ?_
  rintro i w' ⟨hw',hi,hns⟩
  have hw2 : w = w':=hw'.symm
  subst hw2
  repeat(first|refine C0 ?_|refine C1 ?_|refine X7 rfl rfl rfl ?_|refine C2 ?_)
  refine CE.cond_d rfl (fun hlt => ?_) (fun hlt => ?_)
  ·have hil : i < l.length:=by omega
   obtain ⟨o,rfl,hcells⟩:=hcl (by intro e; subst e; simp at hil)
   have hcell : w.cell? ⟨b,o + (i : Int).toNat * 1,none⟩ = some (Wk.B l[i]):=by
    have e1 : o + (i : Int).toNat * 1 = o + i:=by omega
    rw [e1]; exact hcells i hil
   have hd:=List.drop_eq_getElem_cons hil
   generalize hb8 : l[i] = b8 at hcell hd
   have hb256:=b8.toNat_lt
   repeat(first|refine C0 ?_|refine C1 ?_|refine X1 rfl rfl ?_|refine CE.block ?_|refine C3 ?_)
   refine RE.x (op_indexAddr rfl rfl rfl (by omega) (by omega)) rfl ?_
   refine RE.x (op_load rfl rfl hcell) rfl ?_
   repeat(first|refine C0 ?_|refine C1 ?_|refine X1 rfl rfl ?_|refine X0 rfl rfl ?_|refine X10 rfl rfl rfl ?_|refine C2 ?_)
   refine CE.cond_d rfl (fun h128 => ?_) (fun h128 => ?_)
   ·repeat(first|refine C0 ?_|refine C1 ?_|refine X1 rfl rfl ?_)
    refine RE.x (op_slice_l rfl rfl rfl (by omega) (by omega)) rfl ?_
    have hs2:=hb_drop h hi
    refine RE.xc en107 rfl rfl (trimFunc_fn (v:=sliced (some ⟨b,o,none⟩) (i : Int).toNat l.length cp 1) (l:=l.drop i) hs2 (by rw [hd]; simp) hT hB (by simp; omega)) ?_
    rintro _ w3 ⟨⟨a3,m3,c3,rfl,hm3⟩,e3⟩
    repeat(first|refine X0 rfl rfl ?_|refine C2 ?_)
    (refine CE.ret ?_;(try dsimp only);refine ret1 rfl rfl ?_)
    exact ⟨⟨_,_,_,rfl,by rw [hns]; exact hm3⟩,e3⟩
   ·have h128' : b8.toNat < 128:=by omega
    have hasc:=asc_cell hT.tabs b8.toNat hb256
    rw [show UInt8.ofNat b8.toNat = b8 by simp] at hasc
    repeat(first|refine C0 ?_|refine C1 ?_|refine X1 rfl rfl ?_|refine C3 ?_)
    refine RE.x (op_indexAddrA (m:=256) (e:=5) rfl rfl (by kernel_rfl) (by omega) (by omega)) rfl ?_
    refine RE.x (op_load rfl rfl (by simpa using hasc)) rfl ?_
    cases hsp : Lib.isSp b8 with
    | true =>
     rw [if_pos rfl]
     repeat(first|refine C1 ?_|refine X1 rfl rfl ?_|refine X6 rfl rfl rfl ?_|refine X18 rfl rfl (by omega) (by omega) rfl ?_|refine C2 ?_|refine CE.exit (show CE _ _ _ _ _ _ _ from ?_)|refine CE.cond_t rfl ?_)
     refine RE.nilx ?_
     refine ⟨i + 1,by show l.length - (i + 1) < l.length - i; omega,rfl,⟨rfl,rfl,rfl,rfl,trivial⟩,rfl,by omega,?_⟩
     rw [hns,hd,nonSp_step (by rw [head_sp hsp]; decide),head_sp hsp]
     simp
    | false =>
     rw [if_neg (by decide)]
     have hhs : Lib.headSpace (l.drop i) = 0:=by rw [hd]; exact head_ns hsp h128'
     have hnt : nonSp l = true:=by rw [hns]; exact nonSp_stop hhs (by rw [hd]; simp)
     have hs2:=hb_drop h hi
     obtain ⟨a2,c2,hv2,hc2,hcl2⟩:=hs2
     have hne2 : l.drop i ≠ []:=by rw [hd]; simp
     obtain ⟨o2,rfl,hcells2⟩:=hcl2 hne2
     have hs3 : HBk b w (Sl b o2 (l.drop i).length c2) (l.drop i):=⟨_,_,rfl,hc2,fun _ => ⟨o2,rfl,hcells2⟩⟩
     have hlen2 : (l.drop i).length = l.length - i:=by simp
     generalize hL2 : l.drop i = l2 at *
     have hl20 : l2[0]? = some b8:=by rw [hd]; rfl
     repeat(first|refine X6 rfl rfl rfl ?_|refine C2 ?_)
     refine CE.cond_f rfl ?_
     repeat(first|refine C0 ?_|refine C1 ?_|refine X1 rfl rfl ?_|refine C3 ?_)
     refine RE.x (op_slice_l rfl rfl rfl (by omega) (by omega)) rfl ?_
     rw [show sliced (some ⟨b,o,none⟩) (i : Int).toNat l.length cp 1 = Sl b o2 l2.length c2 from hv2]
     repeat(first|refine C0 ?_|refine C1 ?_|refine X1 rfl rfl ?_|refine X0 rfl rfl ?_|refine X13 rfl rfl rfl ?_|refine X19 rfl rfl (by omega) (by omega) rfl ?_|refine C2 ?_)
     refine CE.cut (fun _ _ _ => False) ?_ (fun _ _ _ h => h.elim)
     refine CE.block ?_
     refine CE.loop (α:=Nat) (fun k => [(5,I k),(0,Sl b o2 l2.length c2)]) (fun k w' => w' = w ∧ k < l2.length) id (l2.length - 1) ⟨?_,rfl,trivial⟩ ⟨rfl,by omega⟩ ?_
     ·show some (I ((l2.length : Int) - 1)) = some (I ((l2.length - 1 : Nat) : Int))
      rw [show ((l2.length - 1 : Nat) : Int) = (l2.length : Int) - 1 by omega]
     rintro k w' ⟨hw',hk⟩
     have hw2 : w = w':=hw'.symm
     subst hw2
     have hcellk : w.cell? ⟨b,o2 + (k : Int).toNat * 1,none⟩ = some (Wk.B l2[k]):=by
      have e1 : o2 + (k : Int).toNat * 1 = o2 + k:=by omega
      rw [e1]; exact hcells2 k hk
     generalize hbk : l2[k] = bk at hcellk
     have hk256:=bk.toNat_lt
     have hst:=HBk.slice hs3 (i:=0) (j:=k + 1) (Nat.zero_le _) (by omega)
     have e0 : ((k : Int) + 1).toNat = k + 1:=by omega
     repeat(first|refine C0 ?_|refine C1 ?_|refine X1 rfl rfl ?_|refine X10 rfl rfl rfl ?_|refine C2 ?_)
     refine CE.cond_d rfl (fun hge => ?_) (fun hge => ?_)
     ·repeat(first|refine C0 ?_|refine C1 ?_|refine X1 rfl rfl ?_|refine CE.block ?_|refine C3 ?_)
      refine RE.x (op_indexAddr rfl rfl rfl (by omega) (by omega)) rfl ?_
      refine RE.x (op_load rfl rfl hcellk) rfl ?_
      repeat(first|refine C0 ?_|refine C1 ?_|refine X1 rfl rfl ?_|refine X0 rfl rfl ?_|refine X10 rfl rfl rfl ?_|refine C2 ?_)
      refine CE.cond_d rfl (fun h128k => ?_) (fun h128k => ?_)
      ·repeat(first|refine C0 ?_|refine C1 ?_|refine X1 rfl rfl ?_|refine X18 rfl rfl (by omega) (by omega) rfl ?_)
       refine RE.x (op_slice_h rfl rfl rfl (by omega) (by omega)) rfl ?_
       rw [e0]
       have hne : (l2.drop 0).take (k + 1 - 0) ≠ []:=by
        intro e
        have h9 : ((l2.drop 0).take (k + 1 - 0)).length = 0:=by rw [e]; rfl
        rw [List.length_take,List.length_drop] at h9
        omega
       refine RE.xc en107 rfl rfl (trimFunc_fn (v:=sliced (some ⟨b,o2,none⟩) 0 (k + 1) c2 1) hst hne hT hB (by simp; omega)) ?_
       rintro _ w3 ⟨⟨a3,m3,c3,rfl,hm3⟩,e3⟩
       repeat(first|refine X0 rfl rfl ?_|refine C2 ?_)
       (refine CE.ret ?_;(try dsimp only);refine ret1 rfl rfl ?_)
       refine ⟨⟨_,_,_,rfl,?_⟩,e3⟩
       rw [hm3,hnt]
       have : nonSp ((l2.drop 0).take (k + 1 - 0)) = true:=by
        rw [hd]
        exact nonSp_stop (head_ns hsp h128') (by simp)
       rw [this]
      ·have hasck:=asc_cell hT.tabs bk.toNat hk256
       rw [show UInt8.ofNat bk.toNat = bk by simp] at hasck
       repeat(first|refine C0 ?_|refine C1 ?_|refine X1 rfl rfl ?_|refine C3 ?_)
       refine RE.x (op_indexAddrA (m:=256) (e:=5) rfl rfl (by kernel_rfl) (by omega) (by omega)) rfl ?_
       refine RE.x (op_load rfl rfl (by simpa using hasck)) rfl ?_
       cases hspk : Lib.isSp bk with
       | false =>
        rw [if_neg (by decide)]
        repeat(first|refine X5 rfl rfl rfl ?_|refine C2 ?_)
        refine CE.cond_t rfl ?_
        repeat(first|refine C0 ?_|refine C1 ?_|refine X1 rfl rfl ?_|refine X18 rfl rfl (by omega) (by omega) rfl ?_)
        refine RE.x (op_slice_h rfl rfl rfl (by omega) (by omega)) rfl ?_
        rw [e0]
        repeat(first|refine X0 rfl rfl ?_|refine C2 ?_)
        (refine CE.ret ?_;(try dsimp only);refine ret1 rfl rfl ?_)
        refine ⟨⟨_,_,_,rfl,?_⟩,Ext.refl _⟩
        rw [hnt]
        simp
       | true =>
        have hk0 : k ≠ 0:=by
         rintro rfl
         have : l2[0]? = some bk:=by rw [← hbk]; simp
         rw [hl20] at this
         cases this
         rw [hsp] at hspk
         cases hspk
        rw [if_pos rfl]
        repeat(first|refine X5 rfl rfl rfl ?_|refine C2 ?_)
        refine CE.cond_f rfl ?_
        repeat(first|refine C1 ?_|refine X1 rfl rfl ?_|refine X0 rfl rfl ?_|refine X19 rfl rfl (by omega) (by omega) rfl ?_|refine C3 ?_)
        refine RE.nilx ?_
        exact ⟨k - 1,by show k - 1 < k; omega,rfl,⟨congrArg (fun z => some (I z)) (show ((k : Int) - 1) = ((k - 1 : Nat) : Int) by omega),rfl,trivial⟩,rfl,by omega⟩
     ·omega
  ·refine CE.exit ?_
   refine ⟨rfl,rfl,?_⟩
   rw [hns,List.drop_eq_nil_of_le (by omega)]
   rfl
 ·rintro s _ w' ⟨rfl,hw',hns⟩
  subst hw'
  repeat(first|refine C0 ?_|refine C1 ?_|refine X0 rfl rfl ?_|refine C2 ?_)
  (refine CE.ret ?_;(try dsimp only);refine ret1 rfl rfl ?_)
  exact ⟨⟨_,_,_,rfl,by rw [hns]; simp⟩,Ext.refl _⟩
end Go.Wk
namespace Go.Wk
open Go Go.RowKit Go.Proofs
section
variable {n : Nat} {s : Slots} {w : World} {dst : Option Tmp} {ty : TypeId} {pos : String} {af : Array Edge} {g : Option (Nat × Bool)} {x y : Operand} {v : Value}
theorem run_storeA {t k b : Nat} {cur cells : Array Value} {T : TypeId} (ht : agLook agT t = some k) (hb : w.heap[b]? = some (.cells cur T (0,0))) (hk : cells.size = k) (hc : cur.size = k) (h1 : ∀ u ∈ cells.toList,u.oneCell' = true) :
  (Instr.storeAt t (Ptr b 0) (.agg cells)).run PT w = .ok () (w.setRow b cells):=by
 have hz:=(ag_spec ht w).2
 have h2:=run_storeCells_from (P:=PT) b T cells.toList 0 cur w hb (by simp; omega) h1
 simp only [List.take_zero,List.nil_append,Array.toArray_toList] at h2
 have hsz : (Value.agg cells).cells = cells:=rfl
 simp only [Instr.storeAt,Instr.sureAddr,Sem.run_bind,Sem.run_pure,Result.andThen_ok,storeVar,hz,hsz]
 simp [hk,h2]
theorem upd_setRow {b : Nat} {cur cells : Array Value} {T : TypeId} (hb : w.heap[b]? = some (.cells cur T (0,0))) : Upd w b (.cells cells T (0,0)) (w.setRow b cells):=
 ⟨rfl,rfl,rfl,by simp,setRow_heap w b cur cells T (0,0) hb,fun k hk => setRow_other w b k cells hk⟩
theorem e_storeA {t k b : Nat} {cur cells : Array Value} {T : TypeId} (hx : ev s x = some (Ptr b 0)) (hy : ev s y = some (.agg cells)) (ht : agLook agT t = some k) (hb : w.heap[b]? = some (.cells cur T (0,0))) (hk : cells.size = k) (hc : cur.size = k)
  (h1 : ∀ u ∈ cells.toList,u.oneCell' = true) :
  OpE PT ⟨dst,.store t x y,ty,pos,af,g⟩ n s w (fun _ w' => Upd w b (.cells cells T (0,0)) w'):=by
 refine ⟨fun ds a ha => ⟨undef,_,Or.inr ⟨?_,rfl⟩,upd_setRow hb⟩⟩
 simp [execOp,ha.ev hx,ha.ev hy,run_storeA ht hb hk hc h1]
theorem op_shl_u16 {a : Int} {k : IntKind} {b r : Int} {t t' : TypeId} (hx : ev s x = some (.int .u16 a)) (hy : ev s y = some (.int k b)) (h0 : 0 ≤ b) (hr : IntKind.u16.wrap (a * 2 ^ min b.toNat 16) = r) :
  Op1 PT ⟨dst,.binOp .shl t x y t',ty,pos,af,g⟩ n s (.int .u16 r) w:=
 op_bin hx hy (eqGuard_shl _ _ _ _ _) (by rw [binOp_shl,shift_shl_any _ _ _ _ h0]; subst hr; rfl)
theorem op_or_u16 {a b : Int} {t t' : TypeId} (hx : ev s x = some (.int .u16 a)) (hy : ev s y = some (.int .u16 b)) :
  Op1 PT ⟨dst,.binOp .or t x y t',ty,pos,af,g⟩ n s (.int .u16 (bits .or .u16 a b)) w:=
 op_bin hx hy rfl (by rw [binOp_or,intBits_or]; rfl)
end
theorem retC {P : Program} {fn : Func} {n : Nat} {s : Slots} {w : World} {Φ : Value → World → Prop} {t : Tmp} {T b : Nat} {v : Value} (hr : fn.results = #[.cell t T]) (ht : look s t = some (Ptr b 0))
  (hl : (loadVar T ⟨b,0,none⟩).run P w = .ok v w) (h : Φ v w) : (endK P fn n Φ).r s [] w:=by
 refine ⟨rfl,v,fun a ha => ?_,h⟩
 have:=ha.val t _ ht
 rw [Array.getD_eq_getD_getElem?] at this
 simp [results,hr,this,asAddr,hl]
theorem loadVar_A {t k b : Nat} {w : World} {cs : Array Value} {T : TypeId} {fr : Nat × Nat} (ht : agLook agT t = some k) (hb : w.heap[b]? = some (.cells cs T fr)) (hk : cs.size = k) :
  (loadVar t ⟨b,0,none⟩).run PT w = .ok (.agg cs) w:=by
 have h1:=run_loadA (vs:=cs.toList) (o:=0) ht hb (by rw [List.drop_zero,List.take_of_length_le (by simp; omega)]) (by simpa using hk)
 simpa [Instr.loadAt,Instr.sureAddr] using h1
end Go.Wk
namespace Go.Wk
open Go Go.RowKit Go.Proofs
set_option maxRecDepth 100000
structure ValIs (B : Nat) (x : IC) (sv : Value) (l : List UInt8) (w0 : World) : Prop where
 out : ∀ w,Ext w0 w → Fn PT 82 [x.val,sv] w (fun u w' => (∃ b,HBk b w' u l) ∧ Ext w w')
 tabs : TabsB B w0
 base : B ≤ w0.heap.size
 small : l.length ≤ 1000000
theorem ValIs.ext {B : Nat} {x : IC} {sv : Value} {l : List UInt8} {w w' : World} (h : ValIs B x sv l w) (he : Ext w w') : ValIs B x sv l w':=
 ⟨fun w2 h2 => h.out w2 (he.trans h2),h.tabs.ext h.base he,Nat.le_trans h.base he.size,h.small⟩
theorem val_one {B ib : Nat} {x : IC} {t : List UInt8} {sv : Value} {w : World} (hs : x.sn = 0) (hi : HBk ib w sv t) (h1 : x.lo ≤ x.hi) (h2 : x.hi ≤ t.length) (hT : TabsB B w) (hB : B ≤ w.heap.size) (ht : t.length ≤ 1000000) :
  ValIs B x sv ((t.drop x.lo).take (x.hi - x.lo)) w:=by
 refine ⟨fun w2 he => ?_,hT,hB,by simp; omega⟩
 have hi2:=hi.ext he
 obtain ⟨a,cp,rfl,hcp,hcl⟩:=hi
 refine fn_of Tryz.func82 rfl Tryz.ntmps82 rfl ?_
 repeat(first|refine C0 ?_|refine C1 ?_)
 refine RE.xe (e_box (cells:=x.lst.toArray) rfl rfl) rfl ?_
 rintro _ w3 ⟨bx,rfl,hn⟩
 have hb:=hn.here
 repeat(first|refine C0 ?_|refine C1 ?_|refine X0 rfl rfl ?_|refine X3 rfl rfl rfl ?_|refine X22 rfl rfl hb rfl rfl ?_|refine X5 rfl rfl rfl ?_|refine X13 rfl rfl rfl ?_|refine C2 ?_)
 refine CE.cond_d rfl (fun h3 => ?_) (fun h3 => ?_)
 ·repeat(first|refine C0 ?_|refine C1 ?_|refine X1 rfl rfl ?_|refine X3 rfl rfl rfl ?_|refine X22 rfl rfl hb rfl rfl ?_)
  refine RE.x (op_slice_lh rfl rfl rfl rfl (by omega) (by omega) (by omega)) rfl ?_
  repeat(first|refine X0 rfl rfl ?_|refine C2 ?_)
  (refine CE.ret ?_;(try dsimp only);refine ret1 rfl rfl ?_)
  refine ⟨⟨ib,?_⟩,hn.ext⟩
  have:=HBk.slice (hi2.ext hn.ext) h1 h2
  simpa using this
 ·omega
theorem valStr_fn {B : Nat} {x : IC} {sv : Value} {l : List UInt8} {w : World} (h : ValIs B x sv l w) : Fn PT 45 [x.val,sv] w (fun u w' => u = S l ∧ Ext w w'):=by
 refine fn_of Tryz.func45 rfl Tryz.ntmps45 rfl ?_
 repeat(first|refine C0 ?_|refine C1 ?_)
 refine RE.xe (e_box (cells:=x.lst.toArray) rfl rfl) rfl ?_
 rintro _ w3 ⟨bx,rfl,hn⟩
 have hb:=hn.here
 repeat(first|refine C0 ?_|refine C1 ?_|refine X1 rfl rfl ?_|refine X0 rfl rfl ?_|refine X23 rfl rfl hb rfl rfl rfl ?_|refine C2 ?_)
 refine RE.xc en82 rfl rfl (h.out w3 hn.ext) ?_
 rintro v w4 ⟨⟨b4,h4⟩,e4⟩
 skip
 refine RE.x (op_conv_bs rfl h4.hb Tryz.underlying42 Tryz.underlying9) rfl ?_
 repeat(first|refine X0 rfl rfl ?_|refine C2 ?_)
 (refine CE.ret ?_;(try dsimp only);refine ret1 rfl rfl ?_)
 exact ⟨rfl,hn.ext.trans e4⟩
theorem nonWs_fn {B : Nat} {x : IC} {sv : Value} {l : List UInt8} {w : World} (h : ValIs B x sv l w) : Fn PT 48 [x.val,sv] w (fun u w' => u = .bool (nonSp l) ∧ Ext w w'):=by
 refine fn_of Tryz.func48 rfl Tryz.ntmps48 rfl ?_
 repeat(first|refine C0 ?_|refine C1 ?_)
 refine RE.xe (e_box (cells:=x.lst.toArray) rfl rfl) rfl ?_
 rintro _ w3 ⟨bx,rfl,hn⟩
 have hb:=hn.here
 repeat(first|refine C0 ?_|refine C1 ?_|refine X1 rfl rfl ?_|refine X0 rfl rfl ?_|refine X23 rfl rfl hb rfl rfl rfl ?_|refine C2 ?_)
 refine RE.xc en82 rfl rfl (h.out w3 hn.ext) ?_
 rintro v w4 ⟨⟨b4,h4⟩,e4⟩
 skip
 have h5:=h.ext (hn.ext.trans e4)
 refine RE.xc en83 rfl rfl (trim_fn h4 h5.tabs h5.base h5.small) ?_
 rintro _ w5 ⟨⟨a,m,c,rfl,hm⟩,e5⟩
 repeat(first|refine X0 rfl rfl ?_|refine X9 rfl rfl rfl ?_|refine X13 rfl rfl rfl ?_|refine C2 ?_)
 (refine CE.ret ?_;(try dsimp only);refine ret1 rfl rfl ?_)
 refine ⟨?_,(hn.ext.trans e4).trans e5⟩
 have : decide ((m : Int) > 0) = nonSp l:=by
  cases hl : nonSp l with
  | true => have:=hm.2 hl; simp; omega
  | false =>
   have h0 : ¬ 0 < m:=fun h0 => by have:=hm.1 h0; rw [hl] at this; cases this
   simp; omega
 rw [← this]
structure RI where
 ty : Int
 pos : Nat
 text : List UInt8
 failed : Bool
 is : Int
deriving DecidableEq
def RI.lst (x : RI) : List Value:=[I x.ty,I x.pos,S x.text,.bool x.failed,.int .u16 x.is]
def RI.val (x : RI) : Value:=.agg #[I x.ty,I x.pos,S x.text,.bool x.failed,.int .u16 x.is]
def foldBits : Int → Nat → List Bool → Int
 | x,_,[] => x
 | x,k,b :: r => foldBits (if b then bits .or .u16 x (2 ^ k) else x) (k + 1) r
theorem foldBits_snoc (b : Bool) : ∀ (l : List Bool) (x : Int) (k : Nat),foldBits x k (l ++ [b]) = (if b then bits .or .u16 (foldBits x k l) (2 ^ (k + l.length)) else foldBits x k l)
 | [],x,k => by simp [foldBits]
 | c :: l,x,k => by
  have:=foldBits_snoc b l (if c then bits .or .u16 x (2 ^ k) else x) (k + 1)
  simp only [List.cons_append,foldBits,this,List.length_cons]
  rw [show k + 1 + l.length = k + (l.length + 1) by omega]
theorem wrap_pow : ∀ k : Fin 16,IntKind.u16.wrap (1 * 2 ^ min ((k.val : Int)).toNat 16) = 2 ^ k.val:=by decide
def asks (ty : Int) (l : List UInt8) : List Bool:=
 [decide (ty = 18) || decide (ty = 17),decide (ty = 17),nonSp l,decide (ty = 13),decide (ty = 14),decide (ty = 10) || decide (ty = 8),decide (ty = 11) || decide (ty = 9),decide (ty = 12),decide (ty = 15),decide (ty = 16),
  decide (ty = 10) || decide (ty = 11),decide (3 ≤ ty) && decide (ty ≤ 6),decide (ty = 0) || decide (ty = 1),decide (ty = 1),decide (ty = 0)]
def tell (ty : Int) (pos : Nat) (l : List UInt8) (err : Bool) : RI:=⟨ty,pos,l,err,foldBits 0 0 (asks ty l)⟩
theorem plain_fn {B : Nat} {x : IC} {sv : Value} {l : List UInt8} {w : World} {p : Nat} (h : ValIs B x sv l w) (hp : x.at w p) (err : Bool) (hev : (err = false ∧ x.ev = .nilIface) ∨ (err = true ∧ ∃ b,x.ev = .iface 142 (Ptr b 0))) :
  Fn PT 35 [x.val,sv] w (fun u w' => u = (tell x.ty p l err).val ∧ Ext w w'):=by
 refine fn_of Tryz.func35 rfl Tryz.ntmps35 rfl ?_
 repeat(first|refine C0 ?_|refine C1 ?_)
 refine RE.xe (e_box (cells:=x.lst.toArray) rfl rfl) rfl ?_
 rintro _ w1 ⟨bx,rfl,hn1⟩
 refine RE.xe (e_alloc (cells:=#[I 0,I 0,S [],.bool false,.int .u16 0]) Tryz.zeroValue31 rfl) rfl ?_
 rintro _ w2 ⟨br,rfl,hn2⟩
 repeat(first|refine C0 ?_|refine C2 ?_)
 have e2:=hn1.ext.trans hn2.ext
 have hb2:=hn2.ext.block hn1.here
 have hb2d : w2.drew.heap[bx]? = _:=hb2
 have hr2d : w2.drew.heap[br]? = _:=hn2.here
 have hne : br ≠ bx:=by have:=hn1.num; have:=hn1.size; have:=hn2.num; omega
 have hev' : (!(isNilI x.ev)) = err:=by
  rcases hev with ⟨rfl,h⟩ | ⟨rfl,b,h⟩ <;> rw [h] <;> rfl
 refine CE.drawR Ext [0,0,0,0,0,0,0,0,0,0,0,1,2] mixed Ext.refl (fun _ _ _ => Ext.trans) (by decide +kernel) ?_
 repeat(first|refine Z3 rfl rfl rfl ?_|refine Z22 rfl rfl hb2d rfl rfl ?_|refine Z23 rfl rfl hb2d rfl rfl rfl ?_)
 refine RE.dc en44 rfl rfl (fun w7 h7 => pos_fn (hp.ext (e2.trans ((Ext.drew _).trans h7)))) ?_
 repeat(first|refine Z1 rfl rfl ?_|refine Z23 rfl rfl hb2d rfl rfl rfl ?_)
 refine RE.dc en45 rfl rfl (fun w7 h7 => valStr_fn (h.ext (e2.trans ((Ext.drew _).trans h7)))) ?_
 repeat(first|refine Z3 rfl rfl rfl ?_|refine Z22 rfl rfl hb2d rfl rfl ?_)
 refine RE.dd (fun _ _ => op_neq_if rfl (by rcases hev with ⟨_,h⟩ | ⟨_,b,h⟩; exact Or.inl h; exact Or.inr ⟨_,_,h⟩) (by kernel_rfl)) rfl Ext.refl ?_
 refine RE.dd (fun _ _ => op_build (cells:=#[I x.ty,I p,S l,.bool (!(isNilI x.ev)),.int .u16 0]) rfl (by kernel_rfl)) rfl Ext.refl ?_
 refine RE.gex (φ:=fun u w' => ∃ b,u = Ptr b 0 ∧ w'.heap[b]? = some (.cells #[I 0,I 0,S [],.bool false,.int .u16 0] 31 (0,0)) ∧ w2.heap.size ≤ b) rfl (fun v w4 w5 ⟨b,h1,h2,h3⟩ h4 => ⟨b,h1,h4.block h2,h3⟩)
  (fun w3 hw3 => OpE.mono (e_alloc (cells:=#[I 0,I 0,S [],.bool false,.int .u16 0]) Tryz.zeroValue31 rfl) ?_) ?_
 ·rintro v w4 ⟨b,rfl,hn4⟩
  exact ⟨⟨b,rfl,hn4.here,by have:=hw3.size; have:=hn4.num; have : w2.drew.heap.size = w2.heap.size:=rfl; omega⟩,hn4.ext⟩
 rintro _ ⟨_,_,bo,rfl,_,hbo⟩
 refine RE.es (Φ:=fun w3 _ w4 => Upd w3 bo (.cells #[I x.ty,I p,S l,.bool (!(isNilI x.ev)),.int .u16 0] 31 (0,0)) w4) (fun w3 hw3 => ?_) ?_
 ·obtain ⟨hw3,b',hb',hbb,_⟩:=hw3
  cases hb'
  exact e_storeA (k:=5) rfl rfl rfl hbb rfl rfl (by simp [Value.oneCell'])
 rintro w3 ⟨hw3,_⟩ _ w4 hu4
 have hnx : bo ≠ bx:=by have:=(Array.getElem?_eq_some_iff.1 hb2).1; omega
 have hnr : bo ≠ br:=by have:=(Array.getElem?_eq_some_iff.1 hr2d).1; have : w2.drew.heap.size = w2.heap.size:=rfl; omega
 refine RE.nil (fun w5 hw5 => ?_)
 have e4 : Ext w w4:=(e2.trans ((Ext.drew _).trans hw3)).fr (Fr.of_upd (S:=(· = bo)) hu4 rfl) (fun q hq => by subst hq; have:=e2.size; omega)
 have e5:=e4.trans hw5
 have hb5 : w5.heap[bx]? = _:=hw5.block (by rw [hu4.other bx (Ne.symm hnx)]; exact hw3.block hb2d)
 have hr5 : w5.heap[br]? = _:=hw5.block (by rw [hu4.other br (Ne.symm hnr)]; exact hw3.block hr2d)
 have ho5:=hw5.block hu4.here
 have hb4d : w5.drew.heap[bx]? = _:=hb5
 have hv4:=h.ext e5
 repeat (refine C0 ?_)
 (refine CE.drawA Ext [33] [0,0,0,0,0,0,0,0,0,0,0,0,0,0,0,0,0,0,0,0,0,0,0,0,0,0,0,0,0,0,0,1,0] [0,1,2,3,4,5,6,7,8,9,10,11,12,13,14,15,16,17,18,19,20,21,22,23,24,25,26,27,28,29,30,31,32] mixed Ext.refl (fun _ _ _ => Ext.trans) (by decide +kernel) ?_); (simp only [pick,nthO,List.cons_append,List.nil_append]); (repeat(first|refine PR.p (fun _ => op_move rfl) rfl ?_|refine PR.p (fun _ => op_fieldAddr0 rfl rfl) rfl ?_|refine PR.p (fun _ => op_fieldAddr rfl rfl) rfl ?_)); refine PR.nil ?_
 repeat (refine Z23 rfl rfl hb4d rfl rfl rfl ?_)
 refine RE.dc en46 rfl rfl (fun w7 h7 => isText_fn x w7) ?_
 repeat (refine Z23 rfl rfl hb4d rfl rfl rfl ?_)
 refine RE.dc en47 rfl rfl (fun w7 h7 => isInd_fn x w7) ?_
 repeat(first|refine Z1 rfl rfl ?_|refine Z23 rfl rfl hb4d rfl rfl rfl ?_)
 refine RE.dc en48 rfl rfl (fun w7 h7 => nonWs_fn (hv4.ext ((Ext.drew _).trans h7))) ?_
 repeat (refine Z23 rfl rfl hb4d rfl rfl rfl ?_)
 refine RE.dc en49 rfl rfl (fun w7 h7 => isName_fn x w7) ?_
 repeat (refine Z23 rfl rfl hb4d rfl rfl rfl ?_)
 refine RE.dc en50 rfl rfl (fun w7 h7 => isInline_fn x w7) ?_
 repeat (refine Z23 rfl rfl hb4d rfl rfl rfl ?_)
 refine RE.dc en51 rfl rfl (fun w7 h7 => isLeft_fn x w7) ?_
 repeat (refine Z23 rfl rfl hb4d rfl rfl rfl ?_)
 refine RE.dc en52 rfl rfl (fun w7 h7 => isRight_fn x w7) ?_
 repeat (refine Z23 rfl rfl hb4d rfl rfl rfl ?_)
 refine RE.dc en53 rfl rfl (fun w7 h7 => isClose_fn x w7) ?_
 repeat (refine Z23 rfl rfl hb4d rfl rfl rfl ?_)
 refine RE.dc en54 rfl rfl (fun w7 h7 => isParam_fn x w7) ?_
 repeat (refine Z23 rfl rfl hb4d rfl rfl rfl ?_)
 refine RE.dc en55 rfl rfl (fun w7 h7 => isPval_fn x w7) ?_
 repeat (refine Z23 rfl rfl hb4d rfl rfl rfl ?_)
 refine RE.dc en56 rfl rfl (fun w7 h7 => isMark_fn x w7) ?_
 repeat (refine Z23 rfl rfl hb4d rfl rfl rfl ?_)
 refine RE.dc en57 rfl rfl (fun w7 h7 => isFront_fn x w7) ?_
 repeat (refine Z23 rfl rfl hb4d rfl rfl rfl ?_)
 refine RE.dc en58 rfl rfl (fun w7 h7 => isDone_fn x w7) ?_
 repeat (refine Z23 rfl rfl hb4d rfl rfl rfl ?_)
 refine RE.dc en59 rfl rfl (fun w7 h7 => isEnd_fn x w7) ?_
 repeat (refine Z23 rfl rfl hb4d rfl rfl rfl ?_)
 refine RE.dc en60 rfl rfl (fun w7 h7 => isErr_fn x w7) ?_
 refine RE.gex (φ:=fun u w' => ∃ b,u = Sl b 0 15 15 ∧ w'.heap[b]? = some (.cells ((asks x.ty l).map Value.bool).toArray 4 (0,0)) ∧ w5.heap.size ≤ b) rfl (fun v w4 w5 ⟨b,h1,h2,h3⟩ h4 => ⟨b,h1,h4.block h2,h3⟩)
  (fun w3 hw3 => OpE.mono (e_buildSlice (cells:=((asks x.ty l).map Value.bool).toArray) (e:=4) rfl (by kernel_rfl) (by kernel_rfl)) ?_) ?_
 ·rintro v w4 ⟨b,rfl,hn4⟩
  exact ⟨⟨b,rfl,hn4.here,by have:=hw3.size; have:=hn4.num; have : w5.drew.heap.size = w5.heap.size:=rfl; omega⟩,hn4.ext⟩
 rintro _ ⟨_,_,bs,rfl,_,hbs⟩
 refine Z13 rfl rfl rfl ?_
 refine RE.nil ?_
 rintro w6 ⟨hw6,b',hb',hbb,_⟩
 cases hb'
 have e6 : Ext w w6:=e5.trans ((Ext.drew _).trans hw6)
 have ho6 : w6.heap[bo]? = some (.cells #[I x.ty,I p,S l,.bool err,.int .u16 (foldBits 0 0 ((asks x.ty l).take 0))] 31 (0,0)):=by
  rw [← hev']; exact hw6.block ho5
 have hr6 : w6.heap[br]? = _:=hw6.block hr5
 have hlt5:=(Array.getElem?_eq_some_iff.1 ho5).1
 have hlr5:=(Array.getElem?_eq_some_iff.1 hr5).1
 have hbo_s : bs ≠ bo:=by omega
 have hbr_s : bs ≠ br:=by omega
 have hbig : w.heap.size ≤ bo:=by have:=e2.size; omega
 show CE _ _ _ _ _ _ _
 refine CE.cut (fun s ds w' => ds = [] ∧ SubL [(5,Ptr bo 0),(4,Ptr br 0)] s ∧ Ext w w' ∧ w'.heap[bo]? = some (.cells #[I x.ty,I p,S l,.bool err,.int .u16 (foldBits 0 0 (asks x.ty l))] 31 (0,0)) ∧ w'.heap[br]? = some (.cells #[I 0,I 0,S [],.bool false,.int .u16 0] 31 (0,0))) ?_ ?_
 ·refine CE.block ?_
  refine CE.loop (α:=Nat) (fun k => [(52,I k),(51,I 15),(50,Sl bs 0 15 15),(5,Ptr bo 0),(4,Ptr br 0)])
   (fun k w' => Ext w w' ∧ k ≤ 15 ∧ w'.heap[bo]? = some (.cells #[I x.ty,I p,S l,.bool err,.int .u16 (foldBits 0 0 ((asks x.ty l).take k))] 31 (0,0)) ∧ w'.heap[br]? = some (.cells #[I 0,I 0,S [],.bool false,.int .u16 0] 31 (0,0)) ∧
    w'.heap[bs]? = some (.cells ((asks x.ty l).map Value.bool).toArray 4 (0,0)))
   (fun k => 15 - k) 0 ⟨rfl,rfl,rfl,rfl,rfl,trivial⟩ ⟨e6,by omega,ho6,hr6,hbb⟩ ?_
  rintro k w7 ⟨e7,hk,ho7,hr7,hs7⟩
  have hal : (asks x.ty l).length = 15:=rfl
  repeat(first|refine C0 ?_|refine C1 ?_|refine X7 rfl rfl rfl ?_|refine C2 ?_)
  refine CE.cond_d rfl (fun hlt => ?_) (fun hlt => ?_)
  ·have hk15 : k < (asks x.ty l).length:=by omega
   have hcell : w7.cell? ⟨bs,0 + (k : Int).toNat * 1,none⟩ = some (.bool ((asks x.ty l)[k])):=by
    refine cell_of hs7 ?_
    simp [hk15]
   have htk : (asks x.ty l).take (k + 1) = (asks x.ty l).take k ++ [(asks x.ty l)[k]]:=by simp
   generalize hbk : (asks x.ty l)[k] = bk at hcell htk
   have hsn:=foldBits_snoc bk ((asks x.ty l).take k) 0 0
   rw [← htk] at hsn
   have hlk : ((asks x.ty l).take k).length = k:=by simp; omega
   rw [hlk,Nat.zero_add] at hsn
   repeat(first|refine C0 ?_|refine C1 ?_|refine X1 rfl rfl ?_|refine CE.block ?_|refine C3 ?_)
   refine RE.x (op_indexAddr rfl rfl rfl (by omega) (by omega)) rfl ?_
   refine RE.x (op_load rfl rfl hcell) rfl ?_
   repeat(first|refine C0 ?_|refine C1 ?_|refine X1 rfl rfl ?_|refine X0 rfl rfl ?_|refine C2 ?_)
   refine CE.cond_s rfl (fun hb => ?_) (fun hb => ?_)
   ·have ho7d : w7.drew.heap[bo]? = _:=ho7
    refine CE.draw [0,0,0,0,0,0,2] mixed (by decide +kernel) ?_
    repeat(first|refine Y1 rfl rfl ?_|refine Y3 rfl rfl rfl ?_|refine Y22 rfl rfl ho7d rfl rfl ?_)
    refine RE.d1 (op_shl_u16 rfl rfl (by omega) (wrap_pow ⟨k,by omega⟩)) rfl ?_
    refine RE.d1 (op_or_u16 rfl rfl) rfl ?_
    repeat (refine Y3 rfl rfl rfl ?_)
    refine RE.es1 (e_store rfl rfl rfl ho7d rfl rfl) ?_
    rintro _ w8 hu8
    have hu:=hu8.undrew
    repeat(first|refine C1 ?_|refine X1 rfl rfl ?_|refine X18 rfl rfl (by omega) (by omega) rfl ?_|refine C2 ?_)
    refine RE.nilx ?_
    refine ⟨k + 1,by show 15 - (k + 1) < 15 - k; omega,rfl,⟨rfl,rfl,rfl,rfl,rfl,trivial⟩,e7.fr (Fr.of_upd (S:=(· = bo)) hu rfl) (fun q hq => by subst hq; exact hbig),by omega,?_,?_,?_⟩
    ·rw [hu.here,hsn,hb]; rfl
    ·rw [hu.other br (Ne.symm hnr)]; exact hr7
    ·rw [hu.other bs hbo_s]; exact hs7
   ·refine C3 ?_
    repeat(first|refine C1 ?_|refine X1 rfl rfl ?_|refine X18 rfl rfl (by omega) (by omega) rfl ?_)
    refine RE.nilx ?_
    refine ⟨k + 1,by show 15 - (k + 1) < 15 - k; omega,rfl,⟨rfl,rfl,rfl,rfl,rfl,trivial⟩,e7,by omega,?_,hr7,hs7⟩
    rw [hsn,hb]; exact ho7
  ·refine CE.exit ?_
   have hk15 : k = 15:=by omega
   subst hk15
   exact ⟨rfl,⟨rfl,rfl,trivial⟩,e7,ho7,hr7⟩
 ·rintro s _ w7 ⟨rfl,hs,e7,ho7,hr7⟩
  refine CE.sub hs ?_
  repeat(first|refine C0 ?_|refine C1 ?_|refine X23 rfl rfl ho7 rfl rfl rfl ?_)
  refine RE.xs (e_storeA (k:=5) (cells:=#[I x.ty,I p,S l,.bool err,.int .u16 (foldBits 0 0 (asks x.ty l))]) rfl rfl rfl hr7 rfl rfl (by simp [Value.oneCell'])) ?_
  rintro _ w8 hu8
  repeat (refine C2 ?_)
  refine CE.ret ?_
  refine retC rfl rfl (loadVar_A (k:=5) rfl hu8.here rfl) ⟨rfl,e7.fr (Fr.of_upd (S:=(· = br)) hu8 rfl) (fun q hq => by subst hq; have:=hn1.ext.size; have:=hn2.num; omega)⟩
theorem config_fn (f d : Bool) (w : World) : Fn PT 32 [.bool f,.bool d] w (fun u w' => u = .agg #[.bool (!f),.bool (!d)] ∧ Ext w w'):=by
 refine fn_of Tryz.func32 rfl Tryz.ntmps32 rfl ?_
 repeat(first|refine C0 ?_|refine C1 ?_)
 refine RE.xe (e_alloc (cells:=#[.bool false,.bool false]) Tryz.zeroValue57 rfl) rfl ?_
 rintro _ w1 ⟨b,rfl,hn⟩
 repeat(first|refine C0 ?_|refine C1 ?_|refine X1 rfl rfl ?_|refine X11 rfl rfl ?_|refine C2 ?_)
 refine RE.x (op_build (cells:=#[.bool (!f),.bool (!d)]) rfl (by kernel_rfl)) rfl ?_
 refine RE.xs (e_storeA (k:=2) rfl rfl rfl hn.here rfl rfl (by simp [Value.oneCell'])) ?_
 rintro _ w2 hu
 repeat (refine C2 ?_)
 refine CE.ret ?_
 exact retC rfl rfl (loadVar_A (k:=2) rfl hu.here rfl) ⟨rfl,hn.ext.fr (Fr.of_upd (S:=(· = b)) hu rfl) (fun q hq => by subst hq; have:=hn.num; omega)⟩
def ptext (t : List UInt8) (p : PI) : List UInt8:=match p.segs with | [] => (t.drop p.lo).take (p.hi - p.lo) | ss => ss.flatMap fun s => (t.drop s.1).take (s.2 - s.1)
def told (t : List UInt8) (p : PI) : RI:=tell p.ty p.pos (ptext t p) p.err
def OwnR (B : Nat) (w : World) (v : Value) (rs : List RI) : Prop:=w.ownsRow B 31 5 v rs.length (rs.flatMap RI.lst)
theorem flat_at {α : Type} {f : α → List Value} {n : Nat} (h : ∀ a,(f a).length = n) : ∀ (l : List α) (k : Nat) (hk : k < l.length),((l.flatMap f).drop (k * n)).take n = f l[k]
 | a :: l,0,_ => by simp [h]
 | a :: l,k + 1,hk => by
  rw [List.flatMap_cons,List.drop_append,h a,List.drop_of_length_le (by rw [h]; rw [Nat.succ_mul]; omega),List.nil_append,Nat.succ_mul,Nat.add_sub_cancel]
  exact flat_at h l k (by simpa using hk)
theorem Own.item {B : Nat} {w : World} {v : Value} {xs : List IC} (h : Own B w v xs) {k : Nat} (hk : k < xs.length) :
  ∃ g cap cur,v = Sl g 0 xs.length cap ∧ w.heap[g]? = some (.cells cur 63 (0,0)) ∧ (cur.toList.drop (k * 7)).take 7 = xs[k].lst:=by
 obtain ⟨_,h⟩:=h
 rcases h with ⟨_,h0⟩ | ⟨g,cap,cur,rfl,hb,hg,hnc,hcm,hcs,ht⟩
 ·exfalso
  omega
 ·refine ⟨g,cap,cur,rfl,hg,?_⟩
  rw [← flat_at (f:=IC.lst) (n:=7) (fun _ => rfl) xs k hk,← ht]
  rw [List.drop_take,List.take_take]
  congr 1
  have : k + 1 ≤ xs.length:=hk
  have:=Nat.mul_le_mul_right 7 this
  omega
theorem Own.len0 {B : Nat} {w : World} {v : Value} {xs : List IC} (h : Own B w v xs) : ∃ a cap,v = .slice a xs.length cap:=by
 obtain ⟨_,h⟩:=h
 rcases h with ⟨rfl,h0⟩ | ⟨g,cap,cur,rfl,_⟩
 ·exact ⟨none,0,by rw [h0]⟩
 ·exact ⟨_,_,rfl⟩
theorem all2_at {α β : Type} {R : α → β → Prop} : ∀ {l : List α} {m : List β} (_ : All2 R l m) (k : Nat) (h1 : k < l.length) (h2 : k < m.length),R l[k] m[k]
 | _,_,.cons h _,0,_,_ => h
 | _,_,.cons _ h,k + 1,h1,h2 => all2_at h k (by simpa using h1) (by simpa using h2)
theorem items_fn {B : Nat} {t : List UInt8} {v : Value} {f d : Bool} {ps : List PI} {w : World} (hB : B ≤ w.heap.size) (hn : ps.length ≤ 20000000)
  (hp : ∀ w1,Ext w w1 → Fn PT 31 [v,.agg #[.bool (!f),.bool (!d)]] w1 (fun u w' => ∃ it xs,u = .tuple #[it,.nilIface] ∧ Own B w' it xs ∧ All2 (IRep w') xs ps ∧ Ext w1 w' ∧
   ∀ w2,Ext w' w2 → ∀ x p,p ∈ ps → IRep w2 x p → ValIs B x v (ptext t p) w2)) :
  Fn PT 26 [v,.bool f,.bool d] w (fun u w' => OwnR B w' u (ps.map (told t)) ∧ Ext w w'):=by
 refine fn_of Tryz.func26 rfl Tryz.ntmps26 rfl ?_
 repeat(first|refine C0 ?_|refine C1 ?_|refine X1 rfl rfl ?_|refine X0 rfl rfl ?_|refine C2 ?_)
 refine RE.xc en32 rfl rfl (config_fn f d w) ?_
 rintro _ w1 ⟨rfl,e1⟩
 refine RE.xc en31 rfl rfl (hp w1 e1) ?_
 rintro _ w2 ⟨it,xs,rfl,hown,hall,e2,hval⟩
 have hxl:=forall2_len hall
 obtain ⟨a0,cap0,hit⟩:=hown.len0
 have e12:=e1.trans e2
 subst hit
 have hB2 : B ≤ w2.heap.size:=by have:=e12.size; omega
 have hmax : maxLen = 9223372036854775807:=rfl
 repeat(first|refine C0 ?_|refine C1 ?_|refine X1 rfl rfl ?_|refine X0 rfl rfl ?_|refine X13 rfl rfl rfl ?_|refine X15 rfl rfl rfl ?_|refine C2 ?_)
 refine CE.cut (fun s ds w' => ds = [] ∧ Ext w w' ∧ ∃ r,SubL [(9,r)] s ∧ OwnR B w' r (ps.map (told t))) ?_ ?_
 ·refine CE.block ?_
  refine CE.loop (α:=Nat × Value) (fun x => [(22,I x.1),(21,I xs.length),(20,.slice a0 xs.length cap0),(9,x.2),(0,v)])
   (fun x w' => Ext w2 w' ∧ x.1 ≤ xs.length ∧ OwnR B w' x.2 ((ps.map (told t)).take x.1) ∧ ∀ q,x.2.ownBlock = some q → w2.heap.size ≤ q) (fun x => xs.length - x.1)
   (0,.slice none 0 0) ⟨rfl,rfl,rfl,rfl,rfl,trivial⟩ ⟨Ext.refl _,Nat.zero_le _,⟨by simp,Or.inl ⟨rfl,by simp⟩⟩,by simp [Value.ownBlock]⟩ ?_
  rintro ⟨k,r⟩ w3 ⟨e3,hk,hr,hrq⟩
  dsimp only at hk hr hrq
  repeat(first|refine C0 ?_|refine C1 ?_|refine X7 rfl rfl rfl ?_|refine C2 ?_)
  refine CE.cond_d rfl (fun hlt => ?_) (fun hlt => ?_)
  ·have hkx : k < xs.length:=by omega
   have hkp : k < ps.length:=by omega
   obtain ⟨g,cap,cur,hv,hg,hcur⟩:=hown.item hkx
   cases hv
   have hg3:=e3.block hg
   have hxp:=all2_at hall k hkx hkp
   generalize hx : xs[k] = x at hcur hxp
   generalize hpp : ps[k] = p at hxp
   have hpm : p ∈ ps:=by rw [← hpp]; exact List.getElem_mem hkp
   repeat(first|refine C0 ?_|refine C1 ?_|refine CE.block ?_|refine C3 ?_)
   refine RE.x (op_indexAddr rfl rfl rfl (by omega) (by omega)) rfl ?_
   have e0 : 0 + (k : Int).toNat * 7 = k * 7:=by omega
   rw [e0]
   refine X23 (kk:=7) (vs:=x.lst) rfl rfl hg3 hcur rfl rfl ?_
   refine RE.xe (e_alloc (cells:=#[I 0,.nilIface,I 0,I 0,.slice none 0 0,.int .u8 0,.bool false]) Tryz.zeroValue63 rfl) rfl ?_
   rintro _ w4 ⟨bx,rfl,hn4⟩
   refine RE.xs (e_storeA (k:=7) (cells:=x.lst.toArray) rfl rfl rfl hn4.here rfl rfl (by simpa using IC.lst_one hxp.evOne)) ?_
   rintro _ w5 hu5
   have e4 : Ext w3 w5:=hn4.ext.fr (Fr.of_upd (S:=(· = bx)) hu5 rfl) (fun q hq => by subst hq; have:=hn4.num; omega)
   have hb5:=hu5.here
   have e25:=e3.trans e4
   have hv5:=hval w5 e25 x p hpm (hxp.ext e25)
   repeat(first|refine C1 ?_|refine X1 rfl rfl ?_|refine X23 rfl rfl hb5 rfl rfl rfl ?_|refine C2 ?_)
   refine RE.xc en35 rfl rfl (plain_fn (l:=ptext t p) hv5 (hxp.ext e25).at p.err (hxp.ext e25).ev) ?_
   rintro _ w6 ⟨rfl,e6⟩
   have htold : tell x.ty p.pos (ptext t p) p.err = told t p:=by unfold told; rw [hxp.ty]
   rw [htold]
   refine RE.xe (e_buildSlice (vs:=[(0,(told t p).val)]) (cells:=(told t p).lst.toArray) (e:=31) rfl (by kernel_rfl) (by kernel_rfl)) rfl ?_
   rintro _ w7 ⟨nb,rfl,hn7⟩
   have e7:=(e25.trans e6).trans hn7.ext
   have hr7 : OwnR B w7 r ((ps.map (told t)).take k):=ownsRow_ext hr ((e4.trans e6).trans hn7.ext)
   have hlk : ((ps.map (told t)).take k).length = k:=by simp; omega
   have hB7 : B ≤ w7.heap.size:=by have:=e7.size; omega
   refine RE.xe (e_append B (e:=31) (size:=5) (z:=.agg #[I 0,I 0,S [],.bool false,.int .u16 0]) (bytes:=40) (m:=1) (c:=1) (ab:=nb) (news:=(told t p).lst) rfl (by kernel_rfl) rfl (by decide) rfl
    hr7 rfl (by decide) rfl (fun j u hj => cell_of hn7.here (by simpa using hj)) (by simp [RI.lst,Value.oneCell']) (by omega) (by omega) hB7) rfl ?_
   rintro r8 w8 ⟨ho8,hf8,hn8⟩
   have hq8 : ∀ q,r8.ownBlock = some q → w2.heap.size ≤ q:=by
    intro q hq
    rcases hn8 q hq with h | h
    ·exact hrq q h
    ·have:=e7.size; omega
   have htk : (ps.map (told t)).take (k + 1) = (ps.map (told t)).take k ++ [told t p]:=by
    rw [List.take_succ_eq_append_getElem (by simpa using hkp)]
    simp [hpp]
   repeat(first|refine C1 ?_|refine X1 rfl rfl ?_|refine X0 rfl rfl ?_|refine X18 rfl rfl (by omega) (by omega) rfl ?_|refine C2 ?_)
   refine RE.nilx ?_
   refine ⟨(k + 1,r8),by show xs.length - (k + 1) < xs.length - k; omega,rfl,⟨rfl,rfl,rfl,rfl,rfl,trivial⟩,e7.fr hf8 hrq,hkx,?_,hq8⟩
   show w8.ownsRow B 31 5 r8 ((ps.map (told t)).take (k + 1)).length (((ps.map (told t)).take (k + 1)).flatMap RI.lst)
   rw [htk,List.flatMap_append,List.length_append]
   simpa using ho8
  ·refine CE.exit ?_
   have hk' : k = ps.length:=by omega
   subst hk'
   refine ⟨rfl,e12.trans e3,r,⟨rfl,trivial⟩,?_⟩
   rw [List.take_of_length_le (by simp)] at hr
   exact hr
 ·rintro s _ w3 ⟨rfl,e3,r,hs,hr⟩
  refine CE.sub hs ?_
  repeat(first|refine C0 ?_|refine C1 ?_|refine X1 rfl rfl ?_|refine X0 rfl rfl ?_|refine C2 ?_)
  (refine CE.ret ?_;(try dsimp only);refine ret1 rfl rfl ?_)
  exact ⟨hr,e3⟩
end Go.Wk
