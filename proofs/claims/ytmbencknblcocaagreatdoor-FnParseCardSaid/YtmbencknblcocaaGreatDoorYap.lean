/- The main section's small functions: bytes.TrimSpace with what it leaves; the first byte that is no blank; the handlers' searches. -/
import Derived.Test.YtmbencknblcocaaGreatDoorYao
import Derived.Test.YtmbencknblcocaaGreatDoorYah
import Derived.Test.YtmbencknblcocaaGreatDoorYai
namespace Go.Wk
open Go Go.RowKit Go.Proofs
set_option maxRecDepth 100000
def cutF (l : List UInt8) : List UInt8:=
 if Lib.idxFunc Lib.isSpaceR false ⟨⟨l⟩⟩ = -1 then [] else
 (l.drop (Lib.idxFunc Lib.isSpaceR false ⟨⟨l⟩⟩).toNat).take (Lib.rightEndF Lib.isSpaceR ((ByteArray.mk ⟨l⟩).extract (Lib.idxFunc Lib.isSpaceR false ⟨⟨l⟩⟩).toNat (ByteArray.mk ⟨l⟩).size))
theorem rightEnd_le (s : ByteArray) : Lib.rightEndF Lib.isSpaceR s ≤ s.size:=by
 unfold Lib.rightEndF
 have h1 : Lib.lastIdxFunc Lib.isSpaceR false s = -1 ∨ (0 ≤ Lib.lastIdxFunc Lib.isSpaceR false s ∧ Lib.lastIdxFunc Lib.isSpaceR false s ≤ (s.size : Int)):=Lib.lastIdxFuncFrom_range _ _ _ _ _
 split
 ·rename_i h0
  have h2:=(h1.resolve_left (by omega)).2
  generalize hi : (Lib.lastIdxFunc Lib.isSpaceR false s).toNat = i
  have hi2 : i ≤ s.size:=by omega
  unfold Lib.decodeGoB
  split
  ·omega
  ·rename_i h3
   have h4:=Lib.decodeL_drop (s.extract i s.size) 0
   rw [← h4]
   have hsz : (s.extract i s.size).size = s.size - i:=by rw [ByteArray.size_extract]; omega
   have hl : ((s.extract i s.size).data.toList.drop 0).length = s.size - i:=by
    rw [List.drop_zero,Array.length_toList]; exact hsz
   have h5:=Lib.decodeL_le ((s.extract i s.size).data.toList.drop 0) (by intro e; rw [e] at hl; simp at hl; omega)
   omega
 ·omega
theorem trimFuncA_fn {B : Nat} {w : World} {b : Nat} {v : Value} {l : List UInt8} (h : HBk b w v l) (hl : l ≠ []) (hT : TabsB B w) (hB : B ≤ w.heap.size) (hs : l.length ≤ 1000000) :
  Fn PT 107 [v,fnV 108] w (fun u w' => HB w' u (cutF l) ∧ Ext w w'):=by
 have h0:=h
 obtain ⟨a,cp,rfl,hcp,hcl⟩:=h
 obtain ⟨o,rfl,hcells⟩:=hcl hl
 have hp : PredGrows PT 108 #[] Lib.isSpaceR w:=by
  intro W x hx hb
  have:=Tryz.unicode_IsSpace_any (x : Int) W (by omega) (by omega) (hT.ext hB hb).tabs.white
  rw [Lib.isSpaceZ_nat] at this
  exact this
 have h1:=Any7.bytes_TrimFunc Tryz.lays42 108 #[] en108 Lib.isSpaceR ⟨⟨l⟩⟩ b o cp w (by rw [size_S]; exact hcp) (by rw [size_S]; omega) (fun j hj => by
   rw [size_S] at hj
   rw [hcells j hj]
   have : (ByteArray.mk ⟨l⟩).get! j = l[j]:=by
    show (Array.mk l)[j]! = _
    simp [hj]
   rw [this]) hT.tabs.u8 hp
 rw [size_S] at h1
 refine ⟨Calls.mono h1 fun _ _ ⟨he,hb⟩ => ⟨_,he,?_,hb⟩⟩
 refine HB.ext ?_ hb
 unfold trimCut cutF
 by_cases hi : Lib.idxFunc Lib.isSpaceR false ⟨⟨l⟩⟩ = -1
 ·rw [if_pos hi,if_pos hi]
  exact HB.nil _ _ _
 ·rw [if_neg hi,if_neg hi]
  have hr : Lib.idxFunc Lib.isSpaceR false ⟨⟨l⟩⟩ = -1 ∨ (((0 : Nat) : Int) ≤ Lib.idxFunc Lib.isSpaceR false ⟨⟨l⟩⟩ ∧ Lib.idxFunc Lib.isSpaceR false ⟨⟨l⟩⟩ < (ByteArray.mk ⟨l⟩).size):=Lib.idxFuncFrom_range _ _ ⟨⟨l⟩⟩ _ 0
  have hr:=hr.resolve_left hi
  rw [size_S] at hr ⊢
  have hle:=rightEnd_le ((ByteArray.mk ⟨l⟩).extract (Lib.idxFunc Lib.isSpaceR false ⟨⟨l⟩⟩).toNat l.length)
  rw [ByteArray.size_extract,size_S] at hle
  unfold rightCut
  generalize Lib.rightEndF Lib.isSpaceR ((ByteArray.mk ⟨l⟩).extract (Lib.idxFunc Lib.isSpaceR false ⟨⟨l⟩⟩).toNat l.length) = m at hle
  generalize (Lib.idxFunc Lib.isSpaceR false ⟨⟨l⟩⟩).toNat = i at hle hr
  have hlen : ((l.drop i).take m).length = m:=by simp; omega
  refine ⟨b,_,_,by rw [hlen],by rw [hlen]; omega,fun _ => ⟨o + i,rfl,fun j hj => ?_⟩⟩
  rw [hlen] at hj
  rw [show o + i + j = o + (i + j) by omega,hcells (i + j) (by omega)]
  simp
def backT (l : List UInt8) : Nat → List UInt8
 | 0 => []
 | k + 1 => if 128 ≤ (l.getD k 0).toNat then cutF ((l.drop 0).take (k + 1 - 0)) else if Lib.isSp (l.getD k 0) = true then backT l k else (l.drop 0).take (k + 1 - 0)
def trimA : List UInt8 → List UInt8
 | [] => []
 | b :: r => if 128 ≤ b.toNat then cutF (b :: r) else if Lib.isSp b = true then trimA r else backT (b :: r) (b :: r).length
set_option maxHeartbeats 3000000 in
theorem trimA_fn {B : Nat} {w : World} {b : Nat} {v : Value} {l : List UInt8} (h : HBk b w v l) (hT : TabsB B w) (hB : B ≤ w.heap.size) (hs : l.length ≤ 1000000) :
  Fn PT 83 [v] w (fun u w' => HB w' u (trimA l) ∧ Ext w w'):=by
 obtain ⟨a,cp,rfl,hcp,hcl⟩:=h
 have h : HBk b w (.slice a l.length cp) l:=⟨_,_,rfl,hcp,hcl⟩
 refine fn_of Tryz.func83 rfl Tryz.ntmps83 rfl ?_
 repeat(first|refine C0 ?_|refine C1 ?_|refine X1 rfl rfl ?_|refine X0 rfl rfl ?_|refine X13 rfl rfl rfl ?_|refine C2 ?_)
 refine CE.cut (fun s ds w' => ds = [] ∧ w' = w ∧ trimA l = []) ?_ ?_
 ·refine CE.block ?_
  refine CE.loop (α:=Nat) (fun i => [(9,I i),(8,I l.length),(7,.slice a l.length cp),(0,.slice a l.length cp)]) (fun i w' => w' = w ∧ i ≤ l.length ∧ trimA l = trimA (l.drop i)) (fun i => l.length - i) 0 ⟨rfl,rfl,rfl,rfl,trivial⟩ ⟨rfl,Nat.zero_le _,by simp⟩ ?_
  rintro i w' ⟨hw',hi,hns⟩
  have hw2 : w = w':=hw'.symm
  subst hw2
  repeat(first|refine C0 ?_|refine C1 ?_|refine X7 rfl rfl rfl ?_|refine C2 ?_)
  refine CE.cond_d rfl (fun hlt => ?_) (fun hlt => ?_)
  ·have hil : i < l.length:=by omega
   obtain ⟨o,rfl,hcells⟩:=hcl (by intro e; subst e; simp at hil)
   have hcell : w.cell? ⟨b,o + (i : Int).toNat * 1,none⟩ = some (Wk.B l[i]):=by
    have e1 : o + (i : Int).toNat * 1 = o + i:=by omega
    rw [e1]; exact hcells i hil
   have hd:=List.drop_eq_getElem_cons hil
   generalize hb8 : l[i] = b8 at hcell hd
   have hb256:=b8.toNat_lt
   repeat(first|refine C0 ?_|refine C1 ?_|refine X1 rfl rfl ?_|refine CE.block ?_|refine C3 ?_)
   refine RE.x (op_indexAddr rfl rfl rfl (by omega) (by omega)) rfl ?_
   refine RE.x (op_load rfl rfl hcell) rfl ?_
   repeat(first|refine C0 ?_|refine C1 ?_|refine X1 rfl rfl ?_|refine X0 rfl rfl ?_|refine X10 rfl rfl rfl ?_|refine C2 ?_)
   refine CE.cond_d rfl (fun h128 => ?_) (fun h128 => ?_)
   ·repeat(first|refine C0 ?_|refine C1 ?_|refine X1 rfl rfl ?_)
    refine RE.x (op_slice_l rfl rfl rfl (by omega) (by omega)) rfl ?_
    have hs2:=hb_drop h hi
    refine RE.xc en107 rfl rfl (trimFuncA_fn (v:=sliced (some ⟨b,o,none⟩) (i : Int).toNat l.length cp 1) (l:=l.drop i) hs2 (by rw [hd]; simp) hT hB (by simp; omega)) ?_
    rintro v3 w3 ⟨hm3,e3⟩
    repeat(first|refine X0 rfl rfl ?_|refine C2 ?_)
    (refine CE.ret ?_;(try dsimp only);refine ret1 rfl rfl ?_)
    refine ⟨?_,e3⟩
    rw [hns,hd,trimA,if_pos (by omega),← hd]
    exact hm3
   ·have h128' : b8.toNat < 128:=by omega
    have hasc:=asc_cell hT.tabs b8.toNat hb256
    rw [show UInt8.ofNat b8.toNat = b8 by simp] at hasc
    repeat(first|refine C0 ?_|refine C1 ?_|refine X1 rfl rfl ?_|refine C3 ?_)
    refine RE.x (op_indexAddrA (m:=256) (e:=5) rfl rfl (by kernel_rfl) (by omega) (by omega)) rfl ?_
    refine RE.x (op_load rfl rfl (by simpa using hasc)) rfl ?_
    cases hsp : Lib.isSp b8 with
    | true =>
     rw [if_pos rfl]
     repeat(first|refine C1 ?_|refine X1 rfl rfl ?_|refine X6 rfl rfl rfl ?_|refine X18 rfl rfl (by omega) (by omega) rfl ?_|refine C2 ?_|refine CE.exit (show CE _ _ _ _ _ _ _ from ?_)|refine CE.cond_t rfl ?_)
     refine RE.nilx ?_
     refine ⟨i + 1,by show l.length - (i + 1) < l.length - i; omega,rfl,⟨rfl,rfl,rfl,rfl,trivial⟩,rfl,by omega,?_⟩
     rw [hns,hd,trimA,if_neg (by omega),if_pos hsp]
    | false =>
     rw [if_neg (by decide)]
     have hnt : trimA l = backT (l.drop i) (l.drop i).length:=by
      rw [hns,hd,trimA,if_neg (by omega),if_neg (nt hsp)]
     have hs2:=hb_drop h hi
     obtain ⟨a2,c2,hv2,hc2,hcl2⟩:=hs2
     have hne2 : l.drop i ≠ []:=by rw [hd]; simp
     obtain ⟨o2,rfl,hcells2⟩:=hcl2 hne2
     have hs3 : HBk b w (Sl b o2 (l.drop i).length c2) (l.drop i):=⟨_,_,rfl,hc2,fun _ => ⟨o2,rfl,hcells2⟩⟩
     have hlen2 : (l.drop i).length = l.length - i:=by simp
     generalize hL2 : l.drop i = l2 at *
     have hl20 : l2[0]? = some b8:=by rw [hd]; rfl
     repeat(first|refine X6 rfl rfl rfl ?_|refine C2 ?_)
     refine CE.cond_f rfl ?_
     repeat(first|refine C0 ?_|refine C1 ?_|refine X1 rfl rfl ?_|refine C3 ?_)
     refine RE.x (op_slice_l rfl rfl rfl (by omega) (by omega)) rfl ?_
     rw [show sliced (some ⟨b,o,none⟩) (i : Int).toNat l.length cp 1 = Sl b o2 l2.length c2 from hv2]
     repeat(first|refine C0 ?_|refine C1 ?_|refine X1 rfl rfl ?_|refine X0 rfl rfl ?_|refine X13 rfl rfl rfl ?_|refine X19 rfl rfl (by omega) (by omega) rfl ?_|refine C2 ?_)
     refine CE.cut (fun _ _ _ => False) ?_ (fun _ _ _ h => h.elim)
     refine CE.block ?_
     refine CE.loop (α:=Nat) (fun k => [(5,I k),(0,Sl b o2 l2.length c2)]) (fun k w' => w' = w ∧ k < l2.length ∧ trimA l = backT l2 (k + 1)) id (l2.length - 1) ⟨?_,rfl,trivial⟩ ⟨rfl,by omega,by rw [hnt,show l2.length - 1 + 1 = l2.length by omega]⟩ ?_
     ·show some (I ((l2.length : Int) - 1)) = some (I ((l2.length - 1 : Nat) : Int))
      rw [show ((l2.length - 1 : Nat) : Int) = (l2.length : Int) - 1 by omega]
     rintro k w' ⟨hw',hk,hbt⟩
     have hw2 : w = w':=hw'.symm
     subst hw2
     have hcellk : w.cell? ⟨b,o2 + (k : Int).toNat * 1,none⟩ = some (Wk.B l2[k]):=by
      have e1 : o2 + (k : Int).toNat * 1 = o2 + k:=by omega
      rw [e1]; exact hcells2 k hk
     have hgd : l2.getD k 0 = l2[k]:=by simp [hk]
     rw [backT,hgd] at hbt
     generalize hbk : l2[k] = bk at hcellk hbt
     have hk256:=bk.toNat_lt
     have hst:=HBk.slice hs3 (i:=0) (j:=k + 1) (Nat.zero_le _) (by omega)
     have e0 : ((k : Int) + 1).toNat = k + 1:=by omega
     repeat(first|refine C0 ?_|refine C1 ?_|refine X1 rfl rfl ?_|refine X10 rfl rfl rfl ?_|refine C2 ?_)
     refine CE.cond_d rfl (fun hge => ?_) (fun hge => ?_)
     ·repeat(first|refine C0 ?_|refine C1 ?_|refine X1 rfl rfl ?_|refine CE.block ?_|refine C3 ?_)
      refine RE.x (op_indexAddr rfl rfl rfl (by omega) (by omega)) rfl ?_
      refine RE.x (op_load rfl rfl hcellk) rfl ?_
      repeat(first|refine C0 ?_|refine C1 ?_|refine X1 rfl rfl ?_|refine X0 rfl rfl ?_|refine X10 rfl rfl rfl ?_|refine C2 ?_)
      refine CE.cond_d rfl (fun h128k => ?_) (fun h128k => ?_)
      ·repeat(first|refine C0 ?_|refine C1 ?_|refine X1 rfl rfl ?_|refine X18 rfl rfl (by omega) (by omega) rfl ?_)
       refine RE.x (op_slice_h rfl rfl rfl (by omega) (by omega)) rfl ?_
       rw [e0]
       have hne : (l2.drop 0).take (k + 1 - 0) ≠ []:=by
        intro e
        have h9 : ((l2.drop 0).take (k + 1 - 0)).length = 0:=by rw [e]; rfl
        rw [List.length_take,List.length_drop] at h9
        omega
       refine RE.xc en107 rfl rfl (trimFuncA_fn (v:=sliced (some ⟨b,o2,none⟩) 0 (k + 1) c2 1) hst hne hT hB (by simp; omega)) ?_
       rintro v3 w3 ⟨hm3,e3⟩
       repeat(first|refine X0 rfl rfl ?_|refine C2 ?_)
       (refine CE.ret ?_;(try dsimp only);refine ret1 rfl rfl ?_)
       refine ⟨?_,e3⟩
       rw [hbt,if_pos (by omega)]
       exact hm3
      ·have hasck:=asc_cell hT.tabs bk.toNat hk256
       rw [show UInt8.ofNat bk.toNat = bk by simp] at hasck
       repeat(first|refine C0 ?_|refine C1 ?_|refine X1 rfl rfl ?_|refine C3 ?_)
       refine RE.x (op_indexAddrA (m:=256) (e:=5) rfl rfl (by kernel_rfl) (by omega) (by omega)) rfl ?_
       refine RE.x (op_load rfl rfl (by simpa using hasck)) rfl ?_
       cases hspk : Lib.isSp bk with
       | false =>
        rw [if_neg (by decide)]
        repeat(first|refine X5 rfl rfl rfl ?_|refine C2 ?_)
        refine CE.cond_t rfl ?_
        repeat(first|refine C0 ?_|refine C1 ?_|refine X1 rfl rfl ?_|refine X18 rfl rfl (by omega) (by omega) rfl ?_)
        refine RE.x (op_slice_h rfl rfl rfl (by omega) (by omega)) rfl ?_
        rw [e0]
        repeat(first|refine X0 rfl rfl ?_|refine C2 ?_)
        (refine CE.ret ?_;(try dsimp only);refine ret1 rfl rfl ?_)
        refine ⟨⟨b,?_⟩,Ext.refl _⟩
        rw [hbt,if_neg (by omega),if_neg (nt hspk)]
        exact hst
       | true =>
        have hk0 : k ≠ 0:=by
         rintro rfl
         have : l2[0]? = some bk:=by rw [← hbk]; simp
         rw [hl20] at this
         cases this
         rw [hsp] at hspk
         cases hspk
        rw [if_pos rfl]
        repeat(first|refine X5 rfl rfl rfl ?_|refine C2 ?_)
        refine CE.cond_f rfl ?_
        repeat(first|refine C1 ?_|refine X1 rfl rfl ?_|refine X0 rfl rfl ?_|refine X19 rfl rfl (by omega) (by omega) rfl ?_|refine C3 ?_)
        refine RE.nilx ?_
        exact ⟨k - 1,by show k - 1 < k; omega,rfl,⟨congrArg (fun z => some (I z)) (show ((k : Int) - 1) = ((k - 1 : Nat) : Int) by omega),rfl,trivial⟩,rfl,by omega,by rw [hbt,if_neg (by omega),if_pos hspk,show k - 1 + 1 = k by omega]⟩
     ·omega
  ·refine CE.exit ?_
   refine ⟨rfl,rfl,?_⟩
   rw [hns,List.drop_eq_nil_of_le (by omega)]
   rfl
 ·rintro s _ w' ⟨rfl,hw',hns⟩
  subst hw'
  repeat(first|refine C0 ?_|refine C1 ?_|refine X0 rfl rfl ?_|refine C2 ?_)
  (refine CE.ret ?_;(try dsimp only);refine ret1 rfl rfl ?_)
  exact ⟨by rw [hns]; exact HB.nil _ _ _,Ext.refl _⟩
theorem notSp_fn (r : Int) (w : World) : Fn PT 139 [.int .i32 r] w (fun u w' => u = .bool (notSp r) ∧ w' = w):=by
 refine fn_of Tryz.func139 rfl Tryz.ntmps139 rfl ?_
 repeat(first|refine C0 ?_|refine C1 ?_|refine X1 rfl rfl ?_|refine X0 rfl rfl ?_|refine C2 ?_)
 refine RE.xc en74 rfl rfl (isSp_fn _ _) ?_
 rintro _ w1 ⟨rfl,hw⟩
 subst hw
 repeat(first|refine X0 rfl rfl ?_|refine X11 rfl rfl ?_|refine C2 ?_)
 (refine CE.ret ?_;(try dsimp only);refine ret1 rfl rfl ?_)
 exact ⟨rfl,rfl⟩
theorem indexFunc_fn {ib B : Nat} {w : World} {v : Value} {l : List UInt8} (h : HBk ib w v l) (hT : TabsB B w) (hB : B ≤ w.heap.size) (hs : l.length ≤ 1000000) :
  Fn PT 149 [v,fnV 139,.bool true] w (fun u w' => u = I (if skipTo notSp l 0 < l.length then (skipTo notSp l 0 : Int) else -1) ∧ Ext w w'):=by
 obtain ⟨a,cp,rfl,hcp,hcl⟩:=h
 have h : HBk ib w (.slice a l.length cp) l:=⟨_,_,rfl,hcp,hcl⟩
 refine fn_of Tryz.func149 rfl Tryz.ntmps149 rfl ?_
 repeat(first|refine C0 ?_|refine C1 ?_|refine X0 rfl rfl ?_|refine C2 ?_)
 refine CE.cut (fun s ds w' => ds = [] ∧ Ext w w' ∧ l.length ≤ skipTo notSp l 0) ?_ ?_
 ·refine CE.block ?_
  refine CE.loop (α:=Nat) (fun i => [(7,I i),(0,.slice a l.length cp),(1,fnV 139),(2,.bool true)]) (fun i w' => Ext w w' ∧ i ≤ l.length ∧ skipTo notSp l i = skipTo notSp l 0) (fun i => l.length + 1 - i) 0 ⟨rfl,rfl,rfl,rfl,trivial⟩ ⟨Ext.refl w,Nat.zero_le _,rfl⟩ ?_
  rintro i w0 ⟨he,hi,hsk⟩
  refine (show CE _ _ _ _ [(7,I i),(0,.slice a l.length cp),(1,fnV 139),(2,.bool true)] _ _ from ?_)
  repeat(first|refine C0 ?_|refine C1 ?_|refine X1 rfl rfl ?_|refine X7 rfl rfl rfl ?_|refine X13 rfl rfl rfl ?_|refine C2 ?_)
  refine CE.cond_d rfl (fun hlt => ?_) (fun hlt => ?_)
  ·have hlt' : i < l.length:=by omega
   have hpp:=nx_pos l hlt'
   have hpl:=nx_le l hi
   repeat (refine C3 ?_)
   refine CE.block ?_
   repeat(first|refine C0 ?_|refine C1 ?_|refine X1 rfl rfl ?_)
   refine RE.x (op_slice_l rfl rfl rfl (by omega) (by omega)) rfl ?_
   have hd:=hb_drop (h.ext he) hi
   refine RE.xc en92 rfl rfl (decode_fn (l:=l.drop i) (v:=sliced a (i : Int).toNat l.length cp 1) ⟨ib,hd⟩ (by intro e; have:=congrArg List.length e; simp at this; omega) (hT.ext hB he).tabs) ?_
   rintro _ w1 ⟨rfl,e1⟩
   have hnx : nx l i = (((Lib.decodeL (l.drop i)).1 : Int),(Lib.decodeL (l.drop i)).2):=nx_in hlt'
   rw [show ((Lib.decodeL (l.drop i)).1 : Int) = (nx l i).1 by rw [hnx],show (Lib.decodeL (l.drop i)).2 = (nx l i).2 by rw [hnx]]
   repeat(first|refine C0 ?_|refine C1 ?_|refine X1 rfl rfl ?_|refine X0 rfl rfl ?_|refine X15 rfl rfl rfl ?_|refine C2 ?_)
   refine RE.xcv (f:=139) (first:=#[]) (cap:=#[]) rfl en139 rfl rfl rfl (notSp_fn _ _) ?_
   rintro _ w2 ⟨rfl,hw2⟩
   subst hw2
   repeat (refine X1 rfl rfl ?_)
   refine RE.x (op_eql_b rfl rfl Tryz.underlying4) rfl ?_
   repeat (refine C2 ?_)
   refine CE.cond_s rfl (fun hn => ?_) (fun hn => ?_)
   ·have hn' : notSp (nx l i).1 = true:=by simpa using hn
    have hsi : skipTo notSp l i = i:=skipTo_stop (Or.inr hn')
    repeat(first|refine C0 ?_|refine C1 ?_|refine X1 rfl rfl ?_|refine X0 rfl rfl ?_|refine C2 ?_)
    (refine CE.ret ?_;(try dsimp only);refine ret1 rfl rfl ?_)
    refine ⟨?_,he.trans e1⟩
    rw [← hsk,hsi,if_pos hlt']
   ·have hn' : notSp (nx l i).1 = false:=by simpa using hn
    repeat(first|refine C1 ?_|refine X1 rfl rfl ?_|refine X0 rfl rfl ?_|refine X18 rfl rfl (by omega) (by omega) rfl ?_|refine C3 ?_)
    refine RE.nilx ?_
    refine ⟨i + (nx l i).2,by omega,rfl,⟨rfl,rfl,rfl,rfl,trivial⟩,he.trans e1,hpl,?_⟩
    rw [← hsk,skipTo_go hlt' hn']
  ·have hsi : skipTo notSp l i = i:=skipTo_stop (Or.inl (by omega))
   refine CE.exit ?_
   exact ⟨rfl,he,by rw [← hsk,hsi]; omega⟩
 ·rintro s _ w1 ⟨rfl,e1,hle⟩
  repeat(first|refine C0 ?_|refine C1 ?_|refine X0 rfl rfl ?_|refine C2 ?_)
  (refine CE.ret ?_;(try dsimp only);refine ret1 rfl rfl ?_)
  exact ⟨by rw [if_neg (by omega)],e1⟩
def slashAt (l : List UInt8) : Int:=if skipTo notSp l 0 < l.length ∧ (nx l (skipTo notSp l 0)).1 = 47 then (skipTo notSp l 0 : Int) else -1
theorem slash_fn {ib B : Nat} {w : World} {v : Value} {l : List UInt8} (h : HBk ib w v l) (hT : TabsB B w) (hB : B ≤ w.heap.size) (hs : l.length ≤ 1000000) :
  Fn PT 123 [v,.int .i32 47] w (fun u w' => u = I (slashAt l) ∧ Ext w w'):=by
 refine fn_of Tryz.func123 rfl Tryz.ntmps123 rfl ?_
 have hif : Fn PT 138 [v,fnV 139] w (fun u w' => u = I (if skipTo notSp l 0 < l.length then (skipTo notSp l 0 : Int) else -1) ∧ Ext w w'):=by
  refine fn_of Tryz.func138 rfl Tryz.ntmps138 rfl ?_
  repeat(first|refine C0 ?_|refine C1 ?_|refine X1 rfl rfl ?_|refine X0 rfl rfl ?_|refine C2 ?_)
  refine RE.xc en149 rfl rfl (indexFunc_fn h hT hB hs) ?_
  rintro _ w1 ⟨rfl,e1⟩
  repeat(first|refine X0 rfl rfl ?_|refine C2 ?_)
  (refine CE.ret ?_;(try dsimp only);refine ret1 rfl rfl ?_)
  exact ⟨rfl,e1⟩
 have hsk:=(skipTo_le (stop:=notSp) (t:=l) _ 0 rfl (Nat.zero_le _)).1
 unfold slashAt
 generalize skipTo notSp l 0 = q at hif hsk
 obtain ⟨a,cp,rfl,hcp,hcl⟩:=h
 have h : HBk ib w (.slice a l.length cp) l:=⟨_,_,rfl,hcp,hcl⟩
 repeat(first|refine C0 ?_|refine C1 ?_|refine X1 rfl rfl ?_|refine X0 rfl rfl ?_|refine C2 ?_)
 refine RE.xc en138 rfl rfl hif ?_
 rintro _ w1 ⟨rfl,e1⟩
 repeat(first|refine C0 ?_|refine C1 ?_|refine X1 rfl rfl ?_|refine X0 rfl rfl ?_|refine X5 rfl rfl rfl ?_|refine C2 ?_)
 by_cases hq : q < l.length
 ·rw [if_pos hq]
  skip
  refine CE.cond_d rfl (fun h => absurd h (by omega)) (fun _ => ?_)
  repeat(first|refine C0 ?_|refine C1 ?_|refine X1 rfl rfl ?_|refine C3 ?_)
  refine RE.x (op_slice_l rfl rfl rfl (by omega) (by omega)) rfl ?_
  have hd:=hb_drop (h.ext e1) hsk
  refine RE.xc en92 rfl rfl (decode_fn (l:=l.drop q) (v:=sliced a (q : Int).toNat l.length cp 1) ⟨ib,hd⟩ (by intro e; have:=congrArg List.length e; simp at this; omega) (hT.ext hB e1).tabs) ?_
  rintro _ w2 ⟨rfl,e2⟩
  have hnx : nx l q = (((Lib.decodeL (l.drop q)).1 : Int),(Lib.decodeL (l.drop q)).2):=nx_in hq
  rw [show ((Lib.decodeL (l.drop q)).1 : Int) = (nx l q).1 by rw [hnx],show (Lib.decodeL (l.drop q)).2 = (nx l q).2 by rw [hnx]]
  repeat(first|refine C0 ?_|refine C1 ?_|refine X1 rfl rfl ?_|refine X0 rfl rfl ?_|refine X5 rfl rfl rfl ?_|refine X15 rfl rfl rfl ?_|refine C2 ?_)
  refine CE.cond_d rfl (fun h47 => ?_) (fun h47 => ?_)
  ·repeat(first|refine C0 ?_|refine C1 ?_|refine X1 rfl rfl ?_|refine X0 rfl rfl ?_|refine C2 ?_)
   (refine CE.ret ?_;(try dsimp only);refine ret1 rfl rfl ?_)
   exact ⟨by rw [if_pos ⟨hq,h47⟩],e1.trans e2⟩
  ·repeat(first|refine C0 ?_|refine C1 ?_|refine X0 rfl rfl ?_|refine C2 ?_|refine C3 ?_)
   (refine CE.ret ?_;(try dsimp only);refine ret1 rfl rfl ?_)
   exact ⟨by rw [if_neg (fun h => h47 h.2)],e1.trans e2⟩
 ·rw [if_neg hq]
  skip
  refine CE.cond_t rfl ?_
  repeat(first|refine C0 ?_|refine C1 ?_|refine X0 rfl rfl ?_|refine C2 ?_)
  (refine CE.ret ?_;(try dsimp only);refine ret1 rfl rfl ?_)
  exact ⟨by rw [if_neg (fun h => hq h.1)],e1⟩
theorem skip118_fn {L ib B : Nat} {t : List UInt8} {c : LC} {w : World} (h : Lx L ib B t c w) : Fn PT 118 [Ptr L 0] w (fun u w' => u = I (fnd bs120 (t.drop c.pos) 0) ∧ Ext w w'):=by
 refine fn_of Tryz.func118 rfl Tryz.ntmps118 rfl ?_
 repeat(first|refine C0 ?_|refine C1 ?_|refine X1 rfl rfl ?_|refine X0 rfl rfl ?_|refine C2 ?_)
 refine RE.xc en120 rfl rfl (delim120_fn w) ?_
 rintro v w1 ⟨b,hb,_,e1⟩
 skip
 refine RE.xc en119 rfl rfl (indexL_fn (h.ext e1) hb.hb (by decide)) ?_
 rintro _ w2 ⟨rfl,e2⟩
 repeat(first|refine X0 rfl rfl ?_|refine C2 ?_)
 (refine CE.ret ?_;(try dsimp only);refine ret1 rfl rfl ?_)
 exact ⟨rfl,e1.trans e2⟩
def nextDiv (t : List UInt8) (d : D) : Int:=if d.chk = true then -1 else fnd d.dv (t.drop d.pos) 0
theorem skip126_fn {L ib B : Nat} {t dv : List UInt8} {c : LC} {ps : List PI} {w : World} {opn : List UInt8 → Bool} (h : LS L ib B t dv c ps w) (hdv : dv.length ≤ 1000) : Fn PT 126 [Ptr L 0] w (fun u w' => u = I (nextDiv t (c.d dv opn ps)) ∧ Ext w w'):=by
 refine fn_of Tryz.func126 rfl Tryz.ntmps126 rfl ?_
 have hB:=h.lx.at_
 unfold AtL at hB
 obtain ⟨db,hdb,_⟩:=h.div
 unfold nextDiv
 repeat(first|refine C0 ?_|refine C1 ?_|refine X1 rfl rfl ?_|refine X0 rfl rfl ?_|refine X2 rfl rfl ?_|refine X3 rfl rfl rfl ?_|refine X22 rfl rfl hB rfl rfl ?_|refine C2 ?_)
 refine CE.cond_s rfl (fun hc => ?_) (fun hc => ?_)
 ·repeat(first|refine C0 ?_|refine C1 ?_|refine X0 rfl rfl ?_|refine C2 ?_)
  (refine CE.ret ?_;(try dsimp only);refine ret1 rfl rfl ?_)
  exact ⟨congrArg I (if_pos hc).symm,Ext.refl _⟩
 ·repeat(first|refine C0 ?_|refine C1 ?_|refine X1 rfl rfl ?_|refine X2 rfl rfl ?_|refine X3 rfl rfl rfl ?_|refine X22 rfl rfl hB rfl rfl ?_|refine C3 ?_)
  refine RE.xc en119 rfl rfl (indexL_fn h.lx hdb.hb (by omega)) ?_
  rintro _ w2 ⟨rfl,e2⟩
  repeat(first|refine X0 rfl rfl ?_|refine C2 ?_)
  (refine CE.ret ?_;(try dsimp only);refine ret1 rfl rfl ?_)
  exact ⟨congrArg I (if_neg (nt hc)).symm,e2⟩
def inlOk (t nm : List UInt8) (p : Nat) : Bool:=
 decide (slashAt (t.drop (p + 3)) ≠ -1) && pre (nm ++ [32]) (trimA ((t.drop (p + 3)).drop (slashAt (t.drop (p + 3)) + 1).toNat))
def outSc (t : List UInt8) (d : D) : Option Nat × D:=
 if d.inl = true ∧ inlOk t d.name d.pos = false then (none,d.bad t) else
 (some 125,{ d with ld:=if pre bs124 (t.drop d.pos) = true then 10 else 8,rd:=if pre bs124 (t.drop d.pos) = true then 11 else 9 })
def fvB (x : Option Nat) (b : Bool) : Value:=.tuple #[fvV x,.bool b]
theorem slashAt_lt (l : List UInt8) : slashAt l = -1 ∨ (0 ≤ slashAt l ∧ slashAt l < l.length):=by
 unfold slashAt
 split
 ·rename_i h; exact Or.inr ⟨by omega,by omega⟩
 ·exact Or.inl rfl
theorem sc_fn {L ib B : Nat} {t dv : List UInt8} {c : LC} {ps : List PI} {w : World} {opn : List UInt8 → Bool} (h : LS L ib B t dv c ps w) (hn : ps.length + 8 < 100000000) (hnm : c.name.length ≤ 1000000) :
  Fn PT 121 [fnV 42,Ptr L 0] w (fun u w' => u = fvB (if isSC t c.pos then (outSc t (c.d dv opn ps)).1 else some 42) (isSC t c.pos) ∧ Aft L ib B t c (if isSC t c.pos then (outSc t (c.d dv opn ps)).2 else c.d dv opn ps) w w'):=by
 refine fn_of Tryz.func121 rfl Tryz.ntmps121 rfl ?_
 have hps:=h.lx.pos
 have hsm:=h.lx.small
 have hil:=h.lx.il
 have hB:=h.lx.at_
 unfold AtL at hB
 have hbase : B ≤ w.heap.size:=by have:=h.lx.base; have:=h.lx.at_.lt; omega
 repeat(first|refine C0 ?_|refine C1 ?_|refine X1 rfl rfl ?_|refine X0 rfl rfl ?_|refine C2 ?_)
 refine RE.xc en122 rfl rfl (isSC_fn h.lx) ?_
 rintro _ w1 ⟨rfl,e1⟩
 have h1:=h.ext e1
 have hi1:=LI.ext_l (c:=c) e1 (LI.refl h1.lx.at_)
 have hB1:=e1.block hB
 cases hsc : isSC t c.pos with
 | false =>
  repeat(first|refine X11 rfl rfl ?_|refine C2 ?_)
  refine CE.cond_t rfl ?_
  repeat(first|refine C0 ?_|refine C1 ?_|refine X1 rfl rfl ?_|refine X0 rfl rfl ?_|refine C2 ?_)
  (refine CE.ret ?_; (try dsimp only); refine ret2 rfl rfl rfl ?_)
  exact ⟨rfl,c.width,c.items,hi1,h1⟩
 | true =>
  simp only [if_true]
  have hp3 : c.pos + 3 ≤ t.length:=by
   unfold isSC at hsc
   rw [Bool.or_eq_true] at hsc
   rcases hsc with hsc | hsc
   ·have h2 : (t.drop c.pos).take 3 = bs124:=of_decide_eq_true hsc
    have:=congrArg List.length h2
    simp [bs124] at this
    omega
   ·have h2 : (t.drop c.pos).take 3 = bs137:=of_decide_eq_true hsc
    have:=congrArg List.length h2
    simp [bs137] at this
    omega
  generalize hA : outSc t (c.d dv opn ps) = A
  have hA0:=hA.symm
  unfold outSc at hA0
  repeat(first|refine X11 rfl rfl ?_|refine C2 ?_)
  refine CE.cond_f rfl ?_
  repeat(first|refine C0 ?_|refine C1 ?_|refine X1 rfl rfl ?_|refine X2 rfl rfl ?_|refine X3 rfl rfl rfl ?_|refine X4 rfl rfl rfl ?_|refine X22 rfl rfl hB1 rfl rfl ?_|refine C2 ?_|refine C3 ?_)
  refine CE.cut (fun s ds w' => ds = [] ∧ SubL [(1,Ptr L 0)] s ∧ ¬ (c.inl = true ∧ inlOk t c.name c.pos = false) ∧ Ext w w') ?_ ?_
  ·refine CE.cond_s rfl (fun hin => ?_) (fun hin => ?_)
   ·have hin' : c.inl = true:=hin
    have hB1d : w1.drew.heap[L]? = _:=hB1
    repeat (refine C0 ?_)
    refine CE.draw [0,0,0,0,0,0,0,0,0,0,0] mixed (by decide +kernel) ?_
    repeat(first|refine Y1 rfl rfl ?_|refine Y2 rfl rfl ?_|refine Y3 rfl rfl rfl ?_|refine Y22 rfl rfl hB1d rfl rfl ?_|refine Y18 rfl rfl (by omega) (by omega) rfl ?_)
    refine RE.d1 (op_slice_l rfl rfl rfl (by omega) (by omega)) rfl ?_
    have hd:=hb_drop (h1.lx.inp.ext (Ext.drew w1)) hp3
    have e3 : ((c.pos : Int) + 3).toNat = c.pos + 3:=by omega
    rw [e3]
    have hlen : (t.drop (c.pos + 3)).length = t.length - (c.pos + 3):=by simp
    have hsl:=hd
    obtain ⟨a2,cp2,hv2,hcp2,hcl2⟩:=hd
    rw [hv2] at hsl ⊢
    repeat(first|refine Y0 rfl rfl ?_|refine C2 ?_)
    generalize hl2 : t.drop (c.pos + 3) = l2 at hlen hsl hcl2 hcp2
    have hw1d : Ext w w1.drew:=e1.trans (Ext.drew _)
    repeat(first|refine C0 ?_|refine C1 ?_|refine X1 rfl rfl ?_)
    refine RE.xc en123 rfl rfl (slash_fn hsl (h.lx.tabs.ext hbase hw1d) (by have:=hw1d.size; omega) (by omega)) ?_
    rintro _ w3 ⟨rfl,e4⟩
    have ew3:=hw1d.trans e4
    have hB3:=ew3.block hB
    have hsa:=slashAt_lt l2
    have hok : inlOk t c.name c.pos = (decide (slashAt l2 ≠ -1) && pre (c.name ++ [32]) (trimA (l2.drop (slashAt l2 + 1).toNat))):=by
     unfold inlOk; rw [hl2]
    generalize slashAt l2 = e at hsa hok
    repeat(first|refine C0 ?_|refine C1 ?_|refine X1 rfl rfl ?_|refine X0 rfl rfl ?_|refine X2 rfl rfl ?_|refine X3 rfl rfl rfl ?_|refine X22 rfl rfl hB3 rfl rfl ?_|refine X6 rfl rfl rfl ?_|refine X13 rfl rfl rfl ?_|refine X19 rfl rfl (by omega) (by omega) rfl ?_|refine C2 ?_)
    refine CE.cond_d rfl (fun _ => ?_) (fun hne => ?_)
    ·repeat(first|refine C0 ?_|refine C1 ?_|refine X1 rfl rfl ?_|refine X18 rfl rfl (by omega) (by omega) rfl ?_)
     refine RE.x (op_slice_l rfl rfl rfl (by omega) (by omega)) rfl ?_
     have hd2:=hb_drop (p:=(e + 1).toNat) (hsl.ext e4) (by omega)
     refine RE.xc en83 rfl rfl (trimA_fn (l:=l2.drop (e + 1).toNat) hd2 (h.lx.tabs.ext hbase ew3) (by have:=ew3.size; omega) (by simp; omega)) ?_
     rintro v5 w5 ⟨hv5,e5⟩
     have ew5:=ew3.trans e5
     have hB5:=ew5.block hB
     repeat(first|refine C0 ?_|refine C1 ?_|refine X1 rfl rfl ?_|refine X0 rfl rfl ?_|refine X5 rfl rfl rfl ?_|refine C2 ?_)
     refine RE.splitD (fun hm1 => ?_) (fun hm1 => ?_)
     ·repeat(first|refine X16 rfl rfl rfl rfl ?_|refine RE.nox rfl rfl rfl rfl ?_|refine C2 ?_)
      refine CE.cond_t rfl ?_
      have hok' : inlOk t c.name c.pos = false:=by rw [hok,hm1]; rfl
      have hA1:=hA0.trans (if_pos ⟨hin',hok'⟩)
      subst hA1
      repeat(first|refine C0 ?_|refine C1 ?_|refine X1 rfl rfl ?_)
      refine RE.xc en93 rfl rfl (bad_aft (d:=c.d dv opn ps) (opn:=opn) rfl rfl (LI.ext_l (c:=c) ew5 (LI.refl (h.ext ew5).lx.at_)) (h.ext ew5) (by omega)) ?_
      rintro _ w8 ⟨rfl,h8⟩
      repeat(first|refine X0 rfl rfl ?_|refine C2 ?_)
      (refine CE.ret ?_; (try dsimp only); refine ret2 rfl rfl rfl ?_)
      exact ⟨rfl,h8⟩
     ·repeat(first|refine X1 rfl rfl ?_|refine X2 rfl rfl ?_|refine X3 rfl rfl rfl ?_|refine X4 rfl rfl rfl ?_|refine X22 rfl rfl hB5 rfl rfl ?_|refine RE.want rfl rfl ?_)
      refine RE.x (op_add_s (a:=c.name) (b:=[32]) rfl rfl (by simp; omega)) rfl ?_
      repeat (refine RE.want rfl rfl ?_)
      refine RE.xe (e_conv_sb rfl) rfl ?_
      rintro v6 w6 ⟨b6,hb6,_,_,e6⟩
      repeat (refine RE.want rfl rfl ?_)
      refine RE.xc en116 rfl rfl (hasPrefix_fn (hv5.ext e6) hb6.hb) ?_
      rintro _ w7 ⟨rfl,hw7⟩
      subst hw7
      have ew6:=ew5.trans e6
      repeat(first|refine X12 rfl rfl ?_|refine X17 rfl rfl rfl ?_|refine RE.want rfl rfl ?_|refine C2 ?_)
      refine CE.cond_s rfl (fun hp => ?_) (fun hp => ?_)
      ·have hp' : pre (c.name ++ [32]) (trimA (l2.drop (e + 1).toNat)) = false:=decide_eq_false (of_decide_eq_true hp)
       have hok' : inlOk t c.name c.pos = false:=by rw [hok,hp']; simp
       have hA1:=hA0.trans (if_pos ⟨hin',hok'⟩)
       subst hA1
       repeat(first|refine C0 ?_|refine C1 ?_|refine X1 rfl rfl ?_)
       refine RE.xc en93 rfl rfl (bad_aft (d:=c.d dv opn ps) (opn:=opn) rfl rfl (LI.ext_l (c:=c) ew6 (LI.refl (h.ext ew6).lx.at_)) (h.ext ew6) (by omega)) ?_
       rintro _ w8 ⟨rfl,h8⟩
       repeat(first|refine X0 rfl rfl ?_|refine C2 ?_)
       (refine CE.ret ?_; (try dsimp only); refine ret2 rfl rfl rfl ?_)
       exact ⟨rfl,h8⟩
      ·have hp' : pre (c.name ++ [32]) (trimA (l2.drop (e + 1).toNat)) = true:=decide_eq_true (Classical.not_not.1 (of_decide_eq_false hp))
       have hok' : inlOk t c.name c.pos = true:=by rw [hok,hp']; simp [hm1]
       skip
       refine CE.skip ?_
       exact ⟨rfl,⟨rfl,trivial⟩,(fun h => by rw [hok'] at h; cases h.2),ew6⟩
    ·exfalso
     have h2 : e = (c.il : Int) - 1:=Classical.not_not.1 hne
     have h3 : c.il = t.length:=hil.1
     omega
   ·refine CE.skip ?_
    exact ⟨rfl,⟨rfl,trivial⟩,fun h => nt hin h.1,e1⟩
  ·rintro s _ w2 ⟨rfl,hs,hno,e2⟩
   refine CE.sub hs ?_
   replace hA0:=hA0.trans (if_neg hno)
   repeat(first|refine C0 ?_|refine C1 ?_|refine X1 rfl rfl ?_)
   refine RE.xc en124 rfl rfl (delim124_fn _) ?_
   rintro v3 w3 ⟨b3,hb3,_,e3⟩
   skip
   refine RE.xc en96 rfl rfl (hasP_fn (h.lx.ext (e2.trans e3)) hb3.hb) ?_
   rintro _ w4 ⟨rfl,e4⟩
   have ew4:=(e2.trans e3).trans e4
   have h4:=h.ext ew4
   have hi4:=LI.ext_l (c:=c) ew4 (LI.refl h4.lx.at_)
   have hB4:=h4.lx.at_
   unfold AtL at hB4
   have hA1 : A = (some 125,{ c.d dv opn ps with ld:=if pre bs124 (t.drop c.pos) = true then 10 else 8,rd:=if pre bs124 (t.drop c.pos) = true then 11 else 9 }):=hA0
   repeat (refine C2 ?_)
   refine CE.cut (fun s ds w' => ds = [] ∧ True ∧ ∃ l r,A = (some 125,{ c.d dv opn ps with ld:=l,rd:=r }) ∧ LS L ib B t dv { c with ld:=l,rd:=r } ps w' ∧ LI L c { c with ld:=l,rd:=r } w w') ?_ ?_
   ·refine CE.cond_s rfl (fun hp => ?_) (fun hp => ?_)
    ·rw [if_pos hp,if_pos hp] at hA1
     repeat(first|refine C0 ?_|refine C1 ?_|refine X1 rfl rfl ?_|refine X2 rfl rfl ?_|refine X3 rfl rfl rfl ?_|refine X4 rfl rfl rfl ?_)
     refine RE.xs (e_store rfl rfl rfl hB4 rfl rfl) ?_
     rintro _ w5 hu5
     have hl5 : LM L { c with ld:=10 } w4 w5:=LM.of_upd hu5 rfl
     have hx5:=h4.keep hl5 rfl rfl rfl hps
     have hi5:=hi4.lm hl5 rfl
     have hB5:=hx5.lx.at_
     unfold AtL at hB5
     repeat(first|refine C1 ?_|refine X1 rfl rfl ?_|refine X2 rfl rfl ?_|refine X3 rfl rfl rfl ?_|refine X4 rfl rfl rfl ?_|refine C2 ?_)
     refine RE.xs (e_store rfl rfl rfl hB5 rfl rfl) ?_
     rintro _ w6 hu6
     have hl6 : LM L { c with ld:=10,rd:=11 } w5 w6:=LM.of_upd hu6 rfl
     refine RE.nilx ?_
     exact ⟨rfl,trivial,10,11,hA1,hx5.keep hl6 rfl rfl rfl hps,hi5.lm hl6 rfl⟩
    ·rw [if_neg (nt hp),if_neg (nt hp)] at hA1
     repeat(first|refine C0 ?_|refine C1 ?_|refine X1 rfl rfl ?_|refine X2 rfl rfl ?_|refine X3 rfl rfl rfl ?_|refine X4 rfl rfl rfl ?_)
     refine RE.xs (e_store rfl rfl rfl hB4 rfl rfl) ?_
     rintro _ w5 hu5
     have hl5 : LM L { c with ld:=8 } w4 w5:=LM.of_upd hu5 rfl
     have hx5:=h4.keep hl5 rfl rfl rfl hps
     have hi5:=hi4.lm hl5 rfl
     have hB5:=hx5.lx.at_
     unfold AtL at hB5
     repeat(first|refine C1 ?_|refine X1 rfl rfl ?_|refine X2 rfl rfl ?_|refine X3 rfl rfl rfl ?_|refine X4 rfl rfl rfl ?_|refine C2 ?_)
     refine RE.xs (e_store rfl rfl rfl hB5 rfl rfl) ?_
     rintro _ w6 hu6
     have hl6 : LM L { c with ld:=8,rd:=9 } w5 w6:=LM.of_upd hu6 rfl
     refine RE.nilx ?_
     exact ⟨rfl,trivial,8,9,hA1,hx5.keep hl6 rfl rfl rfl hps,hi5.lm hl6 rfl⟩
   ·rintro s _ w5 ⟨rfl,_,l,r,hA2,h5,hi5⟩
    repeat(first|refine C0 ?_|refine C1 ?_|refine X0 rfl rfl ?_|refine C2 ?_)
    (refine CE.ret ?_; (try dsimp only); refine ret2 rfl rfl rfl ?_)
    subst hA2
    exact ⟨rfl,c.width,c.items,hi5,h5⟩
def outDiv (t : List UInt8) (d : D) : D:=({ d with chk:=true,pos:=skipTo notSp t (d.pos + d.dv.length) }).em t 2
theorem pre_len {p l : List UInt8} (h : pre p l = true) : p.length ≤ l.length:=by
 have h2 : l.take p.length = p:=of_decide_eq_true h
 have:=congrArg List.length h2
 rw [List.length_take] at this
 omega
theorem div_fn {L ib B : Nat} {t dv : List UInt8} {c : LC} {ps : List PI} {w : World} {opn : List UInt8 → Bool} (h : LS L ib B t dv c ps w) (hn : ps.length + 8 < 100000000) :
  Fn PT 127 [fnV 42,Ptr L 0] w (fun u w' => u = fvB (some 42) (pre dv (t.drop c.pos)) ∧ Aft L ib B t c (if pre dv (t.drop c.pos) = true then outDiv t (c.d dv opn ps) else c.d dv opn ps) w w'):=by
 refine fn_of Tryz.func127 rfl Tryz.ntmps127 rfl ?_
 have hps:=h.lx.pos
 have hsm:=h.lx.small
 have hB:=h.lx.at_
 unfold AtL at hB
 obtain ⟨db,hdb,_⟩:=h.div
 have hdl : c.dl = dv.length:=by
  obtain ⟨a,cp,h1,_⟩:=hdb
  simp only [Value.slice.injEq] at h1
  exact h1.2.1
 repeat(first|refine C0 ?_|refine C1 ?_|refine X1 rfl rfl ?_|refine X0 rfl rfl ?_|refine X2 rfl rfl ?_|refine X3 rfl rfl rfl ?_|refine X22 rfl rfl hB rfl rfl ?_|refine C2 ?_)
 refine RE.xc en96 rfl rfl (hasP_fn h.lx hdb.hb) ?_
 rintro _ w1 ⟨rfl,e1⟩
 have h1:=h.ext e1
 have hi1:=LI.ext_l (c:=c) e1 (LI.refl h1.lx.at_)
 have hB1:=e1.block hB
 cases hp : pre dv (t.drop c.pos) with
 | false =>
  rw [if_neg (by simp)]
  repeat(first|refine X11 rfl rfl ?_|refine C2 ?_)
  refine CE.cond_t rfl ?_
  repeat(first|refine C0 ?_|refine C1 ?_|refine X1 rfl rfl ?_|refine X0 rfl rfl ?_|refine C2 ?_)
  (refine CE.ret ?_; (try dsimp only); refine ret2 rfl rfl rfl ?_)
  exact ⟨rfl,c.width,c.items,hi1,h1⟩
 | true =>
  rw [if_pos rfl]
  have hpl:=pre_len hp
  rw [List.length_drop] at hpl
  have hpd : c.pos + dv.length ≤ t.length ∨ dv.length = 0:=by omega
  have hpd : c.pos + dv.length ≤ t.length:=by omega
  repeat(first|refine X11 rfl rfl ?_|refine C2 ?_)
  refine CE.cond_f rfl ?_
  repeat(first|refine C0 ?_|refine C1 ?_|refine X1 rfl rfl ?_|refine X2 rfl rfl ?_|refine X3 rfl rfl rfl ?_|refine C3 ?_)
  refine RE.xs (e_store rfl rfl rfl hB1 rfl rfl) ?_
  rintro _ w2 hu2
  have hl2 : LM L { c with chk:=true } w1 w2:=LM.of_upd hu2 rfl
  have h2:=h1.keep hl2 rfl rfl rfl hps
  have hi2:=hi1.lm hl2 rfl
  have hB2:=h2.lx.at_
  unfold AtL at hB2
  have hB2d : w2.drew.heap[L]? = _:=hB2
  repeat(first|refine C0 ?_|refine C2 ?_)
  refine CE.draw [0,0,0,0,0,0,0,0,0,0,0,0,2] mixed (by decide +kernel) ?_
  repeat(first|refine Y1 rfl rfl ?_|refine Y2 rfl rfl ?_|refine Y3 rfl rfl rfl ?_|refine Y22 rfl rfl hB2d rfl rfl ?_|refine Y13 rfl rfl rfl ?_)
  refine RE.d1 (op_add64 rfl rfl (show _ ≤ (c.pos : Int) + (c.dl : Int) by omega) (show (c.pos : Int) + (c.dl : Int) ≤ _ by omega)) rfl ?_
  repeat(first|refine Y2 rfl rfl ?_|refine Y3 rfl rfl rfl ?_)
  refine RE.es1 (e_store rfl rfl rfl hB2d rfl rfl) ?_
  rintro _ w3 hu3
  have hl3 : LM L { c with chk:=true,pos:=c.pos + dv.length } w2.drew w3:=LM.of_upd hu3 (by
   have e : ((c.pos + dv.length : Nat) : Int) = (c.pos : Int) + (c.dl : Int):=by omega
   simp only [LC.arr,e]
   rfl)
  have h3:=(h2.ext (Ext.drew w2)).keep hl3 rfl rfl rfl hpd
  have hi3:=(hi2.ext_r (Ext.drew w2)).lm hl3 rfl
  repeat(first|refine C0 ?_|refine C1 ?_|refine X1 rfl rfl ?_|refine C2 ?_)
  refine RE.xc en128 rfl rfl (consumeSpace_fn h3.lx) ?_
  rintro _ w4 ⟨rfl,h4⟩
  have hq:=skipTo_le (stop:=notSp) (t:=t) _ _ rfl hpd
  have h5:=h3.keep h4 rfl rfl rfl hq.1
  have hi5:=hi3.lm h4 rfl
  repeat(first|refine C0 ?_|refine C1 ?_|refine X1 rfl rfl ?_|refine C2 ?_)
  refine RE.xc en97 rfl rfl (emit_fn h5 (by omega)) ?_
  rintro _ w6 ⟨rfl,it,h6,h7⟩
  repeat(first|refine C0 ?_|refine C1 ?_|refine X1 rfl rfl ?_|refine X0 rfl rfl ?_|refine C2 ?_)
  (refine CE.ret ?_; (try dsimp only); refine ret2 rfl rfl rfl ?_)
  exact ⟨rfl,_,it,hi5.trans h6,h7⟩
end Go.Wk
