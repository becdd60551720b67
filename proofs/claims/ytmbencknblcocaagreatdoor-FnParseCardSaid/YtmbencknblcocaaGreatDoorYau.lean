/- The bytes of an item in segments. -/
import Derived.Test.YtmbencknblcocaaGreatDoorYai
import Derived.Test.YtmbencknblcocaaGreatDoorYat
import Derived.Test.YtmbencknblcocaaGreatDoorYas
namespace Go.Wk
open Go Go.RowKit Go.Proofs
set_option maxRecDepth 100000
theorem buf_ext {b B : Nat} {bs : List Value} {w w' : World} (h : Lib.IsBuffer 117 5 B b bs w) (he : Ext w w') : Lib.IsBuffer 117 5 B b bs w':=by
 obtain ⟨h1,v,lr,h2,h3,h4⟩:=h
 exact ⟨h1,v,lr,he.block h2,ownsRow_ext h3 he,h4⟩
theorem segCells_at (l : List (Nat × Nat)) (k : Nat) (hk : k < l.length) : ((segCells l).drop (k * 2)).take 2 = [I l[k].1,I l[k].2]:=by
 have:=flat_at (f:=fun s : Nat × Nat => [I s.1,I s.2]) (n:=2) (fun _ => rfl) l k hk
 exact this
def segText (t : List UInt8) (ss : List (Nat × Nat)) : List UInt8:=ss.flatMap fun s => (t.drop s.1).take (s.2 - s.1)
theorem bytes_fn {b B : Nat} {l : List UInt8} {w : World} (h : Lib.IsBuffer 117 5 B b (l.map Wk.B) w) (hl : l ≠ []) (hs : l.length ≤ 1000000) : Fn PT 106 [Ptr b 0] w (fun u w' => (∃ g,HBk g w' u l) ∧ Ext w w'):=by
 obtain ⟨h1,v,lr,h2,h3,h4⟩:=h
 have h3':=h3.2.resolve_left (by rintro ⟨_,h0⟩; simp at h0; exact hl h0)
 obtain ⟨g,cap,cur,rfl,hbg,hg,hnc,hcm,hcs,ht⟩:=h3'
 rw [List.length_map] at h2 h3 hnc ht
 refine fn_of Tryz.func106 rfl Tryz.ntmps106 rfl ?_
 have h2d : w.drew.heap[b]? = _:=h2
 repeat(first|refine C0 ?_|refine C1 ?_|refine X0 rfl rfl ?_|refine C2 ?_)
 refine CE.draw [0,0,0,0,0,0,0,0,0,0] mixed (by decide +kernel) ?_
 repeat(first|refine Y1 rfl rfl ?_|refine Y2 rfl rfl ?_|refine Y3 rfl rfl rfl ?_|refine Y22 rfl rfl h2d rfl rfl ?_)
 refine RE.d1 (op_slice_l rfl rfl rfl (by decide) (by omega)) rfl ?_
 have e : sliced (some ⟨g,0,none⟩) (0 : Int).toNat l.length cap 1 = Sl g 0 l.length cap:=by simp [sliced,Addr.add_lit]
 rw [e]
 repeat(first|refine Y0 rfl rfl ?_|refine C2 ?_)
 skip
 (refine CE.ret ?_;(try dsimp only);refine ret1 rfl rfl ?_)
 refine ⟨⟨g,_,_,rfl,hnc,fun _ => ⟨0,rfl,fun i hi => ?_⟩⟩,Ext.drew w⟩
 refine cell_of (show w.drew.heap[g]? = _ from hg) ?_
 have h5 : (cur.toList.take (l.length * 1))[i]? = some (Wk.B l[i]):=by rw [ht]; simp [hi]
 rw [List.getElem?_take,if_pos (by omega)] at h5
 simpa using h5
set_option maxHeartbeats 1000000 in
theorem val_segs {B ib : Nat} {x : IC} {p : PI} {t : List UInt8} {sv : Value} {w : World} (hrep : IRep w x p) (hne : p.segs ≠ []) (hi : HBk ib w sv t) (hib : ib < w.heap.size) (hsg : ∀ s ∈ p.segs,s.1 < s.2 ∧ s.2 ≤ t.length) (hl : p.segs.length ≤ 1000000) (hsz : (segText t p.segs).length ≤ 1000000) (hT : TabsB B w) (hB : B ≤ w.heap.size) (ht : t.length ≤ 1000000) :
  ValIs B x sv (segText t p.segs) w:=by
 refine ⟨fun w2 he => ?_,hT,hB,hsz⟩
 have hi2:=hi.ext he
 have hrep2:=hrep.ext he
 obtain ⟨g,cs,hsa,hg,hcs⟩:=hrep2.seg hne
 have hsn:=hrep2.sn
 have hlen : 0 < p.segs.length:=List.length_pos_iff.2 hne
 have htne : t ≠ []:=by
  rintro rfl
  obtain ⟨s,hs⟩:=List.exists_mem_of_ne_nil _ hne
  have:=hsg s hs
  simp at this
  omega
 obtain ⟨a,cp,rfl,hcp,hcl⟩:=hi2
 obtain ⟨o,rfl,hcells⟩:=hcl htne
 have hi2 : HBk ib w2 (.slice (some ⟨ib,o,none⟩) t.length cp) t:=⟨_,_,rfl,hcp,fun _ => ⟨o,rfl,hcells⟩⟩
 have hat : ∀ k (hk : k < p.segs.length),(cs.toList.drop (k * 2)).take 2 = [I p.segs[k].1,I p.segs[k].2]:=by
  intro k hk
  rw [← segCells_at p.segs k hk,← hcs,List.drop_take,List.take_take]
  congr 1
  omega
 refine fn_of Tryz.func82 rfl Tryz.ntmps82 rfl ?_
 repeat(first|refine C0 ?_|refine C1 ?_)
 refine RE.xe (e_box (cells:=#[I x.ty,x.ev,I x.lo,I x.hi,.slice (some ⟨g,0,none⟩) p.segs.length x.sc,.int .u8 x.fb,.bool x.str]) rfl (by rw [← hsa,← hsn]; rfl)) rfl ?_
 rintro _ w3 ⟨bx,rfl,hn⟩
 have hb:=hn.here
 have hg3:=hn.ext.block hg
 repeat(first|refine C0 ?_|refine C1 ?_|refine X0 rfl rfl ?_|refine X3 rfl rfl rfl ?_|refine X22 rfl rfl hb rfl rfl ?_|refine X5 rfl rfl rfl ?_|refine X13 rfl rfl rfl ?_|refine C2 ?_)
 refine CE.cond_d rfl (fun h3 => ?_) (fun h3 => ?_)
 ·exact absurd h3 (by omega)
 repeat(first|refine C0 ?_|refine C1 ?_|refine X3 rfl rfl rfl ?_|refine X22 rfl rfl hb rfl rfl ?_|refine X5 rfl rfl rfl ?_|refine X13 rfl rfl rfl ?_|refine C2 ?_|refine C3 ?_)
 refine CE.cond_d rfl (fun h1 => ?_) (fun h1 => ?_)
 ·have h1' : p.segs.length = 1:=by omega
  obtain ⟨s0,hs0⟩ : ∃ s0,p.segs = [s0]:=List.length_eq_one_iff.1 h1'
  have hs1:=hsg s0 (by rw [hs0]; exact List.mem_cons_self ..)
  have hat0:=hat 0 (by omega)
  have e0 : p.segs[0]'(by omega) = s0:=by simp [hs0]
  rw [e0] at hat0
  have hbd : w3.drew.heap[bx]? = _:=hb
  have hc0 : w3.drew.cell? ⟨g,0,none⟩ = some (I s0.1):=cell_of (show w3.drew.heap[g]? = _ from hg3) (by
   have : ((cs.toList.drop (0 * 2)).take 2)[0]? = some (I s0.1):=by rw [hat0]; rfl
   simpa using this)
  have hc1 : w3.drew.cell? ⟨g,1,none⟩ = some (I s0.2):=cell_of (show w3.drew.heap[g]? = _ from hg3) (by
   have : ((cs.toList.drop (0 * 2)).take 2)[1]? = some (I s0.2):=by rw [hat0]; rfl
   rw [List.getElem?_take,if_pos (by decide),List.getElem?_drop] at this
   simpa using this)
  repeat (refine C0 ?_)
  refine CE.draw [0,0,0,0,0,0,0,0,0,0,0,0,0] mixed (by decide +kernel) ?_
  repeat(first|refine Y1 rfl rfl ?_|refine Y3 rfl rfl rfl ?_|refine Y22 rfl rfl hbd rfl rfl ?_)
  refine RE.d1 (op_indexAddr rfl rfl rfl (by decide) (by omega)) rfl ?_
  repeat (refine Y3 rfl rfl rfl ?_)
  refine RE.d1 (op_load rfl rfl hc0) rfl ?_
  repeat(first|refine Y3 rfl rfl rfl ?_|refine Y22 rfl rfl hbd rfl rfl ?_)
  refine RE.d1 (op_indexAddr rfl rfl rfl (by decide) (by omega)) rfl ?_
  repeat (refine Y3 rfl rfl rfl ?_)
  refine RE.d1 (op_load rfl rfl hc1) rfl ?_
  skip
  refine RE.d1 (op_slice_lh rfl rfl rfl rfl (by omega) (by omega) (by omega)) rfl ?_
  repeat(first|refine Y0 rfl rfl ?_|refine C2 ?_)
  skip
  (refine CE.ret ?_;(try dsimp only);refine ret1 rfl rfl ?_)
  have hsl:=HBk.slice (hi2.ext (hn.ext.trans (Ext.drew w3))) (Nat.le_of_lt hs1.1) hs1.2
  refine ⟨⟨ib,?_⟩,hn.ext.trans (Ext.drew w3)⟩
  have e2 : segText t p.segs = (t.drop s0.1).take (s0.2 - s0.1):=by rw [hs0]; simp [segText]
  rw [e2]
  exact hsl
 ·repeat(first|refine C0 ?_|refine C1 ?_|refine C3 ?_)
  refine RE.xe (e_alloc (cells:=#[.slice none 0 0,.int .i64 0,.int .i8 0]) Tryz.zeroValue117 rfl) rfl ?_
  rintro _ w4 ⟨bb,rfl,hn4⟩
  have hb4:=hn4.ext.block hb
  have hw3:=hn.ext.size
  repeat(first|refine C0 ?_|refine C1 ?_|refine X1 rfl rfl ?_|refine X3 rfl rfl rfl ?_|refine X22 rfl rfl hb4 rfl rfl ?_|refine X13 rfl rfl rfl ?_|refine C2 ?_)
  refine CE.cut (fun s ds w' => ds = [] ∧ SubL [(5,Ptr bb 0)] s ∧ Ext w3 w' ∧ Lib.IsBuffer 117 5 w3.heap.size bb ((segText t p.segs).map Wk.B) w') ?_ ?_
  ·refine CE.block ?_
   refine CE.loop (α:=Nat) (fun k => [(37,I k),(36,I p.segs.length),(35,.slice (some ⟨g,0,none⟩) p.segs.length x.sc),(5,Ptr bb 0),(1,.slice (some ⟨ib,o,none⟩) t.length cp)])
    (fun k w' => Ext w3 w' ∧ k ≤ p.segs.length ∧ Lib.IsBuffer 117 5 w3.heap.size bb ((segText t (p.segs.take k)).map Wk.B) w') (fun k => p.segs.length + 1 - k) 0 ⟨rfl,rfl,rfl,rfl,rfl,trivial⟩
    ⟨hn4.ext,Nat.zero_le _,by have:=hn4.num; omega,_,0,hn4.here,World.ownsRow_nil _ _ _ _,by simp [Value.ownBlock]⟩ ?_
   rintro k w5 ⟨e5,hk,hbuf⟩
   refine (show CE _ _ _ _ [(37,I k),(36,I p.segs.length),(35,.slice (some ⟨g,0,none⟩) p.segs.length x.sc),(5,Ptr bb 0),(1,.slice (some ⟨ib,o,none⟩) t.length cp)] _ _ from ?_)
   repeat(first|refine C0 ?_|refine C1 ?_|refine X7 rfl rfl rfl ?_|refine C2 ?_)
   refine CE.cond_d rfl (fun hlt => ?_) (fun hlt => ?_)
   ·have hlt' : k < p.segs.length:=by omega
    have hatk:=hat k hlt'
    have hsk:=hsg _ (List.getElem_mem hlt')
    have htake : segText t (p.segs.take (k + 1)) = segText t (p.segs.take k) ++ (t.drop p.segs[k].1).take (p.segs[k].2 - p.segs[k].1):=by
     rw [List.take_succ_eq_append_getElem hlt']
     simp only [segText,List.flatMap_append,List.flatMap_cons,List.flatMap_nil,List.append_nil]
    have htl : (segText t (p.segs.take (k + 1))).length ≤ (segText t p.segs).length:=by
     have e3 : p.segs = p.segs.take (k + 1) ++ p.segs.drop (k + 1):=(List.take_append_drop _ _).symm
     have e4 : segText t p.segs = segText t (p.segs.take (k + 1)) ++ segText t (p.segs.drop (k + 1)):=by
      conv => lhs; rw [e3]
      simp only [segText,List.flatMap_append]
     rw [e4,List.length_append]
     omega
    rw [htake,List.length_append] at htl
    generalize p.segs[k] = s0 at hatk hsk htake htl
    have hg5:=e5.block hg3
    repeat(first|refine C0 ?_|refine C3 ?_)
    refine CE.block ?_
    repeat(first|refine C0 ?_|refine C1 ?_)
    refine RE.x (op_indexAddr rfl rfl rfl (by omega) (by omega)) rfl ?_
    have e0 : 0 + (k : Int).toNat * 2 = k * 2:=by omega
    rw [e0]
    refine X23 (kk:=2) (vs:=[I s0.1,I s0.2]) rfl rfl hg5 hatk rfl rfl ?_
    refine RE.xe (e_alloc (cells:=#[I 0,I 0]) Tryz.zeroValue94 rfl) rfl ?_
    rintro _ w6 ⟨bs,rfl,hn6⟩
    refine RE.xs (e_storeA (k:=2) (cells:=#[I s0.1,I s0.2]) rfl rfl rfl hn6.here rfl rfl (by simp [Value.oneCell'])) ?_
    rintro _ w7 hu7
    have e67 : Ext w5 w7:=hn6.ext.fr (Fr.of_upd (S:=(· = bs)) hu7 rfl) (fun q hq => by subst hq; have:=hn6.num; omega)
    have hb7:=hu7.here
    have e7:=e5.trans e67
    repeat(first|refine C1 ?_|refine X1 rfl rfl ?_|refine X3 rfl rfl rfl ?_|refine X22 rfl rfl hb7 rfl rfl ?_|refine C2 ?_)
    refine RE.x (op_slice_lh rfl rfl rfl rfl (by omega) (by omega) (by omega)) rfl ?_
    have hsl:=HBk.slice (hi2.ext (hn.ext.trans e7)) (Nat.le_of_lt hsk.1) hsk.2
    obtain ⟨a8,cp8,hv8,hcp8,hcl8⟩:=hsl
    have hlen8 : ((t.drop s0.1).take (s0.2 - s0.1)).length = s0.2 - s0.1:=by simp; omega
    obtain ⟨o8,rfl,hc8⟩:=hcl8 (by intro e; rw [e] at hlen8; simp at hlen8; omega)
    rw [show sliced (some ⟨ib,o,none⟩) (s0.1 : Int).toNat (s0.2 : Int).toNat cp 1 = .slice (some ⟨ib,o8,none⟩) ((t.drop s0.1).take (s0.2 - s0.1)).length cp8 from hv8]
    have hbuf7:=buf_ext hbuf e67
    have hwr:=Any.Buffer_Write_any Tryz.lays180 w3.heap.size bb ((segText t (p.segs.take k)).map Wk.B) (((t.drop s0.1).take (s0.2 - s0.1)).map Wk.B) ⟨ib,o8,none⟩ ((t.drop s0.1).take (s0.2 - s0.1)).length cp8 w7 hbuf7 e7.size (by intro v hv; obtain ⟨z,_,rfl⟩:=List.mem_map.1 hv; rfl) (by simp)
     (by have:=hn4.num; have:=he.size; show ib ≠ bb; omega) (fun j v hj => by
      rw [Addr.add_lit]
      have hjl : j < ((t.drop s0.1).take (s0.2 - s0.1)).length:=by
       rcases Nat.lt_or_ge j ((t.drop s0.1).take (s0.2 - s0.1)).length with h | h
       ·exact h
       ·rw [List.getElem?_eq_none (by simpa using h)] at hj; cases hj
      rw [List.getElem?_map,List.getElem?_eq_getElem hjl] at hj
      cases hj
      exact hc8 j hjl) (by intro v hv; obtain ⟨z,_,rfl⟩:=List.mem_map.1 hv; rfl) (by rw [List.length_map]; omega)
    refine RE.xc (Φ:=fun u w' => Lib.IsBuffer 117 5 w3.heap.size bb ((segText t (p.segs.take (k + 1))).map Wk.B) w' ∧ Below w3.heap.size w7 w') en105 rfl rfl ⟨Calls.mono hwr fun _ w' ⟨h1,h2,h3,_⟩ => ⟨_,h1,by rw [htake,List.map_append]; exact h2,h3⟩⟩ ?_
    rintro v8 w8 ⟨hb8,e8⟩
    repeat(first|refine C1 ?_|refine X1 rfl rfl ?_|refine X18 rfl rfl (by omega) (by omega) rfl ?_|refine C2 ?_)
    refine RE.nilx ?_
    refine ⟨k + 1,by omega,rfl,⟨rfl,rfl,rfl,rfl,rfl,trivial⟩,?_,by omega,hb8⟩
    exact Below.trans e7 e8
   ·have hke : k = p.segs.length:=by omega
    refine CE.exit ?_
    subst hke
    rw [List.take_length] at hbuf
    exact ⟨rfl,⟨rfl,trivial⟩,e5,hbuf⟩
  ·rintro s _ w5 ⟨rfl,hss,e5,hbuf⟩
   refine CE.sub hss ?_
   have hne2 : segText t p.segs ≠ []:=by
    obtain ⟨s0,r0,hsr⟩ : ∃ s0 r0,p.segs = s0 :: r0:=by
     cases hp : p.segs with
     | nil => exact absurd hp hne
     | cons s0 r0 => exact ⟨s0,r0,rfl⟩
    have h0:=hsg s0 (by rw [hsr]; exact List.mem_cons_self ..)
    intro e
    have h9:=congrArg List.length e
    rw [hsr] at h9
    simp [segText] at h9
    omega
   repeat(first|refine C0 ?_|refine C1 ?_)
   refine RE.xc en106 rfl rfl (bytes_fn hbuf hne2 hsz) ?_
   rintro v6 w6 ⟨h6,e6⟩
   repeat(first|refine X0 rfl rfl ?_|refine C2 ?_)
   (refine CE.ret ?_;(try dsimp only);refine ret1 rfl rfl ?_)
   exact ⟨h6,(hn.ext.trans e5).trans e6⟩
theorem fix_eq (t : List UInt8) (p : PI) : (p.fix t).ty = p.ty ∧ (p.fix t).err = p.err ∧ (p.fix t).segs = p.segs ∧ (p.fix t).lo = p.lo ∧ (p.fix t).hi = p.hi ∧ (p.fix t).pos = p.pos:=by
 unfold PI.fix
 split <;> exact ⟨rfl,rfl,rfl,rfl,rfl,rfl⟩
theorem fix_fb (t : List UInt8) (p : PI) (h : p.pos < t.length) : (p.fix t).fb = (t[p.pos]).toNat:=by
 unfold PI.fix
 rw [dif_pos h]
structure Good (t : List UInt8) (p : PI) : Prop where
 one : p.segs = [] → p.lo ≤ p.hi ∧ p.hi ≤ t.length
 seg : ∀ s ∈ p.segs,s.1 < s.2 ∧ s.2 ≤ t.length
 len : p.segs.length ≤ t.length ∧ (segText t p.segs).length ≤ t.length
 fb : ∀ h : p.pos < t.length,p.fb = (t[p.pos]).toNat
theorem good_of (t : List UInt8) (ty : Int) (err : Bool) (lo hi : Nat) (str : Bool) (h1 : lo ≤ hi) (h2 : hi ≤ t.length) : Good t (PI.fix t ⟨ty,err,[],lo,hi,0,str⟩):=by
 obtain ⟨_,_,e3,e4,e5,e6⟩:=fix_eq t ⟨ty,err,[],lo,hi,0,str⟩
 refine ⟨fun _ => ?_,fun s hs => ?_,?_,fun h => ?_⟩
 ·rw [e4,e5]; exact ⟨h1,h2⟩
 ·rw [e3] at hs; cases hs
 ·rw [e3]; exact ⟨Nat.zero_le _,Nat.zero_le _⟩
 ·have h':=h
  rw [e6] at h'
  rw [fix_fb t _ h']
  congr 1
  simp only [e6]
structure Mid (t : List UInt8) (p : PI) : Prop where
 ty : 2 ≤ p.ty ∧ p.ty ≤ 18
 err : p.err = false
 good : Good t p
 seg : p.ty ≠ 15 → p.ty ≠ 16 → p.segs = []
 ind : p.ty = 17 → ∀ i,p.lo ≤ i → i < p.hi → t[i]? ≠ some 10
def divs (ps : List PI) : Nat:=(ps.filter fun p => decide (p.ty = 2)).length
def strict (f : Nat) : Bool:=!([144,154,158,162,175].elem f)
structure Row (t : List UInt8) (ps : List PI) : Prop where
 mid : ∀ p ∈ ps,Mid t p
 mono : ps.Pairwise (fun p q => p.pos ≤ q.pos)
structure SI (t : List UInt8) (f : Nat) (d : D) : Prop where
 inl : d.inl = false
 row : Row t d.ps
 le : ∀ p ∈ d.ps,p.pos ≤ d.start
 div : divs d.ps ≤ if d.chk then 1 else 0
 lt : strict f = true → ∀ p ∈ d.ps,p.pos < t.length
structure FI (t : List UInt8) (l : List PI) : Prop where
 out : ∃ ps e,l = ps ++ [e] ∧ Row t ps ∧ divs ps ≤ 1 ∧ Good t e ∧ ((e.ty = 0 ∧ e.err = true ∧ e.segs = []) ∨ (e.ty = 1 ∧ e.err = false ∧ e.segs = [] ∧ e.lo = t.length ∧ e.hi = t.length ∧ ∀ p ∈ ps,p.pos < t.length))
theorem Row.app {t : List UInt8} {a b : List PI} (h : Row t a) (k : Row t b) (hab : ∀ p ∈ a,∀ q ∈ b,p.pos ≤ q.pos) : Row t (a ++ b):=by
 refine ⟨fun p hp => ?_,List.pairwise_append.2 ⟨h.mono,k.mono,hab⟩⟩
 rcases List.mem_append.1 hp with hp | hp
 ·exact h.mid p hp
 ·exact k.mid p hp
theorem divs_app (a b : List PI) : divs (a ++ b) = divs a + divs b:=by simp [divs]
theorem divs_none {l : List PI} (h : ∀ p ∈ l,p.ty ≠ 2) : divs l = 0:=by
 unfold divs
 rw [List.filter_eq_nil_iff.2 (fun p hp => by simpa using h p hp)]
 rfl
theorem emScan_spec (t : List UInt8) (lo hi : Nat) (hlh : lo ≤ hi) : ∀ k,k ≤ hi → lo ≤ k ∨ k = 0 ∨ True → (∀ i,k ≤ i → i < hi → t[i]? ≠ some 10) →
  emScan t lo hi k = [(18,lo,hi)] ∨ (emScan t lo hi k = [(17,lo,hi)] ∧ lo < hi ∧ ∀ i,lo ≤ i → i < hi → t[i]? ≠ some 10) ∨
  (∃ m,emScan t lo hi k = [(18,lo,m),(17,m,hi)] ∧ lo < m ∧ m < hi ∧ ∀ i,m ≤ i → i < hi → t[i]? ≠ some 10):=by
 intro k
 induction k with
 | zero => intro _ _ _; exact Or.inl rfl
 | succ k ih =>
  intro hk _ hno
  rw [emScan]
  dsimp only
  split
  ·exact Or.inl rfl
  ·rename_i hlo
   split
   ·exact Or.inl rfl
   ·rename_i hws
    split
    ·rename_i h1
     refine Or.inr (Or.inl ⟨rfl,by omega,fun i hi1 hi2 => ?_⟩)
     rcases Nat.lt_or_ge i (k + 1) with h2 | h2
     ·have : i = k:=by omega
      subst this
      intro e
      have : t.getD i 0 = 10:=by simp [List.getD_eq_getElem?_getD,e]
      rw [this] at h1
      exact h1.2 rfl
     ·exact hno i h2 hi2
    ·split
     ·rename_i h1
      exact Or.inr (Or.inr ⟨k + 1,rfl,by omega,h1.2,hno⟩)
     ·split
      ·exact Or.inl rfl
      ·rename_i h1 h2 h3
       refine ih (by omega) (Or.inr (Or.inr trivial)) fun i hi1 hi2 => ?_
       rcases Nat.lt_or_ge i (k + 1) with h4 | h4
       ·have : i = k:=by omega
        subst this
        intro e
        have : t.getD i 0 = 10:=by simp [List.getD_eq_getElem?_getD,e]
        rw [this] at h2 h3
        have h10 : (10 : UInt8).toNat = 10:=rfl
        rw [h10] at h2 h3
        omega
       ·exact hno i h4 hi2
theorem mk3_eq (t : List UInt8) (ty : Int) (lo hi : Nat) : (mk3 t (ty,lo,hi)).ty = ty ∧ (mk3 t (ty,lo,hi)).err = false ∧ (mk3 t (ty,lo,hi)).segs = [] ∧ (mk3 t (ty,lo,hi)).lo = lo ∧ (mk3 t (ty,lo,hi)).hi = hi ∧ (mk3 t (ty,lo,hi)).pos = lo:=fix_eq t ⟨ty,false,[],lo,hi,0,false⟩
theorem mid_mk3 {t : List UInt8} {ty : Int} {lo hi : Nat} (h1 : lo ≤ hi) (h2 : hi ≤ t.length) (hty : 2 ≤ ty ∧ ty ≤ 18) (hn : ty = 17 → ∀ i,lo ≤ i → i < hi → t[i]? ≠ some 10) : Mid t (mk3 t (ty,lo,hi)):=by
 obtain ⟨e1,e2,e3,e4,e5,e6⟩:=mk3_eq t ty lo hi
 refine ⟨by rw [e1]; exact hty,e2,good_of t ty false lo hi false h1 h2,fun _ _ => e3,fun h => ?_⟩
 rw [e1] at h
 rw [e4,e5]
 exact hn h
theorem emit_row {t : List UInt8} {ty : Int} {lo hi : Nat} (h1 : lo ≤ hi) (h2 : hi ≤ t.length) (hty : 2 ≤ ty ∧ ty ≤ 18 ∧ ty ≠ 17) :
  Row t (emitI t ty lo hi) ∧ (∀ p ∈ emitI t ty lo hi,lo ≤ p.pos ∧ p.pos ≤ hi ∧ (lo < hi → p.pos < hi)) ∧ (ty ≠ 2 → divs (emitI t ty lo hi) = 0) ∧ divs (emitI t ty lo hi) ≤ 1:=by
 have one : ∀ ty' : Int,2 ≤ ty' ∧ ty' ≤ 18 → (ty' = 17 → ∀ i,lo ≤ i → i < hi → t[i]? ≠ some 10) → (ty ≠ 2 → ty' ≠ 2) → Row t [mk3 t (ty',lo,hi)] ∧ (∀ p ∈ [mk3 t (ty',lo,hi)],lo ≤ p.pos ∧ p.pos ≤ hi ∧ (lo < hi → p.pos < hi)) ∧ (ty ≠ 2 → divs [mk3 t (ty',lo,hi)] = 0) ∧ divs [mk3 t (ty',lo,hi)] ≤ 1:=by
  intro ty' a b c
  obtain ⟨e1,e2,e3,e4,e5,e6⟩:=mk3_eq t ty' lo hi
  refine ⟨⟨fun p hp => ?_,List.pairwise_singleton _ _⟩,fun p hp => ?_,fun h => divs_none fun p hp => ?_,?_⟩
  ·rw [List.mem_singleton.1 hp]; exact mid_mk3 h1 h2 a b
  ·rw [List.mem_singleton.1 hp,e6]; exact ⟨Nat.le_refl _,h1,fun h => h⟩
  ·rw [List.mem_singleton.1 hp,e1]; exact c h
  ·exact Nat.le_trans (List.length_filter_le _ _) (Nat.le_refl 1)
 unfold emitI emitL
 by_cases h18 : ty = 18
 ·rw [if_pos h18]
  rcases emScan_spec t lo hi h1 hi (Nat.le_refl _) (Or.inr (Or.inr trivial)) (fun i a b => absurd b (by omega)) with e | ⟨e,_,hn⟩ | ⟨m,e,hm1,hm2,hn⟩
  ·rw [e]; exact one 18 (by decide) (fun h => absurd h (by decide)) (fun _ => by decide)
  ·rw [e]; exact one 17 (by decide) (fun _ => hn) (fun _ => by decide)
  ·rw [e]
   obtain ⟨a1,a2,a3,a4,a5,a6⟩:=mk3_eq t 18 lo m
   obtain ⟨b1,b2,b3,b4,b5,b6⟩:=mk3_eq t 17 m hi
   have hmem : ∀ p ∈ [mk3 t (18,lo,m),mk3 t (17,m,hi)],p = mk3 t (18,lo,m) ∨ p = mk3 t (17,m,hi):=fun p hp => by simpa using hp
   refine ⟨⟨fun p hp => ?_,?_⟩,fun p hp => ?_,fun _ => divs_none fun p hp => ?_,?_⟩
   ·rcases hmem p hp with rfl | rfl
    ·exact mid_mk3 (by omega) (by omega) (by decide) (fun h => absurd h (by decide))
    ·exact mid_mk3 (by omega) h2 (by decide) (fun _ => hn)
   ·show List.Pairwise _ [mk3 t (18,lo,m),mk3 t (17,m,hi)]
    rw [List.pairwise_cons]
    refine ⟨fun q hq => ?_,List.pairwise_singleton _ _⟩
    rw [List.mem_singleton.1 hq,a6,b6]; omega
   ·rcases hmem p hp with rfl | rfl
    ·rw [a6]; omega
    ·rw [b6]; omega
   ·rcases hmem p hp with rfl | rfl
    ·rw [a1]; decide
    ·rw [b1]; decide
   ·have : divs [mk3 t (18,lo,m),mk3 t (17,m,hi)] = 0:=divs_none fun p hp => by
     rcases hmem p hp with rfl | rfl
     ·rw [a1]; decide
     ·rw [b1]; decide
    show divs [mk3 t (18,lo,m),mk3 t (17,m,hi)] ≤ 1
    omega
 ·rw [if_neg h18]
  exact one ty ⟨hty.1,hty.2.1⟩ (fun h => absurd h hty.2.2) (fun h => h)
theorem SI.em {t : List UInt8} {f g : Nat} {d : D} {ty : Int} (h : SI t f d) (h1 : d.start ≤ d.pos) (h2 : d.pos ≤ t.length) (hty : 2 ≤ ty ∧ ty ≤ 18 ∧ ty ≠ 17 ∧ ty ≠ 2) (hlt : strict g = true → (∀ p ∈ d.ps,p.pos < t.length) ∧ (d.start < d.pos ∨ d.pos < t.length)) : SI t g (d.em t ty):=by
 obtain ⟨k1,k2,k3,_⟩:=emit_row (t:=t) (ty:=ty) h1 h2 ⟨hty.1,hty.2.1,hty.2.2.1⟩
 refine ⟨h.inl,h.row.app k1 fun p hp q hq => Nat.le_trans (h.le p hp) (k2 q hq).1,fun p hp => ?_,?_,fun hg p hp => ?_⟩
 ·rcases List.mem_append.1 hp with hp | hp
  ·exact Nat.le_trans (h.le p hp) h1
  ·exact (k2 p hp).2.1
 ·show divs (d.ps ++ _) ≤ _
  rw [divs_app,k3 hty.2.2.2]
  exact h.div
 ·obtain ⟨a,b⟩:=hlt hg
  rcases List.mem_append.1 hp with hp | hp
  ·exact a p hp
  ·obtain ⟨c1,c2,c3⟩:=k2 p hp
   rcases b with b | b
   ·have:=c3 b; omega
   ·omega
theorem SI.to {t : List UInt8} {f g : Nat} {d e : D} (h : SI t f d) (hi : e.inl = false) (hp : e.ps = d.ps) (hs : d.start ≤ e.start) (hc : d.chk = true → e.chk = true) (hlt : strict g = true → strict f = true ∨ e.start < t.length) : SI t g e:=by
 refine ⟨hi,by rw [hp]; exact h.row,fun p hm => ?_,?_,fun hg p hm => ?_⟩
 ·rw [hp] at hm
  exact Nat.le_trans (h.le p hm) hs
 ·rw [hp]
  refine Nat.le_trans h.div ?_
  cases hd : d.chk with
  | true => rw [hc hd]; exact Nat.le_refl _
  | false => exact Nat.zero_le _
 ·rw [hp] at hm
  rcases hlt hg with a | a
  ·exact h.lt a p hm
  ·exact Nat.lt_of_le_of_lt (Nat.le_trans (h.le p hm) hs) a
theorem SI.bad {t : List UInt8} {f : Nat} {d : D} (h : SI t f d) (h1 : d.start ≤ d.pos) (h2 : d.pos ≤ t.length) : FI t (d.bad t).ps:=by
 refine ⟨d.ps,PI.bad t d.start d.pos,rfl,h.row,Nat.le_trans h.div (by split <;> decide),good_of t 0 true d.start d.pos false h1 h2,Or.inl ?_⟩
 obtain ⟨e1,e2,e3,_⟩:=fix_eq t ⟨0,true,[],d.start,d.pos,0,false⟩
 exact ⟨e1,e2,e3⟩
def SO (t : List UInt8) (r : Option Nat × D) : Prop:=
 match r.1 with
 | none => FI t r.2.ps
 | some g => SI t g r.2 ∧ (g = 77 → r.2.pos = t.length)
theorem so_none {t : List UInt8} {e : D} (h : FI t e.ps) : SO t (none,e):=h
theorem so_some {t : List UInt8} {g : Nat} {e : D} (h : SI t g e) (hg : g ≠ 77) : SO t (some g,e):=⟨h,fun e => absurd e hg⟩
theorem emit1 (t : List UInt8) (lo hi : Nat) : emitI t 1 lo hi = [mk3 t (1,lo,hi)]:=by
 unfold emitI emitL
 rw [if_neg (by decide)]
 rfl
theorem si_done {t : List UInt8} {d : D} (h : SI t 77 d) (hi : Inv t (some 77,d)) (hp : d.pos = t.length) : SO t (outDone t d):=by
 have h1:=hi.sp
 dsimp only at h1
 refine so_none ?_
 have key : ∀ e : D,SI t 77 e → e.pos = t.length → e.start = t.length → FI t (e.em t 1).ps:=by
  intro e he e1 e2
  obtain ⟨a1,a2,a3,a4,a5,a6⟩:=mk3_eq t 1 e.start e.pos
  refine ⟨e.ps,mk3 t (1,e.start,e.pos),?_,he.row,Nat.le_trans he.div (by split <;> decide),good_of t 1 false e.start e.pos false (by omega) (by omega),Or.inr ⟨a1,a2,a3,by rw [a4,e2],by rw [a5,e1],he.lt rfl⟩⟩
  show e.ps ++ emitI t 1 e.start e.pos = _
  rw [emit1]
 show FI t ((if d.start < d.pos then d.em t 18 else d).em t 1).ps
 split
 ·rename_i hlt
  exact key (d.em t 18) (h.em h1 (by omega) (by decide) (fun _ => ⟨h.lt rfl,Or.inl hlt⟩)) hp hp
 ·exact key d h hp (by omega)
theorem si_right {t : List UInt8} {d : D} (h : SI t 154 d) (hi : Inv t (some 154,d)) (hrd : d.rd = 9 ∨ d.rd = 11) : SO t (outRight t d):=by
 have h1:=hi.sp; have h3:=hi.rt rfl
 dsimp only at h1 h3
 have k : SI t 42 { d with clos:=0,pos:=d.pos + 3 }:=h.to h.inl rfl (Nat.le_refl _) id (fun _ => Or.inr (by show d.start < _; omega))
 exact so_some (k.em (show d.start ≤ d.pos + 3 by omega) h3 (by show 2 ≤ d.rd ∧ d.rd ≤ 18 ∧ d.rd ≠ 17 ∧ d.rd ≠ 2; omega) (fun _ => ⟨k.lt rfl,Or.inl (show d.start < d.pos + 3 by omega)⟩)) (by decide)
theorem si_val {t : List UInt8} {d : D} (h : SI t 158 d) (hi : Inv t (some 158,d)) : SO t (outVal t d):=by
 have h1:=hi.sp; have h2:=hi.pl
 dsimp only at h1 h2
 have hq:=skipTo_le (stop:=isSp) (t:=t) _ _ rfl h2
 have k : SI t 144 { d with pos:=skipTo isSp t d.pos }:=h.to h.inl rfl (Nat.le_refl _) id (fun h => by cases h)
 exact so_some (k.em (show d.start ≤ skipTo isSp t d.pos by omega) hq.1 (by decide) (fun h => by cases h)) (by decide)
theorem si_end {t : List UInt8} {d : D} (h : SI t 175 d) (hi : Inv t (some 175,d)) : SO t (outEnd t d):=by
 have h1:=hi.sp; have h2:=hi.pl
 dsimp only at h1 h2
 have hn:=nx_le t h2
 unfold outEnd
 split
 ·exact so_some (h.to rfl rfl (Nat.le_refl _) id (fun h => by cases h)) (by decide)
 ·split
  ·exact so_some (h.to rfl rfl (show d.start ≤ d.pos + (nx t d.pos).2 by omega) id (fun h => by cases h)) (by decide)
  ·have k : SI t 144 { d with inl:=false,pos:=d.pos + (nx t d.pos).2 }:=h.to rfl rfl (Nat.le_refl _) id (fun h => by cases h)
   exact so_none (k.bad (show d.start ≤ d.pos + (nx t d.pos).2 by omega) hn)
theorem si_left {t : List UInt8} {d : D} (h : SI t 125 d) (hi : Inv t (some 125,d)) (hld : d.ld = 8 ∨ d.ld = 10) : SO t (outLeft t d):=by
 have h1:=hi.sp; have h3:=hi.lf rfl
 dsimp only at h1 h3
 unfold outLeft
 split
 ·exact so_some (h.to h.inl rfl (Nat.le_refl _) id (fun _ => Or.inl rfl)) (by decide)
 ·have k : SI t 144 { d with pos:=d.pos + 3 }:=h.to h.inl rfl (Nat.le_refl _) id (fun h => by cases h)
  have k2 : SI t 144 (({ d with pos:=d.pos + 3 } : D).em t d.ld):=k.em (show d.start ≤ d.pos + 3 by omega) h3 (by show 2 ≤ d.ld ∧ d.ld ≤ 18 ∧ d.ld ≠ 17 ∧ d.ld ≠ 2; omega) (fun h => by cases h)
  exact so_some (k2.to k2.inl rfl (Nat.le_refl _) id (fun h => by cases h)) (by decide)
theorem si_comment {t : List UInt8} {d : D} (h : SI t 142 d) (hi : Inv t (some 142,d)) : SO t (outComment t d):=by
 have h1:=hi.sp; have h2:=hi.pl
 dsimp only at h1 h2
 unfold outComment
 split
 ·exact so_none (h.bad h1 h2)
 ·rename_i hle
  obtain ⟨j,hj,hjl⟩:=(fnd_bd (x:=bs152 ++ rightD d.rd) (l:=t.drop d.pos)).resolve_left (by omega)
  rw [List.length_append,rightD_len,List.length_drop] at hjl
  have hb : bs152.length = 2:=rfl
  rw [hj,Int.toNat_natCast]
  have hj2 : 2 ≤ j:=by omega
  have k1 : SI t 142 (d.em t 18):=h.em h1 h2 (by decide) (fun _ => ⟨h.lt rfl,Or.inr (by omega)⟩)
  have k2 : SI t 142 { d.em t 18 with pos:=d.pos + j,start:=d.pos + 2 }:=k1.to h.inl rfl (show d.pos ≤ d.pos + 2 by omega) id (fun _ => Or.inl rfl)
  have k3 : SI t 142 (({ d.em t 18 with pos:=d.pos + j,start:=d.pos + 2 } : D).em t 18):=k2.em (show d.pos + 2 ≤ d.pos + j by omega) (show d.pos + j ≤ t.length by omega) (by decide) (fun _ => ⟨k2.lt rfl,Or.inr (show d.pos + j < t.length by omega)⟩)
  have k4 : SI t 42 { ({ d.em t 18 with pos:=d.pos + j,start:=d.pos + 2 } : D).em t 18 with pos:=d.pos + j + 5,start:=d.pos + j + 2 }:=k3.to h.inl rfl (show d.pos + j ≤ d.pos + j + 2 by omega) id (fun _ => Or.inl rfl)
  exact so_some (k4.em (show d.pos + j + 2 ≤ d.pos + j + 5 by omega) (show d.pos + j + 5 ≤ t.length by omega) (by decide) (fun _ => ⟨k4.lt rfl,Or.inl (show d.pos + j + 2 < d.pos + j + 5 by omega)⟩)) (by decide)
theorem segGo_spec (u : List UInt8) : ∀ (n i k : Nat),u.length - i = n → k ≤ i → i ≤ u.length →
  (∀ s ∈ segGo u i k,k ≤ s.1 ∧ s.1 < s.2 ∧ s.2 ≤ u.length) ∧ ((segGo u i k).map fun s => s.2 - s.1).sum ≤ u.length - k:=by
 intro n
 induction n using Nat.strongRecOn with
 | _ n ih =>
  intro i k hn hk hi
  rw [segGo]
  by_cases hin : i < u.length
  ·have hpp:=nx_pos u hin
   have hpl:=nx_le u hi
   rw [dif_pos hin]
   split
   ·obtain ⟨a,b⟩:=ih (u.length - (i + (nx u i).2)) (by omega) (i + (nx u i).2) (i + (nx u i).2) rfl (Nat.le_refl _) hpl
    refine ⟨fun s hs => ?_,?_⟩
    ·rcases List.mem_append.1 hs with hs | hs
     ·split at hs
      ·rw [List.mem_singleton.1 hs]; exact ⟨Nat.le_refl _,by assumption,hi⟩
      ·cases hs
     ·have:=a s hs
      omega
    ·rw [List.map_append,List.sum_append]
     split
     ·simp only [List.map_cons,List.map_nil,List.sum_cons,List.sum_nil]; omega
     ·simp only [List.map_nil,List.sum_nil]; omega
   ·obtain ⟨a,b⟩:=ih (u.length - (i + (nx u i).2)) (by omega) (i + (nx u i).2) k rfl (by omega) hpl
    exact ⟨a,b⟩
  ·rw [dif_neg hin]
   split
   ·refine ⟨fun s hs => ?_,?_⟩
    ·rw [List.mem_singleton.1 hs]; exact ⟨Nat.le_refl _,by assumption,Nat.le_refl _⟩
    ·simp only [List.map_cons,List.map_nil,List.sum_cons,List.sum_nil]; omega
   ·exact ⟨(fun s hs => by cases hs),by simp⟩
theorem segText_le (t : List UInt8) : ∀ (l : List (Nat × Nat)),(segText t l).length ≤ (l.map fun s => s.2 - s.1).sum
 | [] => Nat.le_refl _
 | s :: r => by
  have:=segText_le t r
  simp only [segText,List.flatMap_cons,List.length_append,List.map_cons,List.sum_cons] at this ⊢
  have h2 : ((t.drop s.1).take (s.2 - s.1)).length ≤ s.2 - s.1:=by rw [List.length_take]; omega
  omega
theorem sum_ge : ∀ (l : List (Nat × Nat)),(∀ s ∈ l,s.1 < s.2) → l.length ≤ (l.map fun s => s.2 - s.1).sum
 | [],_ => Nat.le_refl _
 | s :: r,h => by
  have:=sum_ge r fun x hx => h x (List.mem_cons_of_mem _ hx)
  have:=h s (List.mem_cons_self ..)
  simp only [List.length_cons,List.map_cons,List.sum_cons]
  omega
theorem quo_row {t : List UInt8} {ty : Int} {es : Bool} {lo hi : Nat} (h1 : lo ≤ hi) (h2 : hi ≤ t.length) (hty : ty = 15 ∨ ty = 16) :
  Row t (quoI t ty es lo hi) ∧ (∀ p ∈ quoI t ty es lo hi,lo ≤ p.pos ∧ p.pos ≤ hi) ∧ divs (quoI t ty es lo hi) = 0:=by
 have hty2 : 2 ≤ ty ∧ ty ≤ 18 ∧ ty ≠ 17 ∧ ty ≠ 2:=by omega
 unfold quoI
 cases es with
 | false =>
  rw [if_neg (by simp)]
  obtain ⟨e1,e2,e3,e4,e5,e6⟩:=fix_eq t ⟨ty,false,[],lo,hi,0,true⟩
  refine ⟨⟨fun p hp => ?_,List.pairwise_singleton _ _⟩,fun p hp => ?_,divs_none fun p hp => ?_⟩
  ·rw [List.mem_singleton.1 hp]
   exact ⟨by show 2 ≤ (PI.fix t _).ty ∧ (PI.fix t _).ty ≤ 18; rw [e1]; exact ⟨hty2.1,hty2.2.1⟩,e2,good_of t ty false lo hi true h1 h2,fun _ _ => e3,fun h => absurd (e1.symm.trans h) hty2.2.2.1⟩
  ·rw [List.mem_singleton.1 hp]
   show lo ≤ (PI.fix t _).pos ∧ (PI.fix t _).pos ≤ hi
   rw [e6]; exact ⟨Nat.le_refl _,h1⟩
  ·rw [List.mem_singleton.1 hp]
   show (PI.fix t _).ty ≠ 2
   rw [e1]; exact hty2.2.2.2
 | true =>
  rw [if_pos rfl]
  unfold segI
  have hul : (t.take hi).length = hi:=by simp; omega
  obtain ⟨k1,k2⟩:=segGo_spec (t.take hi) _ lo lo rfl (Nat.le_refl _) (by rw [hul]; exact h1)
  generalize segGo (t.take hi) lo lo = G at k1 k2
  rw [hul] at k1 k2
  cases G with
  | nil => exact ⟨⟨(fun p hp => by cases hp),List.Pairwise.nil⟩,(fun p hp => by cases hp),rfl⟩
  | cons s r =>
   obtain ⟨e1,e2,e3,e4,e5,e6⟩:=fix_eq t ⟨ty,false,s :: r,0,0,0,false⟩
   have hs:=k1 s (List.mem_cons_self ..)
   have hsum:=segText_le t (s :: r)
   have hlen:=sum_ge (s :: r) fun x hx => (k1 x hx).2.1
   refine ⟨⟨fun p hp => ?_,List.pairwise_singleton _ _⟩,fun p hp => ?_,divs_none fun p hp => ?_⟩
   ·rw [List.mem_singleton.1 hp]
    refine ⟨by rw [e1]; exact ⟨hty2.1,hty2.2.1⟩,e2,⟨fun h => (by rw [e3] at h; cases h),fun x hx => ?_,?_,fun h => ?_⟩,fun a b => ?_,fun h => absurd (e1.symm.trans h) hty2.2.2.1⟩
    ·rw [e3] at hx
     have:=k1 x hx
     exact ⟨this.2.1,by omega⟩
    ·rw [e3]; exact ⟨Nat.le_trans hlen (Nat.le_trans k2 (by omega)),Nat.le_trans hsum (Nat.le_trans k2 (by omega))⟩
    ·have h':=h
     rw [e6] at h'
     rw [fix_fb t _ h']
     congr 1
     simp only [e6]
    ·rw [e1] at a b
     rcases hty with h | h
     ·exact absurd h a
     ·exact absurd h b
   ·rw [List.mem_singleton.1 hp,e6]
    show lo ≤ s.1 ∧ s.1 ≤ hi
    omega
   ·rw [List.mem_singleton.1 hp,e1]; exact hty2.2.2.2
theorem qtGo_start (t : List UInt8) (al : Bool) : ∀ (n p : Nat) (op es s1 : Bool) (s : Nat),t.length - p = n → p ≤ t.length → s ≤ p → s ≤ (qtGo t al op es s1 p s).2.2.2:=by
 intro n
 induction n using Nat.strongRecOn with
 | _ n ih =>
  intro p op es s1 s hn hp hs
  rw [qtGo]
  by_cases hin : p < t.length
  ·have hpp:=nx_pos t hin
   have hpl:=nx_le t hp
   have rc:=fun (op' es' s1' : Bool) (s' : Nat) (hs' : s' ≤ p + (nx t p).2) => ih (t.length - (p + (nx t p).2)) (by omega) (p + (nx t p).2) op' es' s1' s' rfl hpl hs'
   rw [dif_pos hin]
   split
   ·split
    ·split
     ·split
      ·exact rc _ _ _ s (by omega)
      ·exact Nat.le_refl _
     ·exact rc _ _ _ s (by omega)
    ·split
     ·exact Nat.le_refl _
     ·exact rc _ _ _ s (by omega)
   ·split
    ·exact Nat.le_refl _
    ·split
     ·split
      ·exact rc _ _ _ s (by omega)
      ·split
       ·exact Nat.le_refl _
       ·exact Nat.le_trans (by omega) (rc true es s1 (p + (nx t p).2) (Nat.le_refl _))
     ·exact rc _ _ _ s (by omega)
  ·rw [dif_neg hin]
   exact Nat.le_refl _
theorem SI.add {t : List UInt8} {f : Nat} {d e : D} {l : List PI} {lo hi : Nat} (h : SI t f d) (k1 : Row t l) (k2 : ∀ p ∈ l,lo ≤ p.pos ∧ p.pos ≤ hi) (k3 : divs l = 0) (hlo : d.start ≤ lo) (hhi : hi ≤ e.start) (hd : d.start ≤ e.start) (hi' : e.inl = false) (hps : e.ps = d.ps ++ l) (hc : e.chk = d.chk) : SI t 144 e:=by
 refine ⟨hi',?_,fun p hp => ?_,?_,fun h => by cases h⟩
 ·rw [hps]
  exact h.row.app k1 fun p hp q hq => Nat.le_trans (h.le p hp) (Nat.le_trans hlo (k2 q hq).1)
 ·rw [hps] at hp
  rcases List.mem_append.1 hp with hp | hp
  ·exact Nat.le_trans (h.le p hp) hd
  ·exact Nat.le_trans (k2 p hp).2 hhi
 ·rw [hps,divs_app,k3,hc]
  exact h.div
theorem si_quo {t : List UInt8} {f : Nat} {d : D} {al : Bool} {ty : Int} (h : SI t f d) (hp : d.pos ≤ t.length) (hs : d.start ≤ d.pos) (hty : ty = 15 ∨ ty = 16) : SO t (outQuo t d al ty):=by
 have k:=qtGo_spec t al _ d.pos false false false d.start rfl hp hs
 have ks:=qtGo_start t al _ d.pos false false false d.start rfl hp hs
 unfold outQuo
 generalize qtGo t al false false false d.pos d.start = G at k ks
 obtain ⟨kk,es,q,s⟩:=G
 obtain ⟨k1,k2,k3,k4⟩:=k
 dsimp only at *
 split
 ·have k : SI t 144 { d with pos:=q,start:=s }:=h.to h.inl rfl ks id (fun h => by cases h)
  exact so_none (k.bad k3 k2)
 ·obtain ⟨r1,r2,r3⟩:=quo_row (t:=t) (es:=es) k3 k2 hty
  exact so_some (h.add r1 r2 r3 ks (show q ≤ q + kk by omega) (show d.start ≤ q + kk by omega) h.inl rfl rfl) (by decide)
theorem si_raw {t : List UInt8} {f : Nat} {d : D} {ty : Int} (h : SI t f d) (h96 : (nx t d.pos).1 = 96) (hs : d.start ≤ d.pos) (hty : ty = 15 ∨ ty = 16) : SO t (outRaw t d ty):=by
 have hin : d.pos < t.length:=nx_pos_of (by omega)
 have hq:=skipTo_le (stop:=isTick) (t:=t) _ _ rfl (show d.pos + 1 ≤ t.length by omega)
 unfold outRaw
 generalize skipTo isTick t (d.pos + 1) = q at hq
 split
 ·have k : SI t 144 { d with start:=d.pos + 1,pos:=q }:=h.to h.inl rfl (show d.start ≤ d.pos + 1 by omega) id (fun h => by cases h)
  exact so_none (k.bad hq.2 hq.1)
 ·obtain ⟨r1,r2,r3⟩:=quo_row (t:=t) (es:=false) hq.2 hq.1 hty
  exact so_some (h.add (l:=[PI.of t ty (d.pos + 1) q true]) r1 r2 r3 (by omega) (show q ≤ q + 1 by omega) (show d.start ≤ q + 1 by omega) h.inl rfl rfl) (by decide)
theorem si_param {t : List UInt8} {f : Nat} {d : D} {eq : Bool} (h : SI t f d) (hp : d.pos ≤ t.length) (hs : d.start ≤ d.pos) (hc : parC (nx t d.pos).1 = true ∨ (nx t d.pos).1 = 34 ∨ (nx t d.pos).1 = 96) : SO t (outParam t d eq):=by
 have hn:=nx_le t hp
 have bad : SO t (none,({ d with pos:=d.pos + (nx t d.pos).2 }).bad t):=by
  have k : SI t 144 { d with pos:=d.pos + (nx t d.pos).2 }:=h.to h.inl rfl (Nat.le_refl _) id (fun h => by cases h)
  exact so_none (k.bad (show d.start ≤ d.pos + (nx t d.pos).2 by omega) hn)
 have hp1 : SI t 144 { d with par:=1 }:=h.to h.inl rfl (Nat.le_refl _) id (fun h => by cases h)
 unfold outParam
 split
 ·rename_i h1
  split
  ·exact bad
  ·split
   ·exact si_quo hp1 hp hs (Or.inl rfl)
   ·rename_i h34
    exact si_raw hp1 ((h1.resolve_left h34).1) hs (Or.inl rfl)
 ·split
  ·exact bad
  ·have hq : d.pos ≤ parEnd t d.pos ∧ parEnd t d.pos ≤ t.length:=by
    unfold parEnd
    split
    ·have:=skipTo_le (stop:=parStop) (t:=t) _ _ rfl hn
     omega
    ·omega
   generalize parEnd t d.pos = q at hq
   generalize parEq t d.pos = ne
   have hq1 : ∀ pr,SI t 144 { d with pos:=q,par:=pr }:=fun pr => h.to h.inl rfl (Nat.le_refl _) id (fun h => by cases h)
   have bad2 : SO t (none,({ d with pos:=q }).bad t):=so_none ((hq1 d.par).bad (show d.start ≤ q by omega) hq.2)
   have ok2 : ∀ pr,SO t (some 144,({ d with pos:=q,par:=pr } : D).em t 15):=fun pr => so_some ((hq1 pr).em (show d.start ≤ q by omega) hq.2 (by decide) (fun h => by cases h)) (by decide)
   unfold outPar2
   split
   ·exact ok2 _
   ·split
    ·exact bad2
    ·split
     ·exact bad2
     ·exact ok2 d.par
theorem si_inside {t : List UInt8} {d : D} (h : SI t 144 d) (hi : Inv t (some 144,d)) : SO t (outInside t d):=by
 have h1:=hi.sp; have h2:=hi.pl
 dsimp only at h1 h2
 have hn:=nx_le t h2
 have bad : SO t (none,({ d with pos:=d.pos + (nx t d.pos).2 }).bad t):=by
  have k : SI t 144 { d with pos:=d.pos + (nx t d.pos).2 }:=h.to h.inl rfl (Nat.le_refl _) id (fun h => by cases h)
  exact so_none (k.bad (show d.start ≤ d.pos + (nx t d.pos).2 by omega) hn)
 have sp : SI t 144 { d with pos:=d.pos + (nx t d.pos).2,start:=d.pos + (nx t d.pos).2 }:=h.to h.inl rfl (show d.start ≤ d.pos + (nx t d.pos).2 by omega) id (fun h => by cases h)
 unfold outInside
 split
 ·exact so_some (h.to h.inl rfl (Nat.le_refl _) id (fun h => by cases h)) (by decide)
 split
 ·exact bad
 split
 ·exact so_some sp (by decide)
 split
 ·have hq:=skipTo_le (stop:=notSp) (t:=t) _ _ rfl hn
  generalize skipTo notSp t (d.pos + (nx t d.pos).2) = q at hq
  have kq : SI t 144 { d with pos:=q,start:=q }:=h.to h.inl rfl (show d.start ≤ q by omega) id (fun h => by cases h)
  split
  ·exact si_quo kq hq.1 (Nat.le_refl _) (Or.inr rfl)
  ·split
   ·rename_i h96
    exact si_raw kq h96 (Nat.le_refl _) (Or.inr rfl)
   ·exact so_some (kq.to kq.inl rfl (Nat.le_refl _) id (fun h => by cases h)) (by decide)
 split
 ·split
  ·exact bad
  ·have k : SI t 144 { d with pos:=d.pos + (nx t d.pos).2,clos:=d.clos + 1,inl:=false,step:=0 }:=h.to rfl rfl (Nat.le_refl _) id (fun h => by cases h)
   exact so_some (k.em (show d.start ≤ d.pos + (nx t d.pos).2 by omega) hn (by decide) (fun h => by cases h)) (by decide)
 split
 ·split
  ·rename_i hq
   exact si_param sp hn (Nat.le_refl _) (Or.inr hq)
  ·exact so_some sp (by decide)
 split
 ·rename_i hq
  refine si_param h h2 h1 ?_
  rcases hq.2 with e | e | e
  ·exact Or.inl (by unfold parC; rw [e]; rfl)
  ·exact Or.inr (Or.inl e)
  ·exact Or.inr (Or.inr e)
 split
 ·exact so_some (h.to h.inl rfl (Nat.le_refl _) id (fun h => by cases h)) (by decide)
 ·exact bad
theorem idGo_inl {t : List UInt8} (hno : hasS t inlS = false) : ∀ (n p : Nat),t.length - p = n → p ≤ t.length → (idGo t false p).2.2 = false:=by
 intro n
 induction n using Nat.strongRecOn with
 | _ n ih =>
  intro p hn hp
  rw [idGo]
  by_cases hin : p < t.length
  ·have hpp:=nx_pos t hin
   have hpl:=nx_le t hp
   rw [dif_pos hin]
   split
   ·exact ih (t.length - (p + (nx t p).2)) (by omega) (p + (nx t p).2) rfl hpl
   ·split
    ·rename_i h46
     split
     ·rename_i hpre
      exfalso
      obtain ⟨b,hb,hb2⟩:=nx_small (r:=46) h46 (by decide)
      have hw : (nx t p).2 = 1:=nx_one (r:=46) h46 (by decide)
      rw [hw] at hpre
      have h7:=pre3 hpre (show bs174.length = 7 from rfl)
      rw [List.length_drop] at h7
      have h8 : (t.drop (p + 1)).take 7 = bs174:=of_decide_eq_true hpre
      refine hasS_none hno p (show p + 7 ≤ t.length by omega) ?_
      have hbe : t[p] = 46:=by
       have : t[p]? = some t[p]:=List.getElem?_eq_getElem hin
       rw [hb] at this
       cases this
       exact UInt8.toNat_inj.1 hb2
      rw [List.drop_eq_getElem_cons hin,hbe]
      show (46 : UInt8) :: (t.drop (p + 1)).take 6 = inlS
      have h9 : (t.drop (p + 1)).take 6 = ((t.drop (p + 1)).take 7).take 6:=by rw [List.take_take]; rfl
      rw [h9,h8]
      rfl
     ·rfl
    ·rfl
  ·rw [dif_neg hin]
theorem si_ident {t : List UInt8} {d : D} (hno : hasS t inlS = false) (h : SI t 162 d) (hi : Inv t (some 162,d)) : SO t (outIdent t d):=by
 have h1:=hi.sp; have h2:=hi.pl
 dsimp only at h1 h2
 have hq:=idGo_spec t _ d.pos d.inl rfl h2
 have hil : (idGo t d.inl d.pos).2.2 = false:=by rw [h.inl]; exact idGo_inl hno _ _ rfl h2
 unfold outIdent
 generalize idGo t d.inl d.pos = G at hq hil
 obtain ⟨b,q,i⟩:=G
 have hqp : d.pos ≤ q:=hq.1
 have hqn : q ≤ t.length:=hq.2.1
 have hil' : i = false:=hil
 subst hil'
 dsimp only
 have k : ∀ e : D,e.pos = q → e.start = d.start → e.inl = false → e.ps = d.ps → e.chk = d.chk → SI t 144 e:=fun e a1 a2 a3 a4 a5 => h.to a3 a4 (by omega) (fun h => a5.trans h) (fun h => by cases h)
 split
 ·exact so_none ((k { d with pos:=q,inl:=false } rfl rfl rfl rfl rfl).bad (show d.start ≤ q by omega) hqn)
 ·split
  ·exact so_none ((k { d with pos:=q,inl:=false } rfl rfl rfl rfl rfl).bad (show d.start ≤ q by omega) hqn)
  ·have k2:=(k { d with pos:=q,inl:=false,clos:=0,name:=wordA t d.start q,opn:=updB d.opn (wordA t d.start q) true,step:=d.step + 1 } rfl rfl rfl rfl rfl).em (g:=144) (ty:=13) (show d.start ≤ q by omega) hqn (by decide) (fun h => by cases h)
   split
   ·exact so_some (k2.to k2.inl rfl (Nat.le_refl _) id (fun h => by cases h)) (by decide)
   ·exact so_some k2 (by decide)
end Go.Wk
