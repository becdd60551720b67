/- Items: their place; errors.New; the lexer's append. -/
import Derived.Test.YtmbencknblcocaaGreatDoorYac
import Derived.Defers
import Derived.Scope
namespace Go.Wk
open Go Go.RowKit Go.Proofs
set_option maxRecDepth 100000
structure IC where
 ty : Int
 ev : Value
 lo : Nat
 hi : Nat
 sa : Option Addr
 sn : Nat
 sc : Nat
 fb : Nat
 str : Bool
def IC.lst (x : IC) : List Value:=[I x.ty,x.ev,I x.lo,I x.hi,.slice x.sa x.sn x.sc,.int .u8 x.fb,.bool x.str]
def IC.val (x : IC) : Value:=.agg #[I x.ty,x.ev,I x.lo,I x.hi,.slice x.sa x.sn x.sc,.int .u8 x.fb,.bool x.str]
def IC.at (x : IC) (w : World) (p : Nat) : Prop:=(x.sn = 0 ∧ p = x.lo) ∨ (0 < x.sn ∧ ∃ b,x.sa = some ⟨b,0,none⟩ ∧ w.cell? ⟨b,0,none⟩ = some (I p))
theorem IC.at.ext {x : IC} {w w' : World} {p : Nat} (h : x.at w p) (he : Ext w w') : x.at w' p:=by
 rcases h with h | ⟨h1,b,h2,h3⟩
 ·exact Or.inl h
 ·exact Or.inr ⟨h1,b,h2,he.cell h3⟩
theorem pos_fn {x : IC} {w : World} {p : Nat} (h : x.at w p) : Fn PT 44 [x.val] w (fun u w' => u = I p ∧ Ext w w'):=by
 refine fn_of Tryz.func44 rfl Tryz.ntmps44 rfl ?_
 repeat(first|refine C0 ?_|refine C1 ?_)
 refine RE.xe (e_box (cells:=#[I x.ty,x.ev,I x.lo,I x.hi,.slice x.sa x.sn x.sc,.int .u8 x.fb,.bool x.str]) rfl rfl) rfl ?_
 rintro _ w1 ⟨bx,rfl,hn⟩
 have hb:=hn.here
 repeat(first|refine C0 ?_|refine C1 ?_|refine X0 rfl rfl ?_|refine X3 rfl rfl rfl ?_|refine X22 rfl rfl hb rfl rfl ?_|refine X9 rfl rfl rfl ?_|refine X13 rfl rfl rfl ?_|refine C2 ?_)
 refine CE.cond_d rfl (fun h1 => ?_) (fun h1 => ?_)
 ·rcases h with ⟨h0,_⟩ | ⟨h2,b,h3,h4⟩
  ·omega
  ·have hb' : w1.heap[bx]? = some (.cells #[I x.ty,x.ev,I x.lo,I x.hi,.slice (some ⟨b,0,none⟩) x.sn x.sc,.int .u8 x.fb,.bool x.str] 63 (0,0)):=by rw [← h3]; exact hb
   repeat(first|refine C0 ?_|refine C1 ?_|refine X3 rfl rfl rfl ?_|refine X22 rfl rfl hb' rfl rfl ?_)
   refine RE.x (op_indexAddr rfl rfl rfl (by decide) (by omega)) rfl ?_
   repeat (refine X3 rfl rfl rfl ?_)
   refine RE.x (op_load rfl rfl (hn.ext.cell h4)) rfl ?_
   repeat(first|refine X0 rfl rfl ?_|refine C2 ?_)
   (refine CE.ret ?_;(try dsimp only);refine ret1 rfl rfl ?_)
   exact ⟨rfl,hn.ext⟩
 ·rcases h with ⟨h0,h5⟩ | ⟨h2,_⟩
  ·repeat(first|refine C0 ?_|refine C1 ?_|refine X0 rfl rfl ?_|refine X3 rfl rfl rfl ?_|refine X22 rfl rfl hb rfl rfl ?_|refine C2 ?_|refine C3 ?_)
   (refine CE.ret ?_;(try dsimp only);refine ret1 rfl rfl ?_)
   subst h5
   exact ⟨rfl,hn.ext⟩
  ·omega
theorem errNew_fn {l : List UInt8} {w : World} : Fn PT 114 [S l] w (fun u w' => (∃ b,u = .iface 142 (Ptr b 0)) ∧ Ext w w'):=by
 refine fn_of Tryz.func114 rfl Tryz.ntmps114 rfl ?_
 repeat(first|refine C0 ?_|refine C1 ?_|refine X1 rfl rfl ?_|refine X0 rfl rfl ?_|refine C2 ?_)
 refine RE.x (op_build (cells:=#[S l]) rfl (by kernel_rfl)) rfl ?_
 refine RE.xe (e_box (cells:=#[S l]) rfl rfl) rfl ?_
 rintro _ w1 ⟨bx,rfl,hn⟩
 refine RE.x (op_iface rfl (by kernel_rfl)) rfl ?_
 repeat(first|refine X0 rfl rfl ?_|refine C2 ?_)
 (refine CE.ret ?_;(try dsimp only);refine ret1 rfl rfl ?_)
 exact ⟨⟨bx,rfl⟩,hn.ext⟩
section
variable {n : Nat} {s : Slots} {w : World} {dst : Option Tmp} {ty : TypeId} {pos : String} {af : Array Edge} {g : Option (Nat × Bool)} {x y : Operand} {v : Value}
theorem append_where {base t ty e size bytes : Nat} {z : Value} {i : TypeInfo} (hu : PT.underlying t = some (.slice e)) (hi : PT.info? e = some i) (hs : i.size = size) (hz1 : i.zero = some z) (hz2 : i.bytes = bytes)
  {k : Nat} {xs : List Value} (hown : w.ownsRow base e size v k xs) {ab m c : Nat} {news : List Value} (hm : 0 < m) (hl : news.length = m * size)
  (hnews : ∀ j u,news[j]? = some u → w.cell? ((⟨ab,0,none⟩ : Addr).add j) = some u) (h1 : ∀ u ∈ news,u.oneCell' = true) (h63 : k + m ≤ maxLen) (hbytes : (k + m) * bytes ≤ 140737488355328)
  {v' : Value} {w' : World} (hr : (Builtin.append_ #[t,t] ty #[v,Sl ab 0 m c]).run PT w = .ok v' w') :
  ∀ q,v'.ownBlock = some q → v.ownBlock = some q ∨ w.heap.size ≤ q:=by
 subst hs hz2
 have hsmall : k + m ≤ 9223372036854775807:=by simp only [maxLen] at h63; omega
 rcases hown.2 with ⟨rfl,rfl⟩ | ⟨g,cap,cur,rfl,hbg,hg,hnc,hcm,hcs,htake⟩
 ·rw [run_append_nil (P:=PT) w t ty e i z hu hi hz1 ⟨ab,0,none⟩ m c news hl hnews hm (by omega) (by have hb:=hbytes; simp only [Nat.zero_add] at hb; omega)] at hr
  simp only [Result.ok.injEq] at hr
  obtain ⟨rfl,_⟩:=hr
  intro q hq
  simp only [Value.ownBlock,Option.some.injEq] at hq
  exact Or.inr (by omega)
 ·by_cases hroom : k + m ≤ cap
  ·have hfit : k * i.size + news.length ≤ cur.size:=by rw [hl,hcs,← Nat.add_mul]; exact Nat.mul_le_mul_right _ hroom
   rw [run_append_room (P:=PT) w t ty e i hu hi g k cap cur hg ⟨ab,0,none⟩ m c news hl hnews h1 hroom hfit] at hr
   simp only [Result.ok.injEq] at hr
   obtain ⟨rfl,_⟩:=hr
   intro q hq
   exact Or.inl hq
  ·have holds : ∀ j u,xs[j]? = some u → w.cell? ((⟨g,0,none⟩ : Addr).add j) = some u:=hown.cells (g:=g) rfl
   rw [run_append_grow (P:=PT) w t ty e i z hu hi hz1 ⟨g,0,none⟩ k cap xs hown.1 holds ⟨ab,0,none⟩ m c news hl hnews (by omega) (by omega) (growslice_fits (by omega) hbytes)] at hr
   simp only [Result.ok.injEq] at hr
   obtain ⟨rfl,_⟩:=hr
   intro q hq
   simp only [Value.ownBlock,Option.some.injEq] at hq
   exact Or.inr (by omega)
theorem e_append (base : Nat) {t e size bytes : Nat} {z : Value} (ht : slLook slT t = some (e,size)) (hz : (PT.info? e).map (fun i => (i.zero,i.bytes)) = some (some z,bytes)) (hzs : z.cells.size = size) (hsz : 0 < size)
  {k : Nat} {xs : List Value} (hx : ev s x = some v) (hown : w.ownsRow base e size v k xs) {ab m c : Nat} {news : List Value} (hy : ev s y = some (Sl ab 0 m c)) (hm : 0 < m) (hl : news.length = m * size)
  (hnews : ∀ j u,news[j]? = some u → w.cell? ⟨ab,j,none⟩ = some u) (h1 : ∀ u ∈ news,u.oneCell' = true) (h63 : k + m ≤ maxLen) (hbytes : (k + m) * bytes ≤ 140737488355328) (hbase : base ≤ w.heap.size) :
  OpE PT ⟨dst,.call { callee:=.builtin .append,args:=#[x,y],argTypes:=#[t,t] },ty,pos,af,g⟩ n s w
   (fun v' w' => w'.ownsRow base e size v' (k + m) (xs ++ news) ∧ Fr (fun q => v.ownBlock = some q) w w' ∧ ∀ q,v'.ownBlock = some q → v.ownBlock = some q ∨ w.heap.size ≤ q):=by
 refine ⟨fun ds a ha => ?_⟩
 obtain ⟨hu,i,hi,hs⟩:=sl_spec ht
 rw [hi] at hz
 simp only [Option.map_some,Option.some.injEq,Prod.mk.injEq] at hz
 obtain ⟨hz1,hz2⟩:=hz
 have hnews' : ∀ j u,news[j]? = some u → w.cell? ((⟨ab,0,none⟩ : Addr).add j) = some u:=fun j u hj => by rw [Addr.add_lit,Nat.zero_add]; exact hnews j u hj
 obtain ⟨v',w',hr,h2,h3,h4⟩:=run_append_own (P:=PT) w base t ty e i z size bytes hu hi hz1 hs hz2 hzs hsz v k xs hown ⟨ab,0,none⟩ m c news hl hnews' h1 h63 hbytes hbase
 refine ⟨v',w',Or.inl ?_,h2,⟨h3.os,h3.tape,h3.output,h3.size,fun q hq hn => h3.block q hq (fun e => hn e.symm)⟩,append_where hu hi hs hz1 hz2 hown hm hl hnews' h1 h63 hbytes hr⟩
 rw [BigFrame.execOp_builtin,BigFrame.builtin_append]
 simp [ha.ev hx,ha.ev hy,hr]
theorem grownBy_fr {w w' : World} {row : Option Nat} {S : Nat → Prop} (h : w.grownBy w' row) (hs : ∀ k,row = some k → S k) : Fr S w w':=
 ⟨h.os,h.tape,h.output,h.size,fun k hk hn => h.block k hk (fun e => hn (hs k e.symm))⟩
end
theorem ownsRow_one {w : World} {base e size k : Nat} {v : Value} {xs : List Value} (h : w.ownsRow base e size v k xs) : v.oneCell' = true:=by
 rcases h.2 with ⟨rfl,_⟩ | ⟨g,cap,cur,rfl,_⟩ <;> rfl
def Own (B : Nat) (w : World) (v : Value) (xs : List IC) : Prop:=w.ownsRow B 63 7 v xs.length (xs.flatMap IC.lst)
theorem Own.fr {B : Nat} {w w' : World} {v : Value} {xs : List IC} {S : Nat → Prop} (h : Own B w v xs) (hf : Fr S w w') (hs : ∀ q,v.ownBlock = some q → ¬ S q) : Own B w' v xs:=by
 refine ⟨h.1,?_⟩
 rcases h.2 with hn | ⟨g,cap,cur,rfl,hb,hgg,rest⟩
 ·exact Or.inl hn
 ·exact Or.inr ⟨g,cap,cur,rfl,hb,hf.block hgg (hs g rfl),rest⟩
theorem Own.lt {B : Nat} {w : World} {v : Value} {xs : List IC} (h : Own B w v xs) : ∀ q,v.ownBlock = some q → B ≤ q ∧ q < w.heap.size:=World.ownsRow.lt h
theorem Own.one {B : Nat} {w : World} {v : Value} {xs : List IC} (h : Own B w v xs) : v.oneCell' = true:=by
 rcases h.2 with ⟨rfl,_⟩ | ⟨g,cap,cur,rfl,_⟩ <;> rfl
def IC.fix (x : IC) (t : List UInt8) (p : Nat) : IC:=if h : p < t.length then { x with fb:=t[p].toNat } else x
theorem IC.fix_ev (x : IC) (t : List UInt8) (p : Nat) : (x.fix t p).ev = x.ev:=by unfold IC.fix; split <;> rfl
theorem IC.lst_one {x : IC} (h : x.ev.oneCell' = true) : ∀ u ∈ x.lst,u.oneCell' = true:=by
 intro u hu
 simp only [IC.lst,List.mem_cons,List.not_mem_nil,or_false] at hu
 rcases hu with rfl | rfl | rfl | rfl | rfl | rfl | rfl <;> first | rfl|exact h
theorem OpE.mono {P : Program} {o : Oper} {n : Nat} {s : Slots} {w : World} {Φ Ψ : Value → World → Prop} (h : OpE P o n s w Φ) (hk : ∀ v w',Φ v w' → Ψ v w') : OpE P o n s w Ψ:=
 ⟨fun ds a ha => let ⟨v,w',h1,h2⟩:=h.out ds a ha; ⟨v,w',h1,hk _ _ h2⟩⟩
structure AM (L B : Nat) (c : LC) (xs : List IC) (x : IC) (w w' : World) : Prop where
 ex : ∃ v',AtL L { c with items:=v' } w' ∧ Own B w' v' (xs ++ [x]) ∧ (∀ q,v'.ownBlock = some q → c.items.ownBlock = some q ∨ w.heap.size ≤ q)
 fr : Fr (fun q => q = L ∨ c.items.ownBlock = some q) w w'
theorem append_fn {L ib B : Nat} {t : List UInt8} {c : LC} {w : World} {x : IC} {xs : List IC} {p : Nat} (h : Lx L ib B t c w) (hx : x.at w p) (hown : Own B w c.items xs) (hev : x.ev.oneCell' = true)
  (hL : c.items.ownBlock ≠ some L) (hn : xs.length ≤ 100000000) :
  Fn PT 113 [Ptr L 0,x.val] w (fun u w' => u = .tuple #[] ∧ AM L B c xs (x.fix t p) w w'):=by
 refine fn_of Tryz.func113 rfl Tryz.ntmps113 rfl ?_
 have hB:=h.at_
 unfold AtL at hB
 have hil:=h.il
 repeat(first|refine C0 ?_|refine C1 ?_)
 refine RE.xe (e_box (cells:=x.lst.toArray) rfl rfl) rfl ?_
 rintro _ w1 ⟨bx,rfl,hn1⟩
 have hb:=hn1.here
 have e1:=hn1.ext
 have hB1:=e1.block hB
 have hbL : ¬ (bx = L):=by have:=h.at_.lt; have:=hn1.num; omega
 have hbd : w1.drew.heap[bx]? = _:=hb
 have hBd : w1.drew.heap[L]? = _:=hB1
 repeat(first|refine C0 ?_|refine C2 ?_)
 refine CE.drawR Ext [0,0,0,0,0,0,0,0] mixed Ext.refl (fun _ _ _ => Ext.trans) (by decide +kernel) ?_
 repeat (refine Z23 rfl rfl hbd rfl rfl rfl ?_)
 refine RE.dc en44 rfl rfl (fun w2 hw2 => pos_fn (x:=x) ((hx.ext e1).ext ((Ext.drew _).trans hw2))) ?_
 repeat(first|refine Z1 rfl rfl ?_|refine Z2 rfl rfl ?_|refine Z3 rfl rfl rfl ?_|refine Z22 rfl rfl hBd rfl rfl ?_|refine Z7 rfl rfl rfl ?_|refine Z13 rfl rfl rfl ?_)
 refine RE.nil (fun w2 hw2 => ?_)
 have ew2 : Ext w w2:=e1.trans ((Ext.drew _).trans hw2)
 have hb2:=hw2.block hbd
 have hB2:=hw2.block hBd
 refine CE.cut (fun s ds w' => ds = [] ∧ SubL [(0,Ptr L 0),(3,Ptr bx 0)] s ∧ w'.heap[bx]? = some (.cells (x.fix t p).lst.toArray 63 (0,0)) ∧ w'.heap[L]? = some (.cells c.arr 79 (0,0)) ∧ Ext w w') ?_ ?_
 ·refine CE.cond_d rfl (fun h1 => ?_) (fun h1 => ?_)
  ·have hp : p < t.length:=by omega
   have hb2d : w2.drew.heap[bx]? = _:=hb2
   have hB2d : w2.drew.heap[L]? = _:=hB2
   obtain ⟨ia',ic',hie,hicl,hic⟩:=h.inp
   obtain ⟨io,hio,hcells⟩:=hic (by intro e; subst e; simp at hp)
   simp only [Value.slice.injEq] at hie
   obtain ⟨hie1,hie2,hie3⟩:=hie
   have hB2s : w2.drew.heap[L]? = some (.cells { c with ia:=some ⟨ib,io,none⟩ }.arr 79 (0,0)):=by rw [hB2d,← hio,← hie1]
   refine CE.drawR Ext [0,0,0,0,0,0,0,0,0,2] mixed Ext.refl (fun _ _ _ => Ext.trans) (by decide +kernel) ?_
   repeat(first|refine Z1 rfl rfl ?_|refine Z2 rfl rfl ?_|refine Z3 rfl rfl rfl ?_|refine Z22 rfl rfl hB2s rfl rfl ?_|refine Z23 rfl rfl hb2d rfl rfl rfl ?_)
   refine RE.dc en44 rfl rfl (fun w3 hw3 => pos_fn (x:=x) ((hx.ext ew2).ext ((Ext.drew _).trans hw3))) ?_
   skip
   refine RE.dd (fun _ _ => op_indexAddr rfl rfl rfl (by omega) (by omega)) rfl Ext.refl ?_
   have hcp : w2.drew.cell? ⟨ib,io + (p : Int).toNat * 1,none⟩ = some (Wk.B t[p]):=by
    have e1 : io + (p : Int).toNat * 1 = io + p:=by omega
    rw [e1]
    exact (ew2.trans (Ext.drew _)).cell (hcells p hp)
   refine RE.dd (fun _ hw => op_load rfl rfl (hw.cell hcp)) rfl Ext.refl ?_
   repeat (refine Z3 rfl rfl rfl ?_)
   refine RE.es (fun _ hw => e_store rfl rfl rfl (hw.block hb2d) rfl rfl) ?_
   rintro w3 hw3 _ w4 hu
   refine RE.nil (fun w5 hw5 => ⟨rfl,⟨rfl,rfl,trivial⟩,?_,?_,?_⟩)
   ·rw [hw5.block hu.here]
    simp only [IC.fix,dif_pos hp]
    rfl
   ·exact hw5.block (by rw [hu.other L (fun e => hbL e.symm)]; exact hw3.block hB2d)
   ·refine Ext.trans (b:=w4) ?_ hw5
    have e3 : Ext w w3:=ew2.trans ((Ext.drew _).trans hw3)
    refine ⟨hu.os.trans e3.os,hu.tape.trans e3.tape,hu.output.trans e3.output,by rw [hu.size]; exact e3.size,fun k hk => ?_⟩
    rw [hu.other k (by have:=hn1.num; omega)]
    exact Below.block e3 k hk
  ·have hp : ¬ p < t.length:=by omega
   refine CE.skip ⟨rfl,⟨rfl,rfl,trivial⟩,?_,hB2,ew2⟩
   rw [hb2]
   simp only [IC.fix,dif_neg hp]
 ·rintro s _ w3 ⟨rfl,hs,hb3,hB3,ew3⟩
  refine CE.sub hs ?_
  have hb3d : w3.drew.heap[bx]? = _:=hb3
  have hB3d : w3.drew.heap[L]? = _:=hB3
  (refine CE.drawA Ext [0] [0,0,0,0,0,1,2,0,0,2] [1,2,3,4,5,6,7,8,9,10] mixed Ext.refl (fun _ _ _ => Ext.trans) (by decide +kernel) ?_); (simp only [pick,nthO,List.cons_append,List.nil_append]); (repeat(first|refine PR.p (fun _ => op_move rfl) rfl ?_|refine PR.p (fun _ => op_fieldAddr0 rfl rfl) rfl ?_|refine PR.p (fun _ => op_fieldAddr rfl rfl) rfl ?_)); refine PR.nil ?_
  repeat(first|refine Z1 rfl rfl ?_|refine Z2 rfl rfl ?_|refine Z3 rfl rfl rfl ?_|refine Z22 rfl rfl hB3d rfl rfl ?_|refine Z23 rfl rfl hb3d rfl rfl rfl ?_)
  refine RE.ge (φ:=fun u w' => ∃ b,u = Sl b 0 1 1 ∧ w'.heap[b]? = some (.cells (x.fix t p).lst.toArray 63 (0,0))) rfl (fun v w4 w5 ⟨b,h1,h2⟩ h3 => ⟨b,h1,h3.block h2⟩)
   (fun w4 hw4 => OpE.mono (e_buildSlice (vs:=[(0,(x.fix t p).val)]) (cells:=(x.fix t p).lst.toArray) (e:=63) rfl (by kernel_rfl) (by kernel_rfl)) fun v w' ⟨b,h2,h3⟩ => ⟨⟨b,h2,h3.here⟩,h3.ext⟩) ?_
  intro v
  refine RE.ee (Φ:=fun w4 v' w' => w'.ownsRow B 63 7 v' (xs.length + 1) (xs.flatMap IC.lst ++ (x.fix t p).lst) ∧ Fr (fun q => c.items.ownBlock = some q) w4 w' ∧ ∀ q,v'.ownBlock = some q → c.items.ownBlock = some q ∨ w4.heap.size ≤ q)
   ?_ rfl ?_
  ·rintro w4 ⟨hw4,b,rfl,hbb⟩
   have e4 : Ext w w4:=ew3.trans ((Ext.drew _).trans hw4)
   refine e_append B (z:=.agg #[I 0,.nilIface,I 0,I 0,.slice none 0 0,.int .u8 0,.bool false]) (bytes:=72) (m:=1) (c:=1) (ab:=b) (news:=(x.fix t p).lst) rfl (by kernel_rfl) rfl (by decide) rfl
    (hown.fr (Fr.of_ext (S:=fun _ => False) e4) (fun _ _ h => h)) rfl (by decide) rfl (fun j u hj => cell_of hbb (by simpa using hj)) (IC.lst_one (by rw [IC.fix_ev]; exact hev)) ?_ ?_ ?_
   ·have : maxLen = 9223372036854775807:=rfl
    omega
   ·omega
   ·have:=h.at_.lt; have:=h.base; have:=e4.size; omega
  ·rintro w4 ⟨hw4,b,rfl,hbb⟩ v' w5 ⟨ho5,hf5,hn5⟩
   have e4 : Ext w w4:=ew3.trans ((Ext.drew _).trans hw4)
   have hB4:=hf5.block (hw4.block hB3d) hL
   have hbi : ∀ q,c.items.ownBlock = some q → q ≠ bx:=by
    intro q hq
    have:=(hown.lt q hq).2
    have:=hn1.num
    omega
   have hLi : ∀ q,v'.ownBlock = some q → q ≠ L:=by
    intro q hq
    rcases hn5 q hq with h1 | h1
    ·intro e; subst e; exact hL h1
    ·have:=h.at_.lt; have:=e4.size; omega
   repeat(first|refine Z2 rfl rfl ?_|refine Z3 rfl rfl rfl ?_)
   refine RE.es (fun _ hw => e_store rfl rfl rfl (hw.block hB4) rfl ?_) ?_
   ·exact ownsRow_one ho5
   rintro w6 hw6 _ w7 hu7
   refine RE.nil (fun w8 hw8 => ?_)
   refine end0 rfl ⟨rfl,⟨v',?_,?_,?_⟩,?_⟩
   ·exact hw8.block hu7.here
   ·have h6 : Own B w6 v' (xs ++ [x.fix t p]):=by
     have h5 : Own B w5 v' (xs ++ [x.fix t p]):=by
      unfold Own
      simpa using ho5
     exact h5.fr (Fr.of_ext (S:=fun _ => False) hw6) (fun _ _ h => h)
    exact (h6.fr (Fr.of_upd (S:=(· = L)) hu7 rfl) hLi).fr (Fr.of_ext (S:=fun _ => False) hw8) (fun _ _ h => h)
   ·intro q hq
    rcases hn5 q hq with h1 | h1
    ·exact Or.inl h1
    ·exact Or.inr (by have:=e4.size; omega)
   ·refine Fr.trans (b:=w4) (Fr.of_ext e4) (Fr.trans (b:=w5) (hf5.mono fun k _ hk => Or.inr hk) ?_)
    exact (Fr.of_ext hw6).trans ((Fr.of_upd hu7 (Or.inl rfl)).trans (Fr.of_ext hw8))
structure PI where
 ty : Int
 err : Bool
 segs : List (Nat × Nat)
 lo : Nat
 hi : Nat
 fb : Nat
 str : Bool
deriving DecidableEq
def PI.pos (p : PI) : Nat:=match p.segs with | [] => p.lo | s :: _ => s.1
def PI.fix (t : List UInt8) (p : PI) : PI:=if h : p.pos < t.length then { p with fb:=t[p.pos].toNat } else p
def PI.of (t : List UInt8) (ty : Int) (lo hi : Nat) (str : Bool) : PI:=PI.fix t ⟨ty,false,[],lo,hi,0,str⟩
def segCells (l : List (Nat × Nat)) : List Value:=l.flatMap fun s => [I s.1,I s.2]
structure IRep (w : World) (x : IC) (p : PI) : Prop where
 ty : x.ty = p.ty
 lo : x.lo = p.lo
 hi : x.hi = p.hi
 fb : x.fb = p.fb
 str : x.str = p.str
 sn : x.sn = p.segs.length
 ev : (p.err = false ∧ x.ev = .nilIface) ∨ (p.err = true ∧ ∃ b,x.ev = .iface 142 (Ptr b 0))
 seg : p.segs ≠ [] → ∃ b cs,x.sa = some ⟨b,0,none⟩ ∧ w.heap[b]? = some (.cells cs 94 (0,0)) ∧ cs.toList.take (2 * p.segs.length) = segCells p.segs
theorem IRep.fr {w w' : World} {x : IC} {p : PI} {S : Nat → Prop} (h : IRep w x p) (hf : Fr S w w') (hS : ∀ b cs,w.heap[b]? = some (.cells cs 94 (0,0)) → ¬ S b) : IRep w' x p:=
 ⟨h.ty,h.lo,h.hi,h.fb,h.str,h.sn,h.ev,fun hs => let ⟨b,cs,h1,h2,h3⟩:=h.seg hs; ⟨b,cs,h1,hf.block h2 (hS b cs h2),h3⟩⟩
theorem IRep.ext {w w' : World} {x : IC} {p : PI} (h : IRep w x p) (he : Ext w w') : IRep w' x p:=h.fr (Fr.of_ext (S:=fun _ => False) he) (fun _ _ _ h => h)
theorem IRep.at {w : World} {x : IC} {p : PI} (h : IRep w x p) : x.at w p.pos:=by
 unfold IC.at PI.pos
 cases hs : p.segs with
 | nil => exact Or.inl ⟨by rw [h.sn,hs]; rfl,h.lo.symm⟩
 | cons s r =>
  obtain ⟨b,cs,h1,h2,h3⟩:=h.seg (by rw [hs]; simp)
  refine Or.inr ⟨by rw [h.sn,hs]; simp,b,h1,cell_of h2 ?_⟩
  rw [hs] at h3
  have : (cs.toList.take (2 * (s :: r).length))[0]? = some (I s.1):=by rw [h3]; simp [segCells]
  rw [List.getElem?_take] at this
  split at this
  ·simpa using this
  ·cases this
theorem IRep.evOne {w : World} {x : IC} {p : PI} (h : IRep w x p) : x.ev.oneCell' = true:=by
 rcases h.ev with ⟨_,h⟩ | ⟨_,b,h⟩ <;> rw [h] <;> rfl
theorem IRep.fix {w : World} {x : IC} {p : PI} (t : List UInt8) (h : IRep w x p) : IRep w (x.fix t p.pos) (p.fix t):=by
 unfold IC.fix PI.fix
 by_cases hp : p.pos < t.length
 ·rw [dif_pos hp,dif_pos hp]
  exact ⟨h.ty,h.lo,h.hi,rfl,h.str,h.sn,h.ev,h.seg⟩
 ·rw [dif_neg hp,dif_neg hp]
  exact h
structure LI (L : Nat) (c c' : LC) (w w' : World) : Prop where
 at_ : AtL L c' w'
 fr : Fr (fun q => q = L ∨ c.items.ownBlock = some q) w w'
 nw : ∀ q,c'.items.ownBlock = some q → c.items.ownBlock = some q ∨ w.heap.size ≤ q
theorem LI.of_lm {L : Nat} {c c' : LC} {w w' : World} (h : LM L c' w w') (hi : c'.items = c.items) : LI L c c' w w':=
 ⟨h.at_,h.fr.mono fun _ _ hk => Or.inl hk,fun _ hq => Or.inl (hi ▸ hq)⟩
theorem LI.refl {L : Nat} {c : LC} {w : World} (h : AtL L c w) : LI L c c w w:=⟨h,Fr.refl _ _,fun _ hq => Or.inl hq⟩
theorem LI.trans {L : Nat} {c c' c'' : LC} {w w' w'' : World} (h : LI L c c' w w') (k : LI L c' c'' w' w'') : LI L c c'' w w'':=by
 refine ⟨k.at_,⟨k.fr.os.trans h.fr.os,k.fr.tape.trans h.fr.tape,k.fr.output.trans h.fr.output,Nat.le_trans h.fr.size k.fr.size,fun q hq hn => ?_⟩,fun q hq => ?_⟩
 ·rw [k.fr.same q (Nat.lt_of_lt_of_le hq h.fr.size) ?_]
  ·exact h.fr.same q hq hn
  ·rintro (h1 | h1)
   ·exact hn (Or.inl h1)
   ·rcases h.nw q h1 with h2 | h2
    ·exact hn (Or.inr h2)
    ·omega
 ·rcases k.nw q hq with h1 | h1
  ·exact h.nw q h1
  ·exact Or.inr (Nat.le_trans h.fr.size h1)
theorem LI.ext_l {L : Nat} {c c' : LC} {w w' w'' : World} (h : Ext w w') (k : LI L c c' w' w'') : LI L c c' w w'':=
 ⟨k.at_,(Fr.of_ext h).trans k.fr,fun q hq => (k.nw q hq).imp id fun h1 => Nat.le_trans h.size h1⟩
theorem LI.ext_r {L : Nat} {c c' : LC} {w w' w'' : World} (h : LI L c c' w w') (k : Ext w' w'') : LI L c c' w w'':=
 ⟨h.at_.ext k,h.fr.trans (Fr.of_ext k),h.nw⟩
inductive All2 {α β : Type} (R : α → β → Prop) : List α → List β → Prop
 | nil : All2 R [] []
 | cons {a : α} {b : β} {l : List α} {m : List β} : R a b → All2 R l m → All2 R (a :: l) (b :: m)
def Tag5 (w : World) (b : Nat) : Prop:=∃ cs fr,w.heap[b]? = some (.cells cs 5 fr)
theorem Tag5.fr {w w' : World} {b : Nat} {S : Nat → Prop} (h : Tag5 w b) (hf : Fr S w w') (hs : ¬ S b) : Tag5 w' b:=let ⟨cs,fr,h⟩:=h; ⟨cs,fr,hf.block h hs⟩
theorem Tag5.ext {w w' : World} {b : Nat} (h : Tag5 w b) (he : Ext w w') : Tag5 w' b:=let ⟨cs,fr,h⟩:=h; ⟨cs,fr,he.block h⟩
theorem Tag5.lt {w : World} {b : Nat} (h : Tag5 w b) : b < w.heap.size:=let ⟨_,_,h⟩:=h; (Array.getElem?_eq_some_iff.1 h).1
structure LS (L ib B : Nat) (t dv : List UInt8) (c : LC) (ps : List PI) (w : World) : Prop where
 lx : Lx L ib B t c w
 ibs : ib < w.heap.size
 own : ∃ xs,Own B w c.items xs ∧ All2 (IRep w) xs ps
 nl : c.items.ownBlock ≠ some L
 ni : c.items.ownBlock ≠ some ib
 div : ∃ db,HBk db w (.slice c.da c.dl c.dc) dv ∧ db ≠ L ∧ c.items.ownBlock ≠ some db ∧ Tag5 w db
 few : ps.length ≤ 100000000
theorem forall2_mono {α β : Type} {R S : α → β → Prop} (h : ∀ a b,R a b → S a b) : ∀ {l : List α} {m : List β},All2 R l m → All2 S l m
 | _,_,.nil => .nil
 | _,_,.cons h1 h2 => .cons (h _ _ h1) (forall2_mono h h2)
theorem forall2_len {α β : Type} {R : α → β → Prop} : ∀ {l : List α} {m : List β},All2 R l m → l.length = m.length
 | _,_,.nil => rfl
 | _,_,.cons _ h2 => by simp [forall2_len h2]
theorem forall2_snoc {α β : Type} {R : α → β → Prop} {a : α} {b : β} : ∀ {l : List α} {m : List β},All2 R l m → R a b → All2 R (l ++ [a]) (m ++ [b])
 | _,_,.nil,h => .cons h .nil
 | _,_,.cons h1 h2,h => .cons h1 (forall2_snoc h2 h)
theorem Own.tag {B : Nat} {w : World} {v : Value} {xs : List IC} (h : Own B w v xs) {q : Nat} (hq : v.ownBlock = some q) : ∃ cs,w.heap[q]? = some (.cells cs 63 (0,0)):=by
 rcases h.2 with ⟨rfl,_⟩ | ⟨g,cap,cur,rfl,_,hg,_⟩
 ·cases hq
 ·simp only [Value.ownBlock,Option.some.injEq] at hq
  subst hq
  exact ⟨_,hg⟩
theorem LS.keep {L ib B : Nat} {t dv : List UInt8} {c c' : LC} {ps : List PI} {w w' : World} (h : LS L ib B t dv c ps w) (hm : LM L c' w w') (hit : c'.items = c.items)
  (hin : Value.slice c'.ia c'.il c'.ic = .slice c.ia c.il c.ic) (hd : Value.slice c'.da c'.dl c'.dc = .slice c.da c.dl c.dc) (hp : c'.pos ≤ t.length) : LS L ib B t dv c' ps w':=by
 obtain ⟨xs,ho,hf⟩:=h.own
 obtain ⟨db,hdb,h1,h2,h3⟩:=h.div
 refine ⟨h.lx.lm hm hin hp,Nat.lt_of_lt_of_le h.ibs hm.fr.size,⟨xs,?_,?_⟩,hit ▸ h.nl,hit ▸ h.ni,⟨db,?_,h1,hit ▸ h2,h3.fr hm.fr h1⟩,h.few⟩
 ·rw [hit]
  exact ho.fr hm.fr fun q hq e => h.nl (by rw [hq,e])
 ·exact forall2_mono (fun x p hr => hr.fr hm.fr fun b cs hb e => by
   have:=h.lx.at_
   unfold AtL at this
   subst e
   rw [this] at hb
   cases hb) hf
 ·rw [hd]
  exact hdb.fr hm.fr h1
theorem LS.ext {L ib B : Nat} {t dv : List UInt8} {c : LC} {ps : List PI} {w w' : World} (h : LS L ib B t dv c ps w) (he : Ext w w') : LS L ib B t dv c ps w':=by
 obtain ⟨xs,ho,hf⟩:=h.own
 obtain ⟨db,hdb,h1,h2,h3⟩:=h.div
 exact ⟨h.lx.ext he,Nat.lt_of_lt_of_le h.ibs he.size,⟨xs,ho.fr (Fr.of_ext (S:=fun _ => False) he) (fun _ _ h => h),forall2_mono (fun x p hr => hr.ext he) hf⟩,h.nl,h.ni,⟨db,hdb.ext he,h1,h2,h3.ext he⟩,h.few⟩
theorem append_ls {L ib B : Nat} {t dv : List UInt8} {c : LC} {ps : List PI} {w : World} {x : IC} {p : PI} (h : LS L ib B t dv c ps w) (hx : IRep w x p) (hn : ps.length < 100000000) :
  Fn PT 113 [Ptr L 0,x.val] w (fun u w' => u = .tuple #[] ∧ ∃ v,LI L c { c with items:=v } w w' ∧ LS L ib B t dv { c with items:=v } (ps ++ [p.fix t]) w'):=by
 obtain ⟨xs,ho,hf⟩:=h.own
 obtain ⟨db,hdb,h1,h2,h3⟩:=h.div
 have hlen:=forall2_len hf
 refine Fn.mono (append_fn h.lx hx.at ho hx.evOne h.nl (by omega)) ?_
 rintro u w' ⟨rfl,⟨v',hat,hown,hnew⟩,hfr⟩
 have htag : ∀ b cs,w.heap[b]? = some (.cells cs 94 (0,0)) → ¬ (b = L ∨ c.items.ownBlock = some b):=by
  rintro b cs hb (e | e)
  ·have:=h.lx.at_
   unfold AtL at this
   subst e
   rw [this] at hb
   cases hb
  ·obtain ⟨cs',hcs⟩:=ho.tag e
   rw [hcs] at hb
   cases hb
 have hfar : ∀ q,q < w.heap.size → c.items.ownBlock ≠ some q → v'.ownBlock ≠ some q:=fun q hq hn e => by
  rcases hnew q e with h3 | h3
  ·exact hn h3
  ·omega
 have hLlt:=h.lx.at_.lt
 have hBL:=h.lx.base
 refine ⟨rfl,v',⟨hat,hfr,hnew⟩,⟨hat,h.lx.inp.fr hfr ?_,h.lx.ne,h.lx.tabs.below (hfr.below (by omega) ?_),h.lx.base,h.lx.small,h.lx.pos⟩,Nat.lt_of_lt_of_le h.ibs hfr.size,⟨xs ++ [x.fix t p.pos],hown,?_⟩,?_,?_,⟨db,hdb.fr hfr ?_,h1,?_,h3.fr hfr (by rintro (e | e); exact h1 e; exact h2 e)⟩,?_⟩
 ·rintro (e | e)
  ·exact h.lx.ne e
  ·exact h.ni e
 ·rintro k (e | e)
  ·omega
  ·exact (ho.lt k e).1
 ·exact forall2_snoc (forall2_mono (fun x p hr => hr.fr hfr htag) hf) ((hx.fr hfr htag).fix t)
 ·exact hfar L hLlt h.nl
 ·exact hfar ib h.ibs h.ni
 ·rintro (e | e)
  ·exact h1 e
  ·exact h2 e
 ·exact hfar db h3.lt h2
 ·simp; omega
theorem irep_one (w : World) (ty : Int) (lo hi : Nat) (str : Bool) : IRep w ⟨ty,.nilIface,lo,hi,none,0,0,0,str⟩ ⟨ty,false,[],lo,hi,0,str⟩:=
 ⟨rfl,rfl,rfl,rfl,rfl,rfl,Or.inl ⟨rfl,rfl⟩,fun h => absurd rfl h⟩
def PI.bad (t : List UInt8) (lo hi : Nat) : PI:=PI.fix t ⟨0,true,[],lo,hi,0,false⟩
theorem errorf_fn {L ib B : Nat} {t dv : List UInt8} {c : LC} {ps : List PI} {w : World} {l : List UInt8} {v : Value} (h : LS L ib B t dv c ps w) (hn : ps.length < 100000000) :
  Fn PT 93 [Ptr L 0,S l,v] w (fun u w' => u = .nilFunc ∧ ∃ v,LI L c { c with items:=v } w w' ∧ LS L ib B t dv { c with items:=v } (ps ++ [PI.bad t c.start c.pos]) w'):=by
 refine fn_of Tryz.func93 rfl Tryz.ntmps93 rfl ?_
 have hB:=h.lx.at_
 unfold AtL at hB
 have hBd : w.drew.heap[L]? = _:=hB
 repeat(first|refine C0 ?_|refine C1 ?_|refine X0 rfl rfl ?_|refine C2 ?_)
 (refine CE.drawA Ext [0,1] [0,0,0,0,0,0,0,0,1,0,2] [3,4,5,6,7,8,9,10,2,11,12] mixed Ext.refl (fun _ _ _ => Ext.trans) (by decide +kernel) ?_); (simp only [pick,nthO,List.cons_append,List.nil_append]); (repeat(first|refine PR.p (fun _ => op_move rfl) rfl ?_|refine PR.p (fun _ => op_nil rfl) rfl ?_|refine PR.p (fun _ => op_fieldAddr0 rfl rfl) rfl ?_|refine PR.p (fun _ => op_fieldAddr rfl rfl) rfl ?_)); refine PR.nil ?_
 repeat(first|refine Z1 rfl rfl ?_|refine Z2 rfl rfl ?_|refine Z3 rfl rfl rfl ?_|refine Z22 rfl rfl hBd rfl rfl ?_)
 refine RE.gcx (φ:=fun u _ => ∃ b,u = .iface 142 (Ptr b 0)) en114 rfl rfl (fun _ _ _ h _ => h) (fun w1 hw1 => errNew_fn) ?_
 rintro _ ⟨_,_,b,rfl⟩
 refine RE.dd (v:=(⟨0,.iface 142 (Ptr b 0),c.start,c.pos,none,0,0,0,false⟩ : IC).val) (fun _ _ => op_build rfl (by kernel_rfl)) rfl Ext.refl ?_
 refine RE.ec (Φ:=fun w1 u w' => u = .tuple #[] ∧ ∃ v,LI L c { c with items:=v } w1 w' ∧ LS L ib B t dv { c with items:=v } (ps ++ [PI.bad t c.start c.pos]) w') en113 rfl rfl ?_ ?_
 ·rintro w1 ⟨hw1,_⟩
  exact append_ls (x:=⟨0,.iface 142 (Ptr b 0),c.start,c.pos,none,0,0,0,false⟩) (p:=⟨0,true,[],c.start,c.pos,0,false⟩) (h.ext ((Ext.drew w).trans hw1))
   ⟨rfl,rfl,rfl,rfl,rfl,rfl,Or.inr ⟨rfl,b,rfl⟩,fun h => absurd rfl h⟩ hn
 ·rintro w1 ⟨hw1,_⟩ _ w2 ⟨rfl,v2,h2,h3⟩
  refine RE.nil fun w3 hw3 => ?_
  repeat(first|refine C0 ?_|refine C1 ?_|refine X0 rfl rfl ?_|refine C2 ?_)
  (refine CE.ret ?_;(try dsimp only);refine ret1 rfl rfl ?_)
  exact ⟨rfl,v2,(LI.ext_l ((Ext.drew w).trans hw1) h2).ext_r hw3,h3.ext hw3⟩
end Go.Wk
namespace Go.Wk
open Go Go.RowKit Go.Proofs
section
variable {P : Program} {R : World → World → Prop} {n : Nat} {k : Ks} {ops : Array Oper} {m : List Nat} {r : List Oper} {C : World → Prop} {s : Slots} {ds : List Deferred}
 {d : Nat} {op : Op} {ty : TypeId} {pos : String} {af : Array Edge} {dst : Option Tmp} {g : Option (Nat × Bool)} {w : World} {a : Act}
theorem op_makeFunc {fv : Go.Fn} {xs : List Operand} {vs : List Value} (hx : evs s xs = some vs) : Op1 P ⟨dst,.makeFunc fv #[] xs.toArray,ty,pos,af,g⟩ n s (.func fv #[] vs.toArray) w:=by
 refine ⟨fun ds a ha => ?_⟩
 have h1:=ha.evs hx
 simp only [execOp,Instr.makeFunc,List.map_toArray,Sem.run_bind,Sem.run_pure,Result.andThen_ok]
 rw [show List.map a.eval xs = vs from h1]
 rfl
theorem run_callv {f : FuncId} {x : Operand} {args : List Operand} {ats : Array TypeId} {first cap : Array Value} {vs all : List Value} {a : Act} (hf : Enters P f) (ha : Has n s ds a) (hv : ev s x = some (.func (.func f) first cap)) (hx : evs s args = some vs)
  (hall : first.toList ++ vs ++ cap.toList = all) (w : World) :
  (execOp a.eval ⟨dst,.call { callee:=.value x,args:=args.toArray,argTypes:=ats },ty,pos,af,g⟩).run P w = .ok (.enter f all.toArray) w:=by
 have h1:=ha.evs hx
 have h2:=hf all.toArray w
 have h0:=ha.ev hv
 simp only [execOp,resolve,Sem.run_bind,h0,Deferred.ofValue,List.map_toArray,Sem.run_pure,Result.andThen_ok,invoke]
 have h3 : List.map a.eval args = vs:=h1
 rw [show first ++ (List.map (fun x => a.eval x) args).toArray ++ cap = all.toArray by
  rw [← hall,← h3]
  apply Array.ext'
  simp]
 exact h2
theorem RE.xcv {f : FuncId} {x : Operand} {args : List Operand} {ats : Array TypeId} {first cap : Array Value} {vs all : List Value} {Φ : Value → World → Prop} (hv : ev s x = some (.func (.func f) first cap)) (hf : Enters P f)
  (hx : evs s args = some vs) (hall : first.toList ++ vs ++ cap.toList = all) (hd : Nat.blt d n = true)
  (h : Fn P f all w Φ) (h2 : ∀ v w',Φ v w' → RE P Eq n k ops [] r (Eq w') ((d,v) :: s) ds) :
  RE P Eq n k ops [] (⟨some d,.call { callee:=.value x,args:=args.toArray,argTypes:=ats },ty,pos,af,none⟩ :: r) (Eq w) s ds:=by
 refine ⟨fun a ha => ?_⟩
 rw [RW_none]
 rintro w1 rfl
 unfold opE
 rw [if_pos (by simp [Region.wanted])]
 unfold Oper.wp
 rw [run_callv hf ha hv hx hall]
 refine Calls.mono h.out ?_
 rintro e w' ⟨v,rfl,hv⟩
 exact (h2 v w' hv).out _ (ha.put hd v)
theorem RE.ecv {c : Nat} {f : FuncId} {x : Operand} {args : List Operand} {ats : Array TypeId} {first cap : Array Value} {vs all : List Value} {Φ : World → Value → World → Prop} (hv : ev s x = some (.func (.func f) first cap)) (hf : Enters P f)
  (hx : evs s args = some vs) (hall : first.toList ++ vs ++ cap.toList = all) (hd : Nat.blt d n = true)
  (h : ∀ w,C w → Fn P f all w (Φ w)) (h2 : ∀ w,C w → ∀ v w',Φ w v w' → RE P R n k ops m r (R w') ((d,v) :: s) ds) :
  RE P R n k ops ((c + 2) :: m) (⟨some d,.call { callee:=.value x,args:=args.toArray,argTypes:=ats },ty,pos,af,none⟩ :: r) C s ds:=by
 refine ⟨fun a ha => ?_⟩
 rw [RW_any]
 intro w1 hw1
 unfold opE
 rw [if_pos (by simp [Region.wanted])]
 unfold Oper.wp
 rw [run_callv hf ha hv hx hall]
 refine Calls.mono (h w1 hw1).out ?_
 rintro e w' ⟨v,rfl,hv⟩
 exact (h2 w1 hw1 v w' hv).out _ (ha.put hd v)
theorem RE.xdefer {x : Operand} {ats : Array TypeId} {f : FuncId} {cap : Array Value} (hv : ev s x = some (.func (.func f) #[] cap))
  (h : RE P Eq n k ops [] r (Eq w) s (⟨.fn (.func f) cap,#[]⟩ :: ds)) :
  RE P Eq n k ops [] (⟨none,.defer { callee:=.value x,args:=#[],argTypes:=ats },ty,pos,af,none⟩ :: r) (Eq w) s ds:=by
 refine ⟨fun a ha => ?_⟩
 rw [RW_none]
 rintro w1 rfl
 unfold opE
 rw [if_pos (by simp [Region.wanted])]
 unfold Oper.wp
 have h0:=ha.ev hv
 have : (execOp a.eval ⟨none,.defer { callee:=.value x,args:=#[],argTypes:=ats },ty,pos,af,none⟩).run P w = .ok (.defer ⟨.fn (.func f) cap,#[]⟩) w:=by
  simp only [execOp,resolve,Sem.run_bind,h0,Deferred.ofValue,Sem.run_pure,Result.andThen_ok]
  simp
 rw [this]
 exact h.out _ ⟨by simpa [Act.put] using ha.size,by simp [Act.put,ha.ds],fun t v ht => by simpa [Act.put] using ha.val t v ht⟩
end
theorem CE.scope {P : Program} {n : Nat} {k : Ks} {s : Slots} {ds : List Deferred} {w : World} {c : Code} (h : CE P n c k s ds w) : CE P n (.scope c) k s ds w:=by
 refine ⟨fun a ha => wp_scope_straight (wp_mono (h.out a ha) fun e a' w' hq => ?_)⟩
 cases e <;> exact hq
structure FnD (P : Program) (f : FuncId) (args : List Value) (w : World) (Φ : Value → World → Prop) : Prop where
 out : CallsD P f args.toArray .returning w (fun e u' w' => u' = .returning ∧ ∃ v,e = .returned v ∧ Φ v w')
theorem fnD_of {P : Program} {f : FuncId} {fn : Func} {c : Code} {args : List Value} {n : Nat} {w : World} {Φ : Value → World → Prop}
  (hf : P.funcs[f]? = some fn) (hb : fn.body = some c) (hn : fn.ntmps = n) (hl : Nat.ble args.length n = true)
  (h : CE P n c (endK P fn n Φ) (argSlots 0 args) [] w) : FnD P f args w Φ:=by
 refine ⟨callsD_of_wp (R:=fun e w' => ∃ v,e = .returned v ∧ Φ v w') hf hb ?_⟩
 subst hn
 refine wp_mono (h.out _ (has_enter args fn.ntmps (by simpa [Nat.ble_eq] using hl))) fun e a' w' hq => ?_
 cases e with
 | normal =>
  obtain ⟨s,ds,ha,rfl,v,hr,hφ⟩:=hq
  exact ⟨ha.ds,v,hr a' ha,v,rfl,hφ⟩
 | ret =>
  obtain ⟨s,ds,ha,rfl,v,hr,hφ⟩:=hq
  exact ⟨ha.ds,v,hr a' ha,v,rfl,hφ⟩
 | exit i => obtain ⟨_,_,_,hq⟩:=hq; exact hq.elim
 | _ => exact hq.elim
structure OutD (P : Program) (Φ : World → Prop) (ds : List Deferred) (w : World) : Prop where
 out : ∃ f cap,ds = [⟨.fn (.func f) cap,#[]⟩] ∧ Enters P f ∧ FnD P f cap.toList w (fun _ w' => Φ w')
def endKD (P : Program) (Φ : World → Prop) : Ks where
 n:=fun _ ds w => OutD P Φ ds w
 r:=fun _ ds w => OutD P Φ ds w
 x:=fun _ _ _ _ => False
theorem leaves_of {P : Program} {fn : Func} {tmps : Array Value} {Φ : World → Prop} {ds : List Deferred} {w : World} (hr : fn.results = #[]) (h : OutD P Φ ds w) :
  Leaves P fn tmps (fun e w' => ∃ v,e = .returned v ∧ v = .tuple #[] ∧ Φ w') ds .returning w:=by
 obtain ⟨f,cap,rfl,hf,hc⟩:=h.out
 refine leaves_cons (f:=f) (args:=cap) (by simp) ?_ ?_
 ·simp only [invoke,Array.empty_append]
  exact hf cap w
 ·refine CallsD.mono hc.out ?_
  rintro e u' w' ⟨rfl,v,rfl,hφ⟩
  exact ⟨.tuple #[],results_none hr _ _ _,_,rfl,rfl,hφ⟩
theorem fn_of_d {P : Program} {f : FuncId} {fn : Func} {c : Code} {args : List Value} {n : Nat} {w : World} {Φ : World → Prop}
  (hf : P.funcs[f]? = some fn) (hb : fn.body = some c) (hn : fn.ntmps = n) (hl : Nat.ble args.length n = true) (hr : fn.results = #[])
  (h : CE P n c (endKD P Φ) (argSlots 0 args) [] w) : Fn P f args w (fun v w' => v = .tuple #[] ∧ Φ w'):=by
 refine ⟨calls_of_wp_defers (R:=fun e w' => ∃ v,e = .returned v ∧ v = .tuple #[] ∧ Φ w') hf hb ?_⟩
 subst hn
 refine wp_mono (h.out _ (has_enter args fn.ntmps (by simpa [Nat.ble_eq] using hl))) fun e a' w' hq => ?_
 cases e with
 | normal =>
  obtain ⟨s,ds,ha,ho⟩:=hq
  show Leaves P fn a'.tmps _ a'.defers .returning w'
  rw [ha.ds]
  exact leaves_of hr ho
 | ret =>
  obtain ⟨s,ds,ha,ho⟩:=hq
  show Leaves P fn a'.tmps _ a'.defers .returning w'
  rw [ha.ds]
  exact leaves_of hr ho
 | exit i => obtain ⟨_,_,_,hq⟩:=hq; exact hq.elim
 | _ => exact hq.elim
end Go.Wk
namespace Go.Wk
open Go Go.RowKit Go.Proofs
set_option maxRecDepth 100000
def emScan (t : List UInt8) (lo hi : Nat) : Nat → List (Int × Nat × Nat)
 | 0 => [(18,lo,hi)]
 | k + 1 =>
  if k < lo then [(18,lo,hi)] else
  let b:=(t.getD k 0).toNat
  if b ≠ 32 ∧ b ≠ 9 ∧ b ≠ 13 ∧ b ≠ 10 then [(18,lo,hi)] else
  if k = lo ∧ b ≠ 10 then [(17,lo,hi)] else
  if b = 10 ∧ k + 1 < hi then [(18,lo,k + 1),(17,k + 1,hi)] else
  if b = 10 ∧ k + 1 = hi then [(18,lo,hi)] else emScan t lo hi k
def emitL (t : List UInt8) (ty : Int) (lo hi : Nat) : List (Int × Nat × Nat):=if ty = 18 then emScan t lo hi hi else [(ty,lo,hi)]
def mk3 (t : List UInt8) (x : Int × Nat × Nat) : PI:=PI.of t x.1 x.2.1 x.2.2 false
def emitI (t : List UInt8) (ty : Int) (lo hi : Nat) : List PI:=(emitL t ty lo hi).map (mk3 t)
theorem emit1_fn {L bx : Nat} {c : LC} {w : World} (h : AtL L c w) (hb : w.heap[bx]? = some (.cells #[Ptr L 0] 70 (0,0))) :
  FnD PT 117 [Ptr bx 0] w (fun _ w' => LM L { c with start:=c.pos } w w'):=by
 refine fnD_of Tryz.func117 rfl Tryz.ntmps117 rfl ?_
 have hB:=h
 unfold AtL at hB
 refine CE.draw [0,0,0,0,0,0,0,2] mixed (by decide +kernel) ?_
 repeat(first|refine Y2 rfl rfl ?_|refine Y3 rfl rfl rfl ?_|refine Y22 rfl rfl hb rfl rfl ?_|refine Y22 rfl rfl hB rfl rfl ?_)
 refine RE.es1 (e_store rfl rfl rfl hB rfl rfl) ?_
 rintro _ w1 hu
 (refine RE.nilx ?_; (try dsimp only); refine end0 rfl ?_)
 exact LM.of_upd hu.undrew rfl
theorem emit_out {L ib B bx : Nat} {t dv : List UInt8} {c : LC} {ps : List PI} {w w' : World} {v : Value} {Φ : World → Prop} (h : LS L ib B t dv { c with items:=v } ps w')
  (hb : w'.heap[bx]? = some (.cells #[Ptr L 0] 70 (0,0))) (h1 : LI L c { c with items:=v } w w')
  (hΦ : ∀ w2,LI L c { c with start:=c.pos,items:=v } w w2 → LS L ib B t dv { c with start:=c.pos,items:=v } ps w2 → Φ w2) : OutD PT Φ [⟨.fn (.func 117) #[Ptr bx 0],#[]⟩] w':=by
 refine ⟨117,#[Ptr bx 0],rfl,en117,⟨CallsD.mono (emit1_fn h.lx.at_ hb).out ?_⟩⟩
 rintro e u' w2 ⟨rfl,u,rfl,hm⟩
 exact ⟨rfl,u,rfl,hΦ w2 (h1.trans (LI.of_lm hm rfl)) (h.keep hm rfl rfl rfl h.lx.pos)⟩
set_option maxHeartbeats 2000000 in
theorem emit_fn {L ib B : Nat} {t dv : List UInt8} {c : LC} {ps : List PI} {w : World} {ty : Int} (h : LS L ib B t dv c ps w) (hn : ps.length + 2 < 100000000) :
  Fn PT 97 [Ptr L 0,I ty] w (fun u w' => u = .tuple #[] ∧ ∃ v,LI L c { c with start:=c.pos,items:=v } w w' ∧ LS L ib B t dv { c with start:=c.pos,items:=v } (ps ++ emitI t ty c.start c.pos) w'):=by
 refine fn_of_d Tryz.func97 rfl Tryz.ntmps97 rfl rfl ?_
 have hB0:=h.lx.at_
 unfold AtL at hB0
 repeat(first|refine C0 ?_|refine C1 ?_)
 refine RE.xe (e_box (cells:=#[Ptr L 0]) rfl rfl) rfl ?_
 rintro _ w1 ⟨bx,rfl,hn1⟩
 have hb:=hn1.here
 have e1:=hn1.ext
 have hB:=e1.block hB0
 have h1:=h.ext e1
 have hbL : ¬ (bx = L):=by have:=h.lx.at_.lt; have:=hn1.num; omega
 have hbo : ¬ (c.items.ownBlock = some bx):=by
  obtain ⟨xs,ho,_⟩:=h.own
  intro e
  have:=(ho.lt bx e).2
  have:=hn1.num
  omega
 have hps:=h.lx.pos
 have hsm:=h.lx.small
 have app : ∀ (v0 : Value) (qs : List PI) (w2 w4 : World) (lo hi : Nat) (ty : Int),Ext w2 w4 → qs.length ≤ 1 → LI L c { c with items:=v0 } w1 w2 → LS L ib B t dv { c with items:=v0 } (ps ++ qs) w2 → w2.heap[bx]? = some (.cells #[Ptr L 0] 70 (0,0)) →
   Fn PT 113 [Ptr L 0,(⟨ty,.nilIface,lo,hi,none,0,0,0,false⟩ : IC).val] w4
   (fun u w' => u = .tuple #[] ∧ ∃ v,LI L c { c with items:=v } w1 w' ∧ LS L ib B t dv { c with items:=v } (ps ++ (qs ++ [mk3 t (ty,lo,hi)])) w' ∧ w'.heap[bx]? = some (.cells #[Ptr L 0] 70 (0,0))):=by
  intro v0 qs w2 w4 lo hi ty e2 hq hi2 hl2 hb2
  refine Fn.mono (append_ls (hl2.ext e2) (irep_one w4 ty lo hi false) (by simp; omega)) ?_
  rintro u w3 ⟨rfl,v,h3,h4⟩
  rw [List.append_assoc] at h4
  refine ⟨rfl,v,hi2.trans (LI.ext_l e2 h3),h4,h3.fr.block (e2.block hb2) ?_⟩
  rintro (e | e)
  ·exact hbL e
  ·rcases hi2.nw bx e with e | e
   ·exact hbo e
   ·have:=hn1.num
    have:=hn1.size
    omega
 have app1 : ∀ (w4 : World) (lo hi : Nat) (ty : Int),Ext w1 w4 → Fn PT 113 [Ptr L 0,(⟨ty,.nilIface,lo,hi,none,0,0,0,false⟩ : IC).val] w4
   (fun u w' => u = .tuple #[] ∧ ∃ v,LI L c { c with items:=v } w1 w' ∧ LS L ib B t dv { c with items:=v } (ps ++ [mk3 t (ty,lo,hi)]) w' ∧ w'.heap[bx]? = some (.cells #[Ptr L 0] 70 (0,0))):=
  fun w4 lo hi ty e => app c.items [] w1 w4 lo hi ty e (by simp) (LI.refl h1.lx.at_) (by simpa using h1) hb
 repeat(first|refine C0 ?_|refine C1 ?_|refine C2 ?_)
 refine RE.x (op_makeFunc rfl) rfl ?_
 refine RE.xdefer rfl ?_
 repeat(first|refine C0 ?_|refine C1 ?_|refine X1 rfl rfl ?_|refine X5 rfl rfl rfl ?_|refine C2 ?_)
 have fin : ∀ (w2 : World) (v : Value) (qs : List PI),LI L c { c with items:=v } w1 w2 → LS L ib B t dv { c with items:=v } (ps ++ qs) w2 → qs = emitI t ty c.start c.pos → w2.heap[bx]? = some (.cells #[Ptr L 0] 70 (0,0)) →
   OutD PT (fun w' => ∃ v,LI L c { c with start:=c.pos,items:=v } w w' ∧ LS L ib B t dv { c with start:=c.pos,items:=v } (ps ++ emitI t ty c.start c.pos) w') [⟨.fn (.func 117) #[Ptr bx 0],#[]⟩] w2:=by
  rintro w2 v qs hi hl rfl hbx
  exact emit_out hl hbx (LI.ext_l e1 hi) fun w3 h3 h4 => ⟨v,h3,h4⟩
 refine CE.cut (fun s ds w' => ds = [⟨.fn (.func 117) #[Ptr bx 0],#[]⟩] ∧ w' = w1 ∧ SubL [(2,Ptr bx 0),(1,I ty)] s ∧ emitL t ty c.start c.pos = [(ty,c.start,c.pos)]) ?_ ?_
 ·refine CE.cond_d rfl (fun hty => ?_) (fun hty => ?_)
  ·subst hty
   repeat(first|refine C0 ?_|refine C1 ?_|refine X0 rfl rfl ?_|refine X2 rfl rfl ?_|refine X3 rfl rfl rfl ?_|refine X22 rfl rfl hb rfl rfl ?_|refine X22 rfl rfl hB rfl rfl ?_|refine X19 rfl rfl (by omega) (by omega) rfl ?_|refine C2 ?_|refine CE.block ?_)
   refine CE.loop (α:=Nat) (fun k => [(4,I ((k : Int) - 1)),(2,Ptr bx 0),(1,I 18)]) (fun k w' => w' = w1 ∧ k ≤ c.pos ∧ emScan t c.start c.pos k = emScan t c.start c.pos c.pos) id c.pos ⟨rfl,rfl,rfl,trivial⟩ ⟨rfl,Nat.le_refl _,rfl⟩ ?_
   rintro k w' ⟨hw',hk,hem⟩
   have hw2 : w1 = w':=hw'.symm
   subst hw2
   repeat(first|refine C0 ?_|refine C1 ?_|refine X1 rfl rfl ?_|refine X2 rfl rfl ?_|refine X3 rfl rfl rfl ?_|refine X22 rfl rfl hb rfl rfl ?_|refine X22 rfl rfl hB rfl rfl ?_|refine X10 rfl rfl rfl ?_|refine C2 ?_)
   refine CE.cond_d rfl (fun hge => ?_) (fun hge => ?_)
   ·obtain ⟨k,rfl⟩ : ∃ j,k = j + 1:=⟨k - 1,by omega⟩
    have hkt : k < t.length:=by omega
    obtain ⟨ia',ic',hie,hicl,hic⟩:=h1.lx.inp
    obtain ⟨io,hio,hcells⟩:=hic (by intro e; subst e; simp at hkt)
    simp only [Value.slice.injEq] at hie
    obtain ⟨hie1,hie2,hie3⟩:=hie
    have hBs : w1.heap[L]? = some (.cells { c with ia:=some ⟨ib,io,none⟩ }.arr 79 (0,0)):=by rw [hB,← hio,← hie1]
    have hlo : ¬ k < c.start:=by omega
    have hgd : (t.getD k 0).toNat = t[k].toNat:=by simp [hkt]
    rw [emScan,if_neg hlo] at hem
    simp only [hgd] at hem
    repeat(first|refine C0 ?_|refine C1 ?_|refine X1 rfl rfl ?_|refine X2 rfl rfl ?_|refine X3 rfl rfl rfl ?_|refine X22 rfl rfl hb rfl rfl ?_|refine X22 rfl rfl hBs rfl rfl ?_|refine CE.block ?_|refine C3 ?_)
    refine RE.x (op_indexAddr rfl rfl rfl (by omega) (show (((k + 1 : Nat) : Int) - 1) < ((c.il : Nat) : Int) by omega)) rfl ?_
    have hcp : w1.cell? ⟨ib,io + ((((k + 1 : Nat) : Int) - 1).toNat) * 1,none⟩ = some (Wk.B t[k]):=by
     have e1 : io + ((((k + 1 : Nat) : Int) - 1).toNat) * 1 = io + k:=by omega
     rw [e1]
     exact hcells k hkt
    refine RE.x (op_load rfl rfl hcp) rfl ?_
    generalize hb8 : t[k] = b8 at hem
    refine X0 rfl rfl ?_
    refine C2 ?_
    refine C0 ?_
    refine CE.cut (fun s ds w' => ds = [⟨.fn (.func 117) #[Ptr bx 0],#[]⟩] ∧ w' = w1 ∧ SubL [(4,I (((k + 1 : Nat) : Int) - 1)),(2,Ptr bx 0),(1,I 18),(5,Wk.B b8)] s ∧ (b8.toNat = 32 ∨ b8.toNat = 9 ∨ b8.toNat = 13 ∨ b8.toNat = 10)) ?_ ?_
    ·repeat(first|refine C0 ?_|refine C1 ?_|refine X1 rfl rfl ?_|refine X6 rfl rfl rfl ?_)
     refine RE.splitD (fun h32 => ?_) (fun h32 => ?_)
     ·repeat(first|refine X1 rfl rfl ?_|refine X6 rfl rfl rfl ?_|refine X16 rfl rfl rfl rfl ?_|refine RE.want rfl rfl ?_)
      refine RE.splitD (fun h9 => ?_) (fun h9 => ?_)
      ·repeat(first|refine X1 rfl rfl ?_|refine X6 rfl rfl rfl ?_|refine X16 rfl rfl rfl rfl ?_|refine RE.want rfl rfl ?_)
       refine RE.splitD (fun h13 => ?_) (fun h13 => ?_)
       ·repeat(first|refine X1 rfl rfl ?_|refine X6 rfl rfl rfl ?_|refine X16 rfl rfl rfl rfl ?_|refine RE.want rfl rfl ?_|refine C2 ?_)
        refine CE.cond_d rfl (fun h10 => ?_) (fun h10 => ?_)
        ·refine CE.exit ?_
         refine ⟨rfl,rfl,⟨rfl,rfl,trivial⟩,?_⟩
         unfold emitL
         rw [if_pos rfl,← hem,if_pos (by omega)]
        ·refine CE.skip ⟨rfl,rfl,⟨rfl,rfl,rfl,rfl,trivial⟩,by omega⟩
       ·repeat(first|refine X17 rfl rfl rfl ?_|refine RE.nox rfl rfl rfl rfl ?_|refine C2 ?_|refine CE.cond_f rfl ?_)
        refine CE.skip ⟨rfl,rfl,⟨rfl,rfl,rfl,rfl,trivial⟩,by omega⟩
      ·repeat(first|refine X1 rfl rfl ?_|refine X17 rfl rfl rfl ?_|refine RE.nox rfl rfl rfl rfl ?_|refine C2 ?_|refine CE.cond_f rfl ?_)
       refine CE.skip ⟨rfl,rfl,⟨rfl,rfl,rfl,rfl,trivial⟩,by omega⟩
     ·repeat(first|refine X1 rfl rfl ?_|refine X17 rfl rfl rfl ?_|refine RE.nox rfl rfl rfl rfl ?_|refine C2 ?_|refine CE.cond_f rfl ?_)
      refine CE.skip ⟨rfl,rfl,⟨rfl,rfl,rfl,rfl,trivial⟩,by omega⟩
    ·rintro s _ w' ⟨rfl,hw3,hs,hws⟩
     subst hw3
     refine CE.sub hs ?_
     rw [if_neg (by omega)] at hem
     repeat(first|refine C0 ?_|refine C1 ?_|refine X1 rfl rfl ?_|refine X2 rfl rfl ?_|refine X3 rfl rfl rfl ?_|refine X22 rfl rfl hb rfl rfl ?_|refine X22 rfl rfl hB rfl rfl ?_|refine X5 rfl rfl rfl ?_)
     refine RE.splitD (fun hst => ?_) (fun hst => ?_)
     ·have hst' : k = c.start:=by omega
      repeat(first|refine X1 rfl rfl ?_|refine X6 rfl rfl rfl ?_|refine X16 rfl rfl rfl rfl ?_|refine RE.want rfl rfl ?_|refine C2 ?_)
      refine CE.cond_d rfl (fun h10 => ?_) (fun h10 => ?_)
      ·rw [if_pos ⟨hst',by omega⟩] at hem
       repeat (refine C0 ?_)
       refine CE.draw [0,0,0,0,0,0,0,0,0,0,2] mixed (by decide +kernel) ?_
       repeat(first|refine Y2 rfl rfl ?_|refine Y3 rfl rfl rfl ?_|refine Y22 rfl rfl hb rfl rfl ?_|refine Y22 rfl rfl hB rfl rfl ?_)
       refine RE.d1 (v:=(⟨17,.nilIface,c.start,c.pos,none,0,0,0,false⟩ : IC).val) (op_build rfl (by kernel_rfl)) rfl ?_
       refine RE.ec1 en113 rfl rfl (app1 _ c.start c.pos 17 (Ext.drew _)) ?_
       rintro _ w3 ⟨rfl,v,h3,h4,h5⟩
       repeat (refine C2 ?_)
       refine CE.ret ?_
       exact fin _ v _ h3 h4 (by unfold emitI emitL; rw [if_pos rfl,← hem]; rfl) h5
      ·rw [if_neg (by omega)] at hem
       repeat(first|refine C0 ?_|refine C1 ?_|refine X1 rfl rfl ?_|refine X5 rfl rfl rfl ?_)
       refine RE.splitD (fun h10' => ?_) (fun h10' => ?_)
       ·repeat(first|refine X1 rfl rfl ?_|refine X2 rfl rfl ?_|refine X3 rfl rfl rfl ?_|refine X22 rfl rfl hb rfl rfl ?_|refine X22 rfl rfl hB rfl rfl ?_|refine X7 rfl rfl rfl ?_|refine X16 rfl rfl rfl rfl ?_|refine X19 rfl rfl (by omega) (by omega) rfl ?_|refine RE.want rfl rfl ?_|refine C2 ?_)
        refine CE.cond_d rfl (fun hlt => ?_) (fun hlt => ?_)
        ·rw [if_pos ⟨by omega,by omega⟩] at hem
         repeat (refine C0 ?_)
         refine CE.draw [0,0,0,0,0,0,0,0,0,2] mixed (by decide +kernel) ?_
         repeat(first|refine Y1 rfl rfl ?_|refine Y2 rfl rfl ?_|refine Y3 rfl rfl rfl ?_|refine Y22 rfl rfl hb rfl rfl ?_|refine Y22 rfl rfl hB rfl rfl ?_|refine Y18 rfl rfl (by omega) (by omega) rfl ?_)
         refine RE.d1 (op_build (cells:=#[I 18,.nilIface,I c.start,I (((k + 1 : Nat) : Int) - 1 + 1),.slice none 0 0,.int .u8 0,.bool false]) rfl (by kernel_rfl)) rfl ?_
         refine RE.ec1 en113 rfl rfl (by rw [show (((k + 1 : Nat) : Int) - 1 + 1) = ((k + 1 : Nat) : Int) by omega]; exact app1 _ c.start (k + 1) 18 (Ext.drew _)) ?_
         rintro _ w3 ⟨rfl,v,h3,h4,h5⟩
         have hB3:=h3.at_
         unfold AtL at hB3
         repeat(first|refine C0 ?_|refine C2 ?_)
         refine CE.draw [0,0,0,0,0,0,0,0,2] mixed (by decide +kernel) ?_
         repeat(first|refine Y1 rfl rfl ?_|refine Y2 rfl rfl ?_|refine Y3 rfl rfl rfl ?_|refine Y22 rfl rfl h5 rfl rfl ?_|refine Y22 rfl rfl hB3 rfl rfl ?_|refine Y18 rfl rfl (by omega) (by omega) rfl ?_)
         refine RE.d1 (op_build (cells:=#[I 17,.nilIface,I (((k + 1 : Nat) : Int) - 1 + 1),I c.pos,.slice none 0 0,.int .u8 0,.bool false]) rfl (by kernel_rfl)) rfl ?_
         refine RE.ec1 en113 rfl rfl (by rw [show (((k + 1 : Nat) : Int) - 1 + 1) = ((k + 1 : Nat) : Int) by omega]; exact app v _ w3 _ (k + 1) c.pos 17 (Ext.drew _) (by simp) h3 h4 h5) ?_
         rintro _ w4 ⟨rfl,v4,h6,h7,h8⟩
         repeat (refine C2 ?_)
         refine CE.ret ?_
         exact fin _ v4 _ h6 h7 (by unfold emitI emitL; rw [if_pos rfl,← hem]; rfl) h8
        ·rw [if_neg (by omega)] at hem
         repeat(first|refine C0 ?_|refine C1 ?_|refine X1 rfl rfl ?_|refine X5 rfl rfl rfl ?_)
         refine RE.splitD (fun h10'' => ?_) (fun h10'' => ?_)
         ·repeat(first|refine X1 rfl rfl ?_|refine X2 rfl rfl ?_|refine X3 rfl rfl rfl ?_|refine X22 rfl rfl hb rfl rfl ?_|refine X22 rfl rfl hB rfl rfl ?_|refine X5 rfl rfl rfl ?_|refine X16 rfl rfl rfl rfl ?_|refine X19 rfl rfl (by omega) (by omega) rfl ?_|refine RE.want rfl rfl ?_|refine C2 ?_)
          refine CE.cond_d rfl (fun hkp => ?_) (fun hkp => ?_)
          ·refine CE.exit ?_
           refine ⟨rfl,rfl,⟨rfl,rfl,trivial⟩,?_⟩
           unfold emitL
           rw [if_pos rfl,← hem,if_pos ⟨by omega,by omega⟩]
          ·rw [if_neg (by omega)] at hem
           repeat(first|refine C1 ?_|refine X1 rfl rfl ?_|refine X0 rfl rfl ?_|refine X19 rfl rfl (by omega) (by omega) rfl ?_|refine C3 ?_)
           refine RE.nilx ?_
           refine ⟨k,by show k < k + 1; omega,rfl,⟨congrArg (fun z => some (I z)) (show (((k + 1 : Nat) : Int) - 1 - 1) = (k : Int) - 1 by omega),rfl,rfl,trivial⟩,rfl,by omega,hem⟩
         ·omega
       ·rw [if_neg (by omega),if_neg (by omega)] at hem
        repeat(first|refine C0 ?_|refine C1 ?_|refine X1 rfl rfl ?_|refine X5 rfl rfl rfl ?_|refine X17 rfl rfl rfl ?_|refine RE.nox rfl rfl rfl rfl ?_|refine C2 ?_|refine CE.cond_f rfl ?_)
        refine RE.splitD (fun h10'' => ?_) (fun h10'' => ?_)
        ·omega
        repeat(first|refine C1 ?_|refine X1 rfl rfl ?_|refine X0 rfl rfl ?_|refine X17 rfl rfl rfl ?_|refine X19 rfl rfl (by omega) (by omega) rfl ?_|refine RE.nox rfl rfl rfl rfl ?_|refine C2 ?_|refine C3 ?_|refine CE.cond_f rfl ?_)
        refine RE.nilx ?_
        refine ⟨k,by show k < k + 1; omega,rfl,⟨congrArg (fun z => some (I z)) (show (((k + 1 : Nat) : Int) - 1 - 1) = (k : Int) - 1 by omega),rfl,rfl,trivial⟩,rfl,by omega,hem⟩
     ·rw [if_neg (by omega)] at hem
      repeat(first|refine C0 ?_|refine C1 ?_|refine X1 rfl rfl ?_|refine X5 rfl rfl rfl ?_|refine X17 rfl rfl rfl ?_|refine RE.nox rfl rfl rfl rfl ?_|refine C2 ?_|refine CE.cond_f rfl ?_)
      refine RE.splitD (fun h10' => ?_) (fun h10' => ?_)
      ·repeat(first|refine X1 rfl rfl ?_|refine X2 rfl rfl ?_|refine X3 rfl rfl rfl ?_|refine X22 rfl rfl hb rfl rfl ?_|refine X22 rfl rfl hB rfl rfl ?_|refine X7 rfl rfl rfl ?_|refine X16 rfl rfl rfl rfl ?_|refine X19 rfl rfl (by omega) (by omega) rfl ?_|refine RE.want rfl rfl ?_|refine C2 ?_)
       refine CE.cond_d rfl (fun hlt => ?_) (fun hlt => ?_)
       ·rw [if_pos ⟨by omega,by omega⟩] at hem
        repeat (refine C0 ?_)
        refine CE.draw [0,0,0,0,0,0,0,0,0,2] mixed (by decide +kernel) ?_
        repeat(first|refine Y1 rfl rfl ?_|refine Y2 rfl rfl ?_|refine Y3 rfl rfl rfl ?_|refine Y22 rfl rfl hb rfl rfl ?_|refine Y22 rfl rfl hB rfl rfl ?_|refine Y18 rfl rfl (by omega) (by omega) rfl ?_)
        refine RE.d1 (op_build (cells:=#[I 18,.nilIface,I c.start,I (((k + 1 : Nat) : Int) - 1 + 1),.slice none 0 0,.int .u8 0,.bool false]) rfl (by kernel_rfl)) rfl ?_
        refine RE.ec1 en113 rfl rfl (by rw [show (((k + 1 : Nat) : Int) - 1 + 1) = ((k + 1 : Nat) : Int) by omega]; exact app1 _ c.start (k + 1) 18 (Ext.drew _)) ?_
        rintro _ w3 ⟨rfl,v,h3,h4,h5⟩
        have hB3:=h3.at_
        unfold AtL at hB3
        repeat(first|refine C0 ?_|refine C2 ?_)
        refine CE.draw [0,0,0,0,0,0,0,0,2] mixed (by decide +kernel) ?_
        repeat(first|refine Y1 rfl rfl ?_|refine Y2 rfl rfl ?_|refine Y3 rfl rfl rfl ?_|refine Y22 rfl rfl h5 rfl rfl ?_|refine Y22 rfl rfl hB3 rfl rfl ?_|refine Y18 rfl rfl (by omega) (by omega) rfl ?_)
        refine RE.d1 (op_build (cells:=#[I 17,.nilIface,I (((k + 1 : Nat) : Int) - 1 + 1),I c.pos,.slice none 0 0,.int .u8 0,.bool false]) rfl (by kernel_rfl)) rfl ?_
        refine RE.ec1 en113 rfl rfl (by rw [show (((k + 1 : Nat) : Int) - 1 + 1) = ((k + 1 : Nat) : Int) by omega]; exact app v _ w3 _ (k + 1) c.pos 17 (Ext.drew _) (by simp) h3 h4 h5) ?_
        rintro _ w4 ⟨rfl,v4,h6,h7,h8⟩
        repeat (refine C2 ?_)
        refine CE.ret ?_
        exact fin _ v4 _ h6 h7 (by unfold emitI emitL; rw [if_pos rfl,← hem]; rfl) h8
       ·rw [if_neg (by omega)] at hem
        repeat(first|refine C0 ?_|refine C1 ?_|refine X1 rfl rfl ?_|refine X5 rfl rfl rfl ?_)
        refine RE.splitD (fun h10'' => ?_) (fun h10'' => ?_)
        ·repeat(first|refine X1 rfl rfl ?_|refine X2 rfl rfl ?_|refine X3 rfl rfl rfl ?_|refine X22 rfl rfl hb rfl rfl ?_|refine X22 rfl rfl hB rfl rfl ?_|refine X5 rfl rfl rfl ?_|refine X16 rfl rfl rfl rfl ?_|refine X19 rfl rfl (by omega) (by omega) rfl ?_|refine RE.want rfl rfl ?_|refine C2 ?_)
         refine CE.cond_d rfl (fun hkp => ?_) (fun hkp => ?_)
         ·refine CE.exit ?_
          refine ⟨rfl,rfl,⟨rfl,rfl,trivial⟩,?_⟩
          unfold emitL
          rw [if_pos rfl,← hem,if_pos ⟨by omega,by omega⟩]
         ·rw [if_neg (by omega)] at hem
          repeat(first|refine C1 ?_|refine X1 rfl rfl ?_|refine X0 rfl rfl ?_|refine X19 rfl rfl (by omega) (by omega) rfl ?_|refine C3 ?_)
          refine RE.nilx ?_
          refine ⟨k,by show k < k + 1; omega,rfl,⟨congrArg (fun z => some (I z)) (show (((k + 1 : Nat) : Int) - 1 - 1) = (k : Int) - 1 by omega),rfl,rfl,trivial⟩,rfl,by omega,hem⟩
        ·omega
      ·rw [if_neg (by omega),if_neg (by omega)] at hem
       repeat(first|refine C0 ?_|refine C1 ?_|refine X1 rfl rfl ?_|refine X5 rfl rfl rfl ?_|refine X17 rfl rfl rfl ?_|refine RE.nox rfl rfl rfl rfl ?_|refine C2 ?_|refine CE.cond_f rfl ?_)
       refine RE.splitD (fun h10'' => ?_) (fun h10'' => ?_)
       ·omega
       repeat(first|refine C1 ?_|refine X1 rfl rfl ?_|refine X0 rfl rfl ?_|refine X17 rfl rfl rfl ?_|refine X19 rfl rfl (by omega) (by omega) rfl ?_|refine RE.nox rfl rfl rfl rfl ?_|refine C2 ?_|refine C3 ?_|refine CE.cond_f rfl ?_)
       refine RE.nilx ?_
       refine ⟨k,by show k < k + 1; omega,rfl,⟨congrArg (fun z => some (I z)) (show (((k + 1 : Nat) : Int) - 1 - 1) = (k : Int) - 1 by omega),rfl,rfl,trivial⟩,rfl,by omega,hem⟩
   ·refine CE.exit ?_
    refine ⟨rfl,rfl,⟨rfl,rfl,trivial⟩,?_⟩
    unfold emitL
    rw [if_pos rfl,← hem]
    cases k with
    | zero => rfl
    | succ k => rw [emScan,if_pos (by omega)]
  ·refine CE.skip ⟨rfl,rfl,⟨rfl,rfl,trivial⟩,?_⟩
   unfold emitL
   rw [if_neg (by simpa using hty)]
 ·rintro s _ w2 ⟨rfl,rfl,hs,hl⟩
  refine CE.sub hs ?_
  refine CE.draw [0,0,0,0,0,0,0,0,0,0,0,2] mixed (by decide +kernel) ?_
  repeat(first|refine Y1 rfl rfl ?_|refine Y2 rfl rfl ?_|refine Y3 rfl rfl rfl ?_|refine Y22 rfl rfl hb rfl rfl ?_|refine Y22 rfl rfl hB rfl rfl ?_)
  refine RE.d1 (v:=(⟨ty,.nilIface,c.start,c.pos,none,0,0,0,false⟩ : IC).val) (op_build rfl (by kernel_rfl)) rfl ?_
  skip
  refine RE.ec1 en113 rfl rfl (app1 _ c.start c.pos ty (Ext.drew _)) ?_
  rintro _ w3 ⟨rfl,v,h3,h4,h5⟩
  refine RE.nilx ?_
  exact fin _ v _ h3 h4 (by unfold emitI; rw [hl]; rfl) h5
def crE (t : List UInt8) (p : Nat) : Nat × Bool:=
 let p1:=if (nx t p).1 = 13 then p + (nx t p).2 else p
 (if (nx t p1).1 = 10 then p1 + (nx t p1).2 else p1,decide ((nx t p).1 = 13) || decide ((nx t p1).1 = 10))
theorem crlf_eq (t : List UInt8) (c : LC) : (∃ wd,(crlf t c).1 = { c with pos:=(crE t c.pos).1,width:=wd }) ∧ (crlf t c).2 = (crE t c.pos).2:=by
 unfold crlf crE crStep
 by_cases h1 : (nx t c.pos).1 = 13
 ·simp only [h1,if_true]
  by_cases h2 : (nx t (c.pos + (nx t c.pos).2)).1 = 10
  ·have h2' : (nx t (LC.nxt t c).pos).1 = 10:=h2
   simp only [h2,h2',if_true]
   exact ⟨⟨_,rfl⟩,by simp⟩
  ·have h2' : ¬ (nx t (LC.nxt t c).pos).1 = 10:=h2
   simp only [h2,h2',if_false]
   exact ⟨⟨_,rfl⟩,by simp⟩
 ·simp only [h1,if_false]
  by_cases h2 : (nx t c.pos).1 = 10
  ·have h2' : (nx t (LC.at t c c.pos).pos).1 = 10:=h2
   simp only [h2,h2',if_true]
   exact ⟨⟨_,rfl⟩,by simp⟩
  ·have h2' : ¬ (nx t (LC.at t c c.pos).pos).1 = 10:=h2
   simp only [h2,h2',if_false]
   exact ⟨⟨_,rfl⟩,by simp⟩
theorem crE_le (t : List UInt8) {p : Nat} (h : p ≤ t.length) : (crE t p).1 ≤ t.length:=by
 have h1:=nx_le t h
 simp only [crE]
 by_cases h2 : (nx t p).1 = 13
 ·simp only [h2,if_true]
  have h3:=nx_le t h1
  split <;> omega
 ·simp only [h2,if_false]
  split <;> omega
def fmFind (t d : List UInt8) (b : Bool) (p : Nat) : Option Nat:=
 if b then (if pre d (t.drop p) then some p else fmFind t d false p)
 else if _h : p < t.length then
  (if isEol (nx t p).1 && pre d (t.drop (p + (nx t p).2)) then some (p + (nx t p).2) else fmFind t d false (p + (nx t p).2))
 else none
termination_by 2 * (t.length - p) + (if b then 1 else 0)
decreasing_by
 ·simp_all
 ·have:=nx_pos t _h
  simp_all
  omega
def fmOut (t d : List UInt8) (tp dr : Int) (st p : Nat) : Bool × Nat × Nat × List PI:=
 let p1:=p + (nx t p).2
 let p2:=p1 + (nx t p1).2
 if (nx t p).1 ≠ dr then (false,p1,st,[PI.bad t st p1]) else
 if (nx t p1).1 ≠ dr then (false,p2,st,[PI.bad t st p2]) else
 match fmFind t d (crE t p2).2 (crE t p2).1 with
 | none => (false,t.length,(crE t p2).1,[PI.bad t (crE t p2).1 t.length])
 | some f => (true,(crE t (f + 3)).1,(crE t (f + 3)).1,emitI t tp (crE t p2).1 f)
def After (L ib B : Nat) (t dv : List UInt8) (c : LC) (ps : List PI) (pos start : Nat) (more : List PI) (w w' : World) : Prop:=
 ∃ wd it,LI L c { c with pos:=pos,start:=start,width:=wd,items:=it } w w' ∧ LS L ib B t dv { c with pos:=pos,start:=start,width:=wd,items:=it } (ps ++ more) w'
structure Apart (L : Nat) (c : LC) (v : Value) (d : List UInt8) (w : World) : Prop where
 out : ∃ b,HBk b w v d ∧ b ≠ L ∧ c.items.ownBlock ≠ some b ∧ b < w.heap.size
theorem Apart.li {L : Nat} {c c' : LC} {v : Value} {d : List UInt8} {w w' : World} (h : Apart L c v d w) (hl : LI L c c' w w') : Apart L c' v d w':=by
 obtain ⟨b,h1,h2,h3,h4⟩:=h.out
 refine ⟨b,h1.fr hl.fr ?_,h2,fun e => ?_,Nat.lt_of_lt_of_le h4 hl.fr.size⟩
 ·rintro (e | e)
  ·exact h2 e
  ·exact h3 e
 ·rcases hl.nw b e with e | e
  ·exact h3 e
  ·omega
theorem Apart.hb {L : Nat} {c : LC} {v : Value} {d : List UInt8} {w : World} (h : Apart L c v d w) : HB w v d:=let ⟨b,h1,_⟩:=h.out; ⟨b,h1⟩
def fnV (f : Nat) : Value:=.func (.func f) #[] #[]
def nextV (ok : Bool) : Value:=if ok then fnV 42 else .nilFunc
def LC.mk3 (c : LC) (p st wd : Nat) : LC:={ c with pos:=p,start:=st,width:=wd }
theorem LS.nxt {L ib B : Nat} {t dv : List UInt8} {c : LC} {ps : List PI} {w w' : World} (h : LS L ib B t dv c ps w) (hm : LM L (c.nxt t) w w') : LS L ib B t dv (c.nxt t) ps w':=
 h.keep hm rfl rfl rfl (nx_le t h.lx.pos)
theorem bad_after {L ib B : Nat} {t dv l : List UInt8} {c x : LC} {ps : List PI} {w w0 : World} {v : Value} {p st wd : Nat} (hx : x = c.mk3 p st wd) (hi : LI L c x w w0) (h : LS L ib B t dv x ps w0) (hn : ps.length < 100000000) :
  Fn PT 93 [Ptr L 0,S l,v] w0 (fun u w' => u = .nilFunc ∧ After L ib B t dv c ps p st [PI.bad t st p] w w'):=by
 subst hx
 refine Fn.mono (errorf_fn h hn) ?_
 rintro u w' ⟨rfl,it,h1,h2⟩
 exact ⟨rfl,wd,it,hi.trans h1,h2⟩
theorem fm_fn {L ib B : Nat} {t dv d nm : List UInt8} {c : LC} {ps : List PI} {w : World} {tp dr : Int} {v : Value} (h : LS L ib B t dv c ps w) (hn : ps.length + 2 < 100000000) (hv : Apart L c v d w) (hd : d.length = 3) (_hdr : dr ≠ -1) :
  Fn PT 69 [Ptr L 0,I tp,.int .i32 dr,S nm,v] w (fun u w' => u = nextV (fmOut t d tp dr c.start c.pos).1 ∧
   After L ib B t dv c ps (fmOut t d tp dr c.start c.pos).2.1 (fmOut t d tp dr c.start c.pos).2.2.1 (fmOut t d tp dr c.start c.pos).2.2.2 w w'):=by
 refine fn_of Tryz.func69 rfl Tryz.ntmps69 rfl ?_
 repeat(first|refine C0 ?_|refine C1 ?_|refine X1 rfl rfl ?_|refine X0 rfl rfl ?_|refine C2 ?_)
 generalize hA : fmOut t d tp dr c.start c.pos = A
 refine CE.cut (fun s ds w' => ds = [] ∧ SubL [(0,Ptr L 0),(1,I tp),(2,.int .i32 dr),(3,S nm),(4,v)] s ∧ (nx t c.pos).1 = dr ∧ (nx t (c.pos + (nx t c.pos).2)).1 = dr ∧
   LS L ib B t dv ((c.nxt t).nxt t) ps w' ∧ LI L c ((c.nxt t).nxt t) w w' ∧ Apart L ((c.nxt t).nxt t) v d w') ?_ ?_
 ·refine CE.block ?_
  refine CE.loop (α:=Nat × LC) (fun x => [(14,I x.1),(0,Ptr L 0),(1,I tp),(2,.int .i32 dr),(3,S nm),(4,v)])
   (fun x w' => LS L ib B t dv x.2 ps w' ∧ LI L c x.2 w w' ∧ Apart L x.2 v d w' ∧ (x = (0,c) ∨ (x = (1,c.nxt t) ∧ (nx t c.pos).1 = dr) ∨ (x = (2,(c.nxt t).nxt t) ∧ (nx t c.pos).1 = dr ∧ (nx t (c.pos + (nx t c.pos).2)).1 = dr)))
   (fun x => 3 - x.1) (0,c) ⟨rfl,rfl,rfl,rfl,rfl,rfl,trivial⟩ ⟨h,LI.refl h.lx.at_,hv,Or.inl rfl⟩ ?_
  rintro ⟨k,x⟩ w0 ⟨hx,hi,hap,hk⟩
  have hk2 : (k < 2 ∧ ((k = 0 ∧ x = c) ∨ (k = 1 ∧ x = c.nxt t ∧ (nx t c.pos).1 = dr))) ∨ (k = 2 ∧ x = (c.nxt t).nxt t ∧ (nx t c.pos).1 = dr ∧ (nx t (c.pos + (nx t c.pos).2)).1 = dr):=by
   rcases hk with hk | ⟨hk,h1⟩ | ⟨hk,h1⟩
   ·cases hk; exact Or.inl ⟨by omega,Or.inl ⟨rfl,rfl⟩⟩
   ·cases hk; exact Or.inl ⟨by omega,Or.inr ⟨rfl,rfl,h1⟩⟩
   ·cases hk; exact Or.inr ⟨rfl,rfl,h1⟩
  repeat(first|refine C0 ?_|refine C1 ?_|refine X7 rfl rfl rfl ?_|refine C2 ?_)
  refine CE.cond_d rfl (fun h2 => ?_) (fun h2 => ?_)
  ·have hk3 : (k = 0 ∧ x = c) ∨ (k = 1 ∧ x = c.nxt t ∧ (nx t c.pos).1 = dr):=by
    rcases hk2 with ⟨_,h3⟩ | ⟨h3,_⟩
    ·exact h3
    ·omega
   have hxq : ∃ wd,x = c.mk3 x.pos c.start wd:=by
    rcases hk3 with ⟨_,rfl⟩ | ⟨_,rfl,_⟩ <;> exact ⟨_,rfl⟩
   repeat(first|refine C0 ?_|refine C1 ?_|refine X1 rfl rfl ?_|refine CE.block ?_|refine C3 ?_)
   refine RE.xc en68 rfl rfl (next_fn hx.lx) ?_
   rintro _ w1 ⟨rfl,h3⟩
   have hx1:=hx.nxt h3
   have hi1:=hi.trans (LI.of_lm h3 rfl)
   have hap1:=hap.li (LI.of_lm h3 rfl)
   repeat(first|refine C0 ?_|refine C1 ?_|refine X1 rfl rfl ?_|refine X0 rfl rfl ?_|refine X6 rfl rfl rfl ?_|refine C2 ?_)
   refine CE.cond_d rfl (fun h4 => ?_) (fun h4 => ?_)
   ·repeat(first|refine C0 ?_|refine C1 ?_|refine X1 rfl rfl ?_)
    refine RE.x (op_iface rfl (by kernel_rfl)) rfl ?_
    refine RE.xe (e_buildSlice (cells:=#[.iface 9 (S nm)]) (e:=20) rfl (by kernel_rfl) (by kernel_rfl)) rfl ?_
    rintro _ w2 ⟨nb,rfl,hn2⟩
    skip
    obtain ⟨wd,hwd⟩:=hxq
    refine RE.xc en93 rfl rfl (bad_after (x:=x.nxt t) (p:=x.pos + (nx t x.pos).2) (st:=c.start) (wd:=(nx t x.pos).2) (by rw [hwd]; rfl) (hi1.ext_r hn2.ext) (hx1.ext hn2.ext) (by omega)) ?_
    rintro _ w3 ⟨rfl,h5⟩
    repeat(first|refine X0 rfl rfl ?_|refine C2 ?_)
    (refine CE.ret ?_;(try dsimp only);refine ret1 rfl rfl ?_)
    have hA' : A = (false,x.pos + (nx t x.pos).2,c.start,[PI.bad t c.start (x.pos + (nx t x.pos).2)]):=by
     rw [← hA]
     rcases hk3 with ⟨_,rfl⟩ | ⟨_,rfl,h6⟩
     ·simp only [fmOut]; rw [if_pos h4]
     ·simp only [fmOut]; rw [if_neg (fun h => h h6)]; exact if_pos h4
    rw [hA']
    exact ⟨rfl,h5⟩
   ·have h4' : (nx t x.pos).1 = dr:=Classical.byContradiction h4
    repeat(first|refine C1 ?_|refine X1 rfl rfl ?_|refine X18 rfl rfl (by omega) (by omega) rfl ?_|refine C3 ?_)
    refine RE.nilx ?_
    refine ⟨(k + 1,x.nxt t),by show 3 - (k + 1) < 3 - k; omega,rfl,⟨rfl,rfl,rfl,rfl,rfl,rfl,trivial⟩,hx1,hi1,hap1,?_⟩
    rcases hk3 with ⟨rfl,rfl⟩ | ⟨rfl,rfl,h6⟩
    ·exact Or.inr (Or.inl ⟨rfl,h4'⟩)
    ·exact Or.inr (Or.inr ⟨rfl,h6,h4'⟩)
  ·refine CE.exit ?_
   rcases hk2 with ⟨h3,_⟩ | ⟨rfl,rfl,h3,h4⟩
   ·omega
   ·exact ⟨rfl,⟨rfl,rfl,rfl,rfl,rfl,trivial⟩,h3,h4,hx,hi,hap⟩
 ·rintro s _ w0 ⟨rfl,hs,hd1,hd2,hx,hi,hap⟩
  refine CE.sub hs ?_
  obtain ⟨⟨wd2,hcr⟩,hcb⟩:=crlf_eq t ((c.nxt t).nxt t)
  have hp2 : ((c.nxt t).nxt t).pos = c.pos + (nx t c.pos).2 + (nx t (c.pos + (nx t c.pos).2)).2:=rfl
  rw [hp2] at hcr hcb
  generalize hP2 : c.pos + (nx t c.pos).2 + (nx t (c.pos + (nx t c.pos).2)).2 = p2 at hcr hcb hp2
  have hp2l : p2 ≤ t.length:=by rw [← hp2]; exact hx.lx.pos
  have hql:=crE_le t hp2l
  generalize hq0 : (crE t p2).1 = q at hcr hql
  generalize hb0 : (crE t p2).2 = b0 at hcb
  have hA2 : A = (match fmFind t d b0 q with
   | none => (false,t.length,q,[PI.bad t q t.length])
   | some f => (true,(crE t (f + 3)).1,(crE t (f + 3)).1,emitI t tp q f)):=by
   rw [← hA]
   simp only [fmOut]
   rw [if_neg (fun h => h hd1),if_neg (fun h => h hd2),hP2,hq0,hb0]
  repeat(first|refine C0 ?_|refine C1 ?_|refine X1 rfl rfl ?_)
  refine RE.xc en94 rfl rfl (crlf_fn hx.lx) ?_
  rintro _ w1 ⟨rfl,h1⟩
  rw [hcr] at h1
  have hx1:=hx.keep h1 rfl rfl rfl hql
  have hi1:=hi.trans (LI.of_lm h1 rfl)
  have hap1:=hap.li (LI.of_lm h1 rfl)
  rw [hcb]
  repeat(first|refine C0 ?_|refine C1 ?_|refine X1 rfl rfl ?_|refine X0 rfl rfl ?_|refine C2 ?_)
  refine RE.xc en95 rfl rfl (ignore_fn hx1.lx.at_) ?_
  rintro _ w2 ⟨rfl,h2⟩
  have hx2:=hx1.keep h2 rfl rfl rfl hql
  have hi2:=hi1.trans (LI.of_lm h2 rfl)
  have hap2:=hap1.li (LI.of_lm h2 rfl)
  repeat(first|refine C0 ?_|refine C1 ?_|refine X0 rfl rfl ?_|refine C2 ?_)
  refine CE.cut (fun s ds w' => ds = [] ∧ A.1 = true ∧ After L ib B t dv c ps A.2.1 A.2.2.1 A.2.2.2 w w') ?_ ?_
  ·refine CE.block ?_
   refine CE.loop (α:=Bool × Int × LC) (fun x => [(12,.bool x.1),(13,.int .i32 x.2.1),(0,Ptr L 0),(1,I tp),(3,S nm),(4,v)])
    (fun x w' => LS L ib B t dv x.2.2 ps w' ∧ LI L c x.2.2 w w' ∧ Apart L x.2.2 v d w' ∧ (∃ wd,x.2.2 = c.mk3 x.2.2.pos q wd) ∧ fmFind t d x.1 x.2.2.pos = fmFind t d b0 q)
    (fun x => 2 * (t.length - x.2.2.pos) + (if x.1 then 1 else 0)) (b0,0,c.mk3 q q wd2) ⟨rfl,rfl,rfl,rfl,rfl,rfl,trivial⟩ ⟨hx2,hi2,hap2,⟨wd2,rfl⟩,rfl⟩ ?_
   rintro ⟨b,r,x⟩ w3 ⟨hx3,hi3,hap3,⟨wd3,hwd3⟩,hff⟩
   dsimp only at hx3 hi3 hap3 hwd3 hff ⊢
   refine CE.block ?_
   refine C0 ?_
   refine CE.cut (fun s ds w' => ds = [] ∧ ∃ x' r',SubL [(12,.bool b),(13,.int .i32 r'),(0,Ptr L 0),(1,I tp),(3,S nm),(4,v)] s ∧ LS L ib B t dv x' ps w' ∧ LI L c x' w w' ∧ Apart L x' v d w' ∧ (∃ wd,x' = c.mk3 x'.pos q wd) ∧
    ((b = true ∧ x' = x) ∨ (b = false ∧ x.pos < t.length ∧ x' = x.nxt t ∧ r' = (nx t x.pos).1))) ?_ ?_
   ·cases b with
    | true =>
     repeat(first|refine C0 ?_|refine C1 ?_|refine X1 rfl rfl ?_|refine X11 rfl rfl ?_|refine C2 ?_|refine CE.cond_f rfl ?_)
     refine CE.skip ?_
     exact ⟨rfl,x,r,⟨rfl,rfl,rfl,rfl,rfl,rfl,trivial⟩,hx3,hi3,hap3,⟨wd3,hwd3⟩,Or.inl ⟨rfl,rfl⟩⟩
    | false =>
     repeat(first|refine C0 ?_|refine C1 ?_|refine X1 rfl rfl ?_|refine X11 rfl rfl ?_|refine C2 ?_|refine CE.cond_t rfl ?_)
     refine RE.xc en68 rfl rfl (next_fn hx3.lx) ?_
     rintro _ w4 ⟨rfl,h4⟩
     have hx4:=hx3.nxt h4
     have hi4:=hi3.trans (LI.of_lm h4 rfl)
     have hap4:=hap3.li (LI.of_lm h4 rfl)
     have hwd4 : x.nxt t = c.mk3 (x.nxt t).pos q (nx t x.pos).2:=by rw [hwd3]; rfl
     repeat(first|refine C0 ?_|refine C1 ?_|refine X1 rfl rfl ?_|refine X0 rfl rfl ?_|refine X5 rfl rfl rfl ?_|refine C2 ?_)
     refine CE.cond_d rfl (fun he => ?_) (fun he => ?_)
     ·have hend : t.length ≤ x.pos:=by
       rcases Nat.lt_or_ge x.pos t.length with h' | h'
       ·rw [nx_in h'] at he
        have he' : ((Lib.decodeL (t.drop x.pos)).1 : Int) = -1:=he
        omega
       ·exact h'
      have hxl:=hx3.lx.pos
      repeat(first|refine C0 ?_|refine C1 ?_|refine X1 rfl rfl ?_)
      refine RE.x (op_iface rfl (by kernel_rfl)) rfl ?_
      refine RE.xe (e_buildSlice (cells:=#[.iface 9 (S nm)]) (e:=20) rfl (by kernel_rfl) (by kernel_rfl)) rfl ?_
      rintro _ w5 ⟨nb,rfl,hn5⟩
      skip
      refine RE.xc en93 rfl rfl (bad_after (x:=x.nxt t) (p:=(x.nxt t).pos) (st:=q) (wd:=(nx t x.pos).2) hwd4 (hi4.ext_r hn5.ext) (hx4.ext hn5.ext) (by omega)) ?_
      rintro _ w6 ⟨rfl,h6⟩
      repeat(first|refine X0 rfl rfl ?_|refine C2 ?_)
      (refine CE.ret ?_;(try dsimp only);refine ret1 rfl rfl ?_)
      have hpe : (x.nxt t).pos = t.length:=by
       show x.pos + (nx t x.pos).2 = t.length
       rw [nx_end hend]
       show x.pos + 0 = t.length
       omega
      have hnone : fmFind t d b0 q = none:=by
       rw [← hff,fmFind]
       simp only [Bool.false_eq_true,if_false]
       rw [dif_neg (by omega)]
      rw [hnone] at hA2
      rw [hA2]
      rw [hpe] at h6
      exact ⟨rfl,h6⟩
     ·have hin : x.pos < t.length:=by
       rcases Nat.lt_or_ge x.pos t.length with h' | h'
       ·exact h'
       ·rw [nx_end h'] at he; exact absurd rfl he
      refine CE.skip ?_
      exact ⟨rfl,x.nxt t,_,⟨rfl,rfl,rfl,rfl,rfl,rfl,trivial⟩,hx4,hi4,hap4,⟨_,hwd4⟩,Or.inr ⟨rfl,hin,rfl,rfl⟩⟩
   ·rintro s _ w4 ⟨rfl,x',r',hs,hx4,hi4,hap4,⟨wd4,hwd4⟩,hcase⟩
    refine CE.sub hs ?_
    have hx4l:=hx4.lx.pos
    refine C0 ?_
    refine CE.cut (fun s ds w' => ds = [] ∧ SubL [(0,Ptr L 0),(1,I tp),(3,S nm),(4,v),(13,.int .i32 r')] s ∧ LS L ib B t dv x' ps w' ∧ LI L c x' w w' ∧ Apart L x' v d w' ∧ fmFind t d b x.pos = fmFind t d false x'.pos ∧ 2 * (t.length - x'.pos) < 2 * (t.length - x.pos) + (if b then 1 else 0)) ?_ ?_
    ·refine C0 ?_
     refine CE.cut (fun s ds w' => ds = [] ∧ w' = w4 ∧ SubL [(46,.bool (b || isEol r')),(0,Ptr L 0),(1,I tp),(3,S nm),(4,v),(13,.int .i32 r')] s) ?_ ?_
     ·cases b with
      | true =>
       repeat(first|refine C1 ?_|refine X1 rfl rfl ?_|refine X16 rfl rfl rfl rfl ?_|refine RE.nox rfl rfl rfl rfl ?_)
       refine RE.nilx ?_
       exact ⟨rfl,rfl,rfl,rfl,rfl,rfl,rfl,rfl,trivial⟩
      | false =>
       repeat(first|refine C1 ?_|refine X1 rfl rfl ?_|refine RE.want rfl rfl ?_)
       refine RE.xc en75 rfl rfl (isEol_fn _ _) ?_
       rintro _ w5 ⟨rfl,rfl⟩
       repeat (refine X17 rfl rfl rfl ?_)
       refine RE.nilx ?_
       exact ⟨rfl,rfl,rfl,rfl,rfl,rfl,rfl,rfl,trivial⟩
     ·rintro s _ w5 ⟨rfl,hw5,hs5⟩
      have hw5' : w4 = w5:=hw5.symm
      subst hw5'
      refine CE.sub hs5 ?_
      have hmeas : 2 * (t.length - x'.pos) < 2 * (t.length - x.pos) + (if b then 1 else 0):=by
       rcases hcase with ⟨hb,hxx⟩ | ⟨hb,hin,hxx,hr⟩
       ·subst hxx; subst hb; simp
       ·subst hxx; subst hb
        have:=nx_pos t hin
        show 2 * (t.length - (x.pos + (nx t x.pos).2)) < _
        simp
        omega
      refine CE.cond_s rfl (fun htt => ?_) (fun htt => ?_)
      ·repeat(first|refine C0 ?_|refine C1 ?_|refine X1 rfl rfl ?_)
       refine RE.xc en96 rfl rfl (hasP_fn hx4.lx hap4.hb) ?_
       rintro _ w5 ⟨rfl,e5⟩
       repeat (refine C2 ?_)
       refine CE.cond_s rfl (fun hpre => ?_) (fun hpre => ?_)
       ·have hfnd : fmFind t d b0 q = some x'.pos:=by
         rw [← hff,fmFind]
         rcases hcase with ⟨hb,hxx⟩ | ⟨hb,hin,hxx,hr⟩
         ·subst hb; subst hxx
          rw [if_pos rfl,if_pos hpre]
         ·subst hb; subst hxx
          rw [if_neg (by simp),dif_pos hin,if_pos]
          ·rfl
          ·simp only [Bool.false_or,hr] at htt
           simp only [htt,Bool.true_and]
           exact hpre
        have h3l : x'.pos + 3 ≤ t.length:=by
         have:=of_decide_eq_true hpre
         have:=congrArg List.length this
         simp at this
         omega
        rw [hfnd] at hA2
        dsimp only at hA2
        repeat(first|refine C0 ?_|refine C1 ?_|refine X1 rfl rfl ?_)
        refine RE.xc en97 rfl rfl (emit_fn (hx4.ext e5) (by omega)) ?_
        rintro _ w6 ⟨rfl,it,hi6,hx6⟩
        have hi6':=hi4.trans (LI.ext_l e5 hi6)
        have hB6:=hx6.lx.at_
        unfold AtL at hB6
        have hsm:=hx6.lx.small
        have hps6:=hx6.lx.pos
        repeat(first|refine C0 ?_|refine C1 ?_|refine X1 rfl rfl ?_|refine X2 rfl rfl ?_|refine X3 rfl rfl rfl ?_|refine X22 rfl rfl hB6 rfl rfl ?_|refine X18 rfl rfl (by omega) (by omega) rfl ?_|refine C2 ?_)
        refine RE.xs (e_store rfl rfl rfl hB6 rfl rfl) ?_
        rintro _ w7 hu7
        have hm7 : LM L { x' with start:=x'.pos,items:=it,pos:=x'.pos + 3 } w6 w7:=by
         refine LM.of_upd hu7 ?_
         have e : ((x'.pos + 3 : Nat) : Int) = (x'.pos : Int) + 3:=by omega
         simp only [LC.arr,e]
         rfl
        have hx7:=hx6.keep hm7 rfl rfl rfl h3l
        have hi7:=hi6'.trans (LI.of_lm hm7 rfl)
        obtain ⟨⟨wd8,hcr8⟩,_⟩:=crlf_eq t { x' with start:=x'.pos,items:=it,pos:=x'.pos + 3 }
        have hq8:=crE_le t h3l
        dsimp only at hcr8
        repeat(first|refine C0 ?_|refine C1 ?_|refine X1 rfl rfl ?_|refine C2 ?_)
        refine RE.xc en94 rfl rfl (crlf_fn hx7.lx) ?_
        rintro _ w8 ⟨rfl,h8⟩
        rw [hcr8] at h8
        have hx8:=hx7.keep h8 rfl rfl rfl hq8
        have hi8:=hi7.trans (LI.of_lm h8 rfl)
        repeat(first|refine C0 ?_|refine C1 ?_|refine X1 rfl rfl ?_|refine C2 ?_)
        refine RE.xc en95 rfl rfl (ignore_fn hx8.lx.at_) ?_
        rintro _ w9 ⟨rfl,h9⟩
        have hx9:=hx8.keep h9 rfl rfl rfl hq8
        have hi9:=hi8.trans (LI.of_lm h9 rfl)
        repeat (refine C2 ?_)
        refine CE.exit ?_
        rw [hA2]
        refine ⟨rfl,rfl,wd8,it,?_,?_⟩
        ·rw [hwd4] at hi9
         exact hi9
        ·have hst : x'.start = q:=by rw [hwd4]; rfl
         rw [hst] at hx9
         rw [hwd4] at hx9
         exact hx9
       ·refine CE.skip ?_
        refine ⟨rfl,⟨rfl,rfl,rfl,rfl,rfl,trivial⟩,hx4.ext e5,hi4.ext_r e5,hap4.li (LI.ext_l e5 (LI.refl (hx4.lx.at_.ext e5))),?_,hmeas⟩
        rw [fmFind]
        rcases hcase with ⟨hb,hxx⟩ | ⟨hb,hin,hxx,hr⟩
        ·subst hb; subst hxx
         rw [if_pos rfl,if_neg (by rw [hpre]; simp)]
        ·subst hb; subst hxx
         rw [if_neg (by simp),dif_pos hin,if_neg]
         ·rfl
         ·have hpre' : pre d (List.drop (x.pos + (nx t x.pos).2) t) = false:=hpre
          rw [hpre']; simp
      ·refine CE.skip ?_
       refine ⟨rfl,⟨rfl,rfl,rfl,rfl,rfl,trivial⟩,hx4,hi4,hap4,?_,hmeas⟩
       rw [fmFind]
       rcases hcase with ⟨hb,hxx⟩ | ⟨hb,hin,hxx,hr⟩
       ·subst hb; simp at htt
       ·subst hb; subst hxx
        rw [if_neg (by simp),dif_pos hin,if_neg]
        ·rfl
        ·simp only [Bool.false_or,hr] at htt
         rw [htt]; simp
    ·rintro s _ w5 ⟨rfl,hs5,hx5,hi5,hap5,hff5,hlt⟩
     refine CE.sub hs5 ?_
     repeat(first|refine C1 ?_|refine X0 rfl rfl ?_)
     refine RE.nilx ?_
     exact ⟨(false,r',x'),by simpa using hlt,rfl,⟨rfl,rfl,rfl,rfl,rfl,rfl,trivial⟩,hx5,hi5,hap5,⟨wd4,hwd4⟩,by rw [← hff,hff5]⟩
  ·rintro s _ w3 ⟨rfl,hA1,haf⟩
   repeat(first|refine C0 ?_|refine C1 ?_|refine X0 rfl rfl ?_|refine C2 ?_)
   (refine CE.ret ?_;(try dsimp only);refine ret1 rfl rfl ?_)
   rw [hA1]
   exact ⟨rfl,haf⟩
def inOut (t : List UInt8) (st p : Nat) : Value × Nat × Nat × List PI:=
 let p':=skipTo notSp t p
 let r:=(nx t p').1
 let q:=p' + (nx t p').2
 if r = -1 then (fnV 42,q,st,[]) else
 if r = 43 then (nextV (fmOut t bs70 4 43 st q).1,(fmOut t bs70 4 43 st q).2) else
 if r = 45 then (nextV (fmOut t bs71 3 45 st q).1,(fmOut t bs71 3 45 st q).2) else
 if r = 123 then (fnV 72,q,st,[]) else
 if r = 35 then (fnV 73,q,st,[]) else (fnV 42,q,st,[])
theorem After.chain {L ib B : Nat} {t dv : List UInt8} {c x : LC} {ps : List PI} {p0 s0 wd0 : Nat} {pos start : Nat} {more : List PI} {w w0 w' : World} (hx : x = c.mk3 p0 s0 wd0) (hi : LI L c x w w0)
  (h : After L ib B t dv x ps pos start more w0 w') : After L ib B t dv c ps pos start more w w':=by
 subst hx
 obtain ⟨wd,it,h1,h2⟩:=h
 exact ⟨wd,it,hi.trans h1,h2⟩
theorem After.none {L ib B : Nat} {t dv : List UInt8} {c x : LC} {ps : List PI} {p0 s0 wd0 : Nat} {w w0 : World} (hx : x = c.mk3 p0 s0 wd0) (hi : LI L c x w w0) (h : LS L ib B t dv x ps w0) :
  After L ib B t dv c ps p0 s0 [] w w0:=by
 subst hx
 exact ⟨wd0,c.items,hi,by rw [List.append_nil]; exact h⟩
def AfterW (L ib B : Nat) (t dv : List UInt8) (c : LC) (ps : List PI) (pos start : Nat) (more : List PI) (Q : Nat → Prop) (w w' : World) : Prop:=
 ∃ wd it,Q wd ∧ LI L c { c with pos:=pos,start:=start,width:=wd,items:=it } w w' ∧ LS L ib B t dv { c with pos:=pos,start:=start,width:=wd,items:=it } (ps ++ more) w'
theorem After.w {L ib B : Nat} {t dv : List UInt8} {c : LC} {ps : List PI} {pos start : Nat} {more : List PI} {Q : Nat → Prop} {w w' : World} (h : After L ib B t dv c ps pos start more w w') (hq : ∀ wd,Q wd) : AfterW L ib B t dv c ps pos start more Q w w':=by
 obtain ⟨wd,it,h1,h2⟩:=h
 exact ⟨wd,it,hq wd,h1,h2⟩
theorem After.noneW {L ib B : Nat} {t dv : List UInt8} {c x : LC} {ps : List PI} {p0 s0 wd0 : Nat} {Q : Nat → Prop} {w w0 : World} (hx : x = c.mk3 p0 s0 wd0) (hi : LI L c x w w0) (h : LS L ib B t dv x ps w0) (hq : Q wd0) :
  AfterW L ib B t dv c ps p0 s0 [] Q w w0:=by
 subst hx
 exact ⟨wd0,c.items,hq,hi,by rw [List.append_nil]; exact h⟩
def wQ (u : Value) (wd : Nat) : Prop:=(u = fnV 72 ∨ u = fnV 73) → wd = 1
theorem wQ_next (b : Bool) (wd : Nat) : wQ (nextV b) wd:=by
 intro h
 cases b <;> simp [nextV,fnV] at h
theorem wQ_main (wd : Nat) : wQ (fnV 42) wd:=by
 intro h
 simp [fnV] at h
theorem nx_one {t : List UInt8} {p : Nat} {r : Nat} (h : (nx t p).1 = (r : Int)) (hr : r < 128) : (nx t p).2 = 1:=by
 rcases Nat.lt_or_ge p t.length with hp | hp
 ·rw [nx_in hp] at h ⊢
  rw [Lib.decodeL_N] at h ⊢
  dsimp only at h ⊢
  rcases Lib.decodeN_shape (t.drop p).length ((t.drop p).getD 0 0).toNat ((t.drop p).getD 1 0).toNat ((t.drop p).getD 2 0).toNat ((t.drop p).getD 3 0).toNat with ⟨c,e⟩ | ⟨c1,c2,c3,cv,e⟩ | ⟨c1,c2,c3,c4,cv,cs,e⟩ | ⟨c1,c2,c3,c4,c5,cv,cw,e⟩ | e
  all_goals (rw [e] at h ⊢; try dsimp only at h ⊢; try omega)
 ·rw [nx_end hp] at h
  have : (-1 : Int) = (r : Int):=h
  omega
theorem intro_fnW {L ib B : Nat} {t dv : List UInt8} {c : LC} {ps : List PI} {w : World} (h : LS L ib B t dv c ps w) (hn : ps.length + 2 < 100000000) :
  Fn PT 41 [Ptr L 0] w (fun u w' => u = (inOut t c.start c.pos).1 ∧ AfterW L ib B t dv c ps (inOut t c.start c.pos).2.1 (inOut t c.start c.pos).2.2.1 (inOut t c.start c.pos).2.2.2 (wQ (inOut t c.start c.pos).1) w w'):=by
 refine fn_of Tryz.func41 rfl Tryz.ntmps41 rfl ?_
 repeat(first|refine C0 ?_|refine C1 ?_|refine X1 rfl rfl ?_|refine X0 rfl rfl ?_|refine X2 rfl rfl ?_|refine X3 rfl rfl rfl ?_|refine X4 rfl rfl rfl ?_|refine X5 rfl rfl rfl ?_|refine X6 rfl rfl rfl ?_|refine X7 rfl rfl rfl ?_|refine X8 rfl rfl rfl ?_|refine X9 rfl rfl rfl ?_|refine X10 rfl rfl rfl ?_|refine X12 rfl rfl ?_|refine X11 rfl rfl ?_|refine X13 rfl rfl rfl ?_|refine X14 rfl Tryz.underlying9 rfl ?_|refine X15 rfl rfl rfl ?_|refine X16 rfl rfl rfl rfl ?_|refine X17 rfl rfl rfl ?_|refine X18 rfl rfl (by omega) (by omega) rfl ?_|refine X19 rfl rfl (by omega) (by omega) rfl ?_|refine X20 rfl rfl rfl ?_|refine X21 rfl rfl rfl ?_|refine RE.want rfl rfl ?_|refine RE.nox rfl rfl rfl rfl ?_|refine RE.nou rfl rfl rfl ?_|refine C2 ?_|refine CE.scope ?_|refine CE.label (show CE _ _ _ _ _ _ _ from ?_)|refine C3 ?_|refine CE.exit (show CE _ _ _ _ _ _ _ from ?_))
 generalize hA : inOut t c.start c.pos = A
 refine CE.cut (fun s ds w' => ds = [] ∧ A.1 = fnV 42 ∧ AfterW L ib B t dv c ps A.2.1 A.2.2.1 A.2.2.2 (wQ A.1) w w') ?_ ?_
 ·refine CE.block ?_
  refine CE.loop (α:=LC) (fun x => [(0,Ptr L 0)]) (fun x w' => LS L ib B t dv x ps w' ∧ LI L c x w w' ∧ (∃ wd,x = c.mk3 x.pos c.start wd) ∧ skipTo notSp t x.pos = skipTo notSp t c.pos)
   (fun x => t.length - x.pos) c ⟨rfl,trivial⟩ ⟨h,LI.refl h.lx.at_,⟨c.width,rfl⟩,rfl⟩ ?_
  rintro x w0 ⟨hx,hi,⟨wd,hwd⟩,hsk⟩
  repeat(first|refine C0 ?_|refine C1 ?_|refine X1 rfl rfl ?_|refine X0 rfl rfl ?_|refine X2 rfl rfl ?_|refine X3 rfl rfl rfl ?_|refine X4 rfl rfl rfl ?_|refine X5 rfl rfl rfl ?_|refine X6 rfl rfl rfl ?_|refine X7 rfl rfl rfl ?_|refine X8 rfl rfl rfl ?_|refine X9 rfl rfl rfl ?_|refine X10 rfl rfl rfl ?_|refine X12 rfl rfl ?_|refine X11 rfl rfl ?_|refine X13 rfl rfl rfl ?_|refine X14 rfl Tryz.underlying9 rfl ?_|refine X15 rfl rfl rfl ?_|refine X16 rfl rfl rfl rfl ?_|refine X17 rfl rfl rfl ?_|refine X18 rfl rfl (by omega) (by omega) rfl ?_|refine X19 rfl rfl (by omega) (by omega) rfl ?_|refine X20 rfl rfl rfl ?_|refine X21 rfl rfl rfl ?_|refine RE.want rfl rfl ?_|refine RE.nox rfl rfl rfl rfl ?_|refine RE.nou rfl rfl rfl ?_|refine C2 ?_|refine CE.block ?_|refine CE.scope ?_|refine CE.label (show CE _ _ _ _ _ _ _ from ?_)|refine C3 ?_|refine CE.exit (show CE _ _ _ _ _ _ _ from ?_)|refine CE.cond_t rfl ?_|refine CE.cond_f rfl ?_)
  refine RE.xc en68 rfl rfl (next_fn hx.lx) ?_
  rintro _ w1 ⟨rfl,h1⟩
  have hx1:=hx.nxt h1
  have hi1:=hi.trans (LI.of_lm h1 rfl)
  have hwd1 : x.nxt t = c.mk3 (x.pos + (nx t x.pos).2) c.start (nx t x.pos).2:=by rw [hwd]; rfl
  have hstop : ∀ r,(nx t x.pos).1 = r → isSp r = false → A = (let p':=x.pos
    let r:=(nx t p').1
    let q:=p' + (nx t p').2
    if r = -1 then (fnV 42,q,c.start,[]) else
    if r = 43 then (nextV (fmOut t bs70 4 43 c.start q).1,(fmOut t bs70 4 43 c.start q).2) else
    if r = 45 then (nextV (fmOut t bs71 3 45 c.start q).1,(fmOut t bs71 3 45 c.start q).2) else
    if r = 123 then (fnV 72,q,c.start,[]) else
    if r = 35 then (fnV 73,q,c.start,[]) else (fnV 42,q,c.start,[])):=by
   intro r hr hsp
   have : skipTo notSp t c.pos = x.pos:=by
    rw [← hsk]
    exact skipTo_stop (Or.inr (by rw [hr]; simp [notSp,hsp]))
   rw [← hA]
   unfold inOut
   rw [this]
  dsimp only at hstop
  repeat(first|refine C0 ?_|refine C1 ?_|refine X1 rfl rfl ?_|refine X0 rfl rfl ?_|refine X2 rfl rfl ?_|refine X3 rfl rfl rfl ?_|refine X4 rfl rfl rfl ?_|refine X5 rfl rfl rfl ?_|refine X6 rfl rfl rfl ?_|refine X7 rfl rfl rfl ?_|refine X8 rfl rfl rfl ?_|refine X9 rfl rfl rfl ?_|refine X10 rfl rfl rfl ?_|refine X12 rfl rfl ?_|refine X11 rfl rfl ?_|refine X13 rfl rfl rfl ?_|refine X14 rfl Tryz.underlying9 rfl ?_|refine X15 rfl rfl rfl ?_|refine X16 rfl rfl rfl rfl ?_|refine X17 rfl rfl rfl ?_|refine X18 rfl rfl (by omega) (by omega) rfl ?_|refine X19 rfl rfl (by omega) (by omega) rfl ?_|refine X20 rfl rfl rfl ?_|refine X21 rfl rfl rfl ?_|refine RE.want rfl rfl ?_|refine RE.nox rfl rfl rfl rfl ?_|refine RE.nou rfl rfl rfl ?_|refine C2 ?_|refine CE.block ?_|refine CE.scope ?_|refine CE.label (show CE _ _ _ _ _ _ _ from ?_)|refine C3 ?_|refine CE.exit (show CE _ _ _ _ _ _ _ from ?_))
  refine CE.cond_d rfl (fun he => ?_) (fun he => ?_)
  ·refine CE.exit ?_
   have hA':=hstop (-1) he rfl
   rw [if_pos he] at hA'
   rw [hA']
   exact ⟨rfl,rfl,After.noneW hwd1 hi1 hx1 (wQ_main _)⟩
  rw [if_neg he] at hstop
  have hin : x.pos < t.length:=by
   rcases Nat.lt_or_ge x.pos t.length with h' | h'
   ·exact h'
   ·rw [nx_end h'] at he; exact absurd rfl he
  repeat(first|refine C0 ?_|refine C1 ?_|refine X1 rfl rfl ?_|refine X0 rfl rfl ?_|refine X2 rfl rfl ?_|refine X3 rfl rfl rfl ?_|refine X4 rfl rfl rfl ?_|refine X5 rfl rfl rfl ?_|refine X6 rfl rfl rfl ?_|refine X7 rfl rfl rfl ?_|refine X8 rfl rfl rfl ?_|refine X9 rfl rfl rfl ?_|refine X10 rfl rfl rfl ?_|refine X12 rfl rfl ?_|refine X11 rfl rfl ?_|refine X13 rfl rfl rfl ?_|refine X14 rfl Tryz.underlying9 rfl ?_|refine X15 rfl rfl rfl ?_|refine X16 rfl rfl rfl rfl ?_|refine X17 rfl rfl rfl ?_|refine X18 rfl rfl (by omega) (by omega) rfl ?_|refine X19 rfl rfl (by omega) (by omega) rfl ?_|refine X20 rfl rfl rfl ?_|refine X21 rfl rfl rfl ?_|refine RE.want rfl rfl ?_|refine RE.nox rfl rfl rfl rfl ?_|refine RE.nou rfl rfl rfl ?_|refine C2 ?_|refine CE.block ?_|refine CE.scope ?_|refine CE.label (show CE _ _ _ _ _ _ _ from ?_)|refine C3 ?_|refine CE.exit (show CE _ _ _ _ _ _ _ from ?_))
  refine CE.cond_d rfl (fun h43 => ?_) (fun h43 => ?_)
  ·have hA':=hstop 43 h43 rfl
   rw [if_pos h43] at hA'
   repeat(first|refine C0 ?_|refine C1 ?_|refine X1 rfl rfl ?_|refine X0 rfl rfl ?_|refine X2 rfl rfl ?_|refine X3 rfl rfl rfl ?_|refine X4 rfl rfl rfl ?_|refine X5 rfl rfl rfl ?_|refine X6 rfl rfl rfl ?_|refine X7 rfl rfl rfl ?_|refine X8 rfl rfl rfl ?_|refine X9 rfl rfl rfl ?_|refine X10 rfl rfl rfl ?_|refine X12 rfl rfl ?_|refine X11 rfl rfl ?_|refine X13 rfl rfl rfl ?_|refine X14 rfl Tryz.underlying9 rfl ?_|refine X15 rfl rfl rfl ?_|refine X16 rfl rfl rfl rfl ?_|refine X17 rfl rfl rfl ?_|refine X18 rfl rfl (by omega) (by omega) rfl ?_|refine X19 rfl rfl (by omega) (by omega) rfl ?_|refine X20 rfl rfl rfl ?_|refine X21 rfl rfl rfl ?_|refine RE.want rfl rfl ?_|refine RE.nox rfl rfl rfl rfl ?_|refine RE.nou rfl rfl rfl ?_|refine C2 ?_|refine CE.block ?_|refine CE.scope ?_|refine CE.label (show CE _ _ _ _ _ _ _ from ?_)|refine C3 ?_|refine CE.exit (show CE _ _ _ _ _ _ _ from ?_)|refine CE.cond_t rfl ?_|refine CE.cond_f rfl ?_)
   refine RE.xc en70 rfl rfl (delim70_fn _) ?_
   rintro v2 w2 ⟨b2,hb2,hlt2,e2⟩
   have hx2:=hx1.ext e2
   have hnb : (x.nxt t).items.ownBlock ≠ some b2:=by
    obtain ⟨xs,ho,_⟩:=hx1.own
    intro e
    have:=(ho.lt b2 e).2
    omega
   refine RE.xc en69 rfl rfl (fm_fn (c:=x.nxt t) (d:=bs70) hx2 hn ⟨⟨b2,hb2,by have:=hx1.lx.at_.lt; omega,hnb,?_⟩⟩ rfl he) ?_
   ·obtain ⟨a,cp,hv,hcp,hcl⟩:=hb2
    obtain ⟨o,_,hc0⟩:=hcl (by decide)
    exact World.block_lt_of_cell? w2 _ (hc0 0 (by decide))
   rintro _ w3 ⟨rfl,h3⟩
   repeat(first|refine C0 ?_|refine C1 ?_|refine X1 rfl rfl ?_|refine X0 rfl rfl ?_|refine X2 rfl rfl ?_|refine X3 rfl rfl rfl ?_|refine X4 rfl rfl rfl ?_|refine X5 rfl rfl rfl ?_|refine X6 rfl rfl rfl ?_|refine X7 rfl rfl rfl ?_|refine X8 rfl rfl rfl ?_|refine X9 rfl rfl rfl ?_|refine X10 rfl rfl rfl ?_|refine X12 rfl rfl ?_|refine X11 rfl rfl ?_|refine X13 rfl rfl rfl ?_|refine X14 rfl Tryz.underlying9 rfl ?_|refine X15 rfl rfl rfl ?_|refine X16 rfl rfl rfl rfl ?_|refine X17 rfl rfl rfl ?_|refine X18 rfl rfl (by omega) (by omega) rfl ?_|refine X19 rfl rfl (by omega) (by omega) rfl ?_|refine X20 rfl rfl rfl ?_|refine X21 rfl rfl rfl ?_|refine RE.want rfl rfl ?_|refine RE.nox rfl rfl rfl rfl ?_|refine RE.nou rfl rfl rfl ?_|refine C2 ?_|refine CE.block ?_|refine CE.scope ?_|refine CE.label (show CE _ _ _ _ _ _ _ from ?_)|refine C3 ?_|refine CE.exit (show CE _ _ _ _ _ _ _ from ?_)|refine CE.cond_t rfl ?_|refine CE.cond_f rfl ?_)
   (refine CE.ret ?_;(try dsimp only);refine ret1 rfl rfl ?_)
   rw [h43] at h3 ⊢
   rw [hA']
   have hst : (x.nxt t).start = c.start:=by rw [hwd1]; rfl
   have hps : (x.nxt t).pos = x.pos + (nx t x.pos).2:=rfl
   rw [hst,hps] at h3 ⊢
   exact ⟨rfl,(h3.chain hwd1 (hi1.ext_r e2)).w (wQ_next _)⟩
  rw [if_neg h43] at hstop
  repeat(first|refine C0 ?_|refine C1 ?_|refine X1 rfl rfl ?_|refine X0 rfl rfl ?_|refine X2 rfl rfl ?_|refine X3 rfl rfl rfl ?_|refine X4 rfl rfl rfl ?_|refine X5 rfl rfl rfl ?_|refine X6 rfl rfl rfl ?_|refine X7 rfl rfl rfl ?_|refine X8 rfl rfl rfl ?_|refine X9 rfl rfl rfl ?_|refine X10 rfl rfl rfl ?_|refine X12 rfl rfl ?_|refine X11 rfl rfl ?_|refine X13 rfl rfl rfl ?_|refine X14 rfl Tryz.underlying9 rfl ?_|refine X15 rfl rfl rfl ?_|refine X16 rfl rfl rfl rfl ?_|refine X17 rfl rfl rfl ?_|refine X18 rfl rfl (by omega) (by omega) rfl ?_|refine X19 rfl rfl (by omega) (by omega) rfl ?_|refine X20 rfl rfl rfl ?_|refine X21 rfl rfl rfl ?_|refine RE.want rfl rfl ?_|refine RE.nox rfl rfl rfl rfl ?_|refine RE.nou rfl rfl rfl ?_|refine C2 ?_|refine CE.block ?_|refine CE.scope ?_|refine CE.label (show CE _ _ _ _ _ _ _ from ?_)|refine C3 ?_|refine CE.exit (show CE _ _ _ _ _ _ _ from ?_))
  refine CE.cond_d rfl (fun h45 => ?_) (fun h45 => ?_)
  ·have hA':=hstop 45 h45 rfl
   rw [if_pos h45] at hA'
   repeat(first|refine C0 ?_|refine C1 ?_|refine X1 rfl rfl ?_|refine X0 rfl rfl ?_|refine X2 rfl rfl ?_|refine X3 rfl rfl rfl ?_|refine X4 rfl rfl rfl ?_|refine X5 rfl rfl rfl ?_|refine X6 rfl rfl rfl ?_|refine X7 rfl rfl rfl ?_|refine X8 rfl rfl rfl ?_|refine X9 rfl rfl rfl ?_|refine X10 rfl rfl rfl ?_|refine X12 rfl rfl ?_|refine X11 rfl rfl ?_|refine X13 rfl rfl rfl ?_|refine X14 rfl Tryz.underlying9 rfl ?_|refine X15 rfl rfl rfl ?_|refine X16 rfl rfl rfl rfl ?_|refine X17 rfl rfl rfl ?_|refine X18 rfl rfl (by omega) (by omega) rfl ?_|refine X19 rfl rfl (by omega) (by omega) rfl ?_|refine X20 rfl rfl rfl ?_|refine X21 rfl rfl rfl ?_|refine RE.want rfl rfl ?_|refine RE.nox rfl rfl rfl rfl ?_|refine RE.nou rfl rfl rfl ?_|refine C2 ?_|refine CE.block ?_|refine CE.scope ?_|refine CE.label (show CE _ _ _ _ _ _ _ from ?_)|refine C3 ?_|refine CE.exit (show CE _ _ _ _ _ _ _ from ?_)|refine CE.cond_t rfl ?_|refine CE.cond_f rfl ?_)
   refine RE.xc en71 rfl rfl (delim71_fn _) ?_
   rintro v2 w2 ⟨b2,hb2,hlt2,e2⟩
   have hx2:=hx1.ext e2
   have hnb : (x.nxt t).items.ownBlock ≠ some b2:=by
    obtain ⟨xs,ho,_⟩:=hx1.own
    intro e
    have:=(ho.lt b2 e).2
    omega
   refine RE.xc en69 rfl rfl (fm_fn (c:=x.nxt t) (d:=bs71) hx2 hn ⟨⟨b2,hb2,by have:=hx1.lx.at_.lt; omega,hnb,?_⟩⟩ rfl he) ?_
   ·obtain ⟨a,cp,hv,hcp,hcl⟩:=hb2
    obtain ⟨o,_,hc0⟩:=hcl (by decide)
    exact World.block_lt_of_cell? w2 _ (hc0 0 (by decide))
   rintro _ w3 ⟨rfl,h3⟩
   repeat(first|refine C0 ?_|refine C1 ?_|refine X1 rfl rfl ?_|refine X0 rfl rfl ?_|refine X2 rfl rfl ?_|refine X3 rfl rfl rfl ?_|refine X4 rfl rfl rfl ?_|refine X5 rfl rfl rfl ?_|refine X6 rfl rfl rfl ?_|refine X7 rfl rfl rfl ?_|refine X8 rfl rfl rfl ?_|refine X9 rfl rfl rfl ?_|refine X10 rfl rfl rfl ?_|refine X12 rfl rfl ?_|refine X11 rfl rfl ?_|refine X13 rfl rfl rfl ?_|refine X14 rfl Tryz.underlying9 rfl ?_|refine X15 rfl rfl rfl ?_|refine X16 rfl rfl rfl rfl ?_|refine X17 rfl rfl rfl ?_|refine X18 rfl rfl (by omega) (by omega) rfl ?_|refine X19 rfl rfl (by omega) (by omega) rfl ?_|refine X20 rfl rfl rfl ?_|refine X21 rfl rfl rfl ?_|refine RE.want rfl rfl ?_|refine RE.nox rfl rfl rfl rfl ?_|refine RE.nou rfl rfl rfl ?_|refine C2 ?_|refine CE.block ?_|refine CE.scope ?_|refine CE.label (show CE _ _ _ _ _ _ _ from ?_)|refine C3 ?_|refine CE.exit (show CE _ _ _ _ _ _ _ from ?_)|refine CE.cond_t rfl ?_|refine CE.cond_f rfl ?_)
   (refine CE.ret ?_;(try dsimp only);refine ret1 rfl rfl ?_)
   rw [h45] at h3 ⊢
   rw [hA']
   have hst : (x.nxt t).start = c.start:=by rw [hwd1]; rfl
   have hps : (x.nxt t).pos = x.pos + (nx t x.pos).2:=rfl
   rw [hst,hps] at h3 ⊢
   exact ⟨rfl,(h3.chain hwd1 (hi1.ext_r e2)).w (wQ_next _)⟩
  rw [if_neg h45] at hstop
  repeat(first|refine C0 ?_|refine C1 ?_|refine X1 rfl rfl ?_|refine X0 rfl rfl ?_|refine X2 rfl rfl ?_|refine X3 rfl rfl rfl ?_|refine X4 rfl rfl rfl ?_|refine X5 rfl rfl rfl ?_|refine X6 rfl rfl rfl ?_|refine X7 rfl rfl rfl ?_|refine X8 rfl rfl rfl ?_|refine X9 rfl rfl rfl ?_|refine X10 rfl rfl rfl ?_|refine X12 rfl rfl ?_|refine X11 rfl rfl ?_|refine X13 rfl rfl rfl ?_|refine X14 rfl Tryz.underlying9 rfl ?_|refine X15 rfl rfl rfl ?_|refine X16 rfl rfl rfl rfl ?_|refine X17 rfl rfl rfl ?_|refine X18 rfl rfl (by omega) (by omega) rfl ?_|refine X19 rfl rfl (by omega) (by omega) rfl ?_|refine X20 rfl rfl rfl ?_|refine X21 rfl rfl rfl ?_|refine RE.want rfl rfl ?_|refine RE.nox rfl rfl rfl rfl ?_|refine RE.nou rfl rfl rfl ?_|refine C2 ?_|refine CE.block ?_|refine CE.scope ?_|refine CE.label (show CE _ _ _ _ _ _ _ from ?_)|refine C3 ?_|refine CE.exit (show CE _ _ _ _ _ _ _ from ?_))
  refine CE.cond_d rfl (fun h123 => ?_) (fun h123 => ?_)
  ·have hA':=hstop 123 h123 rfl
   rw [if_pos h123] at hA'
   repeat(first|refine C0 ?_|refine C1 ?_|refine X1 rfl rfl ?_|refine X0 rfl rfl ?_|refine X2 rfl rfl ?_|refine X3 rfl rfl rfl ?_|refine X4 rfl rfl rfl ?_|refine X5 rfl rfl rfl ?_|refine X6 rfl rfl rfl ?_|refine X7 rfl rfl rfl ?_|refine X8 rfl rfl rfl ?_|refine X9 rfl rfl rfl ?_|refine X10 rfl rfl rfl ?_|refine X12 rfl rfl ?_|refine X11 rfl rfl ?_|refine X13 rfl rfl rfl ?_|refine X14 rfl Tryz.underlying9 rfl ?_|refine X15 rfl rfl rfl ?_|refine X16 rfl rfl rfl rfl ?_|refine X17 rfl rfl rfl ?_|refine X18 rfl rfl (by omega) (by omega) rfl ?_|refine X19 rfl rfl (by omega) (by omega) rfl ?_|refine X20 rfl rfl rfl ?_|refine X21 rfl rfl rfl ?_|refine RE.want rfl rfl ?_|refine RE.nox rfl rfl rfl rfl ?_|refine RE.nou rfl rfl rfl ?_|refine C2 ?_|refine CE.block ?_|refine CE.scope ?_|refine CE.label (show CE _ _ _ _ _ _ _ from ?_)|refine C3 ?_|refine CE.exit (show CE _ _ _ _ _ _ _ from ?_)|refine CE.cond_t rfl ?_|refine CE.cond_f rfl ?_)
   (refine CE.ret ?_;(try dsimp only);refine ret1 rfl rfl ?_)
   rw [hA']
   exact ⟨rfl,After.noneW hwd1 hi1 hx1 (fun _ => nx_one (r:=123) h123 (by decide))⟩
  rw [if_neg h123] at hstop
  repeat(first|refine C0 ?_|refine C1 ?_|refine X1 rfl rfl ?_|refine X0 rfl rfl ?_|refine X2 rfl rfl ?_|refine X3 rfl rfl rfl ?_|refine X4 rfl rfl rfl ?_|refine X5 rfl rfl rfl ?_|refine X6 rfl rfl rfl ?_|refine X7 rfl rfl rfl ?_|refine X8 rfl rfl rfl ?_|refine X9 rfl rfl rfl ?_|refine X10 rfl rfl rfl ?_|refine X12 rfl rfl ?_|refine X11 rfl rfl ?_|refine X13 rfl rfl rfl ?_|refine X14 rfl Tryz.underlying9 rfl ?_|refine X15 rfl rfl rfl ?_|refine X16 rfl rfl rfl rfl ?_|refine X17 rfl rfl rfl ?_|refine X18 rfl rfl (by omega) (by omega) rfl ?_|refine X19 rfl rfl (by omega) (by omega) rfl ?_|refine X20 rfl rfl rfl ?_|refine X21 rfl rfl rfl ?_|refine RE.want rfl rfl ?_|refine RE.nox rfl rfl rfl rfl ?_|refine RE.nou rfl rfl rfl ?_|refine C2 ?_|refine CE.block ?_|refine CE.scope ?_|refine CE.label (show CE _ _ _ _ _ _ _ from ?_)|refine C3 ?_|refine CE.exit (show CE _ _ _ _ _ _ _ from ?_))
  refine CE.cond_d rfl (fun h35 => ?_) (fun h35 => ?_)
  ·have hA':=hstop 35 h35 rfl
   rw [if_pos h35] at hA'
   repeat(first|refine C0 ?_|refine C1 ?_|refine X1 rfl rfl ?_|refine X0 rfl rfl ?_|refine X2 rfl rfl ?_|refine X3 rfl rfl rfl ?_|refine X4 rfl rfl rfl ?_|refine X5 rfl rfl rfl ?_|refine X6 rfl rfl rfl ?_|refine X7 rfl rfl rfl ?_|refine X8 rfl rfl rfl ?_|refine X9 rfl rfl rfl ?_|refine X10 rfl rfl rfl ?_|refine X12 rfl rfl ?_|refine X11 rfl rfl ?_|refine X13 rfl rfl rfl ?_|refine X14 rfl Tryz.underlying9 rfl ?_|refine X15 rfl rfl rfl ?_|refine X16 rfl rfl rfl rfl ?_|refine X17 rfl rfl rfl ?_|refine X18 rfl rfl (by omega) (by omega) rfl ?_|refine X19 rfl rfl (by omega) (by omega) rfl ?_|refine X20 rfl rfl rfl ?_|refine X21 rfl rfl rfl ?_|refine RE.want rfl rfl ?_|refine RE.nox rfl rfl rfl rfl ?_|refine RE.nou rfl rfl rfl ?_|refine C2 ?_|refine CE.block ?_|refine CE.scope ?_|refine CE.label (show CE _ _ _ _ _ _ _ from ?_)|refine C3 ?_|refine CE.exit (show CE _ _ _ _ _ _ _ from ?_)|refine CE.cond_t rfl ?_|refine CE.cond_f rfl ?_)
   (refine CE.ret ?_;(try dsimp only);refine ret1 rfl rfl ?_)
   rw [hA']
   exact ⟨rfl,After.noneW hwd1 hi1 hx1 (fun _ => nx_one (r:=35) h35 (by decide))⟩
  rw [if_neg h35] at hstop
  repeat(first|refine C0 ?_|refine C1 ?_|refine X1 rfl rfl ?_|refine X0 rfl rfl ?_|refine X2 rfl rfl ?_|refine X3 rfl rfl rfl ?_|refine X4 rfl rfl rfl ?_|refine X5 rfl rfl rfl ?_|refine X6 rfl rfl rfl ?_|refine X7 rfl rfl rfl ?_|refine X8 rfl rfl rfl ?_|refine X9 rfl rfl rfl ?_|refine X10 rfl rfl rfl ?_|refine X12 rfl rfl ?_|refine X11 rfl rfl ?_|refine X13 rfl rfl rfl ?_|refine X14 rfl Tryz.underlying9 rfl ?_|refine X15 rfl rfl rfl ?_|refine X16 rfl rfl rfl rfl ?_|refine X17 rfl rfl rfl ?_|refine X18 rfl rfl (by omega) (by omega) rfl ?_|refine X19 rfl rfl (by omega) (by omega) rfl ?_|refine X20 rfl rfl rfl ?_|refine X21 rfl rfl rfl ?_|refine RE.want rfl rfl ?_|refine RE.nox rfl rfl rfl rfl ?_|refine RE.nou rfl rfl rfl ?_|refine C2 ?_|refine CE.block ?_|refine CE.scope ?_|refine CE.label (show CE _ _ _ _ _ _ _ from ?_)|refine C3 ?_|refine CE.exit (show CE _ _ _ _ _ _ _ from ?_))
  refine RE.xc en74 rfl rfl (isSp_fn _ _) ?_
  rintro _ w2 ⟨rfl,rfl⟩
  repeat(first|refine C0 ?_|refine C1 ?_|refine X1 rfl rfl ?_|refine X0 rfl rfl ?_|refine X2 rfl rfl ?_|refine X3 rfl rfl rfl ?_|refine X4 rfl rfl rfl ?_|refine X5 rfl rfl rfl ?_|refine X6 rfl rfl rfl ?_|refine X7 rfl rfl rfl ?_|refine X8 rfl rfl rfl ?_|refine X9 rfl rfl rfl ?_|refine X10 rfl rfl rfl ?_|refine X12 rfl rfl ?_|refine X11 rfl rfl ?_|refine X13 rfl rfl rfl ?_|refine X14 rfl Tryz.underlying9 rfl ?_|refine X15 rfl rfl rfl ?_|refine X16 rfl rfl rfl rfl ?_|refine X17 rfl rfl rfl ?_|refine X18 rfl rfl (by omega) (by omega) rfl ?_|refine X19 rfl rfl (by omega) (by omega) rfl ?_|refine X20 rfl rfl rfl ?_|refine X21 rfl rfl rfl ?_|refine RE.want rfl rfl ?_|refine RE.nox rfl rfl rfl rfl ?_|refine RE.nou rfl rfl rfl ?_|refine C2 ?_|refine CE.block ?_|refine CE.scope ?_|refine CE.label (show CE _ _ _ _ _ _ _ from ?_)|refine C3 ?_|refine CE.exit (show CE _ _ _ _ _ _ _ from ?_)|refine CE.cond_t rfl ?_|refine CE.cond_f rfl ?_)
  refine RE.splitH (fun hsp => ?_) (fun hsp => ?_)
  ·repeat(first|refine C0 ?_|refine C1 ?_|refine X1 rfl rfl ?_|refine X0 rfl rfl ?_|refine X2 rfl rfl ?_|refine X3 rfl rfl rfl ?_|refine X4 rfl rfl rfl ?_|refine X5 rfl rfl rfl ?_|refine X6 rfl rfl rfl ?_|refine X7 rfl rfl rfl ?_|refine X8 rfl rfl rfl ?_|refine X9 rfl rfl rfl ?_|refine X10 rfl rfl rfl ?_|refine X12 rfl rfl ?_|refine X11 rfl rfl ?_|refine X13 rfl rfl rfl ?_|refine X14 rfl Tryz.underlying9 rfl ?_|refine X15 rfl rfl rfl ?_|refine X16 rfl rfl rfl rfl ?_|refine X17 rfl rfl rfl ?_|refine X18 rfl rfl (by omega) (by omega) rfl ?_|refine X19 rfl rfl (by omega) (by omega) rfl ?_|refine X20 rfl rfl rfl ?_|refine X21 rfl rfl rfl ?_|refine RE.want rfl rfl ?_|refine RE.nox rfl rfl rfl rfl ?_|refine RE.nou rfl rfl rfl ?_|refine C2 ?_|refine CE.block ?_|refine CE.scope ?_|refine CE.label (show CE _ _ _ _ _ _ _ from ?_)|refine C3 ?_|refine CE.exit (show CE _ _ _ _ _ _ _ from ?_)|refine CE.cond_t rfl ?_|refine CE.cond_f rfl ?_)
   refine RE.xc en75 rfl rfl (isEol_fn _ _) ?_
   rintro _ w3 ⟨rfl,rfl⟩
   have hsp' : isSp (nx t x.pos).1 = false:=by simpa using hsp
   have hne : isEol (nx t x.pos).1 = false:=by
    simp only [isSp,Bool.or_eq_false_iff,decide_eq_false_iff_not] at hsp'
    simp [isEol]
    omega
   rw [hne]
   repeat(first|refine C0 ?_|refine C1 ?_|refine X1 rfl rfl ?_|refine X0 rfl rfl ?_|refine X2 rfl rfl ?_|refine X3 rfl rfl rfl ?_|refine X4 rfl rfl rfl ?_|refine X5 rfl rfl rfl ?_|refine X6 rfl rfl rfl ?_|refine X7 rfl rfl rfl ?_|refine X8 rfl rfl rfl ?_|refine X9 rfl rfl rfl ?_|refine X10 rfl rfl rfl ?_|refine X12 rfl rfl ?_|refine X11 rfl rfl ?_|refine X13 rfl rfl rfl ?_|refine X14 rfl Tryz.underlying9 rfl ?_|refine X15 rfl rfl rfl ?_|refine X16 rfl rfl rfl rfl ?_|refine X17 rfl rfl rfl ?_|refine X18 rfl rfl (by omega) (by omega) rfl ?_|refine X19 rfl rfl (by omega) (by omega) rfl ?_|refine X20 rfl rfl rfl ?_|refine X21 rfl rfl rfl ?_|refine RE.want rfl rfl ?_|refine RE.nox rfl rfl rfl rfl ?_|refine RE.nou rfl rfl rfl ?_|refine C2 ?_|refine CE.block ?_|refine CE.scope ?_|refine CE.label (show CE _ _ _ _ _ _ _ from ?_)|refine C3 ?_|refine CE.exit (show CE _ _ _ _ _ _ _ from ?_)|refine CE.cond_t rfl ?_|refine CE.cond_f rfl ?_)
   refine CE.exit ?_
   have hA':=hstop _ rfl hsp'
   rw [hA']
   exact ⟨rfl,rfl,After.noneW hwd1 hi1 hx1 (wQ_main _)⟩
  ·have hsp' : isSp (nx t x.pos).1 = true:=by simpa using hsp
   repeat(first|refine C0 ?_|refine C1 ?_|refine X1 rfl rfl ?_|refine X0 rfl rfl ?_|refine X2 rfl rfl ?_|refine X3 rfl rfl rfl ?_|refine X4 rfl rfl rfl ?_|refine X5 rfl rfl rfl ?_|refine X6 rfl rfl rfl ?_|refine X7 rfl rfl rfl ?_|refine X8 rfl rfl rfl ?_|refine X9 rfl rfl rfl ?_|refine X10 rfl rfl rfl ?_|refine X12 rfl rfl ?_|refine X11 rfl rfl ?_|refine X13 rfl rfl rfl ?_|refine X14 rfl Tryz.underlying9 rfl ?_|refine X15 rfl rfl rfl ?_|refine X16 rfl rfl rfl rfl ?_|refine X17 rfl rfl rfl ?_|refine X18 rfl rfl (by omega) (by omega) rfl ?_|refine X19 rfl rfl (by omega) (by omega) rfl ?_|refine X20 rfl rfl rfl ?_|refine X21 rfl rfl rfl ?_|refine RE.want rfl rfl ?_|refine RE.nox rfl rfl rfl rfl ?_|refine RE.nou rfl rfl rfl ?_|refine C2 ?_|refine CE.block ?_|refine CE.scope ?_|refine CE.label (show CE _ _ _ _ _ _ _ from ?_)|refine C3 ?_|refine CE.exit (show CE _ _ _ _ _ _ _ from ?_)|refine CE.cond_t rfl ?_|refine CE.cond_f rfl ?_)
   refine CE.skip ?_
   refine ⟨x.nxt t,?_,rfl,⟨rfl,trivial⟩,hx1,hi1,⟨_,hwd1⟩,?_⟩
   ·show t.length - (x.pos + (nx t x.pos).2) < t.length - x.pos
    have:=nx_pos t hin
    omega
   ·rw [← hsk,skipTo_go hin (by simp [notSp,hsp'])]
    rfl
 ·rintro s _ w3 ⟨rfl,hA1,haf⟩
  repeat(first|refine C0 ?_|refine C1 ?_|refine X1 rfl rfl ?_|refine X0 rfl rfl ?_|refine X2 rfl rfl ?_|refine X3 rfl rfl rfl ?_|refine X4 rfl rfl rfl ?_|refine X5 rfl rfl rfl ?_|refine X6 rfl rfl rfl ?_|refine X7 rfl rfl rfl ?_|refine X8 rfl rfl rfl ?_|refine X9 rfl rfl rfl ?_|refine X10 rfl rfl rfl ?_|refine X12 rfl rfl ?_|refine X11 rfl rfl ?_|refine X13 rfl rfl rfl ?_|refine X14 rfl Tryz.underlying9 rfl ?_|refine X15 rfl rfl rfl ?_|refine X16 rfl rfl rfl rfl ?_|refine X17 rfl rfl rfl ?_|refine X18 rfl rfl (by omega) (by omega) rfl ?_|refine X19 rfl rfl (by omega) (by omega) rfl ?_|refine X20 rfl rfl rfl ?_|refine X21 rfl rfl rfl ?_|refine RE.want rfl rfl ?_|refine RE.nox rfl rfl rfl rfl ?_|refine RE.nou rfl rfl rfl ?_|refine C2 ?_|refine CE.block ?_|refine CE.scope ?_|refine CE.label (show CE _ _ _ _ _ _ _ from ?_)|refine C3 ?_|refine CE.exit (show CE _ _ _ _ _ _ _ from ?_)|refine CE.cond_t rfl ?_|refine CE.cond_f rfl ?_)
  (refine CE.ret ?_;(try dsimp only);refine ret1 rfl rfl ?_)
  rw [hA1] at haf ⊢
  exact ⟨rfl,haf⟩
end Go.Wk
