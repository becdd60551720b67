/- The handlers' skip. -/
import Derived.Test.YtmbencknblcocaaGreatDoorYap
namespace Go.Wk
open Go Go.RowKit Go.Proofs
set_option maxRecDepth 100000
def minGo : Int → List Int → Int
 | m,[] => m
 | m,j :: r => if j < 0 then minGo m r else if m = -1 then minGo j r else if j < m then minGo j r else minGo m r
theorem minIndex_fn {B : Nat} {w : World} {v : Value} {xs : List Int} (h : w.ownsRow B 3 1 v xs.length (xs.map I)) (hx : ∀ x ∈ xs,-1 ≤ x ∧ x ≤ 1000000) (hl : xs.length ≤ 1000) :
  Fn PT 102 [v] w (fun u w' => u = I (minGo (-1) xs) ∧ w' = w):=by
 obtain ⟨a,cp,rfl⟩ : ∃ a cp,v = .slice a xs.length cp:=by
  rcases h.2 with ⟨rfl,h0⟩ | ⟨g,cap,cur,rfl,_⟩
  ·exact ⟨none,0,by rw [h0]⟩
  ·exact ⟨_,_,rfl⟩
 refine fn_of Tryz.func102 rfl Tryz.ntmps102 rfl ?_
 repeat(first|refine C0 ?_|refine C1 ?_|refine X1 rfl rfl ?_|refine X0 rfl rfl ?_|refine X13 rfl rfl rfl ?_|refine C2 ?_)
 refine CE.cut (fun s ds w' => ds = [] ∧ w' = w ∧ SubL [(3,I (minGo (-1) xs))] s) ?_ ?_
 ·refine CE.block ?_
  refine CE.loop (α:=Nat × Int) (fun x => [(8,I x.1),(7,I xs.length),(6,.slice a xs.length cp),(3,I x.2)]) (fun x w' => w' = w ∧ x.1 ≤ xs.length ∧ minGo x.2 (xs.drop x.1) = minGo (-1) xs) (fun x => xs.length + 1 - x.1) (0,-1) ⟨rfl,rfl,rfl,rfl,trivial⟩ ⟨rfl,Nat.zero_le _,rfl⟩ ?_
  rintro ⟨i,m⟩ w0 ⟨hw0,hi',hm'⟩
  have hi : i ≤ xs.length:=hi'
  have hm : minGo m (xs.drop i) = minGo (-1) xs:=hm'
  clear hi' hm'
  subst hw0
  refine (show CE _ _ _ _ [(8,I i),(7,I xs.length),(6,.slice a xs.length cp),(3,I m)] _ _ from ?_)
  repeat(first|refine C0 ?_|refine C1 ?_|refine X7 rfl rfl rfl ?_|refine C2 ?_)
  refine CE.cond_d rfl (fun hlt => ?_) (fun hlt => ?_)
  ·have hlt' : i < xs.length:=by omega
   obtain ⟨g,cap,cur,hv,hbg,hg,hnc,hcm,hcs,htake⟩:=h.2.resolve_left (by rintro ⟨_,h⟩; omega)
   simp only [Value.slice.injEq] at hv
   obtain ⟨rfl,_,rfl⟩:=hv
   have hcell : w0.cell? ⟨g,0 + (i : Int).toNat * 1,none⟩ = some (I xs[i]):=by
    have e1 : 0 + (i : Int).toNat * 1 = i:=by omega
    rw [e1]
    refine cell_of hg ?_
    have h3 : (cur.toList.take (xs.length * 1))[i]? = some (I xs[i]):=by rw [htake]; simp [hlt']
    rw [List.getElem?_take,if_pos (by omega)] at h3
    simpa using h3
   have hd:=List.drop_eq_getElem_cons hlt'
   have hxi:=hx xs[i] (List.getElem_mem hlt')
   generalize xs[i] = j at hcell hd hxi
   rw [hd] at hm
   repeat(first|refine C0 ?_|refine C3 ?_)
   refine CE.block ?_
   repeat(first|refine C0 ?_|refine C1 ?_)
   refine RE.x (op_indexAddr rfl rfl rfl (by omega) (by omega)) rfl ?_
   refine RE.x (op_load rfl rfl hcell) rfl ?_
   repeat(first|refine C0 ?_|refine C1 ?_|refine X1 rfl rfl ?_|refine X0 rfl rfl ?_|refine X7 rfl rfl rfl ?_|refine C2 ?_)
   refine CE.cond_d rfl (fun hneg => ?_) (fun hneg => ?_)
   ·rw [minGo,if_pos hneg] at hm
    refine CE.exit (show CE _ _ _ _ _ _ _ from ?_)
    repeat(first|refine C1 ?_|refine X1 rfl rfl ?_|refine X18 rfl rfl (by omega) (by omega) rfl ?_)
    refine RE.nilx ?_
    exact ⟨(i + 1,m),by show xs.length + 1 - (i + 1) < xs.length + 1 - i; omega,rfl,⟨rfl,rfl,rfl,rfl,trivial⟩,rfl,by show i + 1 ≤ xs.length; omega,hm⟩
   ·rw [minGo,if_neg hneg] at hm
    repeat(first|refine C0 ?_|refine C1 ?_|refine X1 rfl rfl ?_|refine X5 rfl rfl rfl ?_|refine C2 ?_|refine C3 ?_)
    refine CE.cond_d rfl (fun hm1 => ?_) (fun hm1 => ?_)
    ·rw [if_pos hm1] at hm
     repeat(first|refine C1 ?_|refine X1 rfl rfl ?_|refine X0 rfl rfl ?_|refine X18 rfl rfl (by omega) (by omega) rfl ?_|refine C2 ?_)
     refine RE.nilx ?_
     exact ⟨(i + 1,j),by show xs.length + 1 - (i + 1) < xs.length + 1 - i; omega,rfl,⟨rfl,rfl,rfl,rfl,trivial⟩,rfl,by show i + 1 ≤ xs.length; omega,hm⟩
    ·rw [if_neg hm1] at hm
     repeat(first|refine C0 ?_|refine C1 ?_|refine X1 rfl rfl ?_|refine X7 rfl rfl rfl ?_|refine C2 ?_)
     refine CE.cond_d rfl (fun hjm => ?_) (fun hjm => ?_)
     ·rw [if_pos hjm] at hm
      repeat(first|refine C1 ?_|refine X1 rfl rfl ?_|refine X0 rfl rfl ?_|refine X18 rfl rfl (by omega) (by omega) rfl ?_|refine C2 ?_)
      refine RE.nilx ?_
      exact ⟨(i + 1,j),by show xs.length + 1 - (i + 1) < xs.length + 1 - i; omega,rfl,⟨rfl,rfl,rfl,rfl,trivial⟩,rfl,by show i + 1 ≤ xs.length; omega,hm⟩
     ·rw [if_neg hjm] at hm
      repeat(first|refine C1 ?_|refine X1 rfl rfl ?_|refine X18 rfl rfl (by omega) (by omega) rfl ?_|refine C3 ?_)
      refine RE.nilx ?_
      exact ⟨(i + 1,m),by show xs.length + 1 - (i + 1) < xs.length + 1 - i; omega,rfl,⟨rfl,rfl,rfl,rfl,trivial⟩,rfl,by show i + 1 ≤ xs.length; omega,hm⟩
  ·refine CE.exit ?_
   refine ⟨rfl,rfl,?_,trivial⟩
   rw [← hm,List.drop_eq_nil_of_le (by omega)]
   rfl
 ·rintro s _ w1 ⟨rfl,hw1,hs⟩
  subst hw1
  refine CE.sub hs ?_
  repeat(first|refine C0 ?_|refine C1 ?_|refine X1 rfl rfl ?_|refine X0 rfl rfl ?_|refine C2 ?_)
  (refine CE.ret ?_;(try dsimp only);refine ret1 rfl rfl ?_)
  exact ⟨rfl,rfl⟩
theorem hskip_fn {L hb f g : Nat} {s1 : Bool} {i : Int} {w : World} (hen : Enters PT f) (h : w.heap[hb]? = some (.cells #[Ptr L 0,.bool s1,fnV f,fnV g] 111 (0,0))) (hf : ∀ w',Ext w w' → Fn PT f [Ptr L 0] w' (fun u w'' => u = I i ∧ Ext w' w'')) (hs : s1 = true → i = -1) :
  Fn PT 101 [Ptr hb 0] w (fun u w' => u = I i ∧ w'.heap[hb]? = some (.cells #[Ptr L 0,.bool (decide (i = -1)),fnV f,fnV g] 111 (0,0)) ∧ Fr (· = hb) w w'):=by
 refine fn_of Tryz.func101 rfl Tryz.ntmps101 rfl ?_
 repeat(first|refine C0 ?_|refine C1 ?_|refine X1 rfl rfl ?_|refine X0 rfl rfl ?_|refine X2 rfl rfl ?_|refine X3 rfl rfl rfl ?_|refine X22 rfl rfl h rfl rfl ?_|refine C2 ?_)
 refine CE.cond_s rfl (fun h1 => ?_) (fun h1 => ?_)
 ·have hi:=hs h1
  repeat(first|refine C0 ?_|refine C1 ?_|refine X0 rfl rfl ?_|refine C2 ?_)
  (refine CE.ret ?_;(try dsimp only);refine ret1 rfl rfl ?_)
  refine ⟨by rw [hi],?_,Fr.refl _ _⟩
  rw [h,h1,hi]; rfl
 ·have hd : w.drew.heap[hb]? = _:=h
  repeat(first|refine C0 ?_|refine C3 ?_)
  refine CE.draw [0,0,0,0,0,0,0,0,2,0] mixed (by decide +kernel) ?_
  repeat(first|refine Y1 rfl rfl ?_|refine Y2 rfl rfl ?_|refine Y3 rfl rfl rfl ?_|refine Y22 rfl rfl hd rfl rfl ?_)
  refine RE.ecv (Φ:=fun w1 u w' => u = I i ∧ Ext w1 w') (f:=f) (first:=#[]) (cap:=#[]) rfl hen rfl rfl rfl (by rintro _ rfl; exact hf _ (Ext.drew w)) ?_
  rintro _ rfl _ w2 ⟨rfl,e2⟩
  have h2:=e2.block hd
  have ew2:=(Ext.drew w).trans e2
  repeat(first|refine Y0 rfl rfl ?_|refine C2 ?_)
  repeat(first|refine C0 ?_|refine C1 ?_|refine X1 rfl rfl ?_|refine X5 rfl rfl rfl ?_|refine C2 ?_)
  refine CE.cond_d rfl (fun hi => ?_) (fun hi => ?_)
  ·repeat(first|refine C1 ?_|refine X1 rfl rfl ?_|refine X2 rfl rfl ?_|refine X3 rfl rfl rfl ?_)
   refine RE.xs (e_store rfl rfl rfl h2 rfl rfl) ?_
   rintro _ w3 hu3
   repeat(first|refine C0 ?_|refine C1 ?_|refine X1 rfl rfl ?_|refine X0 rfl rfl ?_|refine C2 ?_)
   (refine CE.ret ?_;(try dsimp only);refine ret1 rfl rfl ?_)
   refine ⟨rfl,?_,(Fr.of_ext ew2).trans (Fr.of_upd hu3 rfl)⟩
   rw [hu3.here,decide_eq_true hi]; rfl
  ·repeat(first|refine C0 ?_|refine C1 ?_|refine X1 rfl rfl ?_|refine X0 rfl rfl ?_|refine C2 ?_|refine C3 ?_)
   (refine CE.ret ?_;(try dsimp only);refine ret1 rfl rfl ?_)
   refine ⟨rfl,?_,Fr.of_ext ew2⟩
   rw [h2,h1,decide_eq_false hi]
def HbS (B : Nat) (w : World) (q : Nat) : Prop:=B ≤ q ∧ ∃ cs T fr,w.heap[q]? = some (.cells cs T fr) ∧ (T = 105 ∨ T = 3 ∨ T = 111)
theorem HbS.trans {B : Nat} {w w1 w2 : World} (h : Fr (HbS B w) w w1) (k : Fr (HbS B w1) w1 w2) : Fr (HbS B w) w w2:=by
 refine ⟨k.os.trans h.os,k.tape.trans h.tape,k.output.trans h.output,Nat.le_trans h.size k.size,fun q hq hn => ?_⟩
 have e:=h.same q hq hn
 rw [k.same q (Nat.lt_of_lt_of_le hq h.size) ?_]
 ·exact e
 ·rintro ⟨hB,cs,T,fr,hc,hT⟩
  rw [e] at hc
  exact hn ⟨hB,cs,T,fr,hc,hT⟩
theorem LS.frH {L ib B : Nat} {t dv : List UInt8} {c : LC} {ps : List PI} {w w' : World} (h : LS L ib B t dv c ps w) (hf : Fr (HbS B w) w w') (hib : ib < B) : LS L ib B t dv c ps w':=by
 have ne : ∀ b cs T fr,w.heap[b]? = some (.cells cs T fr) → (T ≠ 105 ∧ T ≠ 3 ∧ T ≠ 111) → ¬ HbS B w b:=by
  rintro b cs T fr hb ⟨h1,h2,h3⟩ ⟨_,cs',T',fr',hb',hT⟩
  rw [hb] at hb'
  cases hb'
  rcases hT with rfl | rfl | rfl
  ·exact h1 rfl
  ·exact h2 rfl
  ·exact h3 rfl
 obtain ⟨xs,ho,hff⟩:=h.own
 obtain ⟨db,hdb,h1,h2,cs,fr,h3⟩:=h.div
 have hLlt:=h.lx.at_.lt
 have hBL:=h.lx.base
 have hdn:=ne _ _ _ _ h3 (by decide)
 refine ⟨⟨hf.block h.lx.at_ (ne _ _ _ _ h.lx.at_ (by decide)),h.lx.inp.fr hf (fun hh => by have:=hh.1; omega),h.lx.ne,h.lx.tabs.below (hf.below (by omega) (fun k hk => hk.1)),hBL,h.lx.small,h.lx.pos⟩,Nat.lt_of_lt_of_le h.ibs hf.size,⟨xs,?_,?_⟩,h.nl,h.ni,⟨db,hdb.fr hf hdn,h1,h2,cs,fr,hf.block h3 hdn⟩,h.few⟩
 ·exact ho.fr hf fun q hq e => by
   obtain ⟨cs,hcs⟩:=ho.tag hq
   exact ne _ _ _ _ hcs (by decide) e
 ·exact forall2_mono (fun x p hr => hr.fr hf fun b cs hb e => ne _ _ _ _ hb (by decide) e) hff
theorem MapO.frH {mb n B : Nat} {opn : List UInt8 → Bool} {w w' : World} (h : MapO mb opn n w) (hf : Fr (HbS B w) w w') : MapO mb opn n w':=by
 obtain ⟨es,cl,hb⟩:=h.block
 refine h.fr hf ?_
 rintro ⟨_,cs,T,fr,hc,_⟩
 rw [hb] at hc
 cases hc
theorem ownsRow_tag {w : World} {base e size k : Nat} {v : Value} {xs : List Value} (h : w.ownsRow base e size v k xs) {q : Nat} (hq : v.ownBlock = some q) : ∃ cs,w.heap[q]? = some (.cells cs e (0,0)):=by
 rcases h.2 with ⟨rfl,_⟩ | ⟨g,cap,cur,rfl,_,hg,_⟩
 ·cases hq
 ·simp only [Value.ownBlock,Option.some.injEq] at hq
  subst hq
  exact ⟨_,hg⟩
theorem HF.fr {L B : Nat} {nd all s1 s2 : Bool} {H : Value} {w w' : World} {S : Nat → Prop} (h : HF L B nd all s1 s2 H w) (hf : Fr S w w') (hS : ∀ q cs T fr,w.heap[q]? = some (.cells cs T fr) → (T = 105 ∨ T = 106 ∨ T = 3 ∨ T = 111) → ¬ S q) : HF L B nd all s1 s2 H w':=by
 obtain ⟨hb,hs,ks,h1,h2,n,rfl,q1,q2,⟨xs,q3⟩,q4,q5,q6,q7,q8⟩:=h.out
 refine ⟨hb,hs,ks,h1,h2,n,rfl,hf.block q1 (hS _ _ _ _ q1 (by decide)),ownsRow_fr q2 hf ?_,⟨xs,ownsRow_fr q3 hf ?_⟩,hf.block q4 (hS _ _ _ _ q4 (by decide)),fun hnd => ⟨hf.block (q5 hnd).1 (hS _ _ _ _ (q5 hnd).1 (by decide)),(q5 hnd).2⟩,q6,q7,q8⟩
 ·intro q hq
  obtain ⟨cs,hcs⟩:=ownsRow_tag q2 hq
  exact hS _ _ _ _ hcs (by decide)
 ·intro q hq
  obtain ⟨cs,hcs⟩:=ownsRow_tag q3 hq
  exact hS _ _ _ _ hcs (by decide)
theorem HF.ly {L ib B mb : Nat} {t dv : List UInt8} {c c' : LC} {ps : List PI} {nd all s1 s2 : Bool} {H : Value} {w w' : World} (h : HF L B nd all s1 s2 H w) (hx : LS L ib B t dv c ps w) (hm : ∃ es cl,w.heap[mb]? = some (.map es cl)) (hy : LY L mb c c' w w') : HF L B nd all s1 s2 H w':=by
 obtain ⟨es,cl,hm⟩:=hm
 refine h.fr hy.fr ?_
 rintro q cs T fr hq hT (e | e | e)
 ·subst e
  have:=hx.lx.at_
  unfold AtL at this
  rw [hq] at this
  cases this
  revert hT; decide
 ·subst e
  rw [hm] at hq
  cases hq
 ·obtain ⟨xs,ho,_⟩:=hx.own
  obtain ⟨cs',hcs⟩:=ho.tag e
  rw [hq] at hcs
  cases hcs
  revert hT; decide
theorem HF.li {L ib B : Nat} {t dv : List UInt8} {c c' : LC} {ps : List PI} {nd all s1 s2 : Bool} {H : Value} {w w' : World} (h : HF L B nd all s1 s2 H w) (hx : LS L ib B t dv c ps w) (hy : LI L c c' w w') : HF L B nd all s1 s2 H w':=by
 refine h.fr hy.fr ?_
 rintro q cs T fr hq hT (e | e)
 ·subst e
  have:=hx.lx.at_
  unfold AtL at this
  rw [hq] at this
  cases this
  revert hT; decide
 ·obtain ⟨xs,ho,_⟩:=hx.own
  obtain ⟨cs',hcs⟩:=ho.tag e
  rw [hq] at hcs
  cases hcs
  revert hT; decide
def idxs (nd : Bool) (i1 i2 : Int) : List Int:=(if nd then [i1] else [i1,i2]).filter (fun i => decide (i ≠ -1))
theorem sliced0 (g cap : Nat) : sliced (some ⟨g,0,none⟩) 0 0 cap 1 = Sl g 0 0 cap:=by
 simp [sliced,Addr.add_lit]
set_option maxHeartbeats 4000000 in
theorem skip_fn {L ib B : Nat} {t dv : List UInt8} {c : LC} {ps : List PI} {w : World} {opn : List UInt8 → Bool} {nd all s1 s2 : Bool} {H : Value} (h : LS L ib B t dv c ps w) (hH : HF L B nd all s1 s2 H w) (hdv : dv.length ≤ 1000) (hib : ib < B)
  (hall : all = true → idxs nd (fnd bs120 (t.drop c.pos) 0) (nextDiv t (c.d dv opn ps)) = [])
  (hs1 : s1 = true → fnd bs120 (t.drop c.pos) 0 = -1) (hs2 : nd = false → s2 = true → nextDiv t (c.d dv opn ps) = -1) :
  Fn PT 78 [H] w (fun u w' => u = I (minGo (-1) (idxs nd (fnd bs120 (t.drop c.pos) 0) (nextDiv t (c.d dv opn ps)))) ∧ Fr (HbS B w) w w' ∧
   ∃ all' s1' s2',HF L B nd all' s1' s2' H w' ∧ (all' = true ↔ idxs nd (fnd bs120 (t.drop c.pos) 0) (nextDiv t (c.d dv opn ps)) = []) ∧ (all' = false → ((s1' = true ↔ fnd bs120 (t.drop c.pos) 0 = -1) ∧ (nd = false → (s2' = true ↔ nextDiv t (c.d dv opn ps) = -1)))) ∧
   (all' = true → (s1' = true → fnd bs120 (t.drop c.pos) 0 = -1) ∧ (s2' = true → s2 = true ∨ nextDiv t (c.d dv opn ps) = -1))):=by
 have hmaxL : maxLen = 9223372036854775807:=rfl
 have hBw : B ≤ w.heap.size:=by have:=h.lx.base; have:=h.lx.at_.lt; omega
 have hps:=h.lx.pos
 have hsm:=h.lx.small
 have hi1 : -1 ≤ fnd bs120 (t.drop c.pos) 0 ∧ fnd bs120 (t.drop c.pos) 0 ≤ 1000000:=by
  rcases fnd_ge bs120 (t.drop c.pos) _ 0 rfl with e | e
  ·omega
  ·obtain ⟨j,hj⟩ : ∃ j : Nat,fnd bs120 (t.drop c.pos) 0 = (j : Int):=⟨(fnd bs120 (t.drop c.pos) 0).toNat,by omega⟩
   obtain ⟨_,h2,_⟩:=fnd_spec _ _ _ rfl hj
   rw [List.length_drop] at h2
   omega
 have hi2 : -1 ≤ nextDiv t (c.d dv opn ps) ∧ nextDiv t (c.d dv opn ps) ≤ 1000000:=by
  unfold nextDiv
  split
  ·omega
  ·rcases fnd_ge (c.d dv opn ps).dv (t.drop (c.d dv opn ps).pos) _ 0 rfl with e | e
   ·omega
   ·obtain ⟨j,hj⟩ : ∃ j : Nat,fnd (c.d dv opn ps).dv (t.drop (c.d dv opn ps).pos) 0 = (j : Int):=⟨(fnd (c.d dv opn ps).dv (t.drop (c.d dv opn ps).pos) 0).toNat,by omega⟩
    obtain ⟨_,h2,_⟩:=fnd_spec _ _ _ rfl hj
    rw [List.length_drop] at h2
    omega
 have f1 : ∀ w0,Fr (HbS B w) w w0 → ∀ w',Ext w0 w' → Fn PT 118 [Ptr L 0] w' (fun u w'' => u = I (fnd bs120 (t.drop c.pos) 0) ∧ Ext w' w''):=fun w0 hf w' he => skip118_fn ((h.frH hf hib).ext he).lx
 have f2 : ∀ w0,Fr (HbS B w) w w0 → ∀ w',Ext w0 w' → Fn PT 126 [Ptr L 0] w' (fun u w'' => u = I (nextDiv t (c.d dv opn ps)) ∧ Ext w' w''):=fun w0 hf w' he => skip126_fn ((h.frH hf hib).ext he) hdv
 generalize fnd bs120 (t.drop c.pos) 0 = i1 at *
 generalize nextDiv t (c.d dv opn ps) = i2 at *
 obtain ⟨hb,hs,ks,h1,h2,n,rfl,q1,q2,⟨xs,q3⟩,q4,q5,q6,q7,q8⟩:=hH.out
 have hsf : ∃ g cap,hs = Sl g 0 (if nd then 1 else 2) cap:=by
  rcases q2.2 with ⟨_,h0⟩ | ⟨g,cap,cur,rfl,_⟩
  ·exfalso; cases nd <;> simp at h0
  ·exact ⟨g,cap,rfl⟩
 obtain ⟨hg,hcap,rfl⟩:=hsf
 refine fn_of Tryz.func78 rfl Tryz.ntmps78 rfl ?_
 repeat(first|refine C0 ?_|refine C1 ?_|refine X1 rfl rfl ?_|refine X0 rfl rfl ?_|refine X2 rfl rfl ?_|refine X3 rfl rfl rfl ?_|refine X22 rfl rfl q1 rfl rfl ?_|refine C2 ?_)
 refine CE.cond_s rfl (fun ha => ?_) (fun ha => ?_)
 ·have ha' : all = true:=ha
  have hnil:=hall ha'
  repeat(first|refine C0 ?_|refine C1 ?_|refine X0 rfl rfl ?_|refine C2 ?_)
  (refine CE.ret ?_;(try dsimp only);refine ret1 rfl rfl ?_)
  rw [hnil]
  exact ⟨rfl,Fr.refl _ _,true,s1,s2,ha' ▸ hH,⟨fun _ => rfl,fun _ => rfl⟩,fun h => (by cases h),fun _ => ⟨hs1,fun h => Or.inl h⟩⟩
 have ha' : all = false:=ha
 subst ha'
 have hks : ∃ a m cp,ks = .slice a m cp:=by
  rcases q3.2 with ⟨rfl,_⟩ | ⟨g,cap,cur,rfl,_⟩
  ·exact ⟨_,_,_,rfl⟩
  ·exact ⟨_,_,_,rfl⟩
 obtain ⟨ka,km,kc,rfl⟩:=hks
 have hk0 : w.ownsRow B 3 1 (sliced ka 0 0 kc 1) 0 [] ∧ (∀ q,(sliced ka 0 0 kc 1).ownBlock = some q → (Value.slice ka km kc).ownBlock = some q):=by
  rcases q3.2 with ⟨hv,_⟩ | ⟨g,cap,cur,hv,hb1,hg1,hn1,hc1,hs1',ht1⟩
  ·cases hv
   have : sliced none 0 0 0 1 = .slice none 0 0:=by simp [sliced]
   rw [this]
   exact ⟨World.ownsRow_nil _ _ _ _,fun q hq => hq⟩
  ·cases hv
   rw [sliced0]
   exact ⟨⟨rfl,Or.inr ⟨g,kc,cur,rfl,hb1,hg1,Nat.zero_le _,hc1,hs1',by simp⟩⟩,fun q hq => hq⟩
 repeat(first|refine C0 ?_|refine C1 ?_|refine X1 rfl rfl ?_|refine X2 rfl rfl ?_|refine X3 rfl rfl rfl ?_|refine X22 rfl rfl q1 rfl rfl ?_|refine C3 ?_)
 refine RE.x (op_slice_h rfl rfl rfl (by decide) (by omega)) rfl ?_
 repeat(first|refine X2 rfl rfl ?_|refine X3 rfl rfl rfl ?_)
 refine RE.xs (e_store rfl rfl rfl q1 rfl rfl) ?_
 rintro _ w1 hu1
 have nb1 : ∀ b cs T fr,w.heap[b]? = some (.cells cs T fr) → T ≠ 105 → b ≠ hb:=by
  rintro b cs T fr hb' hT rfl
  rw [q1] at hb'
  cases hb'
  exact hT rfl
 have hfu:=Fr.of_upd (S:=(· = hb)) hu1 rfl
 have r2:=ownsRow_fr q2 hfu (fun q hq e => by obtain ⟨cs,hcs⟩:=ownsRow_tag q2 hq; exact nb1 _ _ _ _ hcs (by decide) e)
 have r3:=ownsRow_fr hk0.1 hfu (fun q hq e => by obtain ⟨cs,hcs⟩:=ownsRow_tag hk0.1 hq; exact nb1 _ _ _ _ hcs (by decide) e)
 have r4:=hfu.block q4 (nb1 _ _ _ _ q4 (by decide))
 have hu1h:=hu1.here
 have r5 : nd = false → w1.heap[h2]? = some (.cells #[Ptr L 0,.bool s2,fnV 126,fnV 127] 111 (0,0)) ∧ h1 ≠ h2:=fun hnd => ⟨hfu.block (q5 hnd).1 (nb1 _ _ _ _ (q5 hnd).1 (by decide)),(q5 hnd).2⟩
 have rf : Fr (HbS B w) w w1:=hfu.mono fun q _ e => by subst e; exact ⟨q6,_,_,_,q1,by decide⟩
 repeat(first|refine C0 ?_|refine C1 ?_|refine X1 rfl rfl ?_|refine X0 rfl rfl ?_|refine X2 rfl rfl ?_|refine X3 rfl rfl rfl ?_|refine X22 rfl rfl hu1h rfl rfl ?_|refine X13 rfl rfl rfl ?_|refine C2 ?_)
 generalize hN : (if nd = true then 1 else 2) = N at *
 refine CE.cut (fun s ds w' => ds = [] ∧ ∃ xs v s1' s2',SubL [(3,.bool (!(xs : List Int).isEmpty)),(0,Ptr hb 0)] s ∧ w'.heap[hb]? = some (.cells #[Ptr L 0,.bool false,Sl hg 0 N hcap,v] 105 (0,0)) ∧ w'.ownsRow B 3 1 v xs.length (xs.map I) ∧ w'.ownsRow B 106 1 (Sl hg 0 N hcap) N (if nd = true then [Ptr h1 0] else [Ptr h1 0,Ptr h2 0]) ∧
   w'.heap[h1]? = some (.cells #[Ptr L 0,.bool s1',fnV 118,fnV 121] 111 (0,0)) ∧ (nd = false → w'.heap[h2]? = some (.cells #[Ptr L 0,.bool s2',fnV 126,fnV 127] 111 (0,0)) ∧ h1 ≠ h2) ∧ Fr (HbS B w) w w' ∧ xs = idxs nd i1 i2 ∧ s1' = decide (i1 = -1) ∧ (nd = false → s2' = decide (i2 = -1)) ∧ (nd = true → s2' = s2)) ?_ ?_
 ·refine CE.block ?_
  refine CE.loop (α:=Nat × List Int) (fun x => [(24,I x.1),(23,I N),(22,Sl hg 0 N hcap),(3,.bool (!x.2.isEmpty)),(0,Ptr hb 0)])
   (fun x w' => ∃ v s1' s2',w'.heap[hb]? = some (.cells #[Ptr L 0,.bool false,Sl hg 0 N hcap,v] 105 (0,0)) ∧ w'.ownsRow B 3 1 v x.2.length (x.2.map I) ∧ w'.ownsRow B 106 1 (Sl hg 0 N hcap) N (if nd = true then [Ptr h1 0] else [Ptr h1 0,Ptr h2 0]) ∧
    w'.heap[h1]? = some (.cells #[Ptr L 0,.bool s1',fnV 118,fnV 121] 111 (0,0)) ∧ (nd = false → w'.heap[h2]? = some (.cells #[Ptr L 0,.bool s2',fnV 126,fnV 127] 111 (0,0)) ∧ h1 ≠ h2) ∧ Fr (HbS B w) w w' ∧ x.1 ≤ (if nd = true then 1 else 2) ∧
    x.2 = ((if nd = true then [i1] else [i1,i2]).take x.1).filter (fun i => decide (i ≠ -1)) ∧ (x.1 = 0 → s1' = s1) ∧ (1 ≤ x.1 → s1' = decide (i1 = -1)) ∧ (x.1 ≤ 1 → s2' = s2) ∧ (2 ≤ x.1 → s2' = decide (i2 = -1)))
   (fun x => 3 - x.1) (0,[]) ⟨rfl,rfl,rfl,rfl,rfl,trivial⟩ ⟨_,s1,s2,hu1h,r3,r2,r4,r5,rf,Nat.zero_le _,rfl,(fun _ => rfl),(fun h => absurd h (by decide)),(fun _ => rfl),(fun h => absurd h (by decide))⟩ ?_
  rintro ⟨k,xs⟩ w0 ⟨v,s1',s2',g1,g2,g3,g4,g5,gf,g6,gx,g7,g8,g9,g10⟩
  dsimp only at g1 g2 g3 g4 g5 gf g6 gx g7 g8 g9 g10
  refine (show CE _ _ _ _ [(24,I k),(23,I N),(22,Sl hg 0 N hcap),(3,.bool (!xs.isEmpty)),(0,Ptr hb 0)] _ _ from ?_)
  have row : ∀ (j q : Nat),(if nd = true then [Ptr h1 0] else [Ptr h1 0,Ptr h2 0])[j]? = some (Ptr q 0) → w0.cell? ⟨hg,0 + (j : Int).toNat * 1,none⟩ = some (Ptr q 0):=by
   intro j q hj
   rcases g3.2 with ⟨h0,_⟩ | ⟨g,cap,cur,hv,_,hgg,_,_,_,ht⟩
   ·cases h0
   ·cases hv
    have e1 : 0 + (j : Int).toNat * 1 = j:=by omega
    rw [e1]
    refine cell_of hgg ?_
    rw [← ht,List.getElem?_take] at hj
    split at hj
    ·simpa using hj
    ·cases hj
  subst hN
  repeat(first|refine C0 ?_|refine C1 ?_|refine X7 rfl rfl rfl ?_|refine C2 ?_)
  refine CE.cond_d rfl (fun hlt => ?_) (fun hlt => ?_)
  ·have hlt' : k < (if nd = true then 1 else 2):=by omega
   have hk2 : k = 0 ∨ k = 1:=by
    have : (if nd = true then 1 else 2) ≤ 2:=by cases nd <;> decide
    omega
   rcases hk2 with rfl | rfl
   ·have gh : w0.heap[h1]? = some (.cells #[Ptr L 0,.bool s1,fnV 118,fnV 121] 111 (0,0)):=by rw [g4,g7 rfl]
    have hcell : w0.cell? ⟨hg,0 + ((0 : Nat) : Int).toNat * 1,none⟩ = some (Ptr h1 0):=row 0 h1 (by cases nd <;> rfl)
    have hBk:=q7
    repeat(first|refine C0 ?_|refine C3 ?_)
    refine CE.block ?_
    repeat(first|refine C0 ?_|refine C1 ?_)
    refine RE.x (op_indexAddr rfl rfl rfl (by decide) (by cases nd <;> first | decide | (exact absurd hlt' (by decide)))) rfl ?_
    refine RE.x (op_load rfl rfl hcell) rfl ?_
    repeat(first|refine C0 ?_|refine C1 ?_|refine X1 rfl rfl ?_|refine X0 rfl rfl ?_|refine C2 ?_)
    refine RE.xc en101 rfl rfl (hskip_fn en118 gh (f1 w0 gf) hs1) ?_
    rintro _ w2 ⟨rfl,gh2,hf2⟩
    have nk : ∀ b cs T fr,w0.heap[b]? = some (.cells cs T fr) → T ≠ 111 → ¬ b = h1:=by
     rintro b cs T fr hb' hT rfl
     rw [gh] at hb'
     cases hb'
     exact hT rfl
    have g12:=hf2.block g1 (nk _ _ _ _ g1 (by decide))
    have gs2:=ownsRow_fr g3 hf2 (fun q hq => by obtain ⟨cs,hcs⟩:=ownsRow_tag g3 hq; exact nk _ _ _ _ hcs (by decide))
    have gv2:=ownsRow_fr g2 hf2 (fun q hq => by obtain ⟨cs,hcs⟩:=ownsRow_tag g2 hq; exact nk _ _ _ _ hcs (by decide))
    have go : nd = false → w2.heap[h2]? = some (.cells #[Ptr L 0,.bool s2',fnV 126,fnV 127] 111 (0,0)) ∧ h1 ≠ h2:=fun hnd => ⟨hf2.block (g5 hnd).1 (fun e => (g5 hnd).2 e.symm),(g5 hnd).2⟩
    have hfr2 : Fr (HbS B w) w w2:=HbS.trans gf (hf2.mono fun q hq e => by subst e; exact ⟨hBk,_,_,_,gh,by decide⟩)
    have hxs : ((if nd = true then [i1] else [i1,i2]).take (0 + 1)).filter (fun i => decide (i ≠ -1)) = xs ++ (if i1 = -1 then [] else [i1]):=by
     rw [gx]; cases nd <;> by_cases h : i1 = -1 <;> simp [h]
    have hlx : xs.length ≤ 2:=by
     rw [gx]
     refine Nat.le_trans (List.length_filter_le _ _) ?_
     rw [List.length_take]
     omega
    repeat(first|refine C0 ?_|refine C1 ?_|refine X1 rfl rfl ?_|refine X0 rfl rfl ?_|refine X6 rfl rfl rfl ?_|refine C2 ?_)
    refine CE.cond_d rfl (fun hne => ?_) (fun hne => ?_)
    ·have hne' : i1 ≠ -1:=hne
     repeat(first|refine C0 ?_|refine C1 ?_|refine X1 rfl rfl ?_|refine X0 rfl rfl ?_|refine X2 rfl rfl ?_|refine X3 rfl rfl rfl ?_|refine X22 rfl rfl g12 rfl rfl ?_|refine C2 ?_)
     refine RE.xe (e_buildSlice (cells:=#[I i1]) (e:=3) rfl (by kernel_rfl) (by kernel_rfl)) rfl ?_
     rintro _ w3 ⟨nb,rfl,hn3⟩
     have hsz3:=(hfr2.trans (Fr.of_ext hn3.ext)).size
     refine RE.xe (e_append B (t:=103) (e:=3) (size:=1) (z:=I 0) (bytes:=8) (m:=1) (c:=1) (ab:=nb) (news:=[I i1]) rfl (by kernel_rfl) rfl (by decide) rfl (ownsRow_ext gv2 hn3.ext) rfl (by decide) rfl
      (fun j u hj => cell_of hn3.here (by simpa using hj)) (by simp [Value.oneCell']) (by omega) (by omega) (by omega)) rfl ?_
     rintro v4 w4 ⟨ho4,hf4,hv4⟩
     have tg3:=fun q hq => ownsRow_tag (ownsRow_ext gv2 hn3.ext) (q:=q) hq
     have gv3:=ownsRow_ext gv2 hn3.ext
     have n4 : ∀ b cs T fr,w3.heap[b]? = some (.cells cs T fr) → T ≠ 3 → ¬ v.ownBlock = some b:=by
      rintro b cs T fr hb' hT hq
      obtain ⟨cs',hcs⟩:=tg3 b hq
      rw [hb'] at hcs
      cases hcs
      exact hT rfl
     have blk4 : ∀ {b cs T fr},w2.heap[b]? = some (Obj.cells cs T fr) → T ≠ 3 → w4.heap[b]? = some (Obj.cells cs T fr):=fun {b cs T fr} hb' hT => hf4.block (hn3.ext.block hb') (n4 _ _ _ _ (hn3.ext.block hb') hT)
     have g14:=blk4 g12 (by decide)
     have gs4:=ownsRow_fr (ownsRow_ext gs2 hn3.ext) hf4 (fun q hq => by obtain ⟨cs,hcs⟩:=ownsRow_tag (ownsRow_ext gs2 hn3.ext) hq; exact n4 _ _ _ _ hcs (by decide))
     have hfr4 : Fr (HbS B w) w w4:=HbS.trans (HbS.trans hfr2 (Fr.of_ext hn3.ext)) (hf4.mono fun q _ hq => by
      obtain ⟨cs,hcs⟩:=tg3 q hq
      exact ⟨(World.ownsRow.lt gv3 q hq).1,_,_,_,hcs,by decide⟩)
     repeat(first|refine X2 rfl rfl ?_|refine X3 rfl rfl rfl ?_)
     refine RE.xs (e_store rfl rfl rfl g14 rfl (ownsRow_one ho4)) ?_
     rintro _ w5 hu5
     have nb5 : ∀ b cs T fr,w4.heap[b]? = some (.cells cs T fr) → T ≠ 105 → b ≠ hb:=by
      rintro b cs T fr hb' hT rfl
      rw [g14] at hb'
      cases hb'
      exact hT rfl
     have hfr5 : Fr (HbS B w) w w5:=HbS.trans hfr4 ((Fr.of_upd (S:=(· = hb)) hu5 rfl).mono fun q _ e => by subst e; exact ⟨q6,_,_,_,g14,by decide⟩)
     have blk5 : ∀ {b cs T fr},w2.heap[b]? = some (Obj.cells cs T fr) → T ≠ 3 → T ≠ 105 → w5.heap[b]? = some (Obj.cells cs T fr):=fun {b cs T fr} hb' hT hT' => by rw [hu5.other b (nb5 _ _ _ _ (blk4 hb' hT) hT')]; exact blk4 hb' hT
     have gs5:=ownsRow_fr gs4 (Fr.of_upd (S:=(· = hb)) hu5 rfl) (fun q hq e => by obtain ⟨cs,hcs⟩:=ownsRow_tag gs4 hq; exact nb5 _ _ _ _ hcs (by decide) e)
     have gv5:=ownsRow_fr ho4 (Fr.of_upd (S:=(· = hb)) hu5 rfl) (fun q hq e => by obtain ⟨cs,hcs⟩:=ownsRow_tag ho4 hq; exact nb5 _ _ _ _ hcs (by decide) e)
     repeat(first|refine C1 ?_|refine X1 rfl rfl ?_|refine X18 rfl rfl (by omega) (by omega) rfl ?_|refine C2 ?_)
     refine RE.nilx ?_
     rw [if_neg hne'] at hxs
     refine ⟨(0 + 1,xs ++ [i1]),by show 3 - (0 + 1) < 3 - 0; decide,rfl,⟨rfl,rfl,rfl,by rw [show (!((xs ++ [i1]).isEmpty)) = true by cases xs <;> rfl]; rfl,rfl,trivial⟩,?_⟩
     exact ⟨v4,decide (i1 = -1),s2',hu5.here,(by rw [List.length_append,List.map_append]; exact gv5),gs5,blk5 gh2 (by decide) (by decide),fun hnd => ⟨blk5 (go hnd).1 (by decide) (by decide),(go hnd).2⟩,hfr5,(by show 0 + 1 ≤ _; cases nd <;> decide),hxs.symm,(fun h => absurd (show 0 + 1 = 0 from h) (by decide)),(fun _ => rfl),(fun _ => g9 (by decide)),(fun h => absurd (show 2 ≤ 0 + 1 from h) (by decide))⟩
    ·have hne' : i1 = -1:=Classical.not_not.1 hne
     rw [if_pos hne',List.append_nil] at hxs
     repeat(first|refine C1 ?_|refine X1 rfl rfl ?_|refine X18 rfl rfl (by omega) (by omega) rfl ?_|refine C3 ?_)
     refine RE.nilx ?_
     refine ⟨(0 + 1,xs),by show 3 - (0 + 1) < 3 - 0; decide,rfl,⟨rfl,rfl,rfl,rfl,rfl,trivial⟩,?_⟩
     exact ⟨v,decide (i1 = -1),s2',g12,gv2,gs2,gh2,fun hnd => ⟨(go hnd).1,(go hnd).2⟩,hfr2,(by show 0 + 1 ≤ _; cases nd <;> decide),hxs.symm,(fun h => absurd (show 0 + 1 = 0 from h) (by decide)),(fun _ => rfl),(fun _ => g9 (by decide)),(fun h => absurd (show 2 ≤ 0 + 1 from h) (by decide))⟩
   ·have hnd : nd = false:=by cases nd with | true => exact absurd hlt' (by decide) | false => rfl
    have gh : w0.heap[h2]? = some (.cells #[Ptr L 0,.bool s2,fnV 126,fnV 127] 111 (0,0)):=by rw [(g5 hnd).1,g9 (by decide)]
    have hcell : w0.cell? ⟨hg,0 + ((1 : Nat) : Int).toNat * 1,none⟩ = some (Ptr h2 0):=row 1 h2 (by rw [hnd]; rfl)
    have hBk:=q8 hnd
    repeat(first|refine C0 ?_|refine C3 ?_)
    refine CE.block ?_
    repeat(first|refine C0 ?_|refine C1 ?_)
    refine RE.x (op_indexAddr rfl rfl rfl (by decide) (by cases nd <;> first | decide | (exact absurd hlt' (by decide)))) rfl ?_
    refine RE.x (op_load rfl rfl hcell) rfl ?_
    repeat(first|refine C0 ?_|refine C1 ?_|refine X1 rfl rfl ?_|refine X0 rfl rfl ?_|refine C2 ?_)
    refine RE.xc en101 rfl rfl (hskip_fn en126 gh (f2 w0 gf) (hs2 hnd)) ?_
    rintro _ w2 ⟨rfl,gh2,hf2⟩
    have nk : ∀ b cs T fr,w0.heap[b]? = some (.cells cs T fr) → T ≠ 111 → ¬ b = h2:=by
     rintro b cs T fr hb' hT rfl
     rw [gh] at hb'
     cases hb'
     exact hT rfl
    have g12:=hf2.block g1 (nk _ _ _ _ g1 (by decide))
    have gs2:=ownsRow_fr g3 hf2 (fun q hq => by obtain ⟨cs,hcs⟩:=ownsRow_tag g3 hq; exact nk _ _ _ _ hcs (by decide))
    have gv2:=ownsRow_fr g2 hf2 (fun q hq => by obtain ⟨cs,hcs⟩:=ownsRow_tag g2 hq; exact nk _ _ _ _ hcs (by decide))
    have go : w2.heap[h1]? = some (.cells #[Ptr L 0,.bool s1',fnV 118,fnV 121] 111 (0,0)):=hf2.block g4 (fun e => (g5 hnd).2 e)
    have hfr2 : Fr (HbS B w) w w2:=HbS.trans gf (hf2.mono fun q hq e => by subst e; exact ⟨hBk,_,_,_,gh,by decide⟩)
    have hxs : ((if nd = true then [i1] else [i1,i2]).take (1 + 1)).filter (fun i => decide (i ≠ -1)) = xs ++ (if i2 = -1 then [] else [i2]):=by
     rw [gx,hnd]; by_cases h : i1 = -1 <;> by_cases h' : i2 = -1 <;> simp [h,h']
    have hlx : xs.length ≤ 2:=by
     rw [gx]
     refine Nat.le_trans (List.length_filter_le _ _) ?_
     rw [List.length_take]
     omega
    repeat(first|refine C0 ?_|refine C1 ?_|refine X1 rfl rfl ?_|refine X0 rfl rfl ?_|refine X6 rfl rfl rfl ?_|refine C2 ?_)
    refine CE.cond_d rfl (fun hne => ?_) (fun hne => ?_)
    ·have hne' : i2 ≠ -1:=hne
     repeat(first|refine C0 ?_|refine C1 ?_|refine X1 rfl rfl ?_|refine X0 rfl rfl ?_|refine X2 rfl rfl ?_|refine X3 rfl rfl rfl ?_|refine X22 rfl rfl g12 rfl rfl ?_|refine C2 ?_)
     refine RE.xe (e_buildSlice (cells:=#[I i2]) (e:=3) rfl (by kernel_rfl) (by kernel_rfl)) rfl ?_
     rintro _ w3 ⟨nb,rfl,hn3⟩
     have hsz3:=(hfr2.trans (Fr.of_ext hn3.ext)).size
     refine RE.xe (e_append B (t:=103) (e:=3) (size:=1) (z:=I 0) (bytes:=8) (m:=1) (c:=1) (ab:=nb) (news:=[I i2]) rfl (by kernel_rfl) rfl (by decide) rfl (ownsRow_ext gv2 hn3.ext) rfl (by decide) rfl
      (fun j u hj => cell_of hn3.here (by simpa using hj)) (by simp [Value.oneCell']) (by omega) (by omega) (by omega)) rfl ?_
     rintro v4 w4 ⟨ho4,hf4,hv4⟩
     have tg3:=fun q hq => ownsRow_tag (ownsRow_ext gv2 hn3.ext) (q:=q) hq
     have gv3:=ownsRow_ext gv2 hn3.ext
     have n4 : ∀ b cs T fr,w3.heap[b]? = some (.cells cs T fr) → T ≠ 3 → ¬ v.ownBlock = some b:=by
      rintro b cs T fr hb' hT hq
      obtain ⟨cs',hcs⟩:=tg3 b hq
      rw [hb'] at hcs
      cases hcs
      exact hT rfl
     have blk4 : ∀ {b cs T fr},w2.heap[b]? = some (Obj.cells cs T fr) → T ≠ 3 → w4.heap[b]? = some (Obj.cells cs T fr):=fun {b cs T fr} hb' hT => hf4.block (hn3.ext.block hb') (n4 _ _ _ _ (hn3.ext.block hb') hT)
     have g14:=blk4 g12 (by decide)
     have gs4:=ownsRow_fr (ownsRow_ext gs2 hn3.ext) hf4 (fun q hq => by obtain ⟨cs,hcs⟩:=ownsRow_tag (ownsRow_ext gs2 hn3.ext) hq; exact n4 _ _ _ _ hcs (by decide))
     have hfr4 : Fr (HbS B w) w w4:=HbS.trans (HbS.trans hfr2 (Fr.of_ext hn3.ext)) (hf4.mono fun q _ hq => by
      obtain ⟨cs,hcs⟩:=tg3 q hq
      exact ⟨(World.ownsRow.lt gv3 q hq).1,_,_,_,hcs,by decide⟩)
     repeat(first|refine X2 rfl rfl ?_|refine X3 rfl rfl rfl ?_)
     refine RE.xs (e_store rfl rfl rfl g14 rfl (ownsRow_one ho4)) ?_
     rintro _ w5 hu5
     have nb5 : ∀ b cs T fr,w4.heap[b]? = some (.cells cs T fr) → T ≠ 105 → b ≠ hb:=by
      rintro b cs T fr hb' hT rfl
      rw [g14] at hb'
      cases hb'
      exact hT rfl
     have hfr5 : Fr (HbS B w) w w5:=HbS.trans hfr4 ((Fr.of_upd (S:=(· = hb)) hu5 rfl).mono fun q _ e => by subst e; exact ⟨q6,_,_,_,g14,by decide⟩)
     have blk5 : ∀ {b cs T fr},w2.heap[b]? = some (Obj.cells cs T fr) → T ≠ 3 → T ≠ 105 → w5.heap[b]? = some (Obj.cells cs T fr):=fun {b cs T fr} hb' hT hT' => by rw [hu5.other b (nb5 _ _ _ _ (blk4 hb' hT) hT')]; exact blk4 hb' hT
     have gs5:=ownsRow_fr gs4 (Fr.of_upd (S:=(· = hb)) hu5 rfl) (fun q hq e => by obtain ⟨cs,hcs⟩:=ownsRow_tag gs4 hq; exact nb5 _ _ _ _ hcs (by decide) e)
     have gv5:=ownsRow_fr ho4 (Fr.of_upd (S:=(· = hb)) hu5 rfl) (fun q hq e => by obtain ⟨cs,hcs⟩:=ownsRow_tag ho4 hq; exact nb5 _ _ _ _ hcs (by decide) e)
     repeat(first|refine C1 ?_|refine X1 rfl rfl ?_|refine X18 rfl rfl (by omega) (by omega) rfl ?_|refine C2 ?_)
     refine RE.nilx ?_
     rw [if_neg hne'] at hxs
     refine ⟨(1 + 1,xs ++ [i2]),by show 3 - (1 + 1) < 3 - 1; decide,rfl,⟨rfl,rfl,rfl,by rw [show (!((xs ++ [i2]).isEmpty)) = true by cases xs <;> rfl]; rfl,rfl,trivial⟩,?_⟩
     exact ⟨v4,s1',decide (i2 = -1),hu5.here,(by rw [List.length_append,List.map_append]; exact gv5),gs5,blk5 go (by decide) (by decide),fun hnd => ⟨blk5 gh2 (by decide) (by decide),(g5 hnd).2⟩,hfr5,(by show 1 + 1 ≤ _; rw [hnd]; decide),hxs.symm,(fun h => absurd (show 1 + 1 = 0 from h) (by decide)),(fun _ => g8 (by decide)),(fun h => absurd (show 1 + 1 ≤ 1 from h) (by decide)),(fun _ => rfl)⟩
    ·have hne' : i2 = -1:=Classical.not_not.1 hne
     rw [if_pos hne',List.append_nil] at hxs
     repeat(first|refine C1 ?_|refine X1 rfl rfl ?_|refine X18 rfl rfl (by omega) (by omega) rfl ?_|refine C3 ?_)
     refine RE.nilx ?_
     refine ⟨(1 + 1,xs),by show 3 - (1 + 1) < 3 - 1; decide,rfl,⟨rfl,rfl,rfl,rfl,rfl,trivial⟩,?_⟩
     exact ⟨v,s1',decide (i2 = -1),g12,gv2,gs2,go,fun hnd => ⟨gh2,(g5 hnd).2⟩,hfr2,(by show 1 + 1 ≤ _; rw [hnd]; decide),hxs.symm,(fun h => absurd (show 1 + 1 = 0 from h) (by decide)),(fun _ => g8 (by decide)),(fun h => absurd (show 1 + 1 ≤ 1 from h) (by decide)),(fun _ => rfl)⟩
  ·have hke : k = (if nd = true then 1 else 2):=by omega
   refine CE.exit ?_
   refine ⟨rfl,xs,v,s1',s2',⟨rfl,rfl,trivial⟩,g1,g2,g3,g4,g5,gf,?_,g8 (by rw [hke]; cases nd <;> decide),fun hnd => g10 (by rw [hke,hnd]; decide),fun hnd => g9 (by rw [hke,hnd]; decide)⟩
   rw [gx,hke]
   cases nd <;> rfl
 ·rintro s _ w2 ⟨rfl,xs,v,s1',s2',hss,g1,g2,g3,g4,g5,gf,gx,g8,g9,g10⟩
  subst hN
  refine CE.sub hss ?_
  have hHF : HF L B nd false s1' s2' (Ptr hb 0) w2:=⟨hb,_,v,h1,h2,_,rfl,g1,g3,⟨_,g2⟩,g4,g5,q6,q7,q8⟩
  repeat(first|refine C0 ?_|refine C1 ?_|refine X1 rfl rfl ?_|refine X11 rfl rfl ?_|refine C2 ?_)
  cases hxs : xs with
  | nil =>
   refine CE.cond_t rfl ?_
   repeat(first|refine C0 ?_|refine C1 ?_|refine X1 rfl rfl ?_|refine X2 rfl rfl ?_|refine X3 rfl rfl rfl ?_)
   refine RE.xs (e_store rfl rfl rfl g1 rfl rfl) ?_
   rintro _ w3 hu3
   repeat(first|refine C0 ?_|refine C1 ?_|refine X0 rfl rfl ?_|refine C2 ?_)
   (refine CE.ret ?_;(try dsimp only);refine ret1 rfl rfl ?_)
   have nb3 : ∀ b cs T fr,w2.heap[b]? = some (.cells cs T fr) → T ≠ 105 → b ≠ hb:=by
    rintro b cs T fr hb' hT rfl
    rw [g1] at hb'
    cases hb'
    exact hT rfl
   have hf3:=Fr.of_upd (S:=(· = hb)) hu3 rfl
   rw [← gx,hxs]
   have hi1n : i1 = -1:=by
    rw [hxs] at gx
    unfold idxs at gx
    refine Classical.byContradiction fun hn => ?_
    cases nd <;> simp [hn] at gx
   refine ⟨rfl,HbS.trans gf (hf3.mono fun q _ e => by subst e; exact ⟨q6,_,_,_,g1,by decide⟩),true,s1',s2',?_,⟨fun _ => rfl,fun _ => rfl⟩,fun h => (by cases h),fun _ => ⟨fun _ => hi1n,fun h => ?_⟩⟩
   ·refine ⟨hb,_,v,h1,h2,_,rfl,hu3.here,ownsRow_fr g3 hf3 (fun q hq e => by obtain ⟨cs,hcs⟩:=ownsRow_tag g3 hq; exact nb3 _ _ _ _ hcs (by decide) e),⟨_,ownsRow_fr g2 hf3 (fun q hq e => by obtain ⟨cs,hcs⟩:=ownsRow_tag g2 hq; exact nb3 _ _ _ _ hcs (by decide) e)⟩,hf3.block g4 (nb3 _ _ _ _ g4 (by decide)),fun hnd => ⟨hf3.block (g5 hnd).1 (nb3 _ _ _ _ (g5 hnd).1 (by decide)),(g5 hnd).2⟩,q6,q7,q8⟩
   ·cases nd with
    | true => exact Or.inl (by rw [← g10 rfl]; exact h)
    | false => exact Or.inr (by rw [g9 rfl] at h; exact of_decide_eq_true h)
  | cons x r =>
   refine CE.cond_f rfl ?_
   repeat(first|refine C0 ?_|refine C1 ?_|refine X1 rfl rfl ?_|refine X2 rfl rfl ?_|refine X3 rfl rfl rfl ?_|refine X22 rfl rfl g1 rfl rfl ?_|refine C3 ?_)
   refine RE.xc en102 rfl rfl (minIndex_fn g2 ?_ ?_) ?_
   ·intro x hx
    rw [gx] at hx
    unfold idxs at hx
    have:=(List.mem_filter.1 hx).1
    cases nd
    ·simp at this; rcases this with rfl | rfl <;> omega
    ·simp at this; subst this; omega
   ·rw [gx]
    unfold idxs
    refine Nat.le_trans (List.length_filter_le _ _) ?_
    cases nd <;> simp
   rintro _ w3 ⟨rfl,hw3⟩
   subst hw3
   repeat(first|refine X0 rfl rfl ?_|refine C2 ?_)
   (refine CE.ret ?_;(try dsimp only);refine ret1 rfl rfl ?_)
   rw [← gx,hxs]
   refine ⟨rfl,gf,false,s1',s2',hHF,⟨fun h => (by cases h),fun h => (by cases h)⟩,fun _ => ⟨by rw [g8]; simp,fun hnd => by rw [g9 hnd]; simp⟩,fun h => (by cases h)⟩
end Go.Wk
