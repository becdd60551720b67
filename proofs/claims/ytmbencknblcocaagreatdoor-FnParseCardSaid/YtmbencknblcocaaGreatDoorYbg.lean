/- The specification's lexer: parameters. -/
import Derived.Test.YtmbencknblcocaaGreatDoorYbf
namespace Go.Wk
open Go Go.RowKit Go.Proofs
set_option maxRecDepth 100000
theorem pageHasE {l x : List UInt8} {i : Nat} {w : World} (hl : l.length ≤ 1000000) (hx : x.length ≤ 1000000) (hi : i ≤ 1000000) : Fn PT 34 [S l,I i,S x] w (fun u w' => u = .bool (begS l i x) ∧ w = w'):=
 Fn.mono (pageHas_fn hl hx hi) (by rintro _ w' ⟨rfl,rfl⟩; exact ⟨rfl,rfl⟩)
structure PB (X B nb pb : Nat) (t : List UInt8) (v v' : QV) (nm po : Bool) (p : QP) (w w' : World) : Prop where
 q : QS X B t v' p w'
 hN : w'.heap[nb]? = some (.cells #[.bool nm] 4 (0,0))
 hP : w'.heap[pb]? = some (.cells #[.bool po] 4 (0,0))
 fr : QIT (fun q => q = nb ∨ q = pb) X v v' w w'
theorem PB.next {X B nb pb : Nat} {t : List UInt8} {v v' v'' : QV} {nm po : Bool} {p p' : QP} {w w' w'' : World} (h : PB X B nb pb t v v' nm po p w w') (g : QS X B t v'' p' w'') (i : QI X v' v'' w' w'') : PB X B nb pb t v v'' nm po p' w w'':=
 ⟨g,i.keep4 h.q h.hN,i.keep4 h.q h.hP,h.fr.trans i.toT⟩
theorem PB.ext {X B nb pb : Nat} {t : List UInt8} {v v' : QV} {nm po : Bool} {p : QP} {w w' w'' : World} (h : PB X B nb pb t v v' nm po p w w') (e : Ext w' w'') : PB X B nb pb t v v' nm po p w w'':=
 h.next (h.q.ext e) (QI.of_ext e)
theorem PB.setP {X B nb pb : Nat} {t : List UInt8} {v v' : QV} {nm po x : Bool} {p : QP} {w w' w'' : World} (h : PB X B nb pb t v v' nm po p w w') (hnp : nb ≠ pb) (hu : Upd w' pb (.cells #[.bool x] 4 (0,0)) w'') : PB X B nb pb t v v' nm x p w w'':=by
 obtain ⟨g,f⟩:=QS.upd4 h.q h.hP hu
 exact ⟨g,f.block h.hN hnp,hu.here,h.fr.trans ⟨f.mono fun _ _ e => Or.inr (Or.inr (Or.inr e)),fun _ hq => Or.inl hq⟩⟩
set_option maxHeartbeats 16000000 in
theorem parameters_qfn {X B : Nat} {t right : List UInt8} {v : QV} {p : QP} {w : World} (h : QS X B t v p w) (ht : t.length ≤ 30000) (hn : p.rs.length ≤ 8 * p.pos + 8) (hp : p.pos ≤ t.length) (h3 : right.length = 3) :
  QF X B t v w 91 [S right] (.tuple #[]) (p.parameters t right):=by
 have hX : HX X w t p.pos p.dv v.l v.nm p.inl p.wrong p.opn p.loose:=h.at_
 refine fn_of Tryz.func91 rfl Tryz.ntmps91 rfl ?_
 unfold QP.parameters
 repeat(first|refine C0 ?_|refine C1 ?_|refine X1 rfl rfl ?_|refine X0 rfl rfl ?_|refine X2 rfl rfl ?_|refine X3 rfl rfl rfl ?_|refine X22 rfl rfl hX rfl rfl ?_|refine X21 rfl rfl rfl ?_|refine C2 ?_)
 generalize decide (p.inl ≠ []) = inline
 refine RE.xe (e_alloc (cells:=#[.bool false]) Tryz.zeroValue4 rfl) rfl ?_
 rintro _ w1 ⟨nb,rfl,hn1⟩
 refine RE.xe (e_alloc (cells:=#[.bool false]) Tryz.zeroValue4 rfl) rfl ?_
 rintro _ w2 ⟨pb,rfl,hn2⟩
 have hnp : nb ≠ pb:=by have:=hn1.num; have:=hn2.num; have:=hn1.size; omega
 have hN2 : w2.heap[nb]? = some (.cells #[.bool false] 4 (0,0)):=hn2.ext.block hn1.here
 refine RE.xs (e_store rfl rfl rfl hN2 rfl rfl) ?_
 rintro _ w3 hu3
 have e2 : Ext w w2:=hn1.ext.trans hn2.ext
 obtain ⟨g3,f3⟩:=QS.upd4 (h.ext e2) hN2 hu3
 have hP3 : w3.heap[pb]? = some (.cells #[.bool false] 4 (0,0)):=f3.block hn2.here (fun e => hnp e.symm)
 refine RE.xs (e_store rfl rfl rfl hP3 rfl rfl) ?_
 rintro _ w4 hu4
 obtain ⟨g4,f4⟩:=QS.upd4 g3 hP3 hu4
 have hN4 : w4.heap[nb]? = some (.cells #[.bool false] 4 (0,0)):=f4.block hu3.here hnp
 have e4 : Ext w w4:=by
  have e3 : Ext w w3:=e2.fr f3 (fun q hq => by subst hq; have:=hn1.num; omega)
  exact e3.fr f4 (fun q hq => by subst hq; have:=hn2.num; have:=hn1.size; omega)
 have b0 : PB X B nb pb t v v false false p w4 w4:=⟨g4,hN4,hu4.here,(QI.refl X v w4).toT⟩
 have hsz : ∀ q,(q = nb ∨ q = pb) → w.heap.size ≤ q:=by
  have:=hn1.num; have:=hn2.num; have:=hn1.size
  rintro q (rfl | rfl) <;> omega
 have out : ∀ {v' : QV} {nm po : Bool} {p' : QP} {w' : World},PB X B nb pb t v v' nm po p' w4 w' → ∃ v',QS X B t v' p' w' ∧ QI X v v' w w':=fun b => ⟨_,b.q,QIT.toI e4 b.fr hsz⟩
 repeat(first|refine X0 rfl rfl ?_|refine C2 ?_)
 refine CE.cut (fun s ds w' => ds = [] ∧ ∃ v',QS X B t v' (parN t right inline (t.length + 1 - p.pos) false false true p) w' ∧ QI X v v' w w') ?_ ?_
 ·refine CE.block ?_
  refine CE.loop (α:=Nat × Bool × Bool × Bool × QP) (fun x => [(7,.bool x.2.2.2.1),(6,Ptr pb 0),(5,Ptr nb 0),(4,.bool inline),(1,S right),(0,Ptr X 0)])
   (fun x w' => (∃ v',PB X B nb pb t v v' x.2.1 x.2.2.1 x.2.2.2.2 w4 w') ∧ (x.2.2.2.2.over ∨ (x.2.2.2.2.pos ≤ t.length ∧ t.length + 1 ≤ x.1 + x.2.2.2.2.pos ∧ x.2.2.2.2.rs.length ≤ 8 * x.2.2.2.2.pos + 8)) ∧
    parN t right inline (t.length + 1 - p.pos) false false true p = parN t right inline x.1 x.2.1 x.2.2.1 x.2.2.2.1 x.2.2.2.2) (fun x => x.1) (t.length + 1 - p.pos,false,false,true,p)
   (by repeat first | trivial|refine ⟨rfl,?_⟩) ⟨⟨v,b0⟩,Or.inr ⟨hp,by show _ ≤ t.length + 1 - p.pos + p.pos; omega,hn⟩,rfl⟩ ?_
  rintro ⟨n,nm,po,ap,q⟩ w5 ⟨⟨v5,b5⟩,hov,hrun⟩
  dsimp only at b5 hov hrun
  rw [hrun]
  refine (show CE _ _ _ _ [(7,.bool ap),(6,Ptr pb 0),(5,Ptr nb 0),(4,.bool inline),(1,S right),(0,Ptr X 0)] _ _ from ?_)
  have g5:=b5.q
  repeat(first|refine C0 ?_|refine C1 ?_|refine X1 rfl rfl ?_)
  refine RE.xc en39 rfl rfl (qdone_fn g5) ?_
  rintro _ w6 ⟨rfl,hw⟩
  subst hw
  repeat(first|refine X11 rfl rfl ?_|refine C2 ?_)
  refine CE.cond_s rfl (fun h1 => ?_) (fun h1 => ?_)
  ·have hov2 : ¬ q.over:=by
    rintro (e | e) <;> (rw [e] at h1; simp at h1)
   obtain ⟨hql,hqn,hqr⟩:=hov.resolve_left hov2
   obtain ⟨m,rfl⟩ : ∃ m,n = m + 1:=⟨n - 1,by omega⟩
   have hgo : parN t right inline (m + 1) nm po ap q = _:=parN.eq_2 t right inline nm po ap q m
   have hr:=runTo_le (stop:=notW) (t:=t) _ q.pos rfl hql
   rw [if_neg (show ¬ (q.wrong = true ∨ q.opn = true) from hov2)] at hgo
   refine C3 ?_
   repeat refine C0 ?_
   refine CE.block ?_
   repeat(first|refine C0 ?_|refine C1 ?_|refine X1 rfl rfl ?_)
   refine RE.xc en86 rfl rfl (skip_qfn g5 (by omega) hql) ?_
   rintro _ w7 ⟨rfl,v7,g7,i7⟩
   have g7' : QS X B t v7 { q with pos:=runTo notW t q.pos } w7:=g7
   clear g7
   refine (show RE _ _ _ _ _ _ _ _ ((_,.bool (decide (q.pos < runTo notW t q.pos))) :: _) _ from ?_)
   generalize runTo notW t q.pos = a at g7' hr hgo
   have b7:=b5.next g7' i7
   have hN7:=b7.hN
   have hP7:=b7.hP
   repeat (refine X1 rfl rfl ?_)
   refine RE.cut (fun s ds w' => ds = [] ∧ w' = w7 ∧ SubL [(7,.bool (decide (q.pos < a) || (!nm && !po && ap))),(6,Ptr pb 0),(5,Ptr nb 0),(4,.bool inline),(1,S right),(0,Ptr X 0)] s) ?_ ?_
   ·refine RE.splitD (fun h2 => ?_) (fun h2 => ?_)
    ·rw [decide_eq_true h2,Bool.true_or]
     repeat(first|refine X0 rfl rfl ?_|refine X16 rfl rfl rfl rfl ?_|refine RE.nox rfl rfl rfl rfl ?_|refine RE.nou rfl rfl rfl ?_)
     refine RE.nilx ?_
     exact ⟨rfl,rfl,(by repeat first | trivial|refine ⟨rfl,?_⟩)⟩
    ·rw [decide_eq_false h2,Bool.false_or]
     clear hgo hrun b5 b7
     cases nm <;> cases po <;> (
      repeat(first|refine X1 rfl rfl ?_|refine X0 rfl rfl ?_|refine X22 rfl rfl hN7 rfl rfl ?_|refine X22 rfl rfl hP7 rfl rfl ?_|refine X11 rfl rfl ?_|refine X16 rfl rfl rfl rfl ?_|refine X17 rfl rfl rfl ?_|refine RE.want rfl rfl ?_|refine RE.nox rfl rfl rfl rfl ?_)
      refine RE.nilx ?_
      exact ⟨rfl,rfl,(by repeat first | trivial|refine ⟨rfl,?_⟩)⟩)
   rintro s _ w8 ⟨rfl,hw,hs⟩
   subst hw
   refine CE.sub hs ?_
   generalize (decide (q.pos < a) || (!nm && !po && ap)) = ap' at hgo
   generalize hq1 : ({ q with pos:=a } : QP) = q1 at g7' b7 hgo
   have hq1p : q1.pos = a:=by rw [← hq1]
   have hq1r : q1.rs = q.rs:=by rw [← hq1]
   have hq1o : ¬ q1.over:=by rw [← hq1]; exact hov2
   have hg1 : ∀ {q' : QP},Gw t q1 q' → Gw t q q':=fun {q'} hg => Gw.skip hr.1 (hq1 ▸ hg)
   have fin1 : ∀ {s : Slots} {v' : QV} {q' : QP} {w' : World},PB X B nb pb t v v' nm po q' w4 w' → parN t right inline (m + 1) nm po ap q = q' →
     ∃ v',QS X B t v' (parN t right inline (m + 1) nm po ap q) w' ∧ QI X v v' w w':=fun b e => by rw [e]; exact out b
   repeat refine C0 ?_
   refine CE.cut (fun s ds w' => ds = [] ∧ ∃ nm' po' v' q',PB X B nb pb t v v' nm' po' q' w4 w' ∧ Gw t q q' ∧ parN t right inline (m + 1) nm po ap q = parN t right inline m nm' po' false q' ∧ SubL [(6,Ptr pb 0),(5,Ptr nb 0),(4,.bool inline),(1,S right),(0,Ptr X 0)] s) ?_ ?_
   ·have stop : ∀ {s : Slots} {v' : QV} {q' : QP} {w' : World},PB X B nb pb t v v' nm po q' w4 w' → q'.over → parN t right inline (m + 1) nm po ap q = q' → SubL [(6,Ptr pb 0),(5,Ptr nb 0),(4,.bool inline),(1,S right),(0,Ptr X 0)] s →
      ∃ nm' po' v' q',PB X B nb pb t v v' nm' po' q' w4 w' ∧ Gw t q q' ∧ parN t right inline (m + 1) nm po ap q = parN t right inline m nm' po' false q' ∧ SubL [(6,Ptr pb 0),(5,Ptr nb 0),(4,.bool inline),(1,S right),(0,Ptr X 0)] s:=
     fun b ho e hs => ⟨_,_,_,_,b,Or.inl ho,e.trans (parN_over ho).symm,hs⟩
    refine CE.block ?_
    have hX8 : HX X w8.drew t a q1.dv v7.l v7.nm q1.inl q1.wrong q1.opn q1.loose:=by rw [← hq1p]; exact g7'.at_
    have b9:=b7.ext (Ext.drew w8)
    repeat refine C0 ?_
    refine CE.draw [0,0,0,0,0,0,0,0,0,0,0] mixed (by decide +kernel) ?_
    repeat(first|refine Y1 rfl rfl ?_|refine Y0 rfl rfl ?_|refine Y2 rfl rfl ?_|refine Y3 rfl rfl rfl ?_|refine Y22 rfl rfl hX8 rfl rfl ?_|refine Y5 rfl rfl rfl ?_|refine Y14 rfl Tryz.underlying9 rfl ?_|refine C2 ?_)
    generalize w8.drew = w9 at hX8 b9
    refine CE.cond_d rfl (fun h2 => ?_) (fun h2 => ?_)
    ·rw [if_pos (show a = t.length by omega)] at hgo
     repeat(first|refine C1 ?_|refine X1 rfl rfl ?_)
     refine RE.xc en84 rfl rfl (qfail_fn b9.q (by rw [hq1r]; omega)) ?_
     rintro _ w10 ⟨rfl,v10,g10,i10⟩
     refine RE.nilx ?_
     exact ⟨rfl,stop (b9.next g10 i10) (fail_over q1) hgo (by repeat first | trivial|refine ⟨rfl,?_⟩)⟩
    have hal : a < t.length:=by omega
    rw [if_neg (show ¬ a = t.length by omega)] at hgo
    have hX10 : HX X w9.drew t a q1.dv v7.l v7.nm q1.inl q1.wrong q1.opn q1.loose:=hX8
    have b10:=b9.ext (Ext.drew w9)
    repeat refine C0 ?_
    refine CE.draw [0,0,0,0,0,0,0,0,0,0,0] mixed (by decide +kernel) ?_
    repeat(first|refine Y1 rfl rfl ?_|refine Y2 rfl rfl ?_|refine Y3 rfl rfl rfl ?_|refine Y22 rfl rfl hX10 rfl rfl ?_)
    refine RE.dc en34 rfl rfl (fun w11 _ => pageHasE (i:=a) (x:=right) (by omega) (by omega) (by omega)) ?_
    repeat(first|refine Y0 rfl rfl ?_|refine C2 ?_)
    generalize w9.drew = w10 at hX10 b10
    refine CE.cond_s rfl (fun h4 => ?_) (fun h4 => ?_)
    ·rw [if_pos h4] at hgo
     repeat(first|refine C0 ?_|refine C1 ?_|refine X1 rfl rfl ?_)
     refine RE.xc en88 rfl rfl (finish_qfn b10.q (by rw [hq1r]; omega) (by rw [hq1p]; omega) (by omega)) ?_
     rintro _ w11 ⟨rfl,v11,g11,i11⟩
     repeat (refine C2 ?_)
     refine CE.ret ?_
     (try dsimp only)
     refine ret0 rfl ?_
     rw [hgo]
     exact ⟨rfl,out (b10.next g11 i11)⟩
    rw [if_neg (by rw [h4]; simp)] at hgo
    have hX11 : HX X w10.drew t a q1.dv v7.l v7.nm q1.inl q1.wrong q1.opn q1.loose:=hX10
    have b11:=b10.ext (Ext.drew w10)
    repeat refine C0 ?_
    refine CE.cut (fun s ds w' => ds = [] ∧ w' = w10.drew ∧ SubL [(58,.bool (begS t a gt3 || begS t a pct3)),(7,.bool ap'),(6,Ptr pb 0),(5,Ptr nb 0),(4,.bool inline),(1,S right),(0,Ptr X 0)] s) ?_ ?_
    ·refine CE.draw [0,0,0,0,0,0,0,0,0,0,0,0,0,0,0,0,0,0,0,0,0] mixed (by decide +kernel) ?_
     repeat(first|refine Y1 rfl rfl ?_|refine Y2 rfl rfl ?_|refine Y3 rfl rfl rfl ?_|refine Y22 rfl rfl hX11 rfl rfl ?_)
     refine RE.dc en34 rfl rfl (fun w11 _ => pageHasE (i:=a) (x:=gt3) (by omega) (by decide) (by omega)) ?_
     repeat (refine Y1 rfl rfl ?_)
     cases h5 : begS t a gt3 with
     | true =>
      repeat(first|refine Y0 rfl rfl ?_|refine Y16 rfl rfl rfl rfl ?_|refine RE.no0 rfl rfl rfl rfl ?_)
      refine RE.nilx ?_
      exact ⟨rfl,rfl,(by repeat first | trivial|refine ⟨rfl,?_⟩)⟩
     | false =>
      repeat(first|refine Y1 rfl rfl ?_|refine Y2 rfl rfl ?_|refine Y3 rfl rfl rfl ?_|refine Y22 rfl rfl hX11 rfl rfl ?_|refine RE.want rfl rfl ?_)
      refine RE.dc en34 rfl rfl (fun w11 _ => pageHasE (i:=a) (x:=pct3) (by omega) (by decide) (by omega)) ?_
      repeat(first|refine Y0 rfl rfl ?_|refine Y17 rfl rfl rfl ?_)
      refine RE.nilx ?_
      exact ⟨rfl,rfl,(by repeat first | trivial|refine ⟨rfl,?_⟩)⟩
    rintro s _ w11 ⟨rfl,hw,hs⟩
    subst hw
    refine CE.sub hs ?_
    generalize w10.drew = w11 at hX11 b11
    refine CE.cond_s rfl (fun h5 => ?_) (fun h5 => ?_)
    ·rw [if_pos (by simpa using h5)] at hgo
     repeat(first|refine C1 ?_|refine X1 rfl rfl ?_)
     refine RE.xc en84 rfl rfl (qfail_fn b11.q (by rw [hq1r]; omega)) ?_
     rintro _ w12 ⟨rfl,v12,g12,i12⟩
     refine RE.nilx ?_
     exact ⟨rfl,stop (b11.next g12 i12) (fail_over q1) hgo (by repeat first | trivial|refine ⟨rfl,?_⟩)⟩
    rw [if_neg (by simpa using h5)] at hgo
    repeat(first|refine C0 ?_|refine C1 ?_|refine X1 rfl rfl ?_)
    refine RE.cut (fun s ds w' => ds = [] ∧ w' = w11 ∧ SubL [(81,.bool (decide (inline = true ∨ ap' = false))),(6,Ptr pb 0),(5,Ptr nb 0),(4,.bool inline),(1,S right),(0,Ptr X 0)] s) ?_ ?_
    ·clear hgo
     cases inline <;> cases ap' <;> (
      repeat(first|refine X1 rfl rfl ?_|refine X0 rfl rfl ?_|refine X11 rfl rfl ?_|refine X16 rfl rfl rfl rfl ?_|refine X17 rfl rfl rfl ?_|refine RE.want rfl rfl ?_|refine RE.nox rfl rfl rfl rfl ?_)
      refine RE.nilx ?_
      exact ⟨rfl,rfl,(by repeat first | trivial|refine ⟨rfl,?_⟩)⟩)
    rintro s _ w12 ⟨rfl,hw,hs⟩
    subst hw
    refine CE.sub hs ?_
    refine CE.cond_d rfl (fun h6 => ?_) (fun h6 => ?_)
    ·rw [if_pos h6] at hgo
     repeat(first|refine C1 ?_|refine X1 rfl rfl ?_|refine X2 rfl rfl ?_|refine X3 rfl rfl rfl ?_)
     refine RE.xs (e_store rfl rfl rfl hX11 rfl rfl) ?_
     rintro _ w13 hu13
     obtain ⟨g13,i13⟩:=QS.upd (p':={ q1 with opn:=true }) b11.q (by rw [← hq1p] at hu13; exact hu13) rfl rfl
     refine RE.nilx ?_
     refine ⟨rfl,stop (b11.next g13 i13) (Or.inr rfl) ?_ (by repeat first | trivial|refine ⟨rfl,?_⟩)⟩
     rw [hgo,← hq1]
    rw [if_neg h6] at hgo
    have hX12 : HX X w12.drew t a q1.dv v7.l v7.nm q1.inl q1.wrong q1.opn q1.loose:=hX11
    have b12:=b11.ext (Ext.drew w12)
    repeat refine C0 ?_
    refine CE.draw [0,0,0,0,0,0,0,0,0,0] mixed (by decide +kernel) ?_
    repeat(first|refine Y1 rfl rfl ?_|refine Y2 rfl rfl ?_|refine Y3 rfl rfl rfl ?_|refine Y22 rfl rfl hX12 rfl rfl ?_)
    refine RE.dc en34 rfl rfl (fun w13 _ => pageHasE (i:=a) (x:=[47]) (by omega) (by decide) (by omega)) ?_
    repeat(first|refine Y0 rfl rfl ?_|refine C2 ?_)
    generalize w12.drew = w13 at hX12 b12
    refine CE.cond_s rfl (fun h7 => ?_) (fun h7 => ?_)
    ·rw [if_pos h7] at hgo
     repeat(first|refine C0 ?_|refine C1 ?_|refine X1 rfl rfl ?_|refine X2 rfl rfl ?_|refine X3 rfl rfl rfl ?_|refine X22 rfl rfl hX12 rfl rfl ?_)
     refine RE.xc en65 rfl rfl (qput_fn (kind:=12) (fr:=a) (tx:=[47]) b12.q (by rw [hq1r]; omega) (by decide)) ?_
     rintro _ w14 ⟨rfl,v14,g14,i14⟩
     have hX14 : HX X w14 t a q1.dv v14.l v14.nm q1.inl q1.wrong q1.opn q1.loose:=by rw [← hq1p]; exact g14.at_
     have hl14 : (q1.put 12 a [47]).rs.length = q.rs.length + 1:=by rw [put_len,hq1r]
     have b14:=b12.next g14 i14
     repeat(first|refine C0 ?_|refine C1 ?_|refine X1 rfl rfl ?_|refine X2 rfl rfl ?_|refine X3 rfl rfl rfl ?_|refine X22 rfl rfl hX14 rfl rfl ?_|refine X18 rfl rfl (by omega) (by omega) rfl ?_|refine C2 ?_)
     refine RE.xs (e_store rfl rfl rfl hX14 rfl rfl) ?_
     rintro _ w15 hu15
     obtain ⟨g15,i15⟩:=QS.upd (p':={ q1.put 12 a [47] with pos:=a + 1 }) g14 (by rw [← hq1p] at hu15 ⊢; exact hu15) rfl rfl
     have b15:=b14.next g15 i15
     have hml:=runTo_le (stop:=notW) (t:=t) _ (a + 1) rfl hal
     repeat(first|refine C0 ?_|refine C1 ?_|refine X1 rfl rfl ?_|refine C2 ?_)
     refine RE.xc en86 rfl rfl (skip_qfn g15 (by omega) (by show a + 1 ≤ _; omega)) ?_
     rintro _ w16 ⟨rfl,v16,g16,i16⟩
     have g16' : QS X B t v16 { q1.put 12 a [47] with pos:=runTo notW t (a + 1) } w16:=g16
     clear g16
     have b16:=b15.next g16' i16
     have hq1w : ∀ (m : Nat),({ q.put 12 a [47] with pos:=m } : QP) = { q1.put 12 a [47] with pos:=m }:=fun m => by rw [← hq1]
     have hq1w2 : ∀ (m : Nat),({ q.put 12 a [47] with pos:=m,opn:=true } : QP) = { q1.put 12 a [47] with pos:=m,opn:=true }:=fun m => by rw [← hq1]
     rw [hq1w,hq1w2] at hgo
     refine (show RE _ _ _ _ _ _ _ _ _ _ from ?_)
     generalize runTo notW t (a + 1) = m2 at g16' hml b16 hgo
     have hX16 : HX X w16.drew t m2 q1.dv v16.l v16.nm q1.inl q1.wrong q1.opn q1.loose:=g16'.at_
     have b17:=b16.ext (Ext.drew w16)
     repeat(first|refine C0 ?_|refine C2 ?_)
     repeat refine C0 ?_
     refine CE.draw [0,0,0,0,0,0,0,0,0,0,0] mixed (by decide +kernel) ?_
     repeat(first|refine Y1 rfl rfl ?_|refine Y2 rfl rfl ?_|refine Y3 rfl rfl rfl ?_|refine Y22 rfl rfl hX16 rfl rfl ?_)
     refine RE.dc en34 rfl rfl (fun w17 _ => pageHasE (i:=m2) (x:=right) (by omega) (by omega) (by omega)) ?_
     repeat(first|refine Y11 rfl rfl ?_|refine C2 ?_)
     generalize w16.drew = w17 at hX16 b17
     refine CE.cond_s rfl (fun h8 => ?_) (fun h8 => ?_)
     ·rw [if_pos (by simpa using h8)] at hgo
      repeat(first|refine C0 ?_|refine C1 ?_|refine X1 rfl rfl ?_|refine X2 rfl rfl ?_|refine X3 rfl rfl rfl ?_)
      refine RE.xs (e_store rfl rfl rfl hX16 rfl rfl) ?_
      rintro _ w18 hu18
      obtain ⟨g18,i18⟩:=QS.upd (p':={ q1.put 12 a [47] with pos:=m2,opn:=true }) b17.q hu18 rfl rfl
      repeat (refine C2 ?_)
      refine CE.ret ?_
      (try dsimp only)
      refine ret0 rfl ?_
      rw [hgo]
      exact ⟨rfl,out (b17.next g18 i18)⟩
     have h8' : begS t m2 right = true:=by simpa using h8
     rw [if_neg (by rw [h8']; simp)] at hgo
     refine C3 ?_
     repeat(first|refine C0 ?_|refine C1 ?_|refine X1 rfl rfl ?_)
     refine RE.xc en88 rfl rfl (finish_qfn b17.q (by show (q1.put 12 a [47]).rs.length ≤ _; omega) (by show m2 ≤ _; omega) (by omega)) ?_
     rintro _ w18 ⟨rfl,v18,g18,i18⟩
     repeat (refine C2 ?_)
     refine CE.ret ?_
     (try dsimp only)
     refine ret0 rfl ?_
     rw [hgo]
     exact ⟨rfl,out (b17.next g18 i18)⟩
    rw [if_neg (by rw [h7]; simp)] at hgo
    have hix : t[((a : Nat) : Int).toNat]? = some t[a]:=by rw [Int.toNat_natCast]; exact List.getElem?_eq_getElem hal
    have hck:=chr_at hal
    generalize t[a] = b at hix hck
    have hX14 : HX X w13.drew t a q1.dv v7.l v7.nm q1.inl q1.wrong q1.opn q1.loose:=hX12
    have b14:=b12.ext (Ext.drew w13)
    repeat refine C0 ?_
    refine CE.cut (fun s ds w' => ds = [] ∧ w' = w13.drew ∧ SubL [(132,.bool (decide (chr t a = 34 ∨ chr t a = 96))),(6,Ptr pb 0),(5,Ptr nb 0),(4,.bool inline),(1,S right),(0,Ptr X 0)] s) ?_ ?_
    ·refine CE.draw [0,0,0,0,0,0,0,0,0,0,0,0,0,0,0,0,0,0,0,0,0,0,0] mixed (by decide +kernel) ?_
     repeat(first|refine Y1 rfl rfl ?_|refine Y2 rfl rfl ?_|refine Y3 rfl rfl rfl ?_|refine Y22 rfl rfl hX14 rfl rfl ?_)
     refine RE.d1 (op_index_s (b:=b) rfl rfl Tryz.underlying9 (by omega) hix) rfl ?_
     repeat(first|refine Y1 rfl rfl ?_|refine Y5 rfl rfl rfl ?_)
     refine RE.splitD (fun h8 => ?_) (fun h8 => ?_)
     ·rw [decide_eq_true (show chr t a = 34 ∨ chr t a = 96 by omega)]
      repeat(first|refine Y0 rfl rfl ?_|refine Y16 rfl rfl rfl rfl ?_|refine RE.no0 rfl rfl rfl rfl ?_)
      refine RE.nilx ?_
      exact ⟨rfl,rfl,(by repeat first | trivial|refine ⟨rfl,?_⟩)⟩
     ·have hcb : decide (chr t a = 34 ∨ chr t a = 96) = decide ((b.toNat : Int) = 96):=decide_eq_decide.2 (by omega)
      rw [hcb]
      repeat(first|refine Y1 rfl rfl ?_|refine Y2 rfl rfl ?_|refine Y3 rfl rfl rfl ?_|refine Y22 rfl rfl hX14 rfl rfl ?_|refine RE.want rfl rfl ?_)
      refine RE.d1 (op_index_s (b:=b) rfl rfl Tryz.underlying9 (by omega) hix) rfl ?_
      repeat(first|refine Y0 rfl rfl ?_|refine Y5 rfl rfl rfl ?_|refine Y17 rfl rfl rfl ?_|refine RE.want rfl rfl ?_)
      refine RE.nilx ?_
      exact ⟨rfl,rfl,(by repeat first | trivial|refine ⟨rfl,?_⟩)⟩
    rintro s _ w14 ⟨rfl,hw,hs⟩
    subst hw
    refine CE.sub hs ?_
    generalize w13.drew = w14 at hX14 b14
    have hN14:=b14.hN
    refine CE.cond_d rfl (fun h8 => ?_) (fun h8 => ?_)
    ·rw [if_pos h8] at hgo
     repeat(first|refine C0 ?_|refine C1 ?_|refine X22 rfl rfl hN14 rfl rfl ?_|refine C2 ?_)
     refine CE.cond_s rfl (fun h9 => ?_) (fun h9 => ?_)
     ·rw [if_pos h9] at hgo
      repeat(first|refine C0 ?_|refine C1 ?_|refine X1 rfl rfl ?_|refine X2 rfl rfl ?_|refine X3 rfl rfl rfl ?_)
      refine RE.xs (e_store rfl rfl rfl hX14 rfl rfl) ?_
      rintro _ w15 hu15
      obtain ⟨g15,i15⟩:=QS.upd (p':={ q1 with loose:=true }) b14.q (by rw [← hq1p] at hu15; exact hu15) rfl rfl
      have b15:=b14.next g15 i15
      repeat(first|refine C0 ?_|refine C1 ?_|refine X1 rfl rfl ?_|refine C2 ?_)
      refine RE.xc en84 rfl rfl (qfail_fn g15 (by show q1.rs.length ≤ _; rw [hq1r]; omega)) ?_
      rintro _ w16 ⟨rfl,v16,g16,i16⟩
      repeat (refine C2 ?_)
      refine CE.ret ?_
      (try dsimp only)
      refine ret0 rfl ?_
      rw [hgo]
      exact ⟨rfl,out (b15.next g16 i16)⟩
     rw [if_neg (by rw [h9]; simp)] at hgo
     refine C3 ?_
     repeat(first|refine C0 ?_|refine C1 ?_)
     refine RE.xs (e_store rfl rfl rfl b14.hP rfl rfl) ?_
     rintro _ w15 hu15
     have b15:=b14.setP hnp hu15
     repeat(first|refine C1 ?_|refine X1 rfl rfl ?_|refine C2 ?_)
     refine RE.xc en110 rfl rfl (quoted_qfn b15.q (by omega) (by rw [hq1r]; omega) (by rw [hq1p]; omega)) ?_
     rintro _ w16 ⟨rfl,v16,g16,i16⟩
     refine RE.nilx ?_
     exact ⟨rfl,_,_,_,_,b15.next g16 i16,hg1 gw_quoted,hgo,(by repeat first | trivial|refine ⟨rfl,?_⟩)⟩
    rw [if_neg h8] at hgo
    repeat(first|refine C1 ?_|refine X1 rfl rfl ?_)
    refine RE.xc en111 rfl rfl (parameter_qfn b14.q b14.hN b14.hP hnp (by omega) (by rw [hq1r]; omega) (by rw [hq1p]; omega)) ?_
    rintro _ w15 ⟨rfl,v15,g15,hN15,hP15,i15⟩
    refine RE.nilx ?_
    exact ⟨rfl,_,_,_,_,⟨g15,hN15,hP15,b14.fr.trans i15⟩,hg1 (gw_parameter (by rw [hq1p]; omega)),hgo,(by repeat first | trivial|refine ⟨rfl,?_⟩)⟩
   rintro s _ w9 ⟨rfl,nm',po',v9,q',b9,hg9,hrun9,hs⟩
   refine CE.sub hs ?_
   repeat(first|refine C1 ?_|refine X0 rfl rfl ?_)
   refine RE.nilx ?_
   refine ⟨(m,nm',po',false,q'),by show m < m + 1; omega,rfl,(by repeat first | trivial|refine ⟨rfl,?_⟩),⟨v9,b9⟩,?_,hrun9⟩
   rcases hg9 with hg | hg
   ·exact Or.inl hg
   ·have:=hg.lt; have:=hg.rs
    exact Or.inr ⟨hg.le,by show _ ≤ m + q'.pos; omega,by show q'.rs.length ≤ 8 * q'.pos + 8; omega⟩
  ·have hov2 : q.over:=by
    unfold QP.over
    cases e1 : q.wrong <;> cases e2 : q.opn <;> simp_all
   refine CE.exit ?_
   rw [parN_over hov2]
   exact ⟨rfl,out b5⟩
 rintro s _ w5 ⟨rfl,v5,g5,i5⟩
 refine end0 rfl ?_
 exact ⟨rfl,v5,g5,i5⟩
end Go.Wk
