/- The specification's lexer: a parameter. -/
import Derived.Test.YtmbencknblcocaaGreatDoorYbd
import Derived.Test.YtmbencknblcocaaGreatDoorYbb
namespace Go.Wk
open Go Go.RowKit Go.Proofs
set_option maxRecDepth 100000
structure QIT (T : Nat → Prop) (X : Nat) (v v' : QV) (w w' : World) : Prop where
 fr : Fr (fun q => q = X ∨ v.own q ∨ T q) w w'
 nw : ∀ q,v'.own q → v.own q ∨ w.heap.size ≤ q
theorem QI.toT {T : Nat → Prop} {X : Nat} {v v' : QV} {w w' : World} (h : QI X v v' w w') : QIT T X v v' w w':=
 ⟨h.fr.mono fun _ _ hq => by rcases hq with e | e; exact Or.inl e; exact Or.inr (Or.inl e),h.nw⟩
theorem QIT.trans {T : Nat → Prop} {X : Nat} {v v' v'' : QV} {w w' w'' : World} (h : QIT T X v v' w w') (k : QIT T X v' v'' w' w'') : QIT T X v v'' w w'':=by
 refine ⟨⟨k.fr.os.trans h.fr.os,k.fr.tape.trans h.fr.tape,k.fr.output.trans h.fr.output,Nat.le_trans h.fr.size k.fr.size,fun q hq hn => ?_⟩,fun q hq => ?_⟩
 ·rw [k.fr.same q (Nat.lt_of_lt_of_le hq h.fr.size) ?_]
  ·exact h.fr.same q hq hn
  ·rintro (h1 | h1 | h1)
   ·exact hn (Or.inl h1)
   ·rcases h.nw q h1 with h2 | h2
    ·exact hn (Or.inr (Or.inl h2))
    ·omega
   ·exact hn (Or.inr (Or.inr h1))
 ·rcases k.nw q hq with h1 | h1
  ·exact h.nw q h1
  ·exact Or.inr (Nat.le_trans h.fr.size h1)
theorem QIT.toI {T : Nat → Prop} {X : Nat} {v v' : QV} {w w0 w' : World} (e : Ext w w0) (h : QIT T X v v' w0 w') (hT : ∀ q,T q → w.heap.size ≤ q) : QI X v v' w w':=by
 have hfe : Fr (fun q => q = X ∨ v.own q) w w0:=Fr.of_ext e
 refine ⟨⟨h.fr.os.trans hfe.os,h.fr.tape.trans hfe.tape,h.fr.output.trans hfe.output,Nat.le_trans hfe.size h.fr.size,fun q hq hn => ?_⟩,fun q hq => ?_⟩
 ·rw [h.fr.same q (Nat.lt_of_lt_of_le hq hfe.size) ?_]
  ·exact hfe.same q hq hn
  ·rintro (h1 | h1 | h1)
   ·exact hn (Or.inl h1)
   ·exact hn (Or.inr h1)
   ·have:=hT q h1; omega
 ·rcases h.nw q hq with h1 | h1
  ·exact Or.inl h1
  ·exact Or.inr (Nat.le_trans hfe.size h1)
theorem QS.no4 {X B : Nat} {t : List UInt8} {v : QV} {p : QP} {w : World} (h : QS X B t v p w) {q : Nat} {cs : Array Value} (hq : w.heap[q]? = some (.cells cs 4 (0,0))) : q ≠ X ∧ ¬ v.own q:=by
 refine ⟨?_,?_⟩
 ·rintro rfl
  rw [h.at_] at hq
  cases hq
 ·rintro (h1 | h1)
  ·obtain ⟨cs',hc⟩:=own_tag h.ol h1
   rw [hq] at hc
   cases hc
  ·obtain ⟨cs',hc⟩:=own_tag h.on h1
   rw [hq] at hc
   cases hc
theorem QI.keep4 {X B : Nat} {t : List UInt8} {v v' : QV} {p : QP} {w w' : World} (k : QI X v v' w w') (h : QS X B t v p w) {q : Nat} {cs : Array Value} (hq : w.heap[q]? = some (.cells cs 4 (0,0))) : w'.heap[q]? = some (.cells cs 4 (0,0)):=
 k.block hq (h.no4 hq).1 (h.no4 hq).2
theorem QS.upd4 {X B : Nat} {t : List UInt8} {v : QV} {p : QP} {w w' : World} (h : QS X B t v p w) {q : Nat} {cs cs' : Array Value} (hq : w.heap[q]? = some (.cells cs 4 (0,0))) (hu : Upd w q (.cells cs' 4 (0,0)) w') :
  QS X B t v p w' ∧ Fr (fun r => r = q) w w':=by
 have hf : Fr (fun r => r = q) w w':=Fr.of_upd hu rfl
 have hn:=h.no4 hq
 refine ⟨⟨hf.block h.at_ (fun e => hn.1 e.symm),ownsRow_fr h.ol hf ?_,ownsRow_fr h.on hf ?_,h.base⟩,hf⟩
 ·intro r hr e
  exact hn.2 (Or.inl (e ▸ hr))
 ·intro r hr e
  exact hn.2 (Or.inr (e ▸ hr))
theorem par_stop (t : List UInt8) (p : QP) (k : Nat) (hp : p.pos < t.length) : (decide (k = p.pos ∨ k = t.length ∨ chr t p.pos = 46 ∨ chr t p.pos = 45)) = (decide (k = p.pos) || (decide (k = t.length) || (decide (chr t p.pos = 46) || decide (chr t p.pos = 45)))):=by
 by_cases h1 : k = p.pos <;> by_cases h2 : k = t.length <;> by_cases h3 : chr t p.pos = 46 <;> by_cases h4 : chr t p.pos = 45 <;> simp [h1,h2,h3,h4]
set_option maxHeartbeats 16000000 in
theorem parameter_qfn {X B nb pb : Nat} {nm po : Bool} {t : List UInt8} {v : QV} {p : QP} {w : World} (h : QS X B t v p w) (hN : w.heap[nb]? = some (.cells #[.bool nm] 4 (0,0))) (hP : w.heap[pb]? = some (.cells #[.bool po] 4 (0,0))) (hnp : nb ≠ pb)
  (ht : t.length ≤ 100000) (hn : p.rs.length ≤ 600000) (hp : p.pos < t.length) :
  Fn PT 111 [Ptr X 0,Ptr nb 0,Ptr pb 0] w (fun u w' => u = .tuple #[] ∧ ∃ v',QS X B t v' (p.parameter t nm po).2.2 w' ∧ w'.heap[nb]? = some (.cells #[.bool (p.parameter t nm po).1] 4 (0,0)) ∧
   w'.heap[pb]? = some (.cells #[.bool (p.parameter t nm po).2.1] 4 (0,0)) ∧ QIT (fun q => q = nb ∨ q = pb) X v v' w w'):=by
 have hX : HX X w t p.pos p.dv v.l v.nm p.inl p.wrong p.opn p.loose:=h.at_
 refine fn_of Tryz.func111 rfl Tryz.ntmps111 rfl ?_
 unfold QP.parameter
 have hkl:=runTo_le (stop:=notPar) (t:=t) _ p.pos rfl (Nat.le_of_lt hp)
 repeat(first|refine C0 ?_|refine C1 ?_|refine X1 rfl rfl ?_|refine X0 rfl rfl ?_|refine X2 rfl rfl ?_|refine X3 rfl rfl rfl ?_|refine X22 rfl rfl hX rfl rfl ?_|refine C2 ?_)
 refine CE.cut (fun s ds w' => ds = [] ∧ w' = w ∧ SubL [(6,I (runTo notPar t p.pos)),(2,Ptr pb 0),(1,Ptr nb 0),(0,Ptr X 0)] s) ?_ ?_
 ·refine CE.block ?_
  refine CE.loop (α:=Nat) (fun k => [(6,I k),(2,Ptr pb 0),(1,Ptr nb 0),(0,Ptr X 0)]) (fun k w' => w' = w ∧ k ≤ t.length ∧ runTo notPar t p.pos = runTo notPar t k) (fun k => t.length - k) p.pos (by repeat first | trivial|refine ⟨rfl,?_⟩) ⟨rfl,Nat.le_of_lt hp,rfl⟩ ?_
  rintro k w2 ⟨hw,hk,hrun⟩
  subst hw
  repeat(first|refine C0 ?_|refine C1 ?_|refine X1 rfl rfl ?_|refine X2 rfl rfl ?_|refine X3 rfl rfl rfl ?_|refine X22 rfl rfl hX rfl rfl ?_|refine X7 rfl rfl rfl ?_|refine X14 rfl Tryz.underlying9 rfl ?_)
  refine RE.splitD (fun h2 => ?_) (fun h2 => ?_)
  ·have hk' : k < t.length:=by omega
   have hix : t[((k : Nat) : Int).toNat]? = some t[k]:=by rw [Int.toNat_natCast]; exact List.getElem?_eq_getElem hk'
   have hgo : notPar t[k] = false → runTo notPar t k = runTo notPar t (k + 1):=fun e => runTo_go hk' e
   have hat : notPar t[k] = true → runTo notPar t k = k:=fun e => runTo_at hk' e
   generalize t[k] = b at hix hgo hat
   repeat(first|refine X1 rfl rfl ?_|refine X2 rfl rfl ?_|refine X3 rfl rfl rfl ?_|refine X22 rfl rfl hX rfl rfl ?_|refine RE.want rfl rfl ?_)
   refine RE.x (op_index_s (b:=b) rfl rfl Tryz.underlying9 (by omega) hix) rfl ?_
   refine RE.want rfl rfl ?_
   refine RE.xc en89 rfl rfl (pageWord_fn b w2) ?_
   rintro _ w3 ⟨rfl,hw⟩
   subst hw
   repeat(first|refine X1 rfl rfl ?_|refine RE.want rfl rfl ?_)
   refine RE.splitH (fun h3 => ?_) (fun h3 => ?_)
   ·have hgo':=hrun.trans (hgo (by unfold notPar; rw [h3]; rfl))
    repeat(first|refine X16 rfl rfl rfl rfl ?_|refine RE.want rfl rfl ?_|refine RE.nox rfl rfl rfl rfl ?_|refine C2 ?_)
    refine CE.cond_t rfl ?_
    refine C3 ?_
    refine CE.block ?_
    repeat(first|refine C1 ?_|refine X1 rfl rfl ?_|refine X0 rfl rfl ?_|refine X18 rfl rfl (by omega) (by omega) rfl ?_)
    refine RE.nilx ?_
    exact ⟨k + 1,by show t.length - (k + 1) < t.length - k; omega,rfl,(by repeat first | trivial|refine ⟨rfl,?_⟩),rfl,hk',hgo'⟩
   ·repeat(first|refine X1 rfl rfl ?_|refine X2 rfl rfl ?_|refine X3 rfl rfl rfl ?_|refine X22 rfl rfl hX rfl rfl ?_|refine RE.want rfl rfl ?_)
    refine RE.x (op_index_s (b:=b) rfl rfl Tryz.underlying9 (by omega) hix) rfl ?_
    repeat(first|refine X5 rfl rfl rfl ?_|refine X16 rfl rfl rfl rfl ?_|refine X17 rfl rfl rfl ?_|refine RE.want rfl rfl ?_|refine C2 ?_)
    refine CE.cond_d rfl (fun h4 => ?_) (fun h4 => ?_)
    ·have hgo':=hrun.trans (hgo (by unfold notPar; rw [h3,decide_eq_true (show b.toNat = 46 by omega)]; rfl))
     refine C3 ?_
     refine CE.block ?_
     repeat(first|refine C1 ?_|refine X1 rfl rfl ?_|refine X0 rfl rfl ?_|refine X18 rfl rfl (by omega) (by omega) rfl ?_)
     refine RE.nilx ?_
     exact ⟨k + 1,by show t.length - (k + 1) < t.length - k; omega,rfl,(by repeat first | trivial|refine ⟨rfl,?_⟩),rfl,hk',hgo'⟩
    ·have hat':=hrun.trans (hat (by unfold notPar; rw [h3,decide_eq_false (show ¬ b.toNat = 46 by omega)]; rfl))
     refine CE.exit ?_
     rw [hat']
     exact ⟨rfl,rfl,(by repeat first | trivial|refine ⟨rfl,?_⟩)⟩
  ·repeat(first|refine X17 rfl rfl rfl ?_|refine RE.nox rfl rfl rfl rfl ?_|refine RE.nou rfl rfl rfl ?_|refine C2 ?_)
   refine CE.cond_f rfl ?_
   refine CE.exit ?_
   have hr:=hrun.trans (runTo_end (stop:=notPar) (t:=t) (p:=k) (by omega))
   rw [hr]
   exact ⟨rfl,rfl,(by repeat first | trivial|refine ⟨rfl,?_⟩)⟩
 rintro s _ w1 ⟨rfl,hw,hs⟩
 subst hw
 refine CE.sub hs ?_
 generalize runTo notPar t p.pos = k at hkl
 unfold QP.parameterK
 have hbi : t[((p.pos : Nat) : Int).toNat]? = some t[p.pos]:=by rw [Int.toNat_natCast]; exact List.getElem?_eq_getElem hp
 have hch:=chr_at hp
 have hst:=par_stop t p k hp
 generalize t[p.pos] = a at hbi hch
 have e1 : Ext w1 w1.drew:=Ext.drew w1
 repeat refine C0 ?_
 refine CE.cut (fun s ds w' => ds = [] ∧ w' = w1.drew ∧ ¬ (k = p.pos ∨ k = t.length ∨ chr t p.pos = 46 ∨ chr t p.pos = 45) ∧ ¬ chr t k = 61 ∧ ¬ (whiteB (t.getD k 0) = false ∧ begS t k gt3 = false ∧ begS t k pct3 = false) ∧ SubL [(6,I k),(2,Ptr pb 0),(1,Ptr nb 0),(0,Ptr X 0)] s) ?_ ?_
 ·refine CE.block ?_
  repeat refine C0 ?_
  have hXd : w1.drew.heap[X]? = _:=hX
  refine CE.cut (fun s ds w' => ds = [] ∧ w' = w1.drew ∧ SubL [(39,.bool (decide (k = p.pos ∨ k = t.length ∨ chr t p.pos = 46 ∨ chr t p.pos = 45))),(6,I k),(2,Ptr pb 0),(1,Ptr nb 0),(0,Ptr X 0)] s) ?_ ?_
  ·rw [hst]
   refine CE.draw [0,0,0,0,0,0,0,0,0,0,0,0,0,0,0,0,0,0,0,0,0,0,0,0,0,0,0,0,0,0,0,0,0,0,0,0,0,0,0,0] mixed (by decide +kernel) ?_
   repeat(first|refine Y1 rfl rfl ?_|refine Y2 rfl rfl ?_|refine Y3 rfl rfl rfl ?_|refine Y22 rfl rfl hXd rfl rfl ?_|refine Y5 rfl rfl rfl ?_)
   refine RE.splitD (fun h2 => ?_) (fun h2 => ?_)
   ·rw [decide_eq_true (show k = p.pos by omega),Bool.true_or]
    repeat(first|refine Y1 rfl rfl ?_|refine Y0 rfl rfl ?_|refine Y16 rfl rfl rfl rfl ?_|refine RE.no0 rfl rfl rfl rfl ?_)
    refine RE.nilx ?_
    exact ⟨rfl,rfl,(by repeat first | trivial|refine ⟨rfl,?_⟩)⟩
   rw [decide_eq_false (show ¬ k = p.pos by omega),Bool.false_or]
   repeat(first|refine Y1 rfl rfl ?_|refine Y2 rfl rfl ?_|refine Y3 rfl rfl rfl ?_|refine Y22 rfl rfl hXd rfl rfl ?_|refine Y5 rfl rfl rfl ?_|refine Y14 rfl Tryz.underlying9 rfl ?_|refine Y17 rfl rfl rfl ?_|refine RE.want rfl rfl ?_)
   refine RE.splitD (fun h3 => ?_) (fun h3 => ?_)
   ·rw [decide_eq_true (show k = t.length by omega),Bool.true_or]
    repeat(first|refine Y1 rfl rfl ?_|refine Y0 rfl rfl ?_|refine Y16 rfl rfl rfl rfl ?_|refine RE.no0 rfl rfl rfl rfl ?_)
    refine RE.nilx ?_
    exact ⟨rfl,rfl,(by repeat first | trivial|refine ⟨rfl,?_⟩)⟩
   rw [decide_eq_false (show ¬ k = t.length by omega),Bool.false_or]
   repeat(first|refine Y1 rfl rfl ?_|refine Y2 rfl rfl ?_|refine Y3 rfl rfl rfl ?_|refine Y22 rfl rfl hXd rfl rfl ?_|refine RE.want rfl rfl ?_)
   refine RE.d1 (op_index_s (b:=a) rfl rfl Tryz.underlying9 (by omega) hbi) rfl ?_
   repeat(first|refine Y1 rfl rfl ?_|refine Y5 rfl rfl rfl ?_|refine Y17 rfl rfl rfl ?_|refine RE.want rfl rfl ?_)
   refine RE.splitD (fun h4 => ?_) (fun h4 => ?_)
   ·rw [decide_eq_true (show chr t p.pos = 46 by omega),Bool.true_or]
    repeat(first|refine Y0 rfl rfl ?_|refine Y16 rfl rfl rfl rfl ?_|refine RE.no0 rfl rfl rfl rfl ?_)
    refine RE.nilx ?_
    exact ⟨rfl,rfl,(by repeat first | trivial|refine ⟨rfl,?_⟩)⟩
   rw [decide_eq_false (show ¬ chr t p.pos = 46 by omega),Bool.false_or]
   have hcb : decide (chr t p.pos = 45) = decide ((a.toNat : Int) = 45):=decide_eq_decide.2 (by omega)
   rw [hcb]
   repeat(first|refine Y1 rfl rfl ?_|refine Y2 rfl rfl ?_|refine Y3 rfl rfl rfl ?_|refine Y22 rfl rfl hXd rfl rfl ?_|refine RE.want rfl rfl ?_)
   refine RE.d1 (op_index_s (b:=a) rfl rfl Tryz.underlying9 (by omega) hbi) rfl ?_
   repeat(first|refine Y0 rfl rfl ?_|refine Y5 rfl rfl rfl ?_|refine Y17 rfl rfl rfl ?_|refine RE.want rfl rfl ?_)
   refine RE.nilx ?_
   exact ⟨rfl,rfl,(by repeat first | trivial|refine ⟨rfl,?_⟩)⟩
  rintro s _ w2 ⟨rfl,hw,hs⟩
  subst hw
  refine CE.sub hs ?_
  have g1:=h.ext e1
  have hX1 : HX X w1.drew t p.pos p.dv v.l v.nm p.inl p.wrong p.opn p.loose:=hX
  have hN1 : w1.drew.heap[nb]? = some (.cells #[.bool nm] 4 (0,0)):=hN
  have hP1 : w1.drew.heap[pb]? = some (.cells #[.bool po] 4 (0,0)):=hP
  generalize w1.drew = w2 at e1 g1 hX1 hN1 hP1
  refine CE.cond_d rfl (fun h2 => ?_) (fun h2 => ?_)
  ·rw [if_pos h2]
   repeat(first|refine C0 ?_|refine C1 ?_|refine X1 rfl rfl ?_|refine X2 rfl rfl ?_|refine X3 rfl rfl rfl ?_)
   refine RE.xs (e_store rfl rfl rfl hX1 rfl rfl) ?_
   rintro _ w3 hu3
   obtain ⟨g3,i3⟩:=QS.upd (p':=p.opened) g1 hu3 rfl rfl
   repeat (refine C2 ?_)
   (refine CE.ret ?_; (try dsimp only); refine ret0 rfl ?_)
   exact ⟨rfl,_,g3,i3.keep4 g1 hN1,i3.keep4 g1 hP1,(i3.ext_l e1).toT⟩
  rw [if_neg h2]
  have hk' : p.pos < k ∧ k < t.length:=⟨by have : ¬ k = p.pos:=fun e => h2 (Or.inl e); omega,by have : ¬ k = t.length:=fun e => h2 (Or.inr (Or.inl e)); omega⟩
  have hix : t[((k : Nat) : Int).toNat]? = some t[k]:=by rw [Int.toNat_natCast]; exact List.getElem?_eq_getElem hk'.2
  have hgd : t.getD k 0 = t[k]:=getD_of (List.getElem?_eq_getElem hk'.2)
  have hck:=chr_at hk'.2
  rw [hgd]
  generalize t[k] = b at hix hgd hck
  have hpl : (p.put 15 p.pos (wordA t p.pos k)).rs.length = p.rs.length + 1:=put_len ..
  repeat(first|refine C0 ?_|refine C1 ?_|refine X1 rfl rfl ?_|refine X2 rfl rfl ?_|refine X3 rfl rfl rfl ?_|refine X22 rfl rfl hX1 rfl rfl ?_)
  refine RE.x (op_index_s (b:=b) rfl rfl Tryz.underlying9 (by omega) hix) rfl ?_
  repeat(first|refine X0 rfl rfl ?_|refine X5 rfl rfl rfl ?_|refine C2 ?_)
  refine CE.cond_d rfl (fun h3 => ?_) (fun h3 => ?_)
  ·rw [if_pos (show chr t k = 61 by omega)]
   repeat(first|refine C0 ?_|refine C1 ?_|refine X1 rfl rfl ?_|refine X2 rfl rfl ?_|refine X22 rfl rfl hP1 rfl rfl ?_|refine C2 ?_)
   refine CE.cond_s rfl (fun h4 => ?_) (fun h4 => ?_)
   ·rw [if_pos h4]
    repeat(first|refine C0 ?_|refine C1 ?_|refine X1 rfl rfl ?_)
    refine RE.xc en84 rfl rfl (qfail_fn g1 (by omega)) ?_
    rintro _ w3 ⟨rfl,v3,g3,i3⟩
    repeat (refine C2 ?_)
    (refine CE.ret ?_; (try dsimp only); refine ret0 rfl ?_)
    exact ⟨rfl,_,g3,i3.keep4 g1 hN1,i3.keep4 g1 hP1,(i3.ext_l e1).toT⟩
   rw [if_neg (by rw [h4]; simp)]
   refine C3 ?_
   repeat(first|refine C0 ?_|refine C1 ?_|refine X1 rfl rfl ?_|refine X2 rfl rfl ?_)
   refine RE.xs (e_store rfl rfl rfl hN1 rfl rfl) ?_
   rintro _ w3 hu3
   obtain ⟨g3,f3⟩:=QS.upd4 g1 hN1 hu3
   have hN3 : w3.heap[nb]? = some (.cells #[.bool true] 4 (0,0)):=hu3.here
   have hP3 : w3.heap[pb]? = some (.cells #[.bool po] 4 (0,0)):=f3.block hP1 (fun e => hnp e.symm)
   have i3 : QIT (fun q => q = nb ∨ q = pb) X v v w1 w3:=⟨(Fr.of_ext e1).trans (f3.mono fun _ _ e => Or.inr (Or.inr (Or.inl e))),fun _ hq => Or.inl hq⟩
   have hX3 : HX X w3.drew t p.pos p.dv v.l v.nm p.inl p.wrong p.opn p.loose:=g3.at_
   repeat(first|refine C0 ?_|refine C2 ?_)
   refine CE.drawR Ext [0,0,0,0,0,0,0,0,0,0,0,0,0,0,0,2] mixed Ext.refl (fun _ _ _ => Ext.trans) (by decide +kernel) ?_
   repeat(first|refine Z1 rfl rfl ?_|refine Z2 rfl rfl ?_|refine Z3 rfl rfl rfl ?_|refine Z22 rfl rfl hX3 rfl rfl ?_)
   refine RE.dd (fun _ _ => op_str_lh rfl rfl rfl Tryz.underlying9 (by omega) (by omega) (by omega)) rfl Ext.refl ?_
   rw [show ((k : Int)).toNat - ((p.pos : Int)).toNat = k - p.pos by omega,Int.toNat_natCast]
   refine RE.ec en65 rfl rfl (fun w4 hw4 => qput_fn (tx:=wordA t p.pos k) (g3.ext ((Ext.drew _).trans hw4)) (by omega) (by have:=word_len t p.pos k; omega)) ?_
   rintro w4 hw4 _ w5 ⟨rfl,v5,g5,i5⟩
   refine C4 (fun w6 hw6 => ?_)
   have g6:=g5.ext hw6
   have i6:=(i5.ext_l ((Ext.drew w3).trans hw4)).ext_r hw6
   have hX6 : HX X w6 t p.pos p.dv v5.l v5.nm p.inl p.wrong p.opn p.loose:=g6.at_
   repeat(first|refine C0 ?_|refine C1 ?_|refine X1 rfl rfl ?_|refine X2 rfl rfl ?_|refine X3 rfl rfl rfl ?_|refine X18 rfl rfl (by omega) (by omega) rfl ?_)
   refine RE.xs (e_store rfl rfl rfl hX6 rfl rfl) ?_
   rintro _ w7 hu7
   obtain ⟨g7,i7⟩:=QS.upd (p':={ p.put 15 p.pos (wordA t p.pos k) with pos:=k + 1 }) g6 hu7 rfl rfl
   have hr:=runTo_le (stop:=notW) (t:=t) _ (k + 1) rfl hk'.2
   repeat(first|refine C0 ?_|refine C1 ?_|refine X1 rfl rfl ?_|refine C2 ?_)
   refine RE.xc en86 rfl rfl (skip_qfn g7 (by omega) (by show k + 1 ≤ _; omega)) ?_
   rintro _ w8 ⟨rfl,v8,g8,i8⟩
   repeat(first|refine C0 ?_|refine C1 ?_|refine X1 rfl rfl ?_|refine C2 ?_)
   refine RE.xc en134 rfl rfl (value_qfn g8 ht (by show (p.put 15 p.pos (wordA t p.pos k)).rs.length ≤ _; omega) (by show runTo notW t (k + 1) ≤ _; omega)) ?_
   rintro _ w9 ⟨rfl,v9,g9,i9⟩
   have i39:=((i6.trans i7).trans i8).trans i9
   repeat (refine C2 ?_)
   (refine CE.ret ?_; (try dsimp only); refine ret0 rfl ?_)
   exact ⟨rfl,_,g9,i39.keep4 g3 hN3,i39.keep4 g3 hP3,i3.trans i39.toT⟩
  rw [if_neg (show ¬ chr t k = 61 by omega)]
  repeat(first|refine C0 ?_|refine C1 ?_|refine X1 rfl rfl ?_|refine X2 rfl rfl ?_|refine X3 rfl rfl rfl ?_|refine X22 rfl rfl hX1 rfl rfl ?_)
  refine RE.cut (fun s ds w' => ds = [] ∧ w' = w2 ∧ SubL [(122,.bool (decide (whiteB b = false ∧ begS t k gt3 = false ∧ begS t k pct3 = false))),(6,I k),(2,Ptr pb 0),(1,Ptr nb 0),(0,Ptr X 0)] s) ?_ ?_
  ·refine RE.x (op_index_s (b:=b) rfl rfl Tryz.underlying9 (by omega) hix) rfl ?_
   refine RE.xc en37 rfl rfl (pageWhite_fn b w2) ?_
   rintro _ w5 ⟨rfl,hw⟩
   subst hw
   repeat(first|refine X1 rfl rfl ?_|refine X11 rfl rfl ?_)
   cases h5 : whiteB b with
   | true =>
    rw [decide_eq_false (by simp)]
    repeat(first|refine X1 rfl rfl ?_|refine X0 rfl rfl ?_|refine X17 rfl rfl rfl ?_|refine RE.nox rfl rfl rfl rfl ?_)
    refine RE.nilx ?_
    exact ⟨rfl,rfl,(by repeat first | trivial|refine ⟨rfl,?_⟩)⟩
   | false =>
    repeat(first|refine X1 rfl rfl ?_|refine X2 rfl rfl ?_|refine X3 rfl rfl rfl ?_|refine X22 rfl rfl hX1 rfl rfl ?_|refine RE.want rfl rfl ?_)
    refine RE.xc en34 rfl rfl (pageHas_fn (i:=k) (x:=gt3) (by omega) (by decide) (by omega)) ?_
    rintro _ w6 ⟨rfl,hw⟩
    subst hw
    cases h6 : begS t k gt3 with
    | true =>
     rw [decide_eq_false (by simp)]
     repeat(first|refine X1 rfl rfl ?_|refine X0 rfl rfl ?_|refine X11 rfl rfl ?_|refine X16 rfl rfl rfl rfl ?_|refine X17 rfl rfl rfl ?_|refine RE.want rfl rfl ?_|refine RE.nox rfl rfl rfl rfl ?_)
     refine RE.nilx ?_
     exact ⟨rfl,rfl,(by repeat first | trivial|refine ⟨rfl,?_⟩)⟩
    | false =>
     repeat(first|refine X1 rfl rfl ?_|refine X2 rfl rfl ?_|refine X3 rfl rfl rfl ?_|refine X22 rfl rfl hX1 rfl rfl ?_|refine X11 rfl rfl ?_|refine X16 rfl rfl rfl rfl ?_|refine RE.want rfl rfl ?_)
     refine RE.xc en34 rfl rfl (pageHas_fn (i:=k) (x:=pct3) (by omega) (by decide) (by omega)) ?_
     rintro _ w7 ⟨rfl,hw⟩
     subst hw
     have hcb : decide (false = false ∧ false = false ∧ begS t k pct3 = false) = !begS t k pct3:=by cases begS t k pct3 <;> rfl
     rw [hcb]
     repeat(first|refine X0 rfl rfl ?_|refine X11 rfl rfl ?_|refine X16 rfl rfl rfl rfl ?_|refine RE.want rfl rfl ?_)
     refine RE.nilx ?_
     exact ⟨rfl,rfl,(by repeat first | trivial|refine ⟨rfl,?_⟩)⟩
  rintro s _ w5 ⟨rfl,hw,hs⟩
  subst hw
  refine CE.sub hs ?_
  refine CE.cond_d rfl (fun h5 => ?_) (fun h5 => ?_)
  ·rw [if_pos h5]
   repeat(first|refine C0 ?_|refine C1 ?_|refine X1 rfl rfl ?_|refine X2 rfl rfl ?_|refine X3 rfl rfl rfl ?_)
   refine RE.xs (e_store rfl rfl rfl hX1 rfl rfl) ?_
   rintro _ w6 hu6
   obtain ⟨g6,i6⟩:=QS.upd (p':=p.opened) g1 hu6 rfl rfl
   repeat (refine C2 ?_)
   (refine CE.ret ?_; (try dsimp only); refine ret0 rfl ?_)
   exact ⟨rfl,_,g6,i6.keep4 g1 hN1,i6.keep4 g1 hP1,(i6.ext_l e1).toT⟩
  refine CE.skip ?_
  exact ⟨rfl,rfl,h2,by omega,h5,(by repeat first | trivial|refine ⟨rfl,?_⟩)⟩
 rintro s _ w2 ⟨rfl,hw,k1,k2,k3,hs⟩
 subst hw
 refine CE.sub hs ?_
 rw [if_neg k1,if_neg k2,if_neg k3]
 have hk' : p.pos < k ∧ k < t.length:=⟨by have : ¬ k = p.pos:=fun e => k1 (Or.inl e); omega,by have : ¬ k = t.length:=fun e => k1 (Or.inr (Or.inl e)); omega⟩
 have g1:=h.ext e1
 have hX1 : HX X w1.drew t p.pos p.dv v.l v.nm p.inl p.wrong p.opn p.loose:=hX
 have hN1 : w1.drew.heap[nb]? = some (.cells #[.bool nm] 4 (0,0)):=hN
 have hP1 : w1.drew.heap[pb]? = some (.cells #[.bool po] 4 (0,0)):=hP
 generalize w1.drew = w2 at e1 g1 hX1 hN1 hP1
 have hml:=runTo_le (stop:=notW) (t:=t) _ k rfl (by omega)
 repeat(first|refine C0 ?_|refine C1 ?_|refine X1 rfl rfl ?_|refine X0 rfl rfl ?_|refine C2 ?_)
 refine CE.cut (fun s ds w' => ds = [] ∧ w' = w2 ∧ SubL [(7,I (runTo notW t k)),(6,I k),(2,Ptr pb 0),(1,Ptr nb 0),(0,Ptr X 0)] s) ?_ ?_
 ·refine CE.block ?_
  refine CE.loop (α:=Nat) (fun m => [(7,I m),(6,I k),(2,Ptr pb 0),(1,Ptr nb 0),(0,Ptr X 0)]) (fun m w' => w' = w2 ∧ m ≤ t.length ∧ runTo notW t k = runTo notW t m) (fun m => t.length - m) k (by repeat first | trivial|refine ⟨rfl,?_⟩) ⟨rfl,by omega,rfl⟩ ?_
  rintro m w3 ⟨hw,hm,hrun⟩
  subst hw
  repeat(first|refine C0 ?_|refine C1 ?_|refine X1 rfl rfl ?_|refine X2 rfl rfl ?_|refine X3 rfl rfl rfl ?_|refine X22 rfl rfl hX1 rfl rfl ?_|refine X7 rfl rfl rfl ?_|refine X14 rfl Tryz.underlying9 rfl ?_)
  refine RE.splitD (fun h2 => ?_) (fun h2 => ?_)
  ·have hm' : m < t.length:=by omega
   have hix : t[((m : Nat) : Int).toNat]? = some t[m]:=by rw [Int.toNat_natCast]; exact List.getElem?_eq_getElem hm'
   have hgo : notW t[m] = false → runTo notW t m = runTo notW t (m + 1):=fun e => runTo_go hm' e
   have hat : notW t[m] = true → runTo notW t m = m:=fun e => runTo_at hm' e
   generalize t[m] = b at hix hgo hat
   repeat(first|refine X1 rfl rfl ?_|refine X2 rfl rfl ?_|refine X3 rfl rfl rfl ?_|refine X22 rfl rfl hX1 rfl rfl ?_|refine RE.want rfl rfl ?_)
   refine RE.x (op_index_s (b:=b) rfl rfl Tryz.underlying9 (by omega) hix) rfl ?_
   refine RE.want rfl rfl ?_
   refine RE.xc en37 rfl rfl (pageWhite_fn b w3) ?_
   rintro _ w4 ⟨rfl,hw⟩
   subst hw
   repeat(first|refine X16 rfl rfl rfl rfl ?_|refine C2 ?_)
   refine CE.cond_s rfl (fun h3 => ?_) (fun h3 => ?_)
   ·have hgo':=hrun.trans (hgo (by unfold notW; rw [h3]; rfl))
    refine C3 ?_
    refine CE.block ?_
    repeat(first|refine C1 ?_|refine X1 rfl rfl ?_|refine X0 rfl rfl ?_|refine X18 rfl rfl (by omega) (by omega) rfl ?_)
    refine RE.nilx ?_
    exact ⟨m + 1,by show t.length - (m + 1) < t.length - m; omega,rfl,(by repeat first | trivial|refine ⟨rfl,?_⟩),rfl,hm',hgo'⟩
   ·have hat':=hrun.trans (hat (by unfold notW; rw [h3]; rfl))
    refine CE.exit ?_
    rw [hat']
    exact ⟨rfl,rfl,(by repeat first | trivial|refine ⟨rfl,?_⟩)⟩
  ·repeat(first|refine X17 rfl rfl rfl ?_|refine RE.nox rfl rfl rfl rfl ?_|refine C2 ?_)
   refine CE.cond_f rfl ?_
   refine CE.exit ?_
   have hr:=hrun.trans (runTo_end (stop:=notW) (t:=t) (p:=m) (by omega))
   rw [hr]
   exact ⟨rfl,rfl,(by repeat first | trivial|refine ⟨rfl,?_⟩)⟩
 rintro s _ w3 ⟨rfl,hw,hs⟩
 subst hw
 refine CE.sub hs ?_
 generalize runTo notW t k = m at hml
 repeat(first|refine C0 ?_|refine C1 ?_|refine X1 rfl rfl ?_|refine X9 rfl rfl rfl ?_)
 refine RE.cut (fun s ds w' => ds = [] ∧ w' = w3 ∧ SubL [(181,.bool (decide (k < m ∧ begS t m [61] = true))),(6,I k),(2,Ptr pb 0),(1,Ptr nb 0),(0,Ptr X 0)] s) ?_ ?_
 ·refine RE.splitD (fun h2 => ?_) (fun h2 => ?_)
  ·repeat(first|refine X1 rfl rfl ?_|refine X2 rfl rfl ?_|refine X3 rfl rfl rfl ?_|refine X22 rfl rfl hX1 rfl rfl ?_|refine RE.want rfl rfl ?_)
   refine RE.xc en34 rfl rfl (pageHas_fn (i:=m) (x:=[61]) (by omega) (by decide) (by omega)) ?_
   rintro _ w4 ⟨rfl,hw⟩
   subst hw
   have hcb : decide (k < m ∧ begS t m [61] = true) = begS t m [61]:=by
    cases begS t m [61] with
    | true => exact decide_eq_true ⟨by omega,rfl⟩
    | false => exact decide_eq_false (by simp)
   rw [hcb]
   repeat (refine X16 rfl rfl rfl rfl ?_)
   refine RE.nilx ?_
   exact ⟨rfl,rfl,(by repeat first | trivial|refine ⟨rfl,?_⟩)⟩
  ·rw [decide_eq_false (show ¬ (k < m ∧ begS t m [61] = true) by omega)]
   repeat(first|refine X17 rfl rfl rfl ?_|refine RE.nox rfl rfl rfl rfl ?_)
   refine RE.nilx ?_
   exact ⟨rfl,rfl,(by repeat first | trivial|refine ⟨rfl,?_⟩)⟩
 rintro s _ w4 ⟨rfl,hw,hs⟩
 subst hw
 refine CE.sub hs ?_
 refine CE.cond_d rfl (fun h2 => ?_) (fun h2 => ?_)
 ·rw [if_pos h2]
  repeat(first|refine C0 ?_|refine C1 ?_|refine X1 rfl rfl ?_|refine X2 rfl rfl ?_|refine X3 rfl rfl rfl ?_)
  refine RE.xs (e_store rfl rfl rfl hX1 rfl rfl) ?_
  rintro _ w5 hu5
  obtain ⟨g5,i5⟩:=QS.upd (p':=p.opened) g1 hu5 rfl rfl
  repeat (refine C2 ?_)
  (refine CE.ret ?_; (try dsimp only); refine ret0 rfl ?_)
  exact ⟨rfl,_,g5,i5.keep4 g1 hN1,i5.keep4 g1 hP1,(i5.ext_l e1).toT⟩
 rw [if_neg h2]
 refine C3 ?_
 repeat(first|refine C0 ?_|refine C1 ?_|refine X1 rfl rfl ?_|refine X2 rfl rfl ?_|refine X22 rfl rfl hN1 rfl rfl ?_|refine C2 ?_)
 refine CE.cond_s rfl (fun h4 => ?_) (fun h4 => ?_)
 ·rw [if_pos h4]
  repeat(first|refine C0 ?_|refine C1 ?_|refine X1 rfl rfl ?_)
  refine RE.xc en84 rfl rfl (qfail_fn g1 (by omega)) ?_
  rintro _ w5 ⟨rfl,v5,g5,i5⟩
  repeat (refine C2 ?_)
  (refine CE.ret ?_; (try dsimp only); refine ret0 rfl ?_)
  exact ⟨rfl,_,g5,i5.keep4 g1 hN1,i5.keep4 g1 hP1,(i5.ext_l e1).toT⟩
 rw [if_neg (by rw [h4]; simp)]
 refine C3 ?_
 repeat(first|refine C0 ?_|refine C1 ?_|refine X1 rfl rfl ?_|refine X2 rfl rfl ?_)
 refine RE.xs (e_store rfl rfl rfl hP1 rfl rfl) ?_
 rintro _ w5 hu5
 obtain ⟨g5,f5⟩:=QS.upd4 g1 hP1 hu5
 have hP5 : w5.heap[pb]? = some (.cells #[.bool true] 4 (0,0)):=hu5.here
 have hN5 : w5.heap[nb]? = some (.cells #[.bool nm] 4 (0,0)):=f5.block hN1 hnp
 have i5 : QIT (fun q => q = nb ∨ q = pb) X v v w1 w5:=⟨(Fr.of_ext e1).trans (f5.mono fun _ _ e => Or.inr (Or.inr (Or.inr e))),fun _ hq => Or.inl hq⟩
 have hX5 : HX X w5.drew t p.pos p.dv v.l v.nm p.inl p.wrong p.opn p.loose:=g5.at_
 repeat(first|refine C0 ?_|refine C2 ?_)
 refine CE.drawR Ext [0,0,0,0,0,0,0,0,0,0,0,0,0,0,0,2] mixed Ext.refl (fun _ _ _ => Ext.trans) (by decide +kernel) ?_
 repeat(first|refine Z1 rfl rfl ?_|refine Z2 rfl rfl ?_|refine Z3 rfl rfl rfl ?_|refine Z22 rfl rfl hX5 rfl rfl ?_)
 refine RE.dd (fun _ _ => op_str_lh rfl rfl rfl Tryz.underlying9 (by omega) (by omega) (by omega)) rfl Ext.refl ?_
 rw [show ((k : Int)).toNat - ((p.pos : Int)).toNat = k - p.pos by omega,Int.toNat_natCast]
 refine RE.ec en65 rfl rfl (fun w6 hw6 => qput_fn (tx:=wordA t p.pos k) (g5.ext ((Ext.drew _).trans hw6)) (by omega) (by have:=word_len t p.pos k; omega)) ?_
 rintro w6 hw6 _ w7 ⟨rfl,v7,g7,i7⟩
 refine C4 (fun w8 hw8 => ?_)
 have g8:=g7.ext hw8
 have i8:=(i7.ext_l ((Ext.drew w5).trans hw6)).ext_r hw8
 have hX8 : HX X w8 t p.pos p.dv v7.l v7.nm p.inl p.wrong p.opn p.loose:=g8.at_
 repeat(first|refine C1 ?_|refine X1 rfl rfl ?_|refine X2 rfl rfl ?_|refine X3 rfl rfl rfl ?_)
 refine RE.xs (e_store rfl rfl rfl hX8 rfl rfl) ?_
 rintro _ w9 hu9
 obtain ⟨g9,i9⟩:=QS.upd (p':={ p.put 15 p.pos (wordA t p.pos k) with pos:=k }) g8 hu9 rfl rfl
 have i59:=i8.trans i9
 (refine RE.nilx ?_; (try dsimp only); refine end0 rfl ?_)
 exact ⟨rfl,_,g9,i59.keep4 g5 hN5,i59.keep4 g5 hP5,i5.trans i59.toT⟩
end Go.Wk
