/- The specification's lexer in memory; put, fail, done. -/
import Derived.Test.YtmbencknblcocaaGreatDoorYav
import Derived.Test.YtmbencknblcocaaGreatDoorYai
namespace Go.Wk
open Go Go.RowKit Go.Proofs
set_option maxRecDepth 100000
structure QP where
 pos : Nat
 dv : List UInt8
 rs : List RI
 nms : List (List UInt8)
 inl : List UInt8
 wrong : Bool
 opn : Bool
 loose : Bool
structure QV where
 l : Value
 nm : Value
def QP.arr (t : List UInt8) (p : QP) (v : QV) : Array Value:=#[S t,I p.pos,S p.dv,v.l,v.nm,S p.inl,.bool p.wrong,.bool p.opn,.bool p.loose]
def QV.own (v : QV) (q : Nat) : Prop:=v.l.ownBlock = some q ∨ v.nm.ownBlock = some q
abbrev HX (X : Nat) (w : World) (t : List UInt8) (a : Int) (b : List UInt8) (l m : Value) (e : List UInt8) (f g h : Bool) : Prop:=w.heap[X]? = some (.cells #[S t,I a,S b,l,m,S e,.bool f,.bool g,.bool h] 48 (0,0))
structure QS (X B : Nat) (t : List UInt8) (v : QV) (p : QP) (w : World) : Prop where
 at_ : w.heap[X]? = some (.cells (p.arr t v) 48 (0,0))
 ol : OwnR B w v.l p.rs
 on : w.ownsRow B 9 1 v.nm p.nms.length (p.nms.map S)
 base : B ≤ X
structure QI (X : Nat) (v v' : QV) (w w' : World) : Prop where
 fr : Fr (fun q => q = X ∨ v.own q) w w'
 nw : ∀ q,v'.own q → v.own q ∨ w.heap.size ≤ q
theorem own_tag {B e size n : Nat} {w : World} {v : Value} {xs : List Value} (h : w.ownsRow B e size v n xs) {q : Nat} (hq : v.ownBlock = some q) : ∃ cs,w.heap[q]? = some (.cells cs e (0,0)):=by
 rcases h.2 with ⟨rfl,_⟩ | ⟨g,cap,cur,rfl,_,hg,_⟩
 ·cases hq
 ·simp only [Value.ownBlock,Option.some.injEq] at hq
  subst hq
  exact ⟨_,hg⟩
theorem QS.noX {X B : Nat} {t : List UInt8} {v : QV} {p : QP} {w : World} (h : QS X B t v p w) : ¬ v.own X:=by
 rintro (hq | hq)
 ·obtain ⟨cs,hc⟩:=own_tag h.ol hq
  rw [h.at_] at hc
  cases hc
 ·obtain ⟨cs,hc⟩:=own_tag h.on hq
  rw [h.at_] at hc
  cases hc
theorem QS.noL {X B : Nat} {t : List UInt8} {v : QV} {p : QP} {w : World} (h : QS X B t v p w) {q : Nat} (h1 : v.l.ownBlock = some q) (h2 : v.nm.ownBlock = some q) : False:=by
 obtain ⟨cs,hc⟩:=own_tag h.ol h1
 obtain ⟨cs',hc'⟩:=own_tag h.on h2
 rw [hc] at hc'
 cases hc'
theorem QS.lt {X B : Nat} {t : List UInt8} {v : QV} {p : QP} {w : World} (h : QS X B t v p w) : X < w.heap.size:=(Array.getElem?_eq_some_iff.1 h.at_).1
theorem QS.ext {X B : Nat} {t : List UInt8} {v : QV} {p : QP} {w w' : World} (h : QS X B t v p w) (he : Ext w w') : QS X B t v p w':=
 ⟨he.block h.at_,ownsRow_ext h.ol he,ownsRow_ext h.on he,h.base⟩
theorem QI.refl (X : Nat) (v : QV) (w : World) : QI X v v w w:=⟨Fr.refl _ _,fun _ h => Or.inl h⟩
theorem QI.of_ext {X : Nat} {v : QV} {w w' : World} (h : Ext w w') : QI X v v w w':=⟨Fr.of_ext h,fun _ h => Or.inl h⟩
theorem QI.trans {X : Nat} {v v' v'' : QV} {w w' w'' : World} (h : QI X v v' w w') (k : QI X v' v'' w' w'') : QI X v v'' w w'':=by
 refine ⟨⟨k.fr.os.trans h.fr.os,k.fr.tape.trans h.fr.tape,k.fr.output.trans h.fr.output,Nat.le_trans h.fr.size k.fr.size,fun q hq hn => ?_⟩,fun q hq => ?_⟩
 ·rw [k.fr.same q (Nat.lt_of_lt_of_le hq h.fr.size) ?_]
  ·exact h.fr.same q hq hn
  ·rintro (h1 | h1)
   ·exact hn (Or.inl h1)
   ·rcases h.nw q h1 with h2 | h2
    ·exact hn (Or.inr h2)
    ·omega
 ·rcases k.nw q hq with h1 | h1
  ·exact h.nw q h1
  ·exact Or.inr (Nat.le_trans h.fr.size h1)
theorem QI.ext_l {X : Nat} {v v' : QV} {w w' w'' : World} (h : Ext w w') (k : QI X v v' w' w'') : QI X v v' w w'':=(QI.of_ext h).trans k
theorem QI.ext_r {X : Nat} {v v' : QV} {w w' w'' : World} (k : QI X v v' w w') (h : Ext w' w'') : QI X v v' w w'':=k.trans (QI.of_ext h)
theorem QI.block {X : Nat} {v v' : QV} {w w' : World} (k : QI X v v' w w') {q : Nat} {o : Obj} (h : w.heap[q]? = some o) (h1 : q ≠ X) (h2 : ¬ v.own q) : w'.heap[q]? = some o:=by
 rw [k.fr.same q (Array.getElem?_eq_some_iff.1 h).1 (by rintro (e | e); exact h1 e; exact h2 e)]
 exact h
theorem QS.upd {X B : Nat} {t : List UInt8} {v : QV} {p p' : QP} {w w' : World} (h : QS X B t v p w) (hu : Upd w X (.cells (p'.arr t v) 48 (0,0)) w') (h1 : p'.rs = p.rs) (h2 : p'.nms = p.nms) : QS X B t v p' w' ∧ QI X v v w w':=by
 have hx:=h.noX
 have hf : Fr (fun q => q = X) w w':=Fr.of_upd hu rfl
 refine ⟨⟨hu.here,?_,?_,h.base⟩,hf.mono fun _ _ e => Or.inl e,fun _ h => Or.inl h⟩
 ·rw [h1]
  exact ownsRow_fr h.ol hf fun q hq e => hx (Or.inl (e ▸ hq))
 ·rw [h2]
  exact ownsRow_fr h.on hf fun q hq e => hx (Or.inr (e ▸ hq))
abbrev QP.put (p : QP) (kind : Int) (fr : Nat) (tx : List UInt8) : QP:={ p with rs:=p.rs ++ [tell kind fr tx false] }
def bad0 : RI:=⟨0,0,[],true,20480⟩
def QP.fail (p : QP) : QP:=if p.wrong = false ∧ p.opn = false then { p with wrong:=true,rs:=p.rs ++ [bad0] } else p
abbrev QF (X B : Nat) (t : List UInt8) (v : QV) (w : World) (f : Nat) (args : List Value) (u : Value) (p' : QP) : Prop:=
 Fn PT f (Ptr X 0 :: args) w (fun u' w' => u' = u ∧ ∃ v',QS X B t v' p' w' ∧ QI X v v' w w')
theorem grown {X B : Nat} {t : List UInt8} {v : QV} {p : QP} {w w1 w2 w3 : World} {l' : Value} {x : RI} (h : QS X B t v p w) (he : Ext w w1)
  (ho : w2.ownsRow B 31 5 l' (p.rs.length + 1) (p.rs.flatMap RI.lst ++ x.lst)) (hf : Fr (fun q => v.l.ownBlock = some q) w1 w2) (hn : ∀ q,l'.ownBlock = some q → v.l.ownBlock = some q ∨ w1.heap.size ≤ q)
  (hu : Upd w2 X (.cells (({ p with rs:=p.rs ++ [x] } : QP).arr t ⟨l',v.nm⟩) 48 (0,0)) w3) : QS X B t ⟨l',v.nm⟩ { p with rs:=p.rs ++ [x] } w3 ∧ QI X v ⟨l',v.nm⟩ w w3:=by
 have h1:=h.ext he
 have hf3 : Fr (fun q => q = X) w2 w3:=Fr.of_upd hu rfl
 have hlX : ∀ q,l'.ownBlock = some q → q ≠ X:=by
  intro q hq e
  subst e
  rcases hn q hq with h2 | h2
  ·exact h.noX (Or.inl h2)
  ·have:=h1.lt; omega
 have hnX : ∀ q,v.nm.ownBlock = some q → q ≠ X:=fun q hq e => h.noX (Or.inr (e ▸ hq))
 have hon : w2.ownsRow B 9 1 v.nm p.nms.length (p.nms.map S):=ownsRow_fr h1.on hf fun q hq hq' => h.noL hq' hq
 refine ⟨⟨hu.here,?_,ownsRow_fr hon hf3 hnX,h.base⟩,⟨(Fr.of_ext he).trans ((hf.mono fun _ _ hk => Or.inr (Or.inl hk)).trans (hf3.mono fun _ _ hk => Or.inl hk)),?_⟩⟩
 ·have h5 : OwnR B w2 l' (p.rs ++ [x]):=by
   show w2.ownsRow B 31 5 l' (p.rs ++ [x]).length ((p.rs ++ [x]).flatMap RI.lst)
   rw [List.flatMap_append,List.length_append]
   simpa using ho
  exact ownsRow_fr h5 hf3 hlX
 ·rintro q (hq | hq)
  ·rcases hn q hq with h2 | h2
   ·exact Or.inl (Or.inl h2)
   ·exact Or.inr (Nat.le_trans he.size h2)
  ·exact Or.inl (Or.inr hq)
theorem qput_fn {X B : Nat} {t : List UInt8} {v : QV} {p : QP} {w : World} {kind : Int} {fr : Nat} {tx : List UInt8} (h : QS X B t v p w) (hn : p.rs.length ≤ 1000000) (ht : tx.length ≤ 1000000) :
  QF X B t v w 65 [I kind,I fr,S tx] (.tuple #[]) (p.put kind fr tx):=by
 have hmax : maxLen = 9223372036854775807:=rfl
 refine fn_of Tryz.func65 rfl Tryz.ntmps65 rfl ?_
 repeat(first|refine C0 ?_|refine C1 ?_|refine X1 rfl rfl ?_)
 refine RE.x (op_build (cells:=#[I kind,I fr,S tx,.bool false,.int .u16 0]) rfl (by kernel_rfl)) rfl ?_
 refine RE.xe (e_alloc (cells:=#[I 0,I 0,S [],.bool false,.int .u16 0]) Tryz.zeroValue31 rfl) rfl ?_
 rintro _ w1 ⟨bx,rfl,hn1⟩
 refine RE.xs (e_storeA (k:=5) rfl rfl rfl hn1.here rfl rfl (by simp [Value.oneCell'])) ?_
 rintro _ w2 hu2
 have hb2 : w2.heap[bx]? = some (.cells #[I kind,I fr,S tx,.bool false,.int .u16 0] 31 (0,0)):=hu2.here
 have e2 : Ext w w2:=hn1.ext.fr (Fr.of_upd (S:=(· = bx)) hu2 rfl) (fun q hq => by subst hq; have:=hn1.num; omega)
 repeat(first|refine C0 ?_|refine C1 ?_|refine X23 rfl rfl hb2 rfl rfl rfl ?_|refine C2 ?_)
 refine RE.xc en14 rfl rfl (bits_fn ⟨kind,fr,tx,false,0⟩ w2 ht) ?_
 rintro _ w3 ⟨rfl,e3⟩
 have hb3:=e3.block hb2
 repeat (refine X3 rfl rfl rfl ?_)
 refine RE.xs (e_store rfl rfl rfl hb3 rfl rfl) ?_
 rintro _ w4 hu4
 have hb4 : w4.heap[bx]? = some (.cells (tell kind fr tx false).lst.toArray 31 (0,0)):=hu4.here
 have e4 : Ext w w4:=(e2.trans e3).fr (Fr.of_upd (S:=(· = bx)) hu4 rfl) (fun q hq => by subst hq; have:=hn1.num; have:=hn1.size; omega)
 have hbd : w4.drew.heap[bx]? = _:=hb4
 have hX : HX X w4.drew t p.pos p.dv v.l v.nm p.inl p.wrong p.opn p.loose:=(h.ext (e4.trans (Ext.drew _))).at_
 repeat (refine C2 ?_)
 (refine CE.drawA Ext [0] [0,0,0,0,0,1,2,0,0,2] [1,2,3,4,5,6,7,8,9,10] mixed Ext.refl (fun _ _ _ => Ext.trans) (by decide +kernel) ?_); (simp only [pick,nthO,List.cons_append,List.nil_append]); (repeat(first|refine PR.p (fun _ => op_move rfl) rfl ?_|refine PR.p (fun _ => op_nil rfl) rfl ?_|refine PR.p (fun _ => op_fieldAddr0 rfl rfl) rfl ?_|refine PR.p (fun _ => op_fieldAddr rfl rfl) rfl ?_)); refine PR.nil ?_
 repeat(first|refine Z1 rfl rfl ?_|refine Z2 rfl rfl ?_|refine Z3 rfl rfl rfl ?_|refine Z22 rfl rfl hX rfl rfl ?_|refine Z23 rfl rfl hbd rfl rfl rfl ?_)
 refine RE.ge (φ:=fun u w' => ∃ b,u = Sl b 0 1 1 ∧ w'.heap[b]? = some (.cells (tell kind fr tx false).lst.toArray 31 (0,0))) rfl (fun v w4 w5 ⟨b,h1,h2⟩ h3 => ⟨b,h1,h3.block h2⟩)
  (fun w4 hw4 => OpE.mono (e_buildSlice (vs:=[(0,(tell kind fr tx false).val)]) (cells:=(tell kind fr tx false).lst.toArray) (e:=31) rfl (by kernel_rfl) (by kernel_rfl)) fun v w' ⟨b,h2,h3⟩ => ⟨⟨b,h2,h3.here⟩,h3.ext⟩) ?_
 intro _
 refine RE.ee (Φ:=fun w4 v' w' => w'.ownsRow B 31 5 v' (p.rs.length + 1) (p.rs.flatMap RI.lst ++ (tell kind fr tx false).lst) ∧ Fr (fun q => v.l.ownBlock = some q) w4 w' ∧ ∀ q,v'.ownBlock = some q → v.l.ownBlock = some q ∨ w4.heap.size ≤ q)
  ?_ rfl ?_
 ·rintro w5 ⟨hw5,b,rfl,hbb⟩
  have e5 : Ext w w5:=e4.trans ((Ext.drew _).trans hw5)
  exact e_append B (e:=31) (size:=5) (z:=.agg #[I 0,I 0,S [],.bool false,.int .u16 0]) (bytes:=40) (m:=1) (c:=1) (ab:=b) (news:=(tell kind fr tx false).lst) rfl (by kernel_rfl) rfl (by decide) rfl
   (ownsRow_ext h.ol e5) rfl (by decide) rfl (fun j u hj => cell_of hbb (by simpa using hj)) (by simp [RI.lst,Value.oneCell']) (by omega) (by omega) (by have:=h.lt; have:=h.base; have:=e5.size; omega)
 ·rintro w5 ⟨hw5,b,rfl,hbb⟩ l' w6 ⟨ho6,hf6,hn6⟩
  have e5 : Ext w w5:=e4.trans ((Ext.drew _).trans hw5)
  have hX6 : HX X w6 t p.pos p.dv v.l v.nm p.inl p.wrong p.opn p.loose:=hf6.block (hw5.block hX) (fun e => h.noX (Or.inl e))
  repeat(first|refine Z2 rfl rfl ?_|refine Z3 rfl rfl rfl ?_)
  refine RE.es (fun _ hw => e_store rfl rfl rfl (hw.block hX6) rfl ?_) ?_
  ·exact ownsRow_one ho6
  rintro w7 hw7 _ w8 hu8
  refine RE.nil (fun w9 hw9 => ?_)
  have g:=grown (x:=tell kind fr tx false) h e5 (ownsRow_ext ho6 hw7) (hf6.trans (Fr.of_ext hw7)) hn6 hu8
  exact end0 rfl ⟨rfl,_,g.1.ext hw9,g.2.ext_r hw9⟩
theorem qdone_fn {X B : Nat} {t : List UInt8} {v : QV} {p : QP} {w : World} (h : QS X B t v p w) : Fn PT 39 [Ptr X 0] w (fun u w' => u = .bool (p.wrong || p.opn) ∧ w' = w):=by
 have hX:=h.at_
 refine fn_of Tryz.func39 rfl Tryz.ntmps39 rfl ?_
 repeat(first|refine C0 ?_|refine C1 ?_|refine X1 rfl rfl ?_|refine X0 rfl rfl ?_|refine X2 rfl rfl ?_|refine X3 rfl rfl rfl ?_|refine X22 rfl rfl hX rfl rfl ?_|refine C2 ?_)
 refine RE.splitH (fun h1 => ?_) (fun h1 => ?_)
 ·repeat(first|refine X0 rfl rfl ?_|refine X16 rfl rfl rfl rfl ?_|refine RE.nox rfl rfl rfl rfl ?_|refine C2 ?_)
  (refine CE.ret ?_;(try dsimp only);refine ret1 rfl rfl ?_)
  exact ⟨by rw [h1]; rfl,rfl⟩
 ·repeat(first|refine X1 rfl rfl ?_|refine X0 rfl rfl ?_|refine X2 rfl rfl ?_|refine X3 rfl rfl rfl ?_|refine X22 rfl rfl hX rfl rfl ?_|refine X17 rfl rfl rfl ?_|refine RE.want rfl rfl ?_|refine C2 ?_)
  (refine CE.ret ?_;(try dsimp only);refine ret1 rfl rfl ?_)
  exact ⟨by rw [h1]; rfl,rfl⟩
theorem qfail_fn {X B : Nat} {t : List UInt8} {v : QV} {p : QP} {w : World} (h : QS X B t v p w) (hn : p.rs.length ≤ 1000000) : QF X B t v w 84 [] (.tuple #[]) p.fail:=by
 have hmax : maxLen = 9223372036854775807:=rfl
 have hX:=h.at_
 refine fn_of Tryz.func84 rfl Tryz.ntmps84 rfl ?_
 repeat(first|refine C0 ?_|refine C1 ?_|refine X1 rfl rfl ?_|refine X2 rfl rfl ?_|refine X3 rfl rfl rfl ?_|refine X22 rfl rfl hX rfl rfl ?_|refine X11 rfl rfl ?_)
 refine RE.splitH (fun h1 => ?_) (fun h1 => ?_)
 ·have h1' : p.wrong = false:=by simpa using h1
  repeat(first|refine X1 rfl rfl ?_|refine X2 rfl rfl ?_|refine X3 rfl rfl rfl ?_|refine X22 rfl rfl hX rfl rfl ?_|refine X11 rfl rfl ?_|refine X16 rfl rfl rfl rfl ?_|refine RE.want rfl rfl ?_|refine C2 ?_)
  refine CE.cond_s rfl (fun h2 => ?_) (fun h2 => ?_)
  ·have h2' : p.opn = false:=by simpa using h2
   have hf : p.fail = { p with wrong:=true,rs:=p.rs ++ [bad0] }:=by unfold QP.fail; rw [if_pos ⟨h1',h2'⟩]
   rw [hf]
   repeat(first|refine C0 ?_|refine C1 ?_|refine X1 rfl rfl ?_|refine X2 rfl rfl ?_|refine X3 rfl rfl rfl ?_)
   refine RE.xs (e_store rfl rfl rfl hX rfl rfl) ?_
   rintro _ w1 hu1
   obtain ⟨g1,i1⟩:=QS.upd (p':={ p with wrong:=true }) h hu1 rfl rfl
   have hX1:=g1.at_
   repeat(first|refine C1 ?_|refine X1 rfl rfl ?_|refine X2 rfl rfl ?_|refine X3 rfl rfl rfl ?_|refine X22 rfl rfl hX1 rfl rfl ?_|refine C2 ?_)
   refine RE.x (op_build (cells:=bad0.lst.toArray) rfl (by kernel_rfl)) rfl ?_
   refine RE.xe (e_buildSlice (vs:=[(0,bad0.val)]) (cells:=bad0.lst.toArray) (e:=31) rfl (by kernel_rfl) (by kernel_rfl)) rfl ?_
   rintro _ w2 ⟨nb,rfl,hn2⟩
   refine RE.xe (e_append B (e:=31) (size:=5) (z:=.agg #[I 0,I 0,S [],.bool false,.int .u16 0]) (bytes:=40) (m:=1) (c:=1) (ab:=nb) (news:=bad0.lst) rfl (by kernel_rfl) rfl (by decide) rfl
    (ownsRow_ext g1.ol hn2.ext) rfl (by decide) rfl (fun j u hj => cell_of hn2.here (by simpa using hj)) (by simp [bad0,RI.lst,Value.oneCell']) (by show p.rs.length + 1 ≤ _; omega) (by show (p.rs.length + 1) * 40 ≤ _; omega) (by have:=g1.lt; have:=g1.base; have:=hn2.ext.size; omega)) rfl ?_
   rintro l' w3 ⟨ho3,hf3,hn3⟩
   have hX3:=hf3.block ((g1.ext hn2.ext).at_) (fun e => g1.noX (Or.inl e))
   repeat(first|refine X2 rfl rfl ?_|refine X3 rfl rfl rfl ?_)
   refine RE.xs (e_store rfl rfl rfl hX3 rfl (ownsRow_one ho3)) ?_
   rintro _ w4 hu4
   obtain ⟨g4,i4⟩:=grown (x:=bad0) g1 hn2.ext ho3 hf3 hn3 hu4
   refine RE.nilx ?_
   exact end0 rfl ⟨rfl,_,g4,i1.trans i4⟩
  ·have h2' : p.opn = true:=by simpa using h2
   have hf : p.fail = p:=by unfold QP.fail; rw [if_neg (by rw [h2']; simp)]
   rw [hf]
   refine CE.skip ?_
   exact end0 rfl ⟨rfl,_,h,QI.refl _ _ _⟩
 ·have h1' : p.wrong = true:=by simpa using h1
  have hf : p.fail = p:=by unfold QP.fail; rw [if_neg (by rw [h1']; simp)]
  rw [hf]
  repeat(first|refine X17 rfl rfl rfl ?_|refine RE.nox rfl rfl rfl rfl ?_|refine C2 ?_)
  refine CE.cond_f rfl ?_
  refine CE.skip ?_
  exact end0 rfl ⟨rfl,_,h,QI.refl _ _ _⟩
def eolN (t : List UInt8) (i : Nat) : Nat:=if begS t i [13,10] = true then 2 else if begS t i [10] = true then 1 else if begS t i [13] = true then 1 else 0
theorem lineEnd_fn {X B : Nat} {t : List UInt8} {v : QV} {p : QP} {w : World} {i : Nat} (h : QS X B t v p w) (ht : t.length ≤ 1000000) (hi : i ≤ 1000000) : Fn PT 85 [Ptr X 0,I i] w (fun u w' => u = I (eolN t i) ∧ w' = w):=by
 have hX:=h.at_
 refine fn_of Tryz.func85 rfl Tryz.ntmps85 rfl ?_
 unfold eolN
 repeat(first|refine C0 ?_|refine C1 ?_|refine X0 rfl rfl ?_|refine C2 ?_)
 refine CE.block ?_
 repeat(first|refine C0 ?_|refine C1 ?_|refine X1 rfl rfl ?_|refine X2 rfl rfl ?_|refine X3 rfl rfl rfl ?_|refine X22 rfl rfl hX rfl rfl ?_)
 refine RE.xc en34 rfl rfl (pageHas_fn (i:=i) (x:=[13,10]) ht (by decide) hi) ?_
 rintro _ w1 ⟨rfl,hw⟩
 subst hw
 repeat(first|refine X0 rfl rfl ?_|refine C2 ?_)
 refine CE.cond_s rfl (fun h1 => ?_) (fun h1 => ?_)
 ·repeat(first|refine C0 ?_|refine C1 ?_|refine X0 rfl rfl ?_|refine C2 ?_)
  (refine CE.ret ?_;(try dsimp only);refine ret1 rfl rfl ?_)
  rw [if_pos h1]
  exact ⟨rfl,rfl⟩
 rw [if_neg (by rw [h1]; simp)]
 repeat(first|refine C0 ?_|refine C1 ?_|refine X1 rfl rfl ?_|refine X2 rfl rfl ?_|refine X3 rfl rfl rfl ?_|refine X22 rfl rfl hX rfl rfl ?_)
 refine RE.xc en34 rfl rfl (pageHas_fn (i:=i) (x:=[10]) ht (by decide) hi) ?_
 rintro _ w2 ⟨rfl,hw⟩
 subst hw
 repeat(first|refine X0 rfl rfl ?_|refine C2 ?_)
 refine CE.cond_s rfl (fun h2 => ?_) (fun h2 => ?_)
 ·rw [if_pos h2]
  refine C3 ?_
  skip
  refine CE.cond_t rfl ?_
  repeat(first|refine C0 ?_|refine C1 ?_|refine X0 rfl rfl ?_|refine C2 ?_)
  (refine CE.ret ?_;(try dsimp only);refine ret1 rfl rfl ?_)
  exact ⟨rfl,rfl⟩
 rw [if_neg (by rw [h2]; simp)]
 repeat(first|refine C1 ?_|refine X1 rfl rfl ?_|refine X2 rfl rfl ?_|refine X3 rfl rfl rfl ?_|refine X22 rfl rfl hX rfl rfl ?_)
 refine RE.xc en34 rfl rfl (pageHas_fn (i:=i) (x:=[13]) ht (by decide) hi) ?_
 rintro _ w3 ⟨rfl,hw⟩
 subst hw
 repeat(first|refine X0 rfl rfl ?_|refine C2 ?_)
 refine CE.cond_s rfl (fun h3 => ?_) (fun h3 => ?_)
 ·rw [if_pos h3]
  repeat(first|refine C0 ?_|refine C1 ?_|refine X0 rfl rfl ?_|refine C2 ?_)
  (refine CE.ret ?_;(try dsimp only);refine ret1 rfl rfl ?_)
  exact ⟨rfl,rfl⟩
 rw [if_neg (by rw [h3]; simp)]
 refine C3 ?_
 repeat(first|refine C0 ?_|refine C1 ?_|refine X0 rfl rfl ?_|refine C2 ?_)
 (refine CE.ret ?_;(try dsimp only);refine ret1 rfl rfl ?_)
 exact ⟨rfl,rfl⟩
def runTo (stop : UInt8 → Bool) (t : List UInt8) (p : Nat) : Nat:=
 if h : p < t.length then (if stop t[p] = true then p else runTo stop t (p + 1)) else p
termination_by t.length - p
theorem runTo_go {stop : UInt8 → Bool} {t : List UInt8} {p : Nat} (h : p < t.length) (hs : stop t[p] = false) : runTo stop t p = runTo stop t (p + 1):=by
 rw [runTo,dif_pos h,if_neg (by rw [hs]; simp)]
theorem runTo_at {stop : UInt8 → Bool} {t : List UInt8} {p : Nat} (h : p < t.length) (hs : stop t[p] = true) : runTo stop t p = p:=by
 rw [runTo,dif_pos h,if_pos hs]
theorem runTo_end {stop : UInt8 → Bool} {t : List UInt8} {p : Nat} (h : ¬ p < t.length) : runTo stop t p = p:=by
 rw [runTo,dif_neg h]
theorem runTo_le {stop : UInt8 → Bool} {t : List UInt8} : ∀ (n p : Nat),t.length - p = n → p ≤ t.length → p ≤ runTo stop t p ∧ runTo stop t p ≤ t.length:=by
 intro n
 induction n using Nat.strongRecOn with
 | _ n ih =>
  intro p hn hp
  by_cases h : p < t.length
  ·cases hs : stop t[p] with
   | true => rw [runTo_at h hs]; exact ⟨Nat.le_refl _,hp⟩
   | false =>
    rw [runTo_go h hs]
    have:=ih _ (by omega) (p + 1) rfl (by omega)
    omega
  ·rw [runTo_end h]; exact ⟨Nat.le_refl _,hp⟩
def notW (b : UInt8) : Bool:=!whiteB b
def wordB (b : UInt8) : Bool:=(decide (97 ≤ b.toNat) && decide (b.toNat ≤ 122)) || (decide (65 ≤ b.toNat) && decide (b.toNat ≤ 90)) || (decide (48 ≤ b.toNat) && decide (b.toNat ≤ 57)) || decide (b.toNat = 95) || decide (b.toNat = 45)
def notWd (b : UInt8) : Bool:=!(wordB b || decide (b.toNat = 47))
theorem skip_qfn {X B : Nat} {t : List UInt8} {v : QV} {p : QP} {w : World} (h : QS X B t v p w) (ht : t.length ≤ 1000000) (hp : p.pos ≤ t.length) :
  QF X B t v w 86 [] (.bool (decide (p.pos < runTo notW t p.pos))) { p with pos:=runTo notW t p.pos }:=by
 have hX:=h.at_
 refine fn_of Tryz.func86 rfl Tryz.ntmps86 rfl ?_
 repeat(first|refine C0 ?_|refine C1 ?_|refine X1 rfl rfl ?_|refine X0 rfl rfl ?_|refine X2 rfl rfl ?_|refine X3 rfl rfl rfl ?_|refine X22 rfl rfl hX rfl rfl ?_|refine C2 ?_)
 refine CE.cut (fun s ds w' => ds = [] ∧ QS X B t v { p with pos:=runTo notW t p.pos } w' ∧ QI X v v w w' ∧ SubL [(3,I p.pos),(0,Ptr X 0)] s) ?_ ?_
 ·refine CE.block ?_
  refine CE.loop (α:=Nat) (fun _ => [(3,I p.pos),(0,Ptr X 0)])
   (fun k w' => QS X B t v { p with pos:=k } w' ∧ QI X v v w w' ∧ k ≤ t.length ∧ runTo notW t p.pos = runTo notW t k) (fun k => t.length - k) p.pos ⟨rfl,rfl,trivial⟩ ⟨h,QI.refl _ _ _,hp,rfl⟩ ?_
  rintro k w1 ⟨h1,i1,hk,hrun⟩
  have hX1 : w1.drew.heap[X]? = some (.cells (({ p with pos:=k } : QP).arr t v) 48 (0,0)):=h1.at_
  repeat refine C0 ?_
  refine CE.drawR Ext [0,0,0,0,0,0,0,0,0,0,0,0,0,0,0,0,0,0,0,0,0,0] mixed Ext.refl (fun _ _ _ => Ext.trans) (by decide +kernel) ?_
  repeat(first|refine Z1 rfl rfl ?_|refine Z2 rfl rfl ?_|refine Z3 rfl rfl rfl ?_|refine Z22 rfl rfl hX1 rfl rfl ?_|refine Z7 rfl rfl rfl ?_|refine Z14 rfl Tryz.underlying9 rfl ?_)
  refine RE.splitD (fun hlt => ?_) (fun hlt => ?_)
  ·have hlt' : k < t.length:=by
    have : (k : Int) < t.length:=hlt
    omega
   repeat(first|refine Z1 rfl rfl ?_|refine Z2 rfl rfl ?_|refine Z3 rfl rfl rfl ?_|refine Z22 rfl rfl hX1 rfl rfl ?_|refine RE.want rfl rfl ?_)
   refine RE.dd (fun _ _ => op_index_s (b:=t[k]) rfl rfl Tryz.underlying9 (by show (0 : Int) ≤ (k : Int); omega) (by show t[((k : Nat) : Int).toNat]? = _; rw [Int.toNat_natCast]; exact List.getElem?_eq_getElem hlt')) rfl Ext.refl ?_
   refine RE.want rfl rfl ?_
   refine RE.dc en37 rfl rfl (fun w2 _ => Fn.mono (pageWhite_fn t[k] w2) (by rintro _ w3 ⟨rfl,rfl⟩; exact ⟨rfl,Ext.refl _⟩)) ?_
   repeat (refine Z16 rfl rfl rfl rfl ?_)
   refine C4 (fun w2 hw2 => ?_)
   have e2:=(Ext.drew w1).trans hw2
   refine CE.cond_s rfl (fun h3 => ?_) (fun h3 => ?_)
   ·refine C3 ?_
    have h2:=h1.ext e2
    have hX2:=h2.at_
    refine CE.block ?_
    repeat(first|refine C1 ?_|refine X1 rfl rfl ?_|refine X2 rfl rfl ?_|refine X3 rfl rfl rfl ?_|refine X22 rfl rfl hX2 rfl rfl ?_|refine X18 rfl rfl (by omega) (by omega) rfl ?_)
    refine RE.xs (e_store rfl rfl rfl hX2 rfl rfl) ?_
    rintro _ w4 hu4
    obtain ⟨g4,i4⟩:=QS.upd (p':={ p with pos:=k + 1 }) h2 hu4 rfl rfl
    refine RE.nilx ?_
    refine ⟨k + 1,by show t.length - (k + 1) < t.length - k; omega,rfl,⟨rfl,rfl,trivial⟩,g4,(i1.ext_r e2).trans i4,hlt',?_⟩
    rw [hrun,runTo_go hlt' (by unfold notW; rw [h3]; rfl)]
   ·refine CE.exit ?_
    refine ⟨rfl,?_,i1.ext_r e2,rfl,rfl,trivial⟩
    rw [hrun,runTo_at hlt' (by unfold notW; rw [h3]; rfl)]
    exact h1.ext e2
  ·have hlt' : ¬ k < t.length:=by
    have : ¬ (k : Int) < t.length:=hlt
    omega
   repeat(first|refine Z17 rfl rfl rfl ?_|refine RE.no0 rfl rfl rfl rfl ?_)
   refine C4 (fun w2 hw2 => ?_)
   have e2:=(Ext.drew w1).trans hw2
   refine CE.cond_f rfl ?_
   refine CE.exit ?_
   refine ⟨rfl,?_,i1.ext_r e2,rfl,rfl,trivial⟩
   rw [hrun,runTo_end hlt']
   exact h1.ext e2
 ·rintro s _ w1 ⟨rfl,h1,i1,hs⟩
  refine CE.sub hs ?_
  have hX1:=h1.at_
  repeat(first|refine C0 ?_|refine C1 ?_|refine X1 rfl rfl ?_|refine X0 rfl rfl ?_|refine X2 rfl rfl ?_|refine X3 rfl rfl rfl ?_|refine X22 rfl rfl hX1 rfl rfl ?_|refine X9 rfl rfl rfl ?_|refine C2 ?_)
  (refine CE.ret ?_;(try dsimp only);refine ret1 rfl rfl ?_)
  refine ⟨?_,_,h1,i1⟩
  congr 1
  exact decide_eq_decide.2 (by show ((p.pos : Int) < (runTo notW t p.pos : Nat)) ↔ _; omega)
end Go.Wk
