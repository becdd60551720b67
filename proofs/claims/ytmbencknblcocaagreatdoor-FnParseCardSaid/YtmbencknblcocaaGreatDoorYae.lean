/- The walk layer: regions of operations that only make memory, in any order; making slices and maps. -/
import Derived.Test.YtmbencknblcocaaGreatDoorYad
import Derived.Laws.OwnMore
import Derived.WideLaws
namespace Go.Wk
open Go Go.RowKit Go.Proofs
section
variable {P : Program} {R : World → World → Prop} {l : List Oper}
def valsAt (a : Act) (ks : List Nat) : List Value:=ks.map fun k => a.tmps.getD k undef
theorem valsAt_put {a : Act} {ks : List Nat} {d : Option Tmp} {v : Value} (h : ∀ k ∈ ks,d ≠ some k) : valsAt (a.put d v) ks = valsAt a ks:=by
 unfold valsAt
 refine List.map_congr_left fun k hk => ?_
 cases d with
 | none => rfl
 | some d =>
  have hne : d ≠ k:=fun e => h k hk (by rw [e])
  simp only [Act.put,Array.getD_eq_getD_getElem?,Array.getElem?_setIfInBounds_ne hne]
def chkF2 (ops : Array Oper) (idx : Nat → List Nat) : Bool:=
 Region.noSelect ops && (List.range ops.size).all fun i => (List.range ops.size).all fun j =>
  (match ops[i]? with
   | some o => o.guard.isNone && (o.after.all fun e => !(Region.binds .any e) || Nat.blt e.on i) && (i == j || waits .any ops j i || (idx j).all fun k => !(o.dst == some k))
   | none => false)
structure OpF (P : Program) (R : World → World → Prop) (idx : Nat → List Nat) (Ψ : Nat → List Value → World → Prop) (o : Oper) (i : Nat) (a : Act) (w : World) : Prop where
 out : UpC P R (fun v w' => Ψ i (valsAt (a.put o.dst v) (idx i)) w') w ((execOp a.eval o).run P w)
theorem region_facts {n : Nat} {Q : Exit → Act → World → Prop} {a : Act} {w : World} (idx : Nat → List Nat) (Ψ : Nat → List Value → World → Prop) (_hm : P.follows .mixedOrders = true)
  (_hrefl : ∀ w,R w w) (htrans : ∀ a b c,R a b → R b c → R a c) (hn : a.tmps.size = n) (hc : chkF2 l.toArray idx = true)
  (hst : ∀ j vs w w',Ψ j vs w → R w w' → Ψ j vs w')
  (hop : ∀ i o,l[i]? = some o → ∀ b w1,b.tmps.size = n → b.defers = a.defers → R w w1 → (∀ k,(∀ o' ∈ l,o'.dst ≠ some k) → b.tmps.getD k undef = a.tmps.getD k undef) →
   (∀ j,waits .any l.toArray i j = true → Ψ j (valsAt b (idx j)) w1) → OpF P R idx Ψ o i b w1)
  (hend : ∀ b w1,b.tmps.size = n → b.defers = a.defers → R w w1 → (∀ k,(∀ o' ∈ l,o'.dst ≠ some k) → b.tmps.getD k undef = a.tmps.getD k undef) →
   (∀ i,i < l.length → Ψ i (valsAt b (idx i)) w1) → Q .normal b w1) :
  ∀ (w0 : World),R w w0 → wpAny P .any l.toArray Q l.length (Array.replicate l.length false) a w0:=by
 intro w0 hw0
 simp only [chkF2,Bool.and_eq_true] at hc
 obtain ⟨hsel,hall⟩:=hc
 suffices H : ∀ (f : Nat) (listed : Array Bool) (b : Act) (w1 : World),listed.size = l.length → (listed.toList.filter (fun x => !x)).length ≤ f → Closed .any l.toArray listed → b.tmps.size = n → b.defers = a.defers → R w w1 →
   (∀ k,(∀ o' ∈ l,o'.dst ≠ some k) → b.tmps.getD k undef = a.tmps.getD k undef) → (∀ i,listed.getD i false = true → Ψ i (valsAt b (idx i)) w1) → wpAny P .any l.toArray Q f listed b w1 by
  refine H l.length _ a w0 (by simp) ?_ (by have:=Closed.init (md:=.any) (ops:=l.toArray) l.length; exact this) hn rfl hw0 (fun _ _ => rfl) ?_
  ·exact Nat.le_trans (List.length_filter_le _ _) (by simp)
  ·intro i hi
   exfalso
   rcases Nat.lt_or_ge i l.length with h | h
   ·simp [h] at hi
   ·simp [h] at hi
 intro f
 induction f with
 | zero =>
  intro listed b w1 hsz hcnt hcl hbn hbd hR hk hfacts
  have hf0 : listed.toList.filter (fun x => !x) = []:=List.eq_nil_of_length_eq_zero (by omega)
  have hlisted : ∀ i,i < l.length → listed.getD i false = true:=by
   intro i hi
   have hi' : i < listed.size:=by omega
   have : ∀ x ∈ listed.toList,x = true:=by
    intro x hx
    cases hxe : x with
    | true => rfl
    | false =>
     exfalso
     have : x ∈ listed.toList.filter (fun x => !x):=List.mem_filter.2 ⟨hx,by simp [hxe]⟩
     rw [hf0] at this
     cases this
   have:=this listed[i] (by simp)
   simp [hi',this]
  refine ⟨?_,hend b w1 hbn hbd hR hk fun i hi => hfacts i (hlisted i hi)⟩
  cases hr : Region.ready .any l.toArray listed with
  | nil => rfl
  | cons i rs =>
   exfalso
   have hi : i ∈ Region.ready .any l.toArray listed:=by rw [hr]; simp
   obtain ⟨hun,o,ho,_⟩:=mem_ready.1 hi
   have hil : i < l.length:=by
    rcases Nat.lt_or_ge i l.length with h | h
    ·exact h
    ·simp [h] at ho
   have:=hlisted i hil
   simp [show i < listed.size by omega] at this hun
   rw [this] at hun
   cases hun
 | succ f ih =>
  intro listed b w1 hsz hcnt hcl hbn hbd hR hk hfacts
  by_cases hr : Region.ready .any l.toArray listed = []
  ·-- nothing is ready: all are listed
   have hlisted : ∀ i,i < l.length → listed.getD i false = true:=by
    intro i
    induction i using Nat.strongRecOn with
    | _ i ihi =>
     intro hi
     cases hx : listed.getD i false with
     | true => rfl
     | false =>
      exfalso
      have ho : l.toArray[i]? = some l[i]:=by simp [hi]
      have : i ∈ Region.ready .any l.toArray listed:=mem_ready.2 ⟨by
        simp [show i < listed.size by omega] at hx ⊢
        exact hx,l[i],ho,fun e he hb => by
        have hij:=(List.all_eq_true.1 (List.all_eq_true.1 hall i (by simp [hi])) i (by simp [hi]))
        rw [ho] at hij
        simp only [Bool.and_eq_true] at hij
        have he2:=Array.all_eq_true'.1 hij.1.2 e he
        simp only [hb,Bool.not_true,Bool.false_or] at he2
        have hlt : e.on < i:=by simpa [Nat.blt_eq] using he2
        have h3:=ihi e.on hlt (by omega)
        have h4 : e.on < listed.size:=by omega
        simp [h4] at h3 ⊢
        exact h3⟩
      rw [hr] at this
      cases this
   exact ⟨fun _ => hend b w1 hbn hbd hR hk fun i hi => hfacts i (hlisted i hi),fun i hi => by rw [hr] at hi; cases hi⟩
  ·refine ⟨fun h => absurd h hr,fun i hi => ?_⟩
   obtain ⟨hun,o,ho,hdeps⟩:=mem_ready.1 hi
   have hil : i < l.length:=by
    rcases Nat.lt_or_ge i l.length with h | h
    ·exact h
    ·simp [h] at ho
   have ho' : l[i]? = some o:=by simpa using ho
   have hii:=(List.all_eq_true.1 (List.all_eq_true.1 hall i (by simp [hil])) i (by simp [hil]))
   rw [ho] at hii
   simp only [Bool.and_eq_true,Option.isNone_iff_eq_none] at hii
   have hg : o.guard = none:=hii.1.1
   have hu:=(hop i o ho' b w1 hbn hbd hR hk fun j hj => by
    obtain ⟨oj,hoj,e,he,hb,hon⟩:=waits_spec hj
    rw [ho] at hoj
    cases hoj
    have:=hdeps e he hb
    subst hon
    refine hfacts e.on ?_
    rcases Nat.lt_or_ge e.on listed.size with h | h
    ·simp [h] at this ⊢; exact this
    ·simp [h] at this).out
   have step : ∀ v w2,R w1 w2 → Ψ i (valsAt (b.put o.dst v) (idx i)) w2 → wpAny P .any l.toArray Q f (listed.setIfInBounds i true) (b.put o.dst v) w2:=by
    intro v w2 hR2 hψ
    refine ih _ _ _ (by simpa using hsz) ?_ (hcl.set hi) (by cases hd : o.dst <;> simp [Act.put,hbn]) (by cases hd : o.dst <;> simp [Act.put,hbd]) (htrans _ _ _ hR hR2) ?_ ?_
    ·have hlt : i < listed.toList.length:=by simp; omega
     have hfalse : listed.toList[i] = false:=by
      have h4 : i < listed.size:=by omega
      simp [h4] at hun
      simpa using hun
     have key : ∀ (xs : List Bool) (i : Nat) (h : i < xs.length),xs[i] = false → ((xs.set i true).filter (fun x => !x)).length + 1 = (xs.filter (fun x => !x)).length:=by
      intro xs
      induction xs with
      | nil => intro i h; simp at h
      | cons x xs ihx =>
       intro i h hx
       cases i with
       | zero => simp at hx; subst hx; simp
       | succ i =>
        have:=ihx i (by simpa using h) (by simpa using hx)
        cases x <;> simp [this] <;> omega
     have:=key listed.toList i hlt hfalse
     simp only [Array.toList_setIfInBounds]
     omega
    ·intro k hk2
     rw [← hk k hk2]
     have hne : o.dst ≠ some k:=hk2 o (List.mem_of_getElem? ho')
     have:=valsAt_put (a:=b) (ks:=[k]) (d:=o.dst) (v:=v) (by simpa using hne)
     simpa [valsAt] using this
    ·intro j hj
     by_cases hij : i = j
     ·subst hij; exact hψ
     ·have hj' : listed.getD j false = true:=by rw [getD_set_ne false hij] at hj; exact hj
      have hjl : j < l.length:=by
       rcases Nat.lt_or_ge j listed.size with h | h
       ·omega
       ·simp [h] at hj'
      have hoj : l.toArray[j]? = some l[j]:=by simp [hjl]
      have hnw : waits .any l.toArray j i = false:=by
       cases hw : waits .any l.toArray j i with
       | false => rfl
       | true =>
        exfalso
        obtain ⟨oj,hoj',e,he,hb,hon⟩:=waits_spec hw
        have:=hcl j oj hoj' hj' e he hb
        rw [hon] at this
        have h4 : i < listed.size:=by omega
        simp [h4] at hun this
        rw [this] at hun
        cases hun
      have hijc:=(List.all_eq_true.1 (List.all_eq_true.1 hall i (by simp [hil])) j (by simp [hjl]))
      rw [ho] at hijc
      simp only [Bool.and_eq_true,hnw,Bool.or_false,Bool.or_eq_true,beq_iff_eq] at hijc
      rcases hijc.2 with h | h
      ·exact absurd h hij
      ·rw [valsAt_put (fun k hk3 => by
        have:=List.all_eq_true.1 h k hk3
        simpa using this)]
       exact hst j _ _ _ (hfacts j hj') hR2
   unfold Go.wpOp
   simp only [ho]
   rw [if_pos (wanted_none _ _ hg)]
   refine Or.inl ?_
   unfold Oper.wp
   revert hu
   generalize (execOp b.eval o).run P w1 = res
   intro hu
   cases res with
   | halt x w' => exact hu.elim
   | ok nx w' =>
    cases nx <;> simp only [UpC] at hu <;> simp only [Oper.upon]
    case value u => exact step _ _ hu.1 hu.2
    case skip => exact step _ _ hu.1 hu.2
    case enter fid args =>
     refine hu.mono ?_
     rintro e w2 ⟨u,rfl,h1,h2⟩
     exact step _ _ h1 h2
theorem Has.add {n : Nat} {s : Slots} {ds : List Deferred} {a : Act} (h : Has n s ds a) {d : Nat} {v : Value} (hv : a.tmps.getD d undef = v) : Has n ((d,v) :: s) ds a:=by
 refine ⟨h.size,h.ds,fun t u hu => ?_⟩
 simp only [look] at hu
 by_cases hdt : d = t
 ·subst hdt
  simp at hu
  subst hu
  exact hv
 ·have : Nat.beq d t = false:=beqF hdt
  rw [this] at hu
  exact h.val t u (by simpa using hu)
def apartS (l : List Oper) (s : Slots) : Bool:=s.all fun p => l.all fun o => !(o.dst == some p.1)
theorem look_mem : ∀ {s : Slots} {t : Nat} {v : Value},look s t = some v → ∃ p ∈ s,p.1 = t
 | [],_,_,h => by cases h
 | (d,v) :: s,t,u,h => by
  simp only [look] at h
  by_cases hdt : d = t
  ·exact ⟨(d,v),by simp,hdt⟩
  ·have : Nat.beq d t = false:=beqF hdt
   rw [this] at h
   obtain ⟨p,hp,hq⟩:=look_mem (s:=s) (by simpa using h)
   exact ⟨p,by simp [hp],hq⟩
theorem CE.drawF {n : Nat} {k : Ks} {s : Slots} {ds : List Deferred} {w : World} {id : Nat} (R : World → World → Prop) (idx : Nat → List Nat) (Ψ : Nat → List Value → World → Prop) (hm : P.follows .mixedOrders = true)
  (hrefl : ∀ w,R w w) (htrans : ∀ a b c,R a b → R b c → R a c) (hc : chkF2 l.toArray idx = true) (hs : apartS l s = true)
  (hst : ∀ j vs w w',Ψ j vs w → R w w' → Ψ j vs w')
  (hop : ∀ i o,l[i]? = some o → ∀ b w1,Has n s ds b → R w.drew w1 → (∀ j,waits .any l.toArray i j = true → Ψ j (valsAt b (idx j)) w1) → OpF P R idx Ψ o i b w1)
  (hend : ∀ b w1,Has n s ds b → R w.drew w1 → (∀ i,i < l.length → Ψ i (valsAt b (idx i)) w1) → k.Q n .normal b w1) :
  CE P n (.region id l.toArray true) k s ds w:=by
 refine ⟨fun a ha => wp_region_any hm ?_⟩
 have hhas : ∀ b : Act,b.tmps.size = n → b.defers = a.defers → (∀ k,(∀ o' ∈ l,o'.dst ≠ some k) → b.tmps.getD k undef = a.tmps.getD k undef) → Has n s ds b:=by
  intro b h1 h2 h3
  refine ⟨h1,h2.trans ha.ds,fun t v hv => ?_⟩
  rw [h3 t ?_]
  ·exact ha.val t v hv
  ·obtain ⟨p,hp,rfl⟩:=look_mem hv
   intro o ho e
   have:=List.all_eq_true.1 (List.all_eq_true.1 hs p hp) o ho
   simp [e] at this
 have:=region_facts (P:=P) (R:=R) (l:=l) (n:=n) (Q:=k.Q n) (a:=a) (w:=w.drew) idx Ψ hm hrefl htrans ha.size hc hst
  (fun i o ho b w1 h1 h2 h3 h4 h5 => hop i o ho b w1 (hhas b h1 h2 h4) h3 h5) (fun b w1 h1 h2 h3 h4 h5 => hend b w1 (hhas b h1 h2 h4) h3 h5) w.drew (hrefl _)
 simpa using this
end
section
variable {n : Nat} {s : Slots} {w : World} {dst : Option Tmp} {ty : TypeId} {pos : String} {af : Array Edge} {g : Option (Nat × Bool)} {x y : Operand} {v : Value}
theorem e_make0 (base : Nat) {t e size bytes cp : Nat} {z : Value} (ht : slLook slT t = some (e,size)) (hz : (PT.info? e).map (fun i => (i.zero,i.bytes)) = some (some z,bytes))
  (hx : ev s x = some (I 0)) (hy : ev s y = some (I cp)) (hb : bytes * cp ≤ 281474976710656) (h63 : cp ≤ 9223372036854775807) (hbase : base ≤ w.heap.size) :
  OpE PT ⟨dst,.makeSlice t x y,ty,pos,af,g⟩ n s w (fun u w' => ∃ b,u = Sl b 0 0 cp ∧ b = w.heap.size ∧ w'.ownsRow base e size u 0 [] ∧ Ext w w'):=by
 refine ⟨fun ds a ha => ?_⟩
 obtain ⟨hu,i,hi,hs⟩:=sl_spec ht
 rw [hi] at hz
 simp only [Option.map_some,Option.some.injEq,Prod.mk.injEq] at hz
 obtain ⟨hz1,hz2⟩:=hz
 subst hz2
 obtain ⟨w',hr,ho,hg⟩:=run_make_own (P:=PT) w base t e i z size hu hi hz1 hs .i64 .i64 cp hb h63 hbase
 refine ⟨_,w',Or.inl ?_,_,rfl,rfl,ho,(grownBy_fr (S:=fun _ => False) hg (by intro k hk; cases hk)).ext⟩
 simp only [execOp,ha.ev hx,ha.ev hy,Sem.run_bind]
 rw [hr]
 rfl
theorem e_makeN (base : Nat) {t e size bytes cp : Nat} {z : Value} (ht : slLook slT t = some (e,size)) (hz : (PT.info? e).map (fun i => (i.zero,i.bytes)) = some (some z,bytes))
  (hx : ev s x = some (I cp)) (hy : ev s y = some (I cp)) (hb : bytes * cp ≤ 281474976710656) (hcs : cp * size ≤ 16777216) (h63 : cp ≤ 9223372036854775807) (hbase : base ≤ w.heap.size) :
  OpE PT ⟨dst,.makeSlice t x y,ty,pos,af,g⟩ n s w (fun u w' => ∃ b,u = Sl b 0 cp cp ∧ b = w.heap.size ∧ (∃ xs,w'.ownsRow base e size u cp xs) ∧ Ext w w'):=by
 refine ⟨fun ds a ha => ?_⟩
 obtain ⟨hu,i,hi,hs⟩:=sl_spec ht
 rw [hi] at hz
 simp only [Option.map_some,Option.some.injEq,Prod.mk.injEq] at hz
 obtain ⟨hz1,hz2⟩:=hz
 subst hz2
 obtain ⟨w',hr,ho,hg⟩:=run_makeSlice_full (P:=PT) (w:=w) base t e i z size hu hi hz1 hs .i64 .i64 cp hcs hb h63 hbase
 refine ⟨_,w',Or.inl ?_,_,rfl,rfl,⟨_,ho⟩,(grownBy_fr (S:=fun _ => False) hg (by intro k hk; cases hk)).ext⟩
 simp only [execOp,ha.ev hx,ha.ev hy,Sem.run_bind]
 rw [hr]
 rfl
theorem e_makeMap {t : TypeId} : OpE PT ⟨dst,.makeMap t none,ty,pos,af,g⟩ n s w (fun u w' => u = .map (some w.heap.size) ∧ New w w.heap.size (.map #[] 0) w'):=by
 refine ⟨fun ds a ha => ⟨.map (some w.heap.size),w.alloc (.map #[] 0),Or.inl ?_,rfl,new_alloc w _⟩⟩
 simp only [execOp,Sem.run_bind,Option.map_none]
 rfl
end
end Go.Wk
namespace Go.Wk
open Go Go.RowKit Go.Proofs
set_option maxRecDepth 100000
theorem Ext.fr {S : Nat → Prop} {w w1 w2 : World} (h : Ext w w1) (hf : Fr S w1 w2) (hS : ∀ q,S q → w.heap.size ≤ q) : Ext w w2:=
 ⟨hf.os.trans h.os,hf.tape.trans h.tape,hf.output.trans h.output,Nat.le_trans h.size hf.size,fun k hk => by
  rw [hf.same k (Nat.lt_of_lt_of_le hk h.size) (fun e => by have:=hS k e; omega)]
  exact Below.block h k hk⟩
structure HF (L B : Nat) (nd all s1 s2 : Bool) (H : Value) (w : World) : Prop where
 out : ∃ hb hs ks h1 h2 n,H = Ptr hb 0 ∧ w.heap[hb]? = some (.cells #[Ptr L 0,.bool all,hs,ks] 105 (0,0)) ∧
  w.ownsRow B 106 1 hs (if nd then 1 else 2) (if nd then [Ptr h1 0] else [Ptr h1 0,Ptr h2 0]) ∧ (∃ xs,w.ownsRow B 3 1 ks n xs) ∧
  w.heap[h1]? = some (.cells #[Ptr L 0,.bool s1,fnV 118,fnV 121] 111 (0,0)) ∧
  (nd = false → w.heap[h2]? = some (.cells #[Ptr L 0,.bool s2,fnV 126,fnV 127] 111 (0,0)) ∧ h1 ≠ h2) ∧ B ≤ hb ∧ B ≤ h1 ∧ (nd = false → B ≤ h2)
theorem ownsRow_fr {w w' : World} {base e size k : Nat} {v : Value} {xs : List Value} {S : Nat → Prop} (h : w.ownsRow base e size v k xs) (hf : Fr S w w') (hs : ∀ q,v.ownBlock = some q → ¬ S q) : w'.ownsRow base e size v k xs:=by
 refine ⟨h.1,?_⟩
 rcases h.2 with hn | ⟨g,cap,cur,rfl,hb,hgg,rest⟩
 ·exact Or.inl hn
 ·exact Or.inr ⟨g,cap,cur,rfl,hb,hf.block hgg (hs g rfl),rest⟩
theorem ownsRow_ext {w w' : World} {base e size k : Nat} {v : Value} {xs : List Value} (h : w.ownsRow base e size v k xs) (he : Ext w w') : w'.ownsRow base e size v k xs:=
 ownsRow_fr h (Fr.of_ext (S:=fun _ => False) he) (fun _ _ h => h)
theorem handlers_fn {L B : Nat} {c : LC} {w : World} (h : AtL L c w) (hB : B ≤ w.heap.size) :
  Fn PT 104 [Ptr L 0] w (fun u w' => HF L B c.nd false false false u w' ∧ Ext w w'):=by
 refine fn_of Tryz.func104 rfl Tryz.ntmps104 rfl ?_
 have hL:=h
 unfold AtL at hL
 have hmax : maxLen = 9223372036854775807:=rfl
 repeat(first|refine C0 ?_|refine C1 ?_|refine X0 rfl rfl ?_|refine C2 ?_)
 refine RE.xe (e_make0 B (e:=106) (size:=1) (bytes:=8) (cp:=2) (z:=.pointer none) rfl (by kernel_rfl) rfl rfl (by decide) (by decide) hB) rfl ?_
 rintro _ w1 ⟨b1,rfl,hb1,ho1,e1⟩
 repeat(first|refine C0 ?_|refine C1 ?_|refine X1 rfl rfl ?_|refine X0 rfl rfl ?_|refine C2 ?_)
 refine RE.x (op_build (cells:=#[Ptr L 0,.bool false,fnV 118,fnV 121]) rfl (by kernel_rfl)) rfl ?_
 refine RE.xe (e_box (cells:=#[Ptr L 0,.bool false,fnV 118,fnV 121]) rfl rfl) rfl ?_
 rintro _ w2 ⟨h1,rfl,hn2⟩
 have e2:=e1.trans hn2.ext
 repeat(first|refine C0 ?_|refine C1 ?_|refine X1 rfl rfl ?_|refine X0 rfl rfl ?_|refine C2 ?_)
 refine RE.xe (e_buildSlice (cells:=#[Ptr h1 0]) (e:=106) rfl (by kernel_rfl) (by kernel_rfl)) rfl ?_
 rintro _ w3 ⟨nb,rfl,hn3⟩
 have e3:=e2.trans hn3.ext
 have hB3 : B ≤ w3.heap.size:=by have:=e3.size; omega
 refine RE.xe (e_append B (e:=106) (size:=1) (z:=.pointer none) (bytes:=8) (m:=1) (c:=1) (ab:=nb) (k:=0) (xs:=[]) (news:=[Ptr h1 0]) rfl (by kernel_rfl) rfl (by decide) rfl
  (ownsRow_ext ho1 (hn2.ext.trans hn3.ext)) rfl (by decide) rfl (fun j u hj => cell_of hn3.here (by simpa using hj)) (by simp [Value.oneCell']) (by omega) (by omega) hB3) rfl ?_
 rintro v4 w4 ⟨ho4,hf4,hv4⟩
 have e4 : Ext w w4:=e3.fr hf4 (fun q hq => by simp [Value.ownBlock] at hq; omega)
 have hh1 : w4.heap[h1]? = some (.cells #[Ptr L 0,.bool false,fnV 118,fnV 121] 111 (0,0)):=
  hf4.block (hn3.ext.block hn2.here) (by simp [Value.ownBlock]; have:=hn2.num; have:=e1.size; have:=(ho1.lt b1 rfl).2; omega)
 have hL4:=e4.block hL
 repeat(first|refine C0 ?_|refine C1 ?_|refine X1 rfl rfl ?_|refine X0 rfl rfl ?_|refine X2 rfl rfl ?_|refine X3 rfl rfl rfl ?_|refine X4 rfl rfl rfl ?_|refine X22 rfl rfl hL4 rfl rfl ?_|refine X11 rfl rfl ?_|refine C2 ?_)
 refine CE.cut (fun s ds w' => ds = [] ∧ Ext w w' ∧ ∃ hs h2,SubL [(0,Ptr L 0),(3,hs)] s ∧ w'.ownsRow B 106 1 hs (if c.nd then 1 else 2) (if c.nd then [Ptr h1 0] else [Ptr h1 0,Ptr h2 0]) ∧
   w'.heap[h1]? = some (.cells #[Ptr L 0,.bool false,fnV 118,fnV 121] 111 (0,0)) ∧
   (c.nd = false → w'.heap[h2]? = some (.cells #[Ptr L 0,.bool false,fnV 126,fnV 127] 111 (0,0)) ∧ h1 ≠ h2) ∧ (c.nd = false → B ≤ h2)) ?_ ?_
 ·refine CE.cond_s rfl (fun hnd => ?_) (fun hnd => ?_)
  ·have hnd' : c.nd = false:=by simpa using hnd
   repeat(first|refine C0 ?_|refine C1 ?_|refine X1 rfl rfl ?_)
   refine RE.x (op_build (cells:=#[Ptr L 0,.bool false,fnV 126,fnV 127]) rfl (by kernel_rfl)) rfl ?_
   refine RE.xe (e_box (cells:=#[Ptr L 0,.bool false,fnV 126,fnV 127]) rfl rfl) rfl ?_
   rintro _ w5 ⟨h2,rfl,hn5⟩
   have e5:=e4.trans hn5.ext
   repeat(first|refine C1 ?_|refine X1 rfl rfl ?_|refine X0 rfl rfl ?_|refine C2 ?_)
   refine RE.xe (e_buildSlice (cells:=#[Ptr h2 0]) (e:=106) rfl (by kernel_rfl) (by kernel_rfl)) rfl ?_
   rintro _ w6 ⟨nb6,rfl,hn6⟩
   have e6:=e5.trans hn6.ext
   have hB6 : B ≤ w6.heap.size:=by have:=e6.size; omega
   refine RE.xe (e_append B (e:=106) (size:=1) (z:=.pointer none) (bytes:=8) (m:=1) (c:=1) (ab:=nb6) (k:=0 + 1) (xs:=[] ++ [Ptr h1 0]) (news:=[Ptr h2 0]) rfl (by kernel_rfl) rfl (by decide) rfl
    (ownsRow_ext ho4 (hn5.ext.trans hn6.ext)) rfl (by decide) rfl (fun j u hj => cell_of hn6.here (by simpa using hj)) (by simp [Value.oneCell']) (by omega) (by omega) hB6) rfl ?_
   rintro v7 w7 ⟨ho7,hf7,hv7⟩
   have hown4 : ∀ q,v4.ownBlock = some q → w.heap.size ≤ q:=by
    intro q hq
    rcases hv4 q hq with h | h
    ·simp [Value.ownBlock] at h; omega
    ·have:=e3.size; omega
   have e7 : Ext w w7:=e6.fr hf7 hown4
   have htag : ∀ q,v4.ownBlock = some q → ∃ cs,w4.heap[q]? = some (.cells cs 106 (0,0)):=by
    intro q hq
    rcases ho4.2 with ⟨rfl,_⟩ | ⟨g,cap,cur,rfl,_,hg,_⟩
    ·cases hq
    ·simp only [Value.ownBlock,Option.some.injEq] at hq; subst hq; exact ⟨_,hg⟩
   have hlt4 : ∀ q,v4.ownBlock = some q → q < w4.heap.size:=by
    intro q hq
    obtain ⟨cs,hcs⟩:=htag q hq
    exact (Array.getElem?_eq_some_iff.1 hcs).1
   repeat (refine X0 rfl rfl ?_)
   refine RE.nilx ?_
   refine ⟨rfl,e7,v7,h2,⟨rfl,rfl,trivial⟩,?_,?_,fun _ => ⟨?_,?_⟩,fun _ => by have:=e4.size; have:=hn5.num; omega⟩
   ·rw [hnd']; exact ho7
   ·refine hf7.block ((hn5.ext.trans hn6.ext).block hh1) fun e => ?_
    obtain ⟨cs,hcs⟩:=htag h1 e
    rw [hcs] at hh1
    cases hh1
   ·refine hf7.block (hn6.ext.block hn5.here) fun e => ?_
    have:=hlt4 h2 e
    have:=hn5.num
    omega
   ·intro e
    have:=(Array.getElem?_eq_some_iff.1 hh1).1
    have:=hn5.num
    omega
  ·have hnd' : c.nd = true:=by simpa using hnd
   refine CE.skip ?_
   refine ⟨rfl,e4,v4,h1,⟨rfl,rfl,trivial⟩,?_,hh1,fun h => (by rw [hnd'] at h; cases h),fun h => (by rw [hnd'] at h; cases h)⟩
   rw [hnd']; exact ho4
 ·rintro s _ w5 ⟨rfl,e5,hs,h2,hsub,ho5,hh5,hh25,hh26⟩
  refine CE.sub hsub ?_
  obtain ⟨g,cap,hsv⟩ : ∃ g cap,hs = Sl g 0 (if c.nd then 1 else 2) cap:=by
   rcases ho5.2 with ⟨_,h0⟩ | ⟨g,cap,cur,rfl,_⟩
   ·exfalso
    cases hc : c.nd <;> simp [hc] at h0
   ·exact ⟨g,cap,rfl⟩
  subst hsv
  have hB5 : B ≤ w5.heap.size:=by have:=e5.size; omega
  repeat(first|refine C0 ?_|refine C1 ?_|refine X1 rfl rfl ?_|refine X13 rfl rfl rfl ?_)
  refine RE.xe (e_makeN B (e:=3) (size:=1) (bytes:=8) (cp:=if c.nd then 1 else 2) (z:=I 0) rfl (by kernel_rfl) rfl rfl (by split <;> decide) (by split <;> decide) (by split <;> decide) hB5) rfl ?_
  rintro _ w6 ⟨b6,rfl,hb6,⟨xs6,ho6⟩,e6⟩
  refine RE.x (op_build (cells:=#[Ptr L 0,.bool false,Sl g 0 (if c.nd then 1 else 2) cap,Sl b6 0 (if c.nd then 1 else 2) (if c.nd then 1 else 2)]) rfl (by kernel_rfl)) rfl ?_
  refine RE.xe (e_box (cells:=#[Ptr L 0,.bool false,Sl g 0 (if c.nd then 1 else 2) cap,Sl b6 0 (if c.nd then 1 else 2) (if c.nd then 1 else 2)]) rfl rfl) rfl ?_
  rintro _ w7 ⟨hb,rfl,hn7⟩
  have e67:=e6.trans hn7.ext
  repeat(first|refine X0 rfl rfl ?_|refine C2 ?_)
  (refine CE.ret ?_;(try dsimp only);refine ret1 rfl rfl ?_)
  refine ⟨⟨hb,_,_,h1,h2,_,rfl,hn7.here,ownsRow_ext ho5 e67,⟨_,ownsRow_ext ho6 hn7.ext⟩,e67.block hh5,fun hnd => ⟨e67.block (hh25 hnd).1,(hh25 hnd).2⟩,by have:=hn7.num; have:=e6.size; omega,by have:=hn2.num; have:=e1.size; omega,hh26⟩,e5.trans e67⟩
def LC.ini (ia : Option Addr) (il ic : Nat) (st0 : Value) (nf nd : Bool) (da : Option Addr) (dl dc : Nat) (mp items H : Value) : LC:=
 { ia:=ia,il:=il,ic:=ic,st0:=st0,st:=.nilFunc,pos:=0,start:=0,width:=0,H:=H,nf:=nf,nd:=nd,da:=da,dl:=dl,dc:=dc,chk:=false,ld:=8,rd:=9,inl:=false,name:=[],clos:=0,step:=0,par:=0,mp:=mp,items:=items,err:=.nilIface }
theorem delim103t_fn (w : World) : Fn PT 103 [] w (fun v w' => ∃ b,HBk b w' v bs103 ∧ w.heap.size ≤ b ∧ Ext w w' ∧ ∃ cs fr,w'.heap[b]? = some (.cells cs 5 fr)):=by
 refine fn_of Tryz.func103 rfl Tryz.ntmps103 rfl ?_
 repeat(first|refine C0 ?_|refine C1 ?_|refine X1 rfl rfl ?_|refine X0 rfl rfl ?_|refine X2 rfl rfl ?_|refine X3 rfl rfl rfl ?_|refine X4 rfl rfl rfl ?_|refine X5 rfl rfl rfl ?_|refine X6 rfl rfl rfl ?_|refine X7 rfl rfl rfl ?_|refine X8 rfl rfl rfl ?_|refine X9 rfl rfl rfl ?_|refine X10 rfl rfl rfl ?_|refine X12 rfl rfl ?_|refine X11 rfl rfl ?_|refine X13 rfl rfl rfl ?_|refine X14 rfl Tryz.underlying9 rfl ?_|refine X15 rfl rfl rfl ?_|refine X16 rfl rfl rfl rfl ?_|refine X17 rfl rfl rfl ?_|refine X18 rfl rfl (by omega) (by omega) rfl ?_|refine X19 rfl rfl (by omega) (by omega) rfl ?_|refine X20 rfl rfl rfl ?_|refine X21 rfl rfl rfl ?_|refine RE.want rfl rfl ?_|refine RE.nox rfl rfl rfl rfl ?_|refine RE.nou rfl rfl rfl ?_|refine C2 ?_|refine CE.block ?_|refine CE.scope ?_|refine CE.label (show CE _ _ _ _ _ _ _ from ?_)|refine C3 ?_|refine CE.exit (show CE _ _ _ _ _ _ _ from ?_)|refine CE.cond_t rfl ?_|refine CE.cond_f rfl ?_)
 refine RE.xe (e_buildSlice (cells:=#[.int .u8 60,.int .u8 33,.int .u8 45,.int .u8 45,.int .u8 109,.int .u8 111,.int .u8 114,.int .u8 101,.int .u8 45,.int .u8 45,.int .u8 62]) (e:=5) rfl (by kernel_rfl) (by kernel_rfl)) rfl ?_
 rintro _ w1 ⟨b,rfl,hn⟩
 refine RE.xe (e_mark rfl hn.here) rfl ?_
 rintro _ w2 ⟨rfl,hu⟩
 repeat(first|refine C0 ?_|refine C1 ?_|refine X1 rfl rfl ?_|refine X0 rfl rfl ?_|refine X2 rfl rfl ?_|refine X3 rfl rfl rfl ?_|refine X4 rfl rfl rfl ?_|refine X5 rfl rfl rfl ?_|refine X6 rfl rfl rfl ?_|refine X7 rfl rfl rfl ?_|refine X8 rfl rfl rfl ?_|refine X9 rfl rfl rfl ?_|refine X10 rfl rfl rfl ?_|refine X12 rfl rfl ?_|refine X11 rfl rfl ?_|refine X13 rfl rfl rfl ?_|refine X14 rfl Tryz.underlying9 rfl ?_|refine X15 rfl rfl rfl ?_|refine X16 rfl rfl rfl rfl ?_|refine X17 rfl rfl rfl ?_|refine X18 rfl rfl (by omega) (by omega) rfl ?_|refine X19 rfl rfl (by omega) (by omega) rfl ?_|refine X20 rfl rfl rfl ?_|refine X21 rfl rfl rfl ?_|refine RE.want rfl rfl ?_|refine RE.nox rfl rfl rfl rfl ?_|refine RE.nou rfl rfl rfl ?_|refine C2 ?_|refine CE.block ?_|refine CE.scope ?_|refine CE.label (show CE _ _ _ _ _ _ _ from ?_)|refine C3 ?_|refine CE.exit (show CE _ _ _ _ _ _ _ from ?_)|refine CE.cond_t rfl ?_|refine CE.cond_f rfl ?_)
 (refine CE.ret ?_;(try dsimp only);refine ret1 rfl rfl ?_)
 have hnum:=hn.num
 refine ⟨b,HBk_row hu.here rfl rfl,by omega,?_,_,_,hu.here⟩
 exact ⟨hu.os.trans hn.os,hu.tape.trans hn.tape,hu.output.trans hn.output,by have:=hu.size; have:=hn.size; omega,fun k hk => by
  rw [hu.other k (by omega),hn.other k (by omega)]⟩
def nlIdx : Nat → List Nat
 | 0 => [8] | 1 => [9] | 2 => [10] | 3 => [11] | 4 => [12] | 5 => [13] | 6 => [14,12] | 7 => [15,8,9,10,11,14,13] | 8 => [16,15] | 9 => [7,16] | _ => []
def nlΨ (B sz : Nat) (iv st0 : Value) (nf nd : Bool) : Nat → List Value → World → Prop
 | 0,[v],_ => v = iv
 | 1,[v],_ => v = st0
 | 2,[v],w => ∃ b,HBk b w v bs103 ∧ sz ≤ b ∧ ∃ cs fr,w.heap[b]? = some (.cells cs 5 fr)
 | 3,[v],_ => v = .agg #[.bool nf,.bool nd]
 | 4,[v],w => ∃ g,v = .map (some g) ∧ w.heap[g]? = some (.map #[] 0) ∧ sz ≤ g
 | 5,[v],w => ∃ b,v = Sl b 0 0 5 ∧ w.ownsRow B 63 7 v 0 [] ∧ sz ≤ b
 | 6,[v,m],_ => v = .agg #[I 8,I 9,.bool false,S [],I 0,I 0,I 0,m]
 | 7,[v,a,b,c,d,e,f],_ => ∃ m,e = .agg #[I 8,I 9,.bool false,S [],I 0,I 0,I 0,m] ∧ d = .agg #[.bool nf,.bool nd] ∧
   v = .agg #[a,b,.nilFunc,I 0,I 0,I 0,.pointer none,.bool nf,.bool nd,c,.bool false,I 8,I 9,.bool false,S [],I 0,I 0,I 0,m,f,.nilIface]
 | 8,[p,v],w => ∃ L,p = Ptr L 0 ∧ w.heap[L]? = some (.cells v.cells 79 (0,0)) ∧ sz ≤ L
 | 9,[x,p],_ => x = p
 | _,_,_ => False
theorem nlΨ_ext (B sz : Nat) (iv st0 : Value) (nf nd : Bool) : ∀ j vs w w',nlΨ B sz iv st0 nf nd j vs w → Ext w w' → nlΨ B sz iv st0 nf nd j vs w':=by
 intro j vs w w' h he
 unfold nlΨ at *
 split at h
 ·exact h
 ·exact h
 ·obtain ⟨b,h1,h2,cs,fr,h3⟩:=h; exact ⟨b,h1.ext he,h2,cs,fr,he.block h3⟩
 ·exact h
 ·obtain ⟨g,h1,h2,h3⟩:=h; exact ⟨g,h1,he.block h2,h3⟩
 ·obtain ⟨b,h1,h2,h3⟩:=h; exact ⟨b,h1,ownsRow_ext h2 he,h3⟩
 ·exact h
 ·exact h
 ·obtain ⟨L,h1,h2,h3⟩:=h; exact ⟨L,h1,he.block h2,h3⟩
 ·exact h
 ·exact h.elim
theorem OpF.det {P : Program} {R : World → World → Prop} {idx : Nat → List Nat} {Ψ : Nat → List Value → World → Prop} {i d n : Nat} {op : Op} {ty : TypeId} {pos : String} {af : Array Edge} {g : Option (Nat × Bool)} {a : Act} {w : World} {s : Slots} {ds : List Deferred} {v : Value}
  (ha : Has n s ds a) (h : Op1 P ⟨some d,op,ty,pos,af,g⟩ n s v w) (hr : R w w) (hψ : Ψ i (valsAt (a.put (some d) v) (idx i)) w) : OpF P R idx Ψ ⟨some d,op,ty,pos,af,g⟩ i a w:=by
 refine ⟨?_⟩
 rw [h.out ds a ha]
 exact ⟨hr,hψ⟩
theorem OpF.eff {P : Program} {R : World → World → Prop} {idx : Nat → List Nat} {Ψ : Nat → List Value → World → Prop} {i d n : Nat} {op : Op} {ty : TypeId} {pos : String} {af : Array Edge} {g : Option (Nat × Bool)} {a : Act} {w : World} {s : Slots} {ds : List Deferred}
  (ha : Has n s ds a) (h : OpE P ⟨some d,op,ty,pos,af,g⟩ n s w (fun v w' => R w w' ∧ Ψ i (valsAt (a.put (some d) v) (idx i)) w')) : OpF P R idx Ψ ⟨some d,op,ty,pos,af,g⟩ i a w:=by
 refine ⟨?_⟩
 obtain ⟨v,w',hr,h1,h2⟩:=h.out ds a ha
 rcases hr with hr | ⟨hr,rfl⟩ <;> rw [hr] <;> exact ⟨h1,h2⟩
theorem getD_put {a : Act} {d : Nat} {v : Value} (h : d < a.tmps.size) : (a.put (some d) v).tmps.getD d undef = v:=by
 simp [Act.put,h]
theorem getD_put_ne {a : Act} {d k : Nat} {v : Value} (h : d ≠ k) : (a.put (some d) v).tmps.getD k undef = a.tmps.getD k undef:=by
 simp [Act.put,Array.getD_eq_getD_getElem?,Array.getElem?_setIfInBounds_ne h]
theorem newLexer_fn {ib B : Nat} {t : List UInt8} {ia : Option Addr} {il ic : Nat} {st0 : Value} {nf nd : Bool} {w : World} (hf : ∃ f,st0 = fnV f) (hi : HBk ib w (.slice ia il ic) t) (hib : ib < w.heap.size) (hT : TabsB B w) (hB : B ≤ w.heap.size) (ht : t.length ≤ 1000000) :
  Fn PT 80 [.slice ia il ic,st0,.agg #[.bool nf,.bool nd]] w (fun u w' => ∃ L da dl dc mb items H,u = Ptr L 0 ∧ w.heap.size ≤ L ∧ LS L ib B t bs103 (LC.ini ia il ic st0 nf nd da dl dc (.map (some mb)) items H) [] w' ∧
   HF L B nd false false false H w' ∧ w'.heap[mb]? = some (.map #[] 0) ∧ w.heap.size ≤ mb ∧ Ext w w'):=by
 obtain ⟨fi,rfl⟩:=hf
 refine fn_of Tryz.func80 rfl Tryz.ntmps80 rfl ?_
 repeat(first|refine C0 ?_|refine C1 ?_|refine X1 rfl rfl ?_|refine X0 rfl rfl ?_|refine X2 rfl rfl ?_|refine X3 rfl rfl rfl ?_|refine X4 rfl rfl rfl ?_|refine X5 rfl rfl rfl ?_|refine X6 rfl rfl rfl ?_|refine X7 rfl rfl rfl ?_|refine X8 rfl rfl rfl ?_|refine X9 rfl rfl rfl ?_|refine X10 rfl rfl rfl ?_|refine X12 rfl rfl ?_|refine X11 rfl rfl ?_|refine X13 rfl rfl rfl ?_|refine X14 rfl Tryz.underlying9 rfl ?_|refine X15 rfl rfl rfl ?_|refine X16 rfl rfl rfl rfl ?_|refine X17 rfl rfl rfl ?_|refine X18 rfl rfl (by omega) (by omega) rfl ?_|refine X19 rfl rfl (by omega) (by omega) rfl ?_|refine X20 rfl rfl rfl ?_|refine X21 rfl rfl rfl ?_|refine RE.want rfl rfl ?_|refine RE.nox rfl rfl rfl rfl ?_|refine RE.nou rfl rfl rfl ?_|refine C2 ?_|refine CE.scope ?_|refine CE.label (show CE _ _ _ _ _ _ _ from ?_)|refine C3 ?_|refine CE.exit (show CE _ _ _ _ _ _ _ from ?_))
 refine RE.xe (e_box (cells:=#[.bool nf,.bool nd]) rfl rfl) rfl ?_
 rintro _ w1 ⟨b1,rfl,hn1⟩
 repeat(first|refine C0 ?_|refine C1 ?_|refine X1 rfl rfl ?_|refine X0 rfl rfl ?_|refine X2 rfl rfl ?_|refine X3 rfl rfl rfl ?_|refine X4 rfl rfl rfl ?_|refine X5 rfl rfl rfl ?_|refine X6 rfl rfl rfl ?_|refine X7 rfl rfl rfl ?_|refine X8 rfl rfl rfl ?_|refine X9 rfl rfl rfl ?_|refine X10 rfl rfl rfl ?_|refine X12 rfl rfl ?_|refine X11 rfl rfl ?_|refine X13 rfl rfl rfl ?_|refine X14 rfl Tryz.underlying9 rfl ?_|refine X15 rfl rfl rfl ?_|refine X16 rfl rfl rfl rfl ?_|refine X17 rfl rfl rfl ?_|refine X18 rfl rfl (by omega) (by omega) rfl ?_|refine X19 rfl rfl (by omega) (by omega) rfl ?_|refine X20 rfl rfl rfl ?_|refine X21 rfl rfl rfl ?_|refine RE.want rfl rfl ?_|refine RE.nox rfl rfl rfl rfl ?_|refine RE.nou rfl rfl rfl ?_|refine C2 ?_|refine CE.scope ?_|refine CE.label (show CE _ _ _ _ _ _ _ from ?_)|refine C3 ?_|refine CE.exit (show CE _ _ _ _ _ _ _ from ?_))
 have hb1 : w1.drew.heap[b1]? = _:=hn1.here
 have e1:=hn1.ext.trans (Ext.drew w1)
 refine CE.drawF Ext nlIdx (nlΨ B w.heap.size (.slice ia il ic) (fnV fi) nf nd) mixed Ext.refl (fun _ _ _ => Ext.trans) (by decide +kernel) rfl (nlΨ_ext _ _ _ _ _ _) ?_ ?_
 ·intro i o ho b w2 hb he hd
  have hsz:=hb.size
  have e2:=e1.trans he
  have hB2 : B ≤ w2.heap.size:=by have:=e2.size; omega
  match i with
  | 0 =>
   simp only [List.getElem?_cons_zero,Option.some.injEq] at ho
   subst ho
   refine OpF.det hb (op_move rfl) (Ext.refl _) ?_
   simp only [nlIdx,valsAt,List.map_cons,List.map_nil,getD_put (show 8 < b.tmps.size by omega),nlΨ]
  | 1 =>
   simp only [List.getElem?_cons_zero,List.getElem?_cons_succ,Option.some.injEq] at ho
   subst ho
   refine OpF.det hb (op_move rfl) (Ext.refl _) ?_
   simp only [nlIdx,valsAt,List.map_cons,List.map_nil,getD_put (show 9 < b.tmps.size by omega),nlΨ]
  | 2 =>
   simp only [List.getElem?_cons_zero,List.getElem?_cons_succ,Option.some.injEq] at ho
   subst ho
   refine ⟨?_⟩
   rw [run_call en103 (args:=[]) (vs:=[]) hb rfl w2]
   refine Calls.mono (delim103t_fn w2).out ?_
   rintro e w3 ⟨u,rfl,b3,h1,h2,h3,h4⟩
   refine ⟨u,rfl,h3,?_⟩
   simp only [nlIdx,valsAt,List.map_cons,List.map_nil,getD_put (show 10 < b.tmps.size by omega),nlΨ]
   exact ⟨b3,h1,by have:=e2.size; omega,h4⟩
  | 3 =>
   simp only [List.getElem?_cons_zero,List.getElem?_cons_succ,Option.some.injEq] at ho
   subst ho
   refine OpF.det hb (op_loadA (vs:=[.bool nf,.bool nd]) rfl rfl (he.block hb1) rfl rfl) (Ext.refl _) ?_
   simp only [nlIdx,valsAt,List.map_cons,List.map_nil,getD_put (show 11 < b.tmps.size by omega),nlΨ]
  | 4 =>
   simp only [List.getElem?_cons_zero,List.getElem?_cons_succ,Option.some.injEq] at ho
   subst ho
   refine OpF.eff hb (OpE.mono e_makeMap ?_)
   rintro v w3 ⟨rfl,hn3⟩
   refine ⟨hn3.ext,?_⟩
   simp only [nlIdx,valsAt,List.map_cons,List.map_nil,getD_put (show 12 < b.tmps.size by omega),nlΨ]
   exact ⟨_,rfl,hn3.here,e2.size⟩
  | 5 =>
   simp only [List.getElem?_cons_zero,List.getElem?_cons_succ,Option.some.injEq] at ho
   subst ho
   refine OpF.eff hb (OpE.mono (e_make0 B (e:=63) (size:=7) (bytes:=72) (cp:=5) (z:=.agg #[I 0,.nilIface,I 0,I 0,.slice none 0 0,.int .u8 0,.bool false]) rfl (by kernel_rfl) rfl rfl (by decide) (by decide) hB2) ?_)
   rintro v w3 ⟨b3,rfl,hb3,ho3,e3⟩
   refine ⟨e3,?_⟩
   simp only [nlIdx,valsAt,List.map_cons,List.map_nil,getD_put (show 13 < b.tmps.size by omega),nlΨ]
   exact ⟨b3,rfl,ho3,by have:=e2.size; omega⟩
  | 6 =>
   simp only [List.getElem?_cons_zero,List.getElem?_cons_succ,Option.some.injEq] at ho
   subst ho
   obtain ⟨g,hg',_⟩:=hd 4 (by decide +kernel)
   have hg : b.tmps.getD 12 undef = .map (some g):=hg'
   refine OpF.det (hb.add hg) (op_build (cells:=#[I 8,I 9,.bool false,S [],I 0,I 0,I 0,.map (some g)]) rfl (by kernel_rfl)) (Ext.refl _) ?_
   simp only [nlIdx,valsAt,List.map_cons,List.map_nil,getD_put (show 14 < b.tmps.size by omega),getD_put_ne (show 14 ≠ 12 by decide),nlΨ]
   rw [hg]
  | 7 =>
   simp only [List.getElem?_cons_zero,List.getElem?_cons_succ,Option.some.injEq] at ho
   subst ho
   have f0 : b.tmps.getD 8 undef = .slice ia il ic:=hd 0 (by decide +kernel)
   have f1 : b.tmps.getD 9 undef = fnV fi:=hd 1 (by decide +kernel)
   obtain ⟨b2,⟨a2,c2,f2',_⟩,_⟩:=hd 2 (by decide +kernel)
   have f2 : b.tmps.getD 10 undef = .slice a2 11 c2:=f2'
   have f3 : b.tmps.getD 11 undef = .agg #[.bool nf,.bool nd]:=hd 3 (by decide +kernel)
   obtain ⟨b5,f5',_⟩:=hd 5 (by decide +kernel)
   have f5 : b.tmps.getD 13 undef = Sl b5 0 0 5:=f5'
   have f6 : b.tmps.getD 14 undef = .agg #[I 8,I 9,.bool false,S [],I 0,I 0,I 0,b.tmps.getD 12 undef]:=hd 6 (by decide +kernel)
   generalize hm : b.tmps.getD 12 undef = m at f6
   refine OpF.det ((((((hb.add f0).add f1).add f2).add f3).add f5).add f6)
    (op_build (cells:=#[.slice ia il ic,fnV fi,.nilFunc,I 0,I 0,I 0,.pointer none,.bool nf,.bool nd,.slice a2 11 c2,.bool false,I 8,I 9,.bool false,S [],I 0,I 0,I 0,m,Sl b5 0 0 5,.nilIface]) rfl (by kernel_rfl)) (Ext.refl _) ?_
   simp only [nlIdx,valsAt,List.map_cons,List.map_nil,getD_put (show 15 < b.tmps.size by omega),getD_put_ne (show 15 ≠ 8 by decide),getD_put_ne (show 15 ≠ 9 by decide),getD_put_ne (show 15 ≠ 10 by decide),getD_put_ne (show 15 ≠ 11 by decide),getD_put_ne (show 15 ≠ 14 by decide),getD_put_ne (show 15 ≠ 13 by decide),nlΨ,f0,f1,f2,f3,f5,f6]
   refine ⟨m,?_,?_,?_⟩ <;> first | trivial | rfl
  | 8 =>
   simp only [List.getElem?_cons_zero,List.getElem?_cons_succ,Option.some.injEq] at ho
   subst ho
   obtain ⟨m,g1,g2,g3⟩:=hd 7 (by decide +kernel)
   refine OpF.eff (hb.add g3) (OpE.mono (e_box rfl rfl) ?_)
   rintro v w3 ⟨b3,rfl,hn3⟩
   refine ⟨hn3.ext,?_⟩
   simp only [nlIdx,valsAt,List.map_cons,List.map_nil,getD_put (show 16 < b.tmps.size by omega),getD_put_ne (show 16 ≠ 15 by decide),nlΨ]
   refine ⟨b3,rfl,?_,by have:=hn3.num; have:=e2.size; omega⟩
   rw [hn3.here]
   exact congrArg (fun z => some (Obj.cells z 79 (0,0))) (congrArg Value.cells g3).symm
  | 9 =>
   simp only [List.getElem?_cons_zero,List.getElem?_cons_succ,Option.some.injEq] at ho
   subst ho
   obtain ⟨L,g1,g2,g3⟩:=hd 8 (by decide +kernel)
   refine OpF.det (hb.add g1) (op_assign rfl) (Ext.refl _) ?_
   simp only [nlIdx,valsAt,List.map_cons,List.map_nil,getD_put (show 7 < b.tmps.size by omega),getD_put_ne (show 7 ≠ 16 by decide),nlΨ]
   exact g1.symm
  | i + 10 =>
   simp at ho
 ·intro b w2 hb he hd
  have f0 : b.tmps.getD 8 undef = .slice ia il ic:=hd 0 (by decide)
  have f1 : b.tmps.getD 9 undef = fnV fi:=hd 1 (by decide)
  obtain ⟨b2,f2,f2a,tcs,tfr,f2b⟩:=hd 2 (by decide)
  obtain ⟨g,f4',f4a,f4b⟩:=hd 4 (by decide)
  have f4 : b.tmps.getD 12 undef = .map (some g):=f4'
  obtain ⟨b5,f5',f5a,f5b⟩:=hd 5 (by decide)
  have f5 : b.tmps.getD 13 undef = Sl b5 0 0 5:=f5'
  have f6 : b.tmps.getD 14 undef = .agg #[I 8,I 9,.bool false,S [],I 0,I 0,I 0,b.tmps.getD 12 undef]:=hd 6 (by decide)
  obtain ⟨m,f7a,f7b,f7⟩:=hd 7 (by decide)
  obtain ⟨L,f8,f8a,f8b⟩:=hd 8 (by decide)
  have f9 : b.tmps.getD 7 undef = b.tmps.getD 16 undef:=hd 9 (by decide)
  obtain ⟨a2,c2,f2v,f2w⟩:=f2
  have hm : m = .map (some g):=by
   have : Value.agg #[I 8,I 9,.bool false,S [],I 0,I 0,I 0,b.tmps.getD 12 undef] = .agg #[I 8,I 9,.bool false,S [],I 0,I 0,I 0,m]:=f6.symm.trans f7a
   simp at this
   rw [← this]; simpa using f4
  subst hm
  have f15 : b.tmps.getD 15 undef = .agg (LC.ini ia il ic (fnV fi) nf nd a2 11 c2 (.map (some g)) (Sl b5 0 0 5) (.pointer none)).arr:=by
   refine Eq.trans f7 ?_
   have e1 : (fun k => b.tmps.getD k undef) 10 = .slice a2 11 c2:=f2v
   have e2 : (fun k => b.tmps.getD k undef) 8 = .slice ia il ic:=f0
   have e3 : (fun k => b.tmps.getD k undef) 9 = fnV fi:=f1
   have e4 : (fun k => b.tmps.getD k undef) 13 = Sl b5 0 0 5:=f5
   rw [e1,e2,e3,e4]
   rfl
  have hcl : w2.heap[L]? = some (.cells (LC.ini ia il ic (fnV fi) nf nd a2 11 c2 (.map (some g)) (Sl b5 0 0 5) (.pointer none)).arr 79 (0,0)):=by
   refine Eq.trans f8a ?_
   have : (fun k => b.tmps.getD k undef) 15 = .agg (LC.ini ia il ic (fnV fi) nf nd a2 11 c2 (.map (some g)) (Sl b5 0 0 5) (.pointer none)).arr:=f15
   rw [this]
   rfl
  have e2 : Ext w w2:=e1.trans he
  have f7' : b.tmps.getD 7 undef = Ptr L 0:=f9.trans f8
  refine ⟨_,_,hb.add f7',?_⟩
  have hB2 : B ≤ w2.heap.size:=by have:=e2.size; omega
  repeat(first|refine C0 ?_|refine C1 ?_|refine X1 rfl rfl ?_|refine X0 rfl rfl ?_|refine X2 rfl rfl ?_|refine X3 rfl rfl rfl ?_|refine X4 rfl rfl rfl ?_|refine X5 rfl rfl rfl ?_|refine X6 rfl rfl rfl ?_|refine X7 rfl rfl rfl ?_|refine X8 rfl rfl rfl ?_|refine X9 rfl rfl rfl ?_|refine X10 rfl rfl rfl ?_|refine X12 rfl rfl ?_|refine X11 rfl rfl ?_|refine X13 rfl rfl rfl ?_|refine X14 rfl Tryz.underlying9 rfl ?_|refine X15 rfl rfl rfl ?_|refine X16 rfl rfl rfl rfl ?_|refine X17 rfl rfl rfl ?_|refine X18 rfl rfl (by omega) (by omega) rfl ?_|refine X19 rfl rfl (by omega) (by omega) rfl ?_|refine X20 rfl rfl rfl ?_|refine X21 rfl rfl rfl ?_|refine RE.want rfl rfl ?_|refine RE.nox rfl rfl rfl rfl ?_|refine RE.nou rfl rfl rfl ?_|refine C2 ?_|refine CE.scope ?_|refine CE.label (show CE _ _ _ _ _ _ _ from ?_)|refine C3 ?_|refine CE.exit (show CE _ _ _ _ _ _ _ from ?_))
  refine RE.xc en104 rfl rfl (handlers_fn (c:=LC.ini ia il ic (fnV fi) nf nd a2 11 c2 (.map (some g)) (Sl b5 0 0 5) (.pointer none)) hcl hB2) ?_
  rintro H w3 ⟨hH,e3⟩
  have hc3:=e3.block hcl
  repeat(first|refine C0 ?_|refine C1 ?_|refine X1 rfl rfl ?_|refine X0 rfl rfl ?_|refine X2 rfl rfl ?_|refine X3 rfl rfl rfl ?_|refine X4 rfl rfl rfl ?_|refine X5 rfl rfl rfl ?_|refine X6 rfl rfl rfl ?_|refine X7 rfl rfl rfl ?_|refine X8 rfl rfl rfl ?_|refine X9 rfl rfl rfl ?_|refine X10 rfl rfl rfl ?_|refine X12 rfl rfl ?_|refine X11 rfl rfl ?_|refine X13 rfl rfl rfl ?_|refine X14 rfl Tryz.underlying9 rfl ?_|refine X15 rfl rfl rfl ?_|refine X16 rfl rfl rfl rfl ?_|refine X17 rfl rfl rfl ?_|refine X18 rfl rfl (by omega) (by omega) rfl ?_|refine X19 rfl rfl (by omega) (by omega) rfl ?_|refine X20 rfl rfl rfl ?_|refine X21 rfl rfl rfl ?_|refine RE.want rfl rfl ?_|refine RE.nox rfl rfl rfl rfl ?_|refine RE.nou rfl rfl rfl ?_|refine C2 ?_|refine CE.scope ?_|refine CE.label (show CE _ _ _ _ _ _ _ from ?_)|refine C3 ?_|refine CE.exit (show CE _ _ _ _ _ _ _ from ?_))
  obtain ⟨hbn,hs,ks,h1,h2,nn,hHe,q1,q2,⟨qx,q3⟩,q4,q5,q6⟩:=hH.out
  refine RE.xs (e_store rfl rfl rfl hc3 rfl (by rw [hHe]; rfl)) ?_
  rintro _ w4 hu
  repeat(first|refine C0 ?_|refine C1 ?_|refine X1 rfl rfl ?_|refine X0 rfl rfl ?_|refine X2 rfl rfl ?_|refine X3 rfl rfl rfl ?_|refine X4 rfl rfl rfl ?_|refine X5 rfl rfl rfl ?_|refine X6 rfl rfl rfl ?_|refine X7 rfl rfl rfl ?_|refine X8 rfl rfl rfl ?_|refine X9 rfl rfl rfl ?_|refine X10 rfl rfl rfl ?_|refine X12 rfl rfl ?_|refine X11 rfl rfl ?_|refine X13 rfl rfl rfl ?_|refine X14 rfl Tryz.underlying9 rfl ?_|refine X15 rfl rfl rfl ?_|refine X16 rfl rfl rfl rfl ?_|refine X17 rfl rfl rfl ?_|refine X18 rfl rfl (by omega) (by omega) rfl ?_|refine X19 rfl rfl (by omega) (by omega) rfl ?_|refine X20 rfl rfl rfl ?_|refine X21 rfl rfl rfl ?_|refine RE.want rfl rfl ?_|refine RE.nox rfl rfl rfl rfl ?_|refine RE.nou rfl rfl rfl ?_|refine C2 ?_|refine CE.scope ?_|refine CE.label (show CE _ _ _ _ _ _ _ from ?_)|refine C3 ?_|refine CE.exit (show CE _ _ _ _ _ _ _ from ?_))
  (refine CE.ret ?_;(try dsimp only);refine ret1 rfl rfl ?_)
  have hfu:=Fr.of_upd (S:=(· = L)) hu rfl
  have hLs : w.heap.size ≤ L:=f8b
  have hLlt:=(Array.getElem?_eq_some_iff.1 hcl).1
  have e23:=e2.trans e3
  have e4 : Ext w w4:=e23.fr hfu (fun q hq => by subst hq; exact hLs)
  have ne : ∀ b' cs T fr,w3.heap[b']? = some (.cells cs T fr) → T ≠ 79 → b' ≠ L:=by
   intro b' cs T fr h hT e
   subst e
   rw [hc3] at h
   cases h
   exact hT rfl
  have neo : ∀ T n v xs,w3.ownsRow B T 1 v n xs → T ≠ 79 → ∀ q,v.ownBlock = some q → ¬ q = L:=by
   intro T n v xs ho hT q hq e
   rcases ho.2 with ⟨rfl,_⟩ | ⟨gg,cap,cur,rfl,_,hg,_⟩
   ·cases hq
   ·simp only [Value.ownBlock,Option.some.injEq] at hq
    exact ne gg _ _ _ hg hT (hq.trans e)
  have own2 : w3.ownsRow B 63 7 (Sl b5 0 0 5) 0 []:=ownsRow_ext (by have:=f5a; rw [f5'] at this; exact this) e3
  have hb5L : b5 ≠ L:=by
   rcases own2.2 with ⟨h,_⟩ | ⟨gg,cap,cur,hv,_,hg,_⟩
   ·cases h
   ·simp at hv
    obtain ⟨rfl,_⟩:=hv
    exact ne b5 _ _ _ hg (by decide)
  have hb5lt : b5 < w3.heap.size:=by
   rcases own2.2 with ⟨h,_⟩ | ⟨gg,cap,cur,hv,_,hg,_⟩
   ·cases h
   ·simp at hv
    obtain ⟨rfl,_⟩:=hv
    exact (Array.getElem?_eq_some_iff.1 hg).1
  have hb2L : b2 ≠ L:=ne b2 _ _ _ (e3.block f2b) (by decide)
  have hb25 : b5 ≠ b2:=by
   have h3:=e3.block f2b
   rcases own2.2 with ⟨h,_⟩ | ⟨gg,cap,cur,hv,_,hg,_⟩
   ·cases h
   ·simp at hv
    obtain ⟨rfl,_⟩:=hv
    intro e
    subst e
    rw [hg] at h3
    cases h3
  have hb2lt:=(Array.getElem?_eq_some_iff.1 f2b).1
  refine ⟨L,a2,11,c2,g,Sl b5 0 0 5,H,rfl,hLs,?_,?_,?_,f4b,e4⟩
  ·refine ⟨⟨hu.here,(hi.ext e23).fr hfu (by omega),by omega,hT.ext hB e4,by omega,ht,Nat.zero_le _⟩,Nat.lt_of_lt_of_le hib e4.size,⟨[],?_,.nil⟩,?_,?_,⟨b2,?_,hb2L,?_,?_⟩,by decide⟩
   ·exact ownsRow_fr own2 hfu (fun q hq => by
     have hq' : b5 = q:=by simpa [Value.ownBlock,LC.ini] using hq
     subst hq'; exact hb5L)
   ·simp [LC.ini,Value.ownBlock]; exact hb5L
   ·simp [LC.ini,Value.ownBlock]; have:=f5b; omega
   ·exact HBk.fr ((show HBk b2 w2 (.slice a2 11 c2) bs103 from ⟨a2,c2,rfl,f2w.1,f2w.2⟩).ext e3) hfu hb2L
   ·simp [LC.ini,Value.ownBlock]; exact hb25
   ·exact ⟨_,_,hfu.block (e3.block f2b) hb2L⟩
  ·refine ⟨hbn,hs,ks,h1,h2,nn,hHe,hfu.block q1 (ne _ _ _ _ q1 (by decide)),ownsRow_fr q2 hfu (neo _ _ _ _ q2 (by decide)),⟨qx,ownsRow_fr q3 hfu (neo _ _ _ _ q3 (by decide))⟩,hfu.block q4 (ne _ _ _ _ q4 (by decide)),fun h => ⟨hfu.block (q5 h).1 (ne _ _ _ _ (q5 h).1 (by decide)),(q5 h).2⟩,q6⟩
  ·have hg3:=e3.block f4a
   refine hfu.block hg3 fun e => ?_
   subst e
   rw [hc3] at hg3
   cases hg3
def isFnT (P : Program) (t : Nat) : Bool:=match P.underlying t with | some (.func _ _ _) => true | _ => false
def isIfT (P : Program) (t : Nat) : Bool:=match P.underlying t with | some (.interface _) => true | _ => false
theorem isIf_spec {P : Program} {t : Nat} (h : isIfT P t = true) : P.underlying t = some (.interface (P.methodsAt t)):=by
 unfold isIfT at h
 split at h
 ·rename_i ms he
  unfold Program.methodsAt
  rw [he]
 ·cases h
def isNil : Value → Bool | .nilFunc => true | _ => false
def isNilI : Value → Bool | .nilIface => true | _ => false
theorem run_equalIn_fn {P : Program} (w : World) (d t : Nat) {ps rs : Array TypeId} {vd : Bool} {v : Value} (hu : P.underlying t = some (.func ps rs vd)) (hv : v = .nilFunc ∨ ∃ f,v = fnV f) :
  (Op.equalIn (d + 1) t v .nilFunc).run P w = .ok (isNil v) w:=by
 rcases hv with rfl | ⟨f,rfl⟩ <;> simp [Op.equalIn,run_underlying hu,isNil,fnV]
section
variable {n : Nat} {s : Slots} {w : World} {dst : Option Tmp} {ty : TypeId} {pos : String} {af : Array Edge} {g : Option (Nat × Bool)} {x y : Operand} {v : Value} {t t' : TypeId}
theorem op_neq_fn (hx : ev s x = some v) (hv : v = .nilFunc ∨ ∃ f,v = fnV f) (ht : isFnT PT t = true) : Op1 PT ⟨dst,.binOp .neq t x (.const .nilFunc) t',ty,pos,af,g⟩ n s (.bool (!(isNil v))) w:=by
 have key : (Op.equal t v .nilFunc).run PT w = .ok (isNil v) w:=by
  unfold isFnT at ht
  split at ht
  ·rename_i ps rs vd hu
   exact run_equalIn_fn w 9999 t hu hv
  ·cases ht
 have key2 : (binOp .neq t v .nilFunc).run PT w = .ok (.bool (!(isNil v))) w:=by
  rcases hv with rfl | ⟨f,rfl⟩ <;> (simp only [binOp,fnV] at *; simp [key])
 refine op_bin hx rfl ?_ key2
 rcases hv with rfl | ⟨f,rfl⟩ <;> rfl
theorem op_neq_if (hx : ev s x = some v) (hv : v = .nilIface ∨ ∃ u z,v = .iface u z) (ht : isIfT PT t = true) : Op1 PT ⟨dst,.binOp .neq t x (.const .nilIface) t',ty,pos,af,g⟩ n s (.bool (!(isNilI v))) w:=by
 have h:=isIf_spec ht
 rcases hv with rfl | ⟨u,z,rfl⟩
 ·exact op_bin hx rfl (by simp [eqGuard]) (run_neq_nil_nil w t h)
 ·exact op_bin hx rfl (by simp [eqGuard]) (run_neq_held_nil w t u z h)
end
def fvV (f : Option Nat) : Value:=match f with | none => .nilFunc | some f => fnV f
theorem fvV_or (f : Option Nat) : fvV f = .nilFunc ∨ ∃ g,fvV f = fnV g:=by
 cases f with
 | none => exact Or.inl rfl
 | some f => exact Or.inr ⟨f,rfl⟩
theorem fvV_one (f : Option Nat) : (fvV f).oneCell' = true:=by cases f <;> rfl
theorem fvV_nil (f : Option Nat) : isNil (fvV f) = f.isNone:=by cases f <;> rfl
theorem run_fn {L : Nat} {α : Type} (fv : α → Option Nat) (I : α → LC → World → Prop) (μ : α → Nat) (x0 : α) {c : LC} {w : World} (h0 : I x0 c w) (hs0 : c.st0 = fvV (fv x0))
  (hI : ∀ x c w,I x c w → AtL L c w)
  (hst : ∀ x c w w' v,I x c w → LM L { c with st:=v } w w' → I x { c with st:=v } w')
  (hstep : ∀ x c w f,I x c w → fv x = some f → Enters PT f ∧ Fn PT f [Ptr L 0] w (fun u w' => ∃ y c',u = fvV (fv y) ∧ I y c' w' ∧ μ y < μ x)) :
  Fn PT 81 [Ptr L 0] w (fun u w' => u = Ptr L 0 ∧ ∃ x c,fv x = none ∧ I x c w'):=by
 refine fn_of Tryz.func81 rfl Tryz.ntmps81 rfl ?_
 have hB:=hI _ _ _ h0
 unfold AtL at hB
 repeat(first|refine C0 ?_|refine C1 ?_|refine X1 rfl rfl ?_|refine X0 rfl rfl ?_|refine X2 rfl rfl ?_|refine X3 rfl rfl rfl ?_|refine X22 rfl rfl hB rfl rfl ?_|refine C2 ?_)
 refine RE.xs (e_store rfl rfl rfl hB rfl (by rw [hs0]; exact fvV_one _)) ?_
 rintro _ w1 hu
 have hm1 : LM L { c with st:=c.st0 } w w1:=LM.of_upd hu rfl
 have h1:=hst _ _ _ _ _ h0 hm1
 repeat (refine C2 ?_)
 refine CE.cut (fun s ds w' => ds = [] ∧ SubL [(0,Ptr L 0)] s ∧ ∃ x c,fv x = none ∧ I x c w') ?_ ?_
 ·refine CE.block ?_
  refine CE.loop (α:=α) (fun _ => [(0,Ptr L 0)]) (fun x w' => ∃ c,c.st = fvV (fv x) ∧ I x c w') μ x0 ⟨rfl,trivial⟩ ⟨_,hs0,h1⟩ ?_
  rintro x w2 ⟨c2,hst2,hx2⟩
  have hB2:=hI _ _ _ hx2
  unfold AtL at hB2
  repeat(first|refine C0 ?_|refine C1 ?_|refine X1 rfl rfl ?_|refine X2 rfl rfl ?_|refine X3 rfl rfl rfl ?_|refine X22 rfl rfl hB2 rfl rfl ?_)
  refine RE.x (op_neq_fn rfl (by rw [hst2]; exact fvV_or _) (by kernel_rfl)) rfl ?_
  rw [hst2,fvV_nil]
  cases hf : fv x with
  | none =>
   refine C2 ?_
   refine CE.cond_f rfl ?_
   refine CE.exit ?_
   exact ⟨rfl,⟨rfl,trivial⟩,x,c2,hf,hx2⟩
  | some f =>
   obtain ⟨hen,hfn⟩:=hstep x c2 w2 f hx2 hf
   refine C2 ?_
   refine CE.cond_t rfl ?_
   refine C3 ?_
   have hst3 : c2.st = .func (.func f) #[] #[]:=by rw [hst2,hf]; rfl
   have hB3 : w2.heap[L]? = some (.cells { c2 with st:=.func (.func f) #[] #[] }.arr 79 (0,0)):=by rw [← hst3]; exact hB2
   repeat(first|refine C1 ?_|refine X1 rfl rfl ?_|refine X2 rfl rfl ?_|refine X3 rfl rfl rfl ?_|refine X22 rfl rfl hB3 rfl rfl ?_|refine CE.block ?_)
   refine RE.xcv (f:=f) (first:=#[]) (cap:=#[]) rfl hen rfl rfl rfl hfn ?_
   rintro _ w3 ⟨y,c3,rfl,hy,hlt⟩
   have hB4:=hI _ _ _ hy
   unfold AtL at hB4
   repeat(first|refine X2 rfl rfl ?_|refine X3 rfl rfl rfl ?_)
   refine RE.xs (e_store rfl rfl rfl hB4 rfl (fvV_one _)) ?_
   rintro _ w4 hu4
   have hm4 : LM L { c3 with st:=fvV (fv y) } w3 w4:=LM.of_upd hu4 rfl
   have h4:=hst _ _ _ _ _ hy hm4
   skip
   refine RE.nilx ?_
   exact ⟨y,hlt,rfl,⟨rfl,trivial⟩,_,rfl,h4⟩
 ·rintro s _ w2 ⟨rfl,hs,x,c2,hx,hI2⟩
  refine CE.sub hs ?_
  repeat(first|refine C0 ?_|refine C1 ?_|refine X1 rfl rfl ?_|refine X0 rfl rfl ?_|refine C2 ?_)
  (refine CE.ret ?_;(try dsimp only);refine ret1 rfl rfl ?_)
  exact ⟨rfl,x,c2,hx,hI2⟩
end Go.Wk
