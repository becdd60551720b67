/- Front matter of JSON and of Org. -/
import Derived.Test.YtmbencknblcocaaGreatDoorYal
namespace Go.Wk
open Go Go.RowKit Go.Proofs
set_option maxRecDepth 100000
def jsPos (t : List UInt8) (p : Nat) : Nat:=if (nx t p).1 = 92 then p + (nx t p).2 + (nx t (p + (nx t p).2)).2 else p + (nx t p).2
def jsLv (t : List UInt8) (q : Bool) (lv : Int) (p : Nat) : Int:=if (nx t p).1 = 123 then (if q then lv else lv + 1) else if (nx t p).1 = 125 then (if q then lv else lv - 1) else lv
def jsQ (t : List UInt8) (q : Bool) (p : Nat) : Bool:=if (nx t p).1 = 34 then !q else q
def jsGo (t : List UInt8) (q : Bool) (lv : Int) (p : Nat) : Bool × Nat:=
 if _h : p < t.length then
  (if jsLv t q lv p = 0 then (true,jsPos t p) else jsGo t (jsQ t q p) (jsLv t q lv p) (jsPos t p))
 else (false,p)
termination_by t.length - p
decreasing_by
 have:=nx_pos t _h
 unfold jsPos
 split <;> omega
theorem jsPos_le (t : List UInt8) {p : Nat} (h : p ≤ t.length) : jsPos t p ≤ t.length ∧ p ≤ jsPos t p:=by
 unfold jsPos
 have h1:=nx_le t h
 have h2:=nx_le t h1
 split <;> omega
def outJson (t : List UInt8) (d : D) : Option Nat × D:=
 if (jsGo t false 0 (d.pos - 1)).1 = true then (some 42,({ d with pos:=(crE t (jsGo t false 0 (d.pos - 1)).2).1 }).em t 5) else
 (none,({ d with pos:=(jsGo t false 0 (d.pos - 1)).2 }).bad t)
set_option maxHeartbeats 1000000 in
theorem json_fn {L ib B : Nat} {t dv : List UInt8} {c : LC} {ps : List PI} {w : World} {opn : List UInt8 → Bool} (h : LS L ib B t dv c ps w) (hwd : c.width = 1) (hp0 : 1 ≤ c.pos) (hn : ps.length + 8 < 100000000) :
  Fn PT 72 [Ptr L 0] w (fun u w' => u = fvV (outJson t (c.d dv opn ps)).1 ∧ Aft L ib B t c (outJson t (c.d dv opn ps)).2 w w'):=by
 refine fn_of Tryz.func72 rfl Tryz.ntmps72 rfl ?_
 generalize hA : outJson t (c.d dv opn ps) = A
 have hA0:=hA.symm
 unfold outJson at hA0
 have hsm:=h.lx.small
 have hps:=h.lx.pos
 repeat(first|refine C0 ?_|refine C1 ?_|refine X1 rfl rfl ?_|refine X0 rfl rfl ?_|refine C2 ?_)
 refine RE.xc en98 rfl rfl (backup_fn h.lx.at_ (by omega) (by omega)) ?_
 rintro _ w1 ⟨rfl,h1⟩
 have hx1:=h.keep h1 rfl rfl rfl (show c.pos - c.width ≤ t.length by omega)
 have hi1:=LI.of_lm (c:=c) h1 rfl
 have e1 : c.pos - c.width = c.pos - 1:=by rw [hwd]
 rw [e1] at hx1 hi1
 repeat(first|refine C0 ?_|refine C1 ?_|refine X0 rfl rfl ?_|refine C2 ?_)
 refine CE.cut (fun s ds w' => ds = [] ∧ SubL [(0,Ptr L 0)] s ∧ ∃ q wd,jsGo t false 0 (c.pos - 1) = (true,q) ∧ LS L ib B t dv { c with pos:=q,width:=wd } ps w' ∧ LI L c { c with pos:=q,width:=wd } w w') ?_ ?_
 ·refine CE.block ?_
  refine CE.loop (α:=Bool × Int × LC) (fun x => [(3,.bool x.1),(4,I x.2.1),(0,Ptr L 0)])
   (fun x w' => LS L ib B t dv x.2.2 ps w' ∧ LI L c x.2.2 w w' ∧ (∃ q wd,x.2.2 = { c with pos:=q,width:=wd }) ∧ jsGo t x.1 x.2.1 x.2.2.pos = jsGo t false 0 (c.pos - 1) ∧ -(x.2.2.pos : Int) ≤ x.2.1 ∧ x.2.1 ≤ (x.2.2.pos : Int))
   (fun x => t.length + 1 - x.2.2.pos) (false,0,{ c with pos:=c.pos - 1 }) ⟨rfl,rfl,rfl,trivial⟩ ⟨hx1,hi1,⟨c.pos - 1,c.width,rfl⟩,rfl,by show -((c.pos - 1 : Nat) : Int) ≤ 0; omega,by show (0 : Int) ≤ ((c.pos - 1 : Nat) : Int); omega⟩ ?_
  rintro ⟨q,lv,x⟩ w0 ⟨hx,hi,⟨p0,wd0,hxe⟩,hgo,hlo,hhi⟩
  have hx' : LS L ib B t dv x ps w0:=hx
  have hi' : LI L c x w w0:=hi
  have hxe' : x = { c with pos:=p0,width:=wd0 }:=hxe
  have hgo' : jsGo t q lv x.pos = jsGo t false 0 (c.pos - 1):=hgo
  have hlo' : -(x.pos : Int) ≤ lv:=hlo
  have hhi' : lv ≤ (x.pos : Int):=hhi
  clear hx hi hxe hgo hlo hhi
  have hxp:=hx'.lx.pos
  refine (show CE _ _ _ _ [(3,.bool q),(4,I lv),(0,Ptr L 0)] _ _ from ?_)
  refine CE.block ?_
  repeat(first|refine C0 ?_|refine C1 ?_|refine X1 rfl rfl ?_)
  refine RE.xc en68 rfl rfl (next_fn hx'.lx) ?_
  rintro _ w2 ⟨rfl,h2⟩
  have hx2:=hx'.nxt h2
  have hi2:=hi'.lm h2 rfl
  have hxn : x.nxt t = { c with pos:=x.pos + (nx t x.pos).2,width:=(nx t x.pos).2 }:=by rw [hxe']; rfl
  repeat(first|refine C0 ?_|refine X0 rfl rfl ?_|refine C2 ?_)
  refine CE.cut (fun s ds w' => ds = [] ∧ x.pos < t.length ∧ ∃ wd,SubL [(3,.bool (jsQ t q x.pos)),(4,I (jsLv t q lv x.pos)),(0,Ptr L 0)] s ∧ LS L ib B t dv { c with pos:=jsPos t x.pos,width:=wd } ps w' ∧ LI L c { c with pos:=jsPos t x.pos,width:=wd } w w') ?_ ?_
  ·refine CE.block ?_
   have plain : (nx t x.pos).1 ≠ 92 → jsPos t x.pos = x.pos + (nx t x.pos).2:=fun h => by unfold jsPos; rw [if_neg h]
   repeat(first|refine C0 ?_|refine C1 ?_|refine X1 rfl rfl ?_|refine X0 rfl rfl ?_|refine X5 rfl rfl rfl ?_|refine C2 ?_)
   refine CE.cond_d rfl (fun hm1 => ?_) (fun hm1 => ?_)
   ·have hend:=nx_neg hm1
    have hg : jsGo t false 0 (c.pos - 1) = (false,x.pos):=by
     rw [← hgo',jsGo,dif_neg (by omega)]
    replace hA0:=hA0.trans (if_neg (show ¬ (jsGo t false 0 (c.pos - 1)).1 = true by rw [hg]; simp))
    have hg2 : (jsGo t false 0 ((c.d dv opn ps).pos - 1)).2 = x.pos:=congrArg Prod.snd hg
    rw [hg2] at hA0
    subst hA0
    have hw0 : (nx t x.pos).2 = 0:=by rw [nx_end hend]
    repeat(first|refine C0 ?_|refine C1 ?_|refine X1 rfl rfl ?_)
    refine RE.xc en93 rfl rfl (bad_aft (d:={ c.d dv opn ps with pos:=x.pos }) (opn:=opn) (x:=x.nxt t) ?_ ?_ hi2 hx2 (by omega)) ?_
    ·rw [hxn,hw0]; rfl
    ·rw [hxn,hw0]; rfl
    rintro _ w8 ⟨rfl,h8⟩
    repeat(first|refine X0 rfl rfl ?_|refine C2 ?_)
    (refine CE.ret ?_;(try dsimp only);refine ret1 rfl rfl ?_)
    exact ⟨rfl,h8⟩
   have hin : x.pos < t.length:=nx_pos_of hm1
   have fin : ∀ (q' : Bool) (lv' : Int),jsQ t q x.pos = q' → jsLv t q lv x.pos = lv' → (nx t x.pos).1 ≠ 92 → ∀ s,SubL [(3,.bool q'),(4,I lv'),(0,Ptr L 0)] s → (∃ wd,SubL [(3,.bool (jsQ t q x.pos)),(4,I (jsLv t q lv x.pos)),(0,Ptr L 0)] s ∧ LS L ib B t dv { c with pos:=jsPos t x.pos,width:=wd } ps w2 ∧ LI L c { c with pos:=jsPos t x.pos,width:=wd } w w2):=by
    rintro q' lv' rfl rfl h92 s hs
    refine ⟨(nx t x.pos).2,hs,?_,?_⟩ <;> rw [plain h92,← hxn]
    ·exact hx2
    ·exact hi2
   repeat(first|refine C0 ?_|refine C1 ?_|refine X1 rfl rfl ?_|refine X0 rfl rfl ?_|refine X5 rfl rfl rfl ?_|refine C2 ?_)
   refine CE.cond_d rfl (fun h123 => ?_) (fun h123 => ?_)
   ·have h92 : (nx t x.pos).1 ≠ 92:=by omega
    have hq : jsQ t q x.pos = q:=by unfold jsQ; rw [if_neg (by omega)]
    repeat(first|refine C0 ?_|refine C1 ?_|refine X1 rfl rfl ?_|refine X11 rfl rfl ?_|refine C2 ?_)
    refine CE.cond_s rfl (fun hq1 => ?_) (fun hq1 => ?_)
    ·have hqf : q = false:=by simpa using hq1
     subst hqf
     repeat(first|refine C1 ?_|refine X1 rfl rfl ?_|refine X0 rfl rfl ?_|refine X18 rfl rfl (by omega) (by omega) rfl ?_)
     refine RE.nilx ?_
     exact ⟨rfl,hin,fin false (lv + 1) hq (by unfold jsLv; rw [if_pos h123]; rfl) h92 _ ⟨rfl,rfl,rfl,trivial⟩⟩
    ·have hqf : q = true:=by simpa using hq1
     subst hqf
     refine CE.skip ?_
     exact ⟨rfl,hin,fin true lv hq (by unfold jsLv; rw [if_pos h123]; rfl) h92 _ ⟨rfl,rfl,rfl,trivial⟩⟩
   repeat(first|refine C0 ?_|refine C1 ?_|refine X1 rfl rfl ?_|refine X0 rfl rfl ?_|refine X5 rfl rfl rfl ?_|refine C2 ?_)
   refine CE.cond_d rfl (fun h125 => ?_) (fun h125 => ?_)
   ·have h92 : (nx t x.pos).1 ≠ 92:=by omega
    have hq : jsQ t q x.pos = q:=by unfold jsQ; rw [if_neg (by omega)]
    repeat(first|refine C0 ?_|refine C1 ?_|refine X1 rfl rfl ?_|refine X11 rfl rfl ?_|refine C2 ?_)
    refine CE.cond_s rfl (fun hq1 => ?_) (fun hq1 => ?_)
    ·have hqf : q = false:=by simpa using hq1
     subst hqf
     repeat(first|refine C1 ?_|refine X1 rfl rfl ?_|refine X0 rfl rfl ?_|refine X19 rfl rfl (by omega) (by omega) rfl ?_)
     refine RE.nilx ?_
     exact ⟨rfl,hin,fin false (lv - 1) hq (by unfold jsLv; rw [if_neg h123,if_pos h125]; rfl) h92 _ ⟨rfl,rfl,rfl,trivial⟩⟩
    ·have hqf : q = true:=by simpa using hq1
     subst hqf
     refine CE.skip ?_
     exact ⟨rfl,hin,fin true lv hq (by unfold jsLv; rw [if_neg h123,if_pos h125]; rfl) h92 _ ⟨rfl,rfl,rfl,trivial⟩⟩
   have hlv : jsLv t q lv x.pos = lv:=by unfold jsLv; rw [if_neg h123,if_neg h125]
   repeat(first|refine C0 ?_|refine C1 ?_|refine X1 rfl rfl ?_|refine X0 rfl rfl ?_|refine X5 rfl rfl rfl ?_|refine C2 ?_)
   refine CE.cond_d rfl (fun h34 => ?_) (fun h34 => ?_)
   ·have h92 : (nx t x.pos).1 ≠ 92:=by omega
    repeat(first|refine C1 ?_|refine X1 rfl rfl ?_|refine X0 rfl rfl ?_|refine X11 rfl rfl ?_)
    refine RE.nilx ?_
    exact ⟨rfl,hin,fin (!q) lv (by unfold jsQ; rw [if_pos h34]) hlv h92 _ ⟨rfl,rfl,rfl,trivial⟩⟩
   have hq : jsQ t q x.pos = q:=by unfold jsQ; rw [if_neg h34]
   repeat(first|refine C0 ?_|refine C1 ?_|refine X1 rfl rfl ?_|refine X0 rfl rfl ?_|refine X5 rfl rfl rfl ?_|refine C2 ?_)
   refine CE.cond_d rfl (fun h92 => ?_) (fun h92 => ?_)
   ·repeat(first|refine C1 ?_|refine X1 rfl rfl ?_)
    refine RE.xc en68 rfl rfl (next_fn hx2.lx) ?_
    rintro _ w3 ⟨rfl,h3⟩
    have hx3:=hx2.nxt h3
    have hi3:=hi2.lm h3 rfl
    refine RE.nilx ?_
    have e2 : (x.nxt t).nxt t = { c with pos:=jsPos t x.pos,width:=(nx t (x.nxt t).pos).2 }:=by
     have : jsPos t x.pos = x.pos + (nx t x.pos).2 + (nx t (x.pos + (nx t x.pos).2)).2:=by unfold jsPos; rw [if_pos h92]
     rw [this,hxe']; rfl
    refine ⟨rfl,hin,(nx t (x.nxt t).pos).2,?_,?_,?_⟩
    ·rw [hq,hlv]; exact ⟨rfl,rfl,rfl,trivial⟩
    ·rw [← e2]; exact hx3
    ·rw [← e2]; exact hi3
   ·refine CE.skip ?_
    exact ⟨rfl,hin,fin q lv hq hlv h92 _ ⟨rfl,rfl,rfl,trivial⟩⟩
  ·rintro s _ w3 ⟨rfl,hin,wd,hs,h3,hi3⟩
   refine CE.sub hs ?_
   repeat(first|refine C0 ?_|refine C1 ?_|refine X1 rfl rfl ?_|refine X5 rfl rfl rfl ?_|refine C2 ?_)
   refine CE.cond_d rfl (fun h0 => ?_) (fun h0 => ?_)
   ·refine CE.exit ?_
    refine ⟨rfl,⟨rfl,trivial⟩,jsPos t x.pos,wd,?_,h3,hi3⟩
    rw [← hgo',jsGo,dif_pos hin,if_pos h0]
   ·refine CE.skip ?_
    have hjp:=jsPos_le t hxp
    have hpp:=nx_pos t hin
    have hjp1 : x.pos + 1 ≤ jsPos t x.pos:=by unfold jsPos; split <;> omega
    refine ⟨(jsQ t q x.pos,jsLv t q lv x.pos,{ c with pos:=jsPos t x.pos,width:=wd }),?_,rfl,⟨rfl,rfl,rfl,trivial⟩,h3,hi3,⟨_,_,rfl⟩,?_,?_,?_⟩
    ·show t.length + 1 - jsPos t x.pos < t.length + 1 - x.pos
     omega
    ·rw [← hgo']
     show jsGo t (jsQ t q x.pos) (jsLv t q lv x.pos) (jsPos t x.pos) = jsGo t q lv x.pos
     rw [jsGo.eq_1 t q lv x.pos,dif_pos hin,if_neg h0]
    ·show -(jsPos t x.pos : Int) ≤ jsLv t q lv x.pos
     unfold jsLv
     repeat' split
     all_goals omega
    ·show jsLv t q lv x.pos ≤ (jsPos t x.pos : Int)
     unfold jsLv
     repeat' split
     all_goals omega
 ·rintro s _ w2 ⟨rfl,hs,q,wd,hgo,h2,hi2⟩
  refine CE.sub hs ?_
  replace hA0:=hA0.trans (if_pos (show (jsGo t false 0 (c.pos - 1)).1 = true by rw [hgo]))
  have hg2 : (jsGo t false 0 ((c.d dv opn ps).pos - 1)).2 = q:=congrArg Prod.snd hgo
  rw [hg2] at hA0
  repeat(first|refine C0 ?_|refine C1 ?_|refine X1 rfl rfl ?_)
  refine RE.xc en94 rfl rfl (crlf_fn h2.lx) ?_
  rintro _ w3 ⟨rfl,h3⟩
  obtain ⟨⟨wd3,he3⟩,_⟩:=crlf_eq t { c with pos:=q,width:=wd }
  rw [he3] at h3
  have h4:=h2.keep h3 rfl rfl rfl (crE_le t h2.lx.pos)
  have hi4:=hi2.lm h3 rfl
  repeat(first|refine C0 ?_|refine C1 ?_|refine X1 rfl rfl ?_|refine C2 ?_)
  refine RE.xc en97 rfl rfl (emit_fn h4 (by omega)) ?_
  rintro _ w5 ⟨rfl,it,h5,h6⟩
  repeat(first|refine C0 ?_|refine C1 ?_|refine X0 rfl rfl ?_|refine C2 ?_)
  (refine CE.ret ?_;(try dsimp only);refine ret1 rfl rfl ?_)
  subst hA0
  exact ⟨rfl,wd3,it,hi4.trans h5,h6⟩
def orgGo (t : List UInt8) (p : Nat) : Nat:=
 if _h : p < t.length then
  (if (nx t p).1 = 10 ∧ pre bs99 (t.drop (p + (nx t p).2)) = false then p + (nx t p).2 else orgGo t (p + (nx t p).2))
 else p
termination_by t.length - p
decreasing_by have:=nx_pos t _h; omega
def outOrg (t : List UInt8) (d : D) : Option Nat × D:=
 if pre bs99 (t.drop (d.pos - 1)) = true then (some 42,({ d with pos:=orgGo t (d.pos - 1),dv:=bs100 }).em t 6) else (some 42,{ d with pos:=d.pos - 1 })
def AftD (L ib B : Nat) (t : List UInt8) (c : LC) (d : D) (w w' : World) : Prop:=
 ∃ a l k,Aft L ib B t { c with da:=a,dl:=l,dc:=k } d w w'
theorem Aft.d {L ib B : Nat} {t : List UInt8} {c : LC} {d : D} {w w' : World} (h : Aft L ib B t c d w w') : AftD L ib B t c d w w':=⟨c.da,c.dl,c.dc,h⟩
theorem LI.up {L : Nat} {c c1 c2 : LC} {w w' : World} (h : LI L c c2 w w') (he : c1.items = c.items) : LI L c1 c2 w w':=
 ⟨h.at_,by rw [he]; exact h.fr,by rw [he]; exact h.nw⟩
theorem LS.divd {L ib B : Nat} {t dv dv' : List UInt8} {c : LC} {ps : List PI} {w w' : World} {a : Option Addr} {l k db : Nat} (h : LS L ib B t dv c ps w) (hm : LM L { c with da:=a,dl:=l,dc:=k } w w')
  (hdb : HBk db w (.slice a l k) dv') (h1 : db ≠ L) (h2 : c.items.ownBlock ≠ some db) (h3 : Tag5 w db) : LS L ib B t dv' { c with da:=a,dl:=l,dc:=k } ps w':=by
 obtain ⟨xs,ho,hf⟩:=h.own
 refine ⟨h.lx.lm hm rfl h.lx.pos,Nat.lt_of_lt_of_le h.ibs hm.fr.size,⟨xs,?_,?_⟩,h.nl,h.ni,⟨db,hdb.fr hm.fr h1,h1,h2,h3.fr hm.fr h1⟩,h.few⟩
 ·exact ho.fr hm.fr fun q hq e => h.nl (by rw [hq,e])
 ·exact forall2_mono (fun x p hr => hr.fr hm.fr fun b cs hb e => by
   have:=h.lx.at_
   unfold AtL at this
   subst e
   rw [this] at hb
   cases hb) hf
theorem delim100t_fn (w : World) : Fn PT 100 [] w (fun v w' => Fresh bs100 w v w' ∧ ∀ b,HBk b w' v bs100 → Tag5 w' b):=by
 refine fn_of Tryz.func100 rfl Tryz.ntmps100 rfl ?_
 repeat(first|refine C0 ?_|refine C1 ?_|refine X0 rfl rfl ?_|refine C2 ?_)
 refine RE.xe (e_buildSlice (cells:=#[.int .u8 35,.int .u8 32,.int .u8 109,.int .u8 111,.int .u8 114,.int .u8 101]) (e:=5) rfl (by kernel_rfl) (by kernel_rfl)) rfl ?_
 rintro _ w1 ⟨b,rfl,hn⟩
 refine RE.xe (e_mark rfl hn.here) rfl ?_
 rintro _ w2 ⟨rfl,hu⟩
 repeat(first|refine X0 rfl rfl ?_|refine C2 ?_)
 (refine CE.ret ?_;(try dsimp only);refine ret1 rfl rfl ?_)
 have hnum:=hn.num
 refine ⟨⟨b,HBk_row hu.here rfl rfl,by omega,?_⟩,fun b' h' => ?_⟩
 ·exact ⟨hu.os.trans hn.os,hu.tape.trans hn.tape,hu.output.trans hn.output,by have:=hu.size; have:=hn.size; omega,fun k hk => by
   rw [hu.other k (by omega),hn.other k (by omega)]⟩
 ·obtain ⟨a,c,h1,_,h3⟩:=h'
  obtain ⟨o,h4,_⟩:=h3 (by decide)
  simp only [Value.slice.injEq] at h1
  rw [h4] at h1
  have : b = b':=by simpa using congrArg (fun x => x.map (·.block)) h1.1
  subst this
  exact ⟨_,_,hu.here⟩
theorem org_fn {L ib B : Nat} {t dv : List UInt8} {c : LC} {ps : List PI} {w : World} {opn : List UInt8 → Bool} (h : LS L ib B t dv c ps w) (hwd : c.width = 1) (hp0 : 1 ≤ c.pos) (hn : ps.length + 8 < 100000000) :
  Fn PT 73 [Ptr L 0] w (fun u w' => u = fvV (outOrg t (c.d dv opn ps)).1 ∧ AftD L ib B t c (outOrg t (c.d dv opn ps)).2 w w'):=by
 refine fn_of Tryz.func73 rfl Tryz.ntmps73 rfl ?_
 generalize hA : outOrg t (c.d dv opn ps) = A
 have hA0:=hA.symm
 unfold outOrg at hA0
 have hsm:=h.lx.small
 have hps:=h.lx.pos
 repeat(first|refine C0 ?_|refine C1 ?_|refine X1 rfl rfl ?_|refine X0 rfl rfl ?_|refine C2 ?_|refine CE.scope ?_)
 refine RE.xc en98 rfl rfl (backup_fn h.lx.at_ (by omega) (by omega)) ?_
 rintro _ w1 ⟨rfl,h1⟩
 have hx1:=h.keep h1 rfl rfl rfl (show c.pos - c.width ≤ t.length by omega)
 have hi1:=LI.of_lm (c:=c) h1 rfl
 have e1 : c.pos - c.width = c.pos - 1:=by rw [hwd]
 rw [e1] at hx1 hi1
 repeat(first|refine C0 ?_|refine C1 ?_|refine X1 rfl rfl ?_|refine C2 ?_)
 refine RE.xc en99 rfl rfl (delim99_fn _) ?_
 rintro v2 w2 ⟨b2,hb2,_,e2⟩
 skip
 refine RE.xc en96 rfl rfl (hasP_fn (hx1.lx.ext e2) hb2.hb) ?_
 rintro _ w3 ⟨rfl,e3⟩
 have hx3:=hx1.ext (e2.trans e3)
 have hi3:=hi1.ext_r (e2.trans e3)
 repeat(first|refine X12 rfl rfl ?_|refine C2 ?_)
 refine CE.cond_s rfl (fun hp => ?_) (fun hp => ?_)
 ·repeat(first|refine C0 ?_|refine C1 ?_|refine X0 rfl rfl ?_|refine C2 ?_)
  (refine CE.ret ?_;(try dsimp only);refine ret1 rfl rfl ?_)
  have hp' : pre bs99 (t.drop (c.pos - 1)) = false:=by unfold pre; simpa using hp
  replace hA0:=hA0.trans (if_neg (nt hp'))
  subst hA0
  exact ⟨rfl,c.da,c.dl,c.dc,c.width,c.items,hi3,hx3⟩
 have hp' : pre bs99 (t.drop (c.pos - 1)) = true:=by unfold pre; simpa using hp
 replace hA0:=hA0.trans (if_pos hp')
 refine C3 ?_
 repeat(first|refine C0 ?_|refine C1 ?_|refine X1 rfl rfl ?_)
 refine RE.xc en100 rfl rfl (delim100t_fn _) ?_
 rintro v4 w4 ⟨⟨b4,hb4,hlt4,e4⟩,ht4⟩
 have htg4:=ht4 b4 hb4
 obtain ⟨a4,cp4,rfl,hcp4,hcl4⟩:=hb4
 have hb4 : HBk b4 w4 (.slice a4 bs100.length cp4) bs100:=⟨a4,cp4,rfl,hcp4,hcl4⟩
 have hx4:=hx3.ext e4
 have hi4:=hi3.ext_r e4
 have hB4:=hx4.lx.at_
 unfold AtL at hB4
 repeat(first|refine X2 rfl rfl ?_|refine X3 rfl rfl rfl ?_)
 refine RE.xs (e_store rfl rfl rfl hB4 rfl rfl) ?_
 rintro _ w5 hu5
 have hm5 : LM L { c with pos:=c.pos - 1,da:=a4,dl:=bs100.length,dc:=cp4 } w4 w5:=LM.of_upd hu5 rfl
 have hx5:=hx4.divd hm5 hb4 (by have:=hx3.lx.at_.lt; omega) (by
  obtain ⟨xs,ho,_⟩:=hx3.own
  intro e
  have:=(ho.lt b4 e).2
  omega) htg4
 have hi5:=hi4.lm hm5 rfl
 generalize bs100.length = dl4 at hx5 hi5 hm5 hb4
 repeat(first|refine C0 ?_|refine C2 ?_|refine CE.label (show CE _ _ _ _ _ _ _ from ?_))
 refine CE.cut (fun s ds w' => ds = [] ∧ SubL [(0,Ptr L 0)] s ∧ ∃ wd,LS L ib B t bs100 { c with pos:=orgGo t (c.pos - 1),da:=a4,dl:=dl4,dc:=cp4,width:=wd } ps w' ∧ LI L c { c with pos:=orgGo t (c.pos - 1),da:=a4,dl:=dl4,dc:=cp4,width:=wd } w w') ?_ ?_
 ·refine CE.block ?_
  refine CE.loop (α:=LC) (fun x => [(0,Ptr L 0)])
   (fun x w' => LS L ib B t bs100 x ps w' ∧ LI L c x w w' ∧ (∃ q wd,x = { c with pos:=q,da:=a4,dl:=dl4,dc:=cp4,width:=wd }) ∧ orgGo t x.pos = orgGo t (c.pos - 1))
   (fun x => t.length + 1 - x.pos) { c with pos:=c.pos - 1,da:=a4,dl:=dl4,dc:=cp4 } ⟨rfl,trivial⟩ ⟨hx5,hi5,⟨_,_,rfl⟩,rfl⟩ ?_
  rintro x w0 ⟨hx,hi,⟨p0,wd0,hxe⟩,hgo⟩
  refine CE.block ?_
  repeat(first|refine C0 ?_|refine C1 ?_|refine X1 rfl rfl ?_)
  refine RE.xc en68 rfl rfl (next_fn hx.lx) ?_
  rintro _ w6 ⟨rfl,h6⟩
  have hx6:=hx.nxt h6
  have hi6:=hi.lm h6 rfl
  have hxn : x.nxt t = { c with pos:=x.pos + (nx t x.pos).2,da:=a4,dl:=dl4,dc:=cp4,width:=(nx t x.pos).2 }:=by rw [hxe]; rfl
  have next : ∀ (w7 : World),x.pos < t.length → ¬ ((nx t x.pos).1 = 10 ∧ pre bs99 (t.drop (x.pos + (nx t x.pos).2)) = false) → LS L ib B t bs100 (x.nxt t) ps w7 → LI L c (x.nxt t) w w7 → ∃ y : LC,t.length + 1 - y.pos < t.length + 1 - x.pos ∧ ([] : List Deferred) = [] ∧ True ∧
    (LS L ib B t bs100 y ps w7 ∧ LI L c y w w7 ∧ (∃ q wd,y = { c with pos:=q,da:=a4,dl:=dl4,dc:=cp4,width:=wd }) ∧ orgGo t y.pos = orgGo t (c.pos - 1)):=by
   intro w7 hin hno hl hli
   have hpp:=nx_pos t hin
   refine ⟨x.nxt t,?_,rfl,trivial,hl,hli,⟨_,_,hxn⟩,?_⟩
   ·show t.length + 1 - (x.pos + (nx t x.pos).2) < t.length + 1 - x.pos
    omega
   ·rw [← hgo]
    show orgGo t (x.pos + (nx t x.pos).2) = orgGo t x.pos
    rw [orgGo.eq_1 t x.pos,dif_pos hin,if_neg hno]
  repeat(first|refine X0 rfl rfl ?_|refine C2 ?_)
  refine CE.block ?_
  repeat(first|refine C0 ?_|refine C1 ?_|refine X1 rfl rfl ?_|refine X0 rfl rfl ?_|refine X5 rfl rfl rfl ?_|refine C2 ?_)
  refine CE.cond_d rfl (fun h10 => ?_) (fun h10 => ?_)
  ·have hin : x.pos < t.length:=nx_pos_of (by omega)
   repeat(first|refine C0 ?_|refine C1 ?_|refine X1 rfl rfl ?_)
   refine RE.xc en99 rfl rfl (delim99_fn _) ?_
   rintro v7 w7 ⟨b7,hb7,_,e7⟩
   skip
   refine RE.xc en96 rfl rfl (hasP_fn (hx6.lx.ext e7) hb7.hb) ?_
   rintro _ w8 ⟨rfl,e8⟩
   have hx8:=hx6.ext (e7.trans e8)
   have hi8:=hi6.ext_r (e7.trans e8)
   repeat(first|refine X12 rfl rfl ?_|refine C2 ?_)
   refine CE.cond_s rfl (fun hp8 => ?_) (fun hp8 => ?_)
   ·have hp9 : pre bs99 (t.drop (x.pos + (nx t x.pos).2)) = false:=decide_eq_false (of_decide_eq_true hp8)
    refine CE.exit ?_
    have hg : orgGo t (c.pos - 1) = x.pos + (nx t x.pos).2:=by
     rw [← hgo,orgGo,dif_pos hin,if_pos ⟨h10,hp9⟩]
    refine ⟨rfl,⟨rfl,trivial⟩,(nx t x.pos).2,?_,?_⟩ <;> rw [hg,← hxn]
    ·exact hx8
    ·exact hi8
   ·have hp9 : pre bs99 (t.drop (x.pos + (nx t x.pos).2)) = true:=decide_eq_true (Classical.not_not.1 (of_decide_eq_false hp8))
    refine CE.skip ?_
    obtain ⟨y,g1,_,_,g2⟩:=next _ hin (by rw [hp9]; simp) hx8 hi8
    exact ⟨y,g1,rfl,⟨rfl,trivial⟩,g2⟩
  ·repeat(first|refine C0 ?_|refine C1 ?_|refine X1 rfl rfl ?_|refine X0 rfl rfl ?_|refine X5 rfl rfl rfl ?_|refine C2 ?_)
   refine CE.cond_d rfl (fun hm1 => ?_) (fun hm1 => ?_)
   ·have hend:=nx_neg hm1
    refine CE.exit ?_
    have hw0 : (nx t x.pos).2 = 0:=by rw [nx_end hend]
    have hg : orgGo t (c.pos - 1) = x.pos + (nx t x.pos).2:=by
     rw [← hgo,orgGo,dif_neg (by omega),hw0]; rfl
    refine ⟨rfl,⟨rfl,trivial⟩,(nx t x.pos).2,?_,?_⟩ <;> rw [hg,← hxn]
    ·exact hx6
    ·exact hi6
   ·have hin : x.pos < t.length:=nx_pos_of hm1
    refine CE.skip ?_
    obtain ⟨y,g1,_,_,g2⟩:=next _ hin (fun h => h10 h.1) hx6 hi6
    exact ⟨y,g1,rfl,⟨rfl,trivial⟩,g2⟩
 ·rintro s _ w6 ⟨rfl,hs,wd,h6,hi6⟩
  refine CE.sub hs ?_
  repeat(first|refine C0 ?_|refine C1 ?_|refine X1 rfl rfl ?_)
  refine RE.xc en97 rfl rfl (emit_fn h6 (by omega)) ?_
  rintro _ w7 ⟨rfl,it,h7,h8⟩
  repeat(first|refine C0 ?_|refine C1 ?_|refine X0 rfl rfl ?_|refine C2 ?_)
  (refine CE.ret ?_;(try dsimp only);refine ret1 rfl rfl ?_)
  subst hA0
  exact ⟨rfl,a4,dl4,cp4,wd,it,(hi6.trans h7).up rfl,h8⟩
def segGo (u : List UInt8) (i k : Nat) : List (Nat × Nat):=
 if _h : i < u.length then
  (if (nx u i).1 = 92 then (if k < i then [(k,i)] else []) ++ segGo u (i + (nx u i).2) (i + (nx u i).2) else segGo u (i + (nx u i).2) k)
 else if k < u.length then [(k,u.length)] else []
termination_by u.length - i
decreasing_by
 ·have:=nx_pos u _h; omega
 ·have:=nx_pos u _h; omega
def segI (t : List UInt8) (ty : Int) (lo hi : Nat) : List PI:=
 match segGo (t.take hi) lo lo with
 | [] => []
 | s :: r => [PI.fix t ⟨ty,false,s :: r,0,0,0,false⟩]
theorem segCells_snoc (l : List (Nat × Nat)) (s : Nat × Nat) : segCells (l ++ [s]) = segCells l ++ [I s.1,I s.2]:=by simp [segCells]
set_option maxHeartbeats 1000000 in
theorem ignE_fn {L ib B : Nat} {t dv : List UInt8} {c : LC} {ps : List PI} {w : World} {ty : Int} (h : LS L ib B t dv c ps w) (hst : c.start ≤ c.pos) (hn : ps.length + 2 < 100000000) :
  Fn PT 169 [Ptr L 0,I ty,.bool true] w (fun u w' => u = .tuple #[] ∧ ∃ v,LI L c { c with start:=c.pos,items:=v } w w' ∧ LS L ib B t dv { c with start:=c.pos,items:=v } (ps ++ segI t ty c.start c.pos) w'):=by
 refine fn_of Tryz.func169 rfl Tryz.ntmps169 rfl ?_
 have hB:=h.lx.at_
 unfold AtL at hB
 have hsm:=h.lx.small
 have hps:=h.lx.pos
 have hil:=h.lx.il
 have hul : (t.take c.pos).length = c.pos:=by simp; omega
 have hbase : B ≤ w.heap.size:=by have:=h.lx.base; have:=h.lx.at_.lt; omega
 have hmax : maxLen = 9223372036854775807:=rfl
 have app : ∀ {n : Nat} {s : Slots} {w0 : World} {dst : Option Tmp} {ty : TypeId} {pos : String} {af : Array Edge} {gd : Option (Nat × Bool)} {x y : Operand} {v : Value} {acc : List (Nat × Nat)} {ab k i : Nat},ev s x = some v → ev s y = some (Sl ab 0 1 1) →
   w0.ownsRow B 94 2 v acc.length (segCells acc) → w0.heap[ab]? = some (.cells #[I k,I i] 94 (0,0)) → Ext w w0 → (∀ q,v.ownBlock = some q → w.heap.size ≤ q) → acc.length ≤ 1000000 →
   OpE PT ⟨dst,.call { callee:=.builtin .append,args:=#[x,y],argTypes:=#[61,61] },ty,pos,af,gd⟩ n s w0 (fun v' w' => w'.ownsRow B 94 2 v' (acc ++ [(k,i)]).length (segCells (acc ++ [(k,i)])) ∧ Ext w w' ∧ ∀ q,v'.ownBlock = some q → w.heap.size ≤ q):=by
  intro n s w0 dst ty pos af gd x y v acc ab k i hx hy hown hab he hv hacc
  have hsz:=he.size
  refine OpE.mono (e_append B (t:=61) (e:=94) (size:=2) (z:=.agg #[I 0,I 0]) (bytes:=16) (m:=1) (c:=1) (ab:=ab) (news:=[I k,I i]) rfl (by kernel_rfl) rfl (by decide) hx hown hy (by decide) rfl
   (fun j u hj => cell_of hab (by simpa using hj)) (by simp [Value.oneCell']) (by omega) (by omega) (by omega)) ?_
  rintro v' w' ⟨h1,h2,h3⟩
  refine ⟨?_,he.fr h2 (fun q hq => hv q hq),fun q hq => ?_⟩
  ·rw [segCells_snoc,List.length_append]; exact h1
  ·rcases h3 q hq with h4 | h4
   ·exact hv q h4
   ·omega
 have flds : ∀ {w0 : World},Ext w w0 → w0.heap[L]? = some (.cells c.arr 79 (0,0)):=fun he => he.block hB
 repeat(first|refine C0 ?_|refine C1 ?_|refine X1 rfl rfl ?_|refine X0 rfl rfl ?_|refine X2 rfl rfl ?_|refine X3 rfl rfl rfl ?_|refine X22 rfl rfl hB rfl rfl ?_|refine C2 ?_)
 refine CE.cut (fun s ds w' => ds = [] ∧ ∃ k v acc,SubL [(7,I (k : Nat)),(8,v),(0,Ptr L 0),(1,I ty)] s ∧ k ≤ c.pos ∧ Ext w w' ∧ w'.ownsRow B 94 2 v acc.length (segCells acc) ∧ (∀ q,v.ownBlock = some q → w.heap.size ≤ q) ∧ acc.length ≤ c.pos ∧
   acc ++ (if k < c.pos then [(k,c.pos)] else []) = segGo (t.take c.pos) c.start c.start) ?_ ?_
 ·refine CE.block ?_
  refine CE.loop (α:=Nat × Nat × Value × List (Nat × Nat)) (fun x => [(6,I x.1),(7,I x.2.1),(8,x.2.2.1),(0,Ptr L 0),(1,I ty)])
   (fun x w' => x.1 ≤ c.pos ∧ x.2.1 ≤ x.1 ∧ Ext w w' ∧ w'.ownsRow B 94 2 x.2.2.1 x.2.2.2.length (segCells x.2.2.2) ∧ (∀ q,x.2.2.1.ownBlock = some q → w.heap.size ≤ q) ∧ x.2.2.2.length ≤ x.1 ∧
    x.2.2.2 ++ segGo (t.take c.pos) x.1 x.2.1 = segGo (t.take c.pos) c.start c.start)
   (fun x => c.pos + 1 - x.1) (c.start,c.start,.slice none 0 0,[]) ⟨rfl,rfl,rfl,rfl,rfl,trivial⟩ ⟨hst,Nat.le_refl _,Ext.refl w,World.ownsRow_nil _ _ _ _,(fun q hq => by cases hq),Nat.zero_le _,rfl⟩ ?_
  rintro ⟨i,k,v,acc⟩ w0 ⟨g1,g2,g3,g4,g5,g6,g7⟩
  have hi : i ≤ c.pos:=g1
  have hki : k ≤ i:=g2
  have hown : w0.ownsRow B 94 2 v acc.length (segCells acc):=g4
  have hnew : ∀ q,v.ownBlock = some q → w.heap.size ≤ q:=g5
  have hacc : acc.length ≤ i:=g6
  have hseg : acc ++ segGo (t.take c.pos) i k = segGo (t.take c.pos) c.start c.start:=g7
  clear g1 g2 g4 g5 g6 g7
  refine (show CE _ _ _ _ [(6,I i),(7,I k),(8,v),(0,Ptr L 0),(1,I ty)] _ _ from ?_)
  have hB0:=flds g3
  have hB0d : w0.drew.heap[L]? = _:=hB0
  repeat(first|refine C0 ?_|refine C1 ?_|refine X1 rfl rfl ?_|refine X2 rfl rfl ?_|refine X3 rfl rfl rfl ?_|refine X22 rfl rfl hB0 rfl rfl ?_|refine X7 rfl rfl rfl ?_|refine C2 ?_)
  refine CE.cond_d rfl (fun hlt => ?_) (fun hlt => ?_)
  ·have hlt' : i < c.pos:=by omega
   repeat (refine C3 ?_)
   refine CE.block ?_
   repeat (refine C0 ?_)
   refine CE.draw [0,0,0,0,0,0,0,0,0,0,2,0,0,0,0,0] mixed (by decide +kernel) ?_
   repeat(first|refine Y1 rfl rfl ?_|refine Y2 rfl rfl ?_|refine Y3 rfl rfl rfl ?_|refine Y22 rfl rfl hB0d rfl rfl ?_)
   refine RE.d1 (op_slice_lh rfl rfl rfl rfl (by omega) (by omega) (by omega)) rfl ?_
   have hsl:=HBk.slice ((h.lx.inp.ext g3).ext (Ext.drew w0)) (i:=i) (j:=c.pos) (by omega) hps
   have e1 : (t.drop i).take (c.pos - i) = (t.take c.pos).drop i:=by rw [List.drop_take]
   rw [e1] at hsl
   have hnn : (t.take c.pos).drop i ≠ []:=by intro e; have:=congrArg List.length e; simp at this; omega
   refine RE.ec1 en92 rfl rfl (decode_fn (l:=(t.take c.pos).drop i) ⟨ib,by simpa using hsl⟩ hnn (h.lx.tabs.ext hbase (g3.trans (Ext.drew _))).tabs) ?_
   rintro _ w1 ⟨rfl,e2⟩
   have hnx : nx (t.take c.pos) i = (((Lib.decodeL ((t.take c.pos).drop i)).1 : Int),(Lib.decodeL ((t.take c.pos).drop i)).2):=nx_in (by rw [hul]; exact hlt')
   have hw1:=nx_pos (t.take c.pos) (p:=i) (by rw [hul]; exact hlt')
   have hw2:=nx_le (t.take c.pos) (p:=i) (by rw [hul]; exact hi)
   rw [hul] at hw2
   have ew1 : Ext w w1:=(g3.trans (Ext.drew _)).trans e2
   have hB1:=flds ew1
   have hown1:=ownsRow_ext hown ((Ext.drew _).trans e2)
   rw [segGo,dif_pos (by rw [hul]; exact hlt')] at hseg
   have hr : (nx (t.take c.pos) i).1 = ((Lib.decodeL ((t.take c.pos).drop i)).1 : Int):=by rw [hnx]
   have hwd : (Lib.decodeL ((t.take c.pos).drop i)).2 = (nx (t.take c.pos) i).2:=by rw [hnx]
   rw [← hr,hwd]
   generalize hN : nx (t.take c.pos) i = N at hseg hw1 hw2
   repeat(first|refine Y1 rfl rfl ?_|refine Y0 rfl rfl ?_|refine Y15 rfl rfl rfl ?_|refine C2 ?_)
   repeat(first|refine C0 ?_|refine C1 ?_|refine X1 rfl rfl ?_|refine X5 rfl rfl rfl ?_|refine C2 ?_)
   refine CE.cond_d rfl (fun h92 => ?_) (fun h92 => ?_)
   ·rw [if_pos h92] at hseg
    repeat(first|refine C0 ?_|refine C1 ?_|refine X1 rfl rfl ?_|refine X9 rfl rfl rfl ?_|refine C2 ?_)
    refine CE.cut (fun s ds w' => ds = [] ∧ ∃ v acc',SubL [(6,I i),(10,I N.2),(8,v),(0,Ptr L 0),(1,I ty)] s ∧ Ext w w' ∧ w'.ownsRow B 94 2 v acc'.length (segCells acc') ∧ (∀ q,v.ownBlock = some q → w.heap.size ≤ q) ∧ acc'.length ≤ i + 1 ∧ acc' = acc ++ (if k < i then [(k,i)] else [])) ?_ ?_
    ·refine CE.cond_d rfl (fun hk => ?_) (fun hk => ?_)
     ·have hk' : k < i:=by omega
      repeat(first|refine C1 ?_|refine X1 rfl rfl ?_)
      refine RE.x (op_build (cells:=#[I k,I i]) rfl (by kernel_rfl)) rfl ?_
      refine RE.xe (e_buildSlice (cells:=#[I k,I i]) (e:=94) rfl (by kernel_rfl) (by kernel_rfl)) rfl ?_
      rintro _ w2 ⟨nb,rfl,hn2⟩
      refine RE.xe (app rfl rfl (ownsRow_ext hown1 hn2.ext) hn2.here (ew1.trans hn2.ext) hnew (by omega)) rfl ?_
      rintro v3 w3 ⟨h3,e3,hv3⟩
      repeat (refine X0 rfl rfl ?_)
      refine RE.nilx ?_
      rw [if_pos hk']
      exact ⟨rfl,v3,acc ++ [(k,i)],⟨rfl,rfl,rfl,rfl,rfl,trivial⟩,e3,h3,hv3,by simp; omega,rfl⟩
     ·have hk' : ¬ k < i:=by omega
      refine CE.skip ?_
      rw [if_neg hk',List.append_nil]
      exact ⟨rfl,v,acc,⟨rfl,rfl,rfl,rfl,rfl,trivial⟩,ew1,hown1,hnew,by omega,rfl⟩
    ·rintro s _ w2 ⟨rfl,v2,acc2,hs,e2',hown2,hv2,hacc2,hae⟩
     refine CE.sub hs ?_
     repeat(first|refine C1 ?_|refine X1 rfl rfl ?_|refine X0 rfl rfl ?_|refine X18 rfl rfl (by omega) (by omega) rfl ?_|refine C2 ?_)
     refine RE.nilx ?_
     refine ⟨(i + N.2,i + N.2,v2,acc2),?_,rfl,⟨rfl,rfl,rfl,rfl,rfl,trivial⟩,hw2,Nat.le_refl _,e2',hown2,hv2,?_,?_⟩
     ·show c.pos + 1 - (i + N.2) < c.pos + 1 - i
      omega
     ·show acc2.length ≤ i + N.2
      omega
     ·rw [← hseg,← List.append_assoc,← hae]
   ·rw [if_neg h92] at hseg
    repeat(first|refine C1 ?_|refine X1 rfl rfl ?_|refine X0 rfl rfl ?_|refine X18 rfl rfl (by omega) (by omega) rfl ?_|refine C3 ?_)
    refine RE.nilx ?_
    refine ⟨(i + N.2,k,v,acc),?_,rfl,⟨rfl,rfl,rfl,rfl,rfl,trivial⟩,hw2,?_,ew1,hown1,hnew,?_,hseg⟩
    ·show c.pos + 1 - (i + N.2) < c.pos + 1 - i
     omega
    ·show k ≤ i + N.2
     omega
    ·show acc.length ≤ i + N.2
     omega
  ·have hie : i = c.pos:=by omega
   refine CE.exit ?_
   refine ⟨rfl,k,v,acc,⟨rfl,rfl,rfl,rfl,trivial⟩,by omega,g3,hown,hnew,by omega,?_⟩
   rw [← hseg,segGo,dif_neg (by rw [hul]; omega),hul]
 ·rintro s _ w1 ⟨rfl,k,v,acc,hs,hk,e1,hown,hnew,hacc,hseg⟩
  refine CE.sub hs ?_
  have hB1:=flds e1
  repeat(first|refine C0 ?_|refine C1 ?_|refine X1 rfl rfl ?_|refine X2 rfl rfl ?_|refine X3 rfl rfl rfl ?_|refine X22 rfl rfl hB1 rfl rfl ?_|refine X7 rfl rfl rfl ?_|refine C2 ?_)
  refine CE.cut (fun s ds w' => ds = [] ∧ ∃ v acc',SubL [(8,v),(0,Ptr L 0),(1,I ty)] s ∧ Ext w w' ∧ w'.ownsRow B 94 2 v acc'.length (segCells acc') ∧ acc'.length ≤ c.pos + 1 ∧ acc' = segGo (t.take c.pos) c.start c.start) ?_ ?_
  ·refine CE.cond_d rfl (fun hk => ?_) (fun hk => ?_)
   ·have hk' : k < c.pos:=by omega
    rw [if_pos hk'] at hseg
    repeat(first|refine C1 ?_|refine X1 rfl rfl ?_|refine X2 rfl rfl ?_|refine X3 rfl rfl rfl ?_|refine X22 rfl rfl hB1 rfl rfl ?_)
    refine RE.x (op_build (cells:=#[I k,I c.pos]) rfl (by kernel_rfl)) rfl ?_
    refine RE.xe (e_buildSlice (cells:=#[I k,I c.pos]) (e:=94) rfl (by kernel_rfl) (by kernel_rfl)) rfl ?_
    rintro _ w2 ⟨nb,rfl,hn2⟩
    refine RE.xe (app rfl rfl (ownsRow_ext hown hn2.ext) hn2.here (e1.trans hn2.ext) hnew (by omega)) rfl ?_
    rintro v3 w3 ⟨h3,e3,hv3⟩
    repeat (refine X0 rfl rfl ?_)
    refine RE.nilx ?_
    exact ⟨rfl,v3,acc ++ [(k,c.pos)],⟨rfl,rfl,rfl,trivial⟩,e3,h3,by simp; omega,hseg⟩
   ·have hk' : ¬ k < c.pos:=by omega
    rw [if_neg hk',List.append_nil] at hseg
    refine CE.skip ?_
    exact ⟨rfl,v,acc,⟨rfl,rfl,rfl,trivial⟩,e1,hown,by omega,hseg⟩
  ·rintro s _ w2 ⟨rfl,v,acc,hs,e2,hown,hacc,hseg⟩
   refine CE.sub hs ?_
   obtain ⟨a,cp,rfl⟩ : ∃ a cp,v = .slice a acc.length cp:=by
    rcases hown.2 with ⟨rfl,h0⟩ | ⟨g,cap,cur,rfl,_⟩
    ·exact ⟨none,0,by rw [h0]⟩
    ·exact ⟨_,_,rfl⟩
   have hx2:=h.ext e2
   have hi2:=LI.ext_l (c:=c) e2 (LI.refl hx2.lx.at_)
   repeat(first|refine C0 ?_|refine C1 ?_|refine X1 rfl rfl ?_|refine X9 rfl rfl rfl ?_|refine X13 rfl rfl rfl ?_|refine C2 ?_)
   refine CE.cut (fun s ds w' => ds = [] ∧ SubL [(0,Ptr L 0)] s ∧ ∃ it,LI L c { c with items:=it } w w' ∧ LS L ib B t dv { c with items:=it } (ps ++ segI t ty c.start c.pos) w') ?_ ?_
   ·refine CE.cond_d rfl (fun h0 => ?_) (fun h0 => ?_)
    ·obtain ⟨s0,r0,hsr⟩ : ∃ s0 r0,acc = s0 :: r0:=by
      cases acc with
      | nil => simp at h0
      | cons s0 r0 => exact ⟨s0,r0,rfl⟩
     repeat(first|refine C1 ?_|refine X1 rfl rfl ?_)
     refine RE.x (v:=(⟨ty,.nilIface,0,0,a,acc.length,cp,0,false⟩ : IC).val) (op_build rfl (by kernel_rfl)) rfl ?_
     refine RE.xc en113 rfl rfl (append_ls (p:=⟨ty,false,acc,0,0,0,false⟩) hx2 ⟨rfl,rfl,rfl,rfl,rfl,rfl,Or.inl ⟨rfl,rfl⟩,fun _ => ?_⟩ (by omega)) ?_
     ·rcases hown.2 with ⟨_,h1⟩ | ⟨g,cap,cur,hv,_,hg,_,_,_,ht⟩
      ·omega
      ·simp only [Value.slice.injEq] at hv
       refine ⟨g,cur,hv.1,hg,?_⟩
       rw [Nat.mul_comm]
       exact ht
     rintro _ w3 ⟨rfl,it,h3,h4⟩
     refine RE.nilx ?_
     refine ⟨rfl,⟨rfl,trivial⟩,it,hi2.trans h3,?_⟩
     unfold segI
     rw [← hseg,hsr]
     rw [hsr] at h4
     exact h4
    ·have hnil : acc = []:=List.eq_nil_of_length_eq_zero (by omega)
     refine CE.skip ?_
     refine ⟨rfl,⟨rfl,trivial⟩,c.items,hi2,?_⟩
     unfold segI
     rw [← hseg,hnil,List.append_nil]
     exact hx2
   ·rintro s _ w3 ⟨rfl,hs,it,h3,h4⟩
    refine CE.sub hs ?_
    have hB4:=h4.lx.at_
    unfold AtL at hB4
    repeat(first|refine C1 ?_|refine X1 rfl rfl ?_|refine X2 rfl rfl ?_|refine X3 rfl rfl rfl ?_|refine X22 rfl rfl hB4 rfl rfl ?_)
    refine RE.xs (e_store rfl rfl rfl hB4 rfl rfl) ?_
    rintro _ w5 hu5
    have hm5 : LM L { c with items:=it,start:=c.pos } w3 w5:=LM.of_upd hu5 rfl
    have h5:=h4.keep hm5 rfl rfl rfl h.lx.pos
    (refine RE.nilx ?_; (try dsimp only); refine end0 rfl ?_)
    exact ⟨rfl,it,h3.lm hm5 rfl,h5⟩
end Go.Wk
