/- The lexer as plain data: its steps, their measure, what they keep. -/
import Derived.Test.YtmbencknblcocaaGreatDoorYar
import Derived.Test.YtmbencknblcocaaGreatDoorYaj
namespace Go.Wk
open Go Go.RowKit Go.Proofs
set_option maxRecDepth 100000
def nextOf : Value → Option Nat
 | .func (.func f) _ _ => some f
 | _ => none
def outIntro (t : List UInt8) (d : D) : Option Nat × D:=
 (nextOf (inOut t d.start d.pos).1,{ d with pos:=(inOut t d.start d.pos).2.1,start:=(inOut t d.start d.pos).2.2.1,ps:=d.ps ++ (inOut t d.start d.pos).2.2.2 })
def stp (t : List UInt8) (nd : Bool) : Nat → D → Option Nat × D
 | 41,d => outIntro t d
 | 42,d => outMain t nd d
 | 72,d => outJson t d
 | 73,d => outOrg t d
 | 77,d => outDone t d
 | 125,d => outLeft t d
 | 142,d => outComment t d
 | 144,d => outInside t d
 | 154,d => outRight t d
 | 158,d => outVal t d
 | 162,d => outIdent t d
 | 175,d => outEnd t d
 | _,d => (none,d)
inductive Lexes (t : List UInt8) (nd : Bool) : Option Nat × D → D → Prop
 | done (d : D) : Lexes t nd (none,d) d
 | step (f : Nat) (d r : D) (h : Lexes t nd (stp t nd f d) r) : Lexes t nd (some f,d) r
theorem Lexes.fn {t : List UInt8} {nd : Bool} {x : Option Nat × D} {r s : D} (h : Lexes t nd x r) (k : Lexes t nd x s) : r = s:=by
 induction h with
 | done d => cases k; rfl
 | step f d r _ ih => cases k with | step _ _ _ k => exact ih k
def rank : Option Nat → Nat
 | none => 0
 | some 77 => 1
 | some 154 => 2
 | some 162 => 2
 | some 125 => 2
 | some 142 => 2
 | some 144 => 3
 | some 158 => 4
 | some 175 => 3
 | some 42 => 3
 | some 72 => 4
 | some 73 => 20
 | some 41 => 10
 | _ => 0
def mu (t : List UInt8) (x : Option Nat × D) : Nat:=16 * (t.length - x.2.pos) + rank x.1
def okSt : Option Nat → Bool
 | none => true
 | some f => [41,42,72,73,77,125,142,144,154,158,162,175].elem f
structure Inv (t : List UInt8) (x : Option Nat × D) : Prop where
 ok : okSt x.1 = true
 sp : x.2.start ≤ x.2.pos
 pl : x.2.pos ≤ t.length
 c0 : 0 ≤ x.2.clos
 c1 : x.2.clos ≤ x.2.pos
 s0 : 0 ≤ x.2.step
 s1 : x.2.step ≤ x.2.pos
 dvl : x.2.dv.length ≤ 1000
 dv0 : x.2.dv ≠ []
 nm : x.2.name.length ≤ t.length
 lf : x.1 = some 125 → x.2.pos + 3 ≤ t.length
 rt : x.1 = some 154 → x.2.pos + 3 ≤ t.length
 id : x.1 = some 162 → isAN (nx t x.2.pos).1 = true
 i0 : x.1 = some 41 ∨ x.1 = some 72 ∨ x.1 = some 73 → x.2.clos = 0 ∧ x.2.step = 0
 fr : x.1 = some 72 ∨ x.1 = some 73 → x.2.start + 1 ≤ x.2.pos
structure Nxt (t : List UInt8) (f : Nat) (d : D) (r : Option Nat × D) : Prop where
 inv : Inv t r
 mu : mu t r < mu t (some f,d)
 len : r.2.ps.length ≤ d.ps.length + 6
 dv : f ≠ 73 → r.2.dv = d.dv
 chk : d.chk = true → r.2.chk = true
 pos : f ≠ 72 → f ≠ 73 → d.pos ≤ r.2.pos
 opn : f ≠ 162 → r.2.opn = d.opn
 map : f = 162 → r.1 = none ∨ d.ps.length + 1 ≤ r.2.ps.length
 st0 : r.1 = some 41 ∨ r.1 = some 72 ∨ r.1 = some 73 → f = 41
theorem emitI_ge (t : List UInt8) (ty : Int) (lo hi : Nat) : 1 ≤ (emitI t ty lo hi).length:=by
 have h : ∀ k,1 ≤ (emScan t lo hi k).length:=by
  intro k
  induction k with
  | zero => simp [emScan]
  | succ k ih =>
   rw [emScan]
   dsimp only
   repeat' split
   all_goals first|exact ih | simp
 unfold emitI emitL
 rw [List.length_map]
 split
 ·exact h hi
 ·simp
theorem em_len (t : List UInt8) (d : D) (ty : Int) : (d.em t ty).ps.length ≤ d.ps.length + 2 ∧ d.ps.length + 1 ≤ (d.em t ty).ps.length:=by
 have h1:=emitI_len t ty d.start d.pos
 have h2:=emitI_ge t ty d.start d.pos
 show (d.ps ++ _).length ≤ _ ∧ _ ≤ (d.ps ++ _).length
 rw [List.length_append]
 omega
theorem bad_len (t : List UInt8) (d : D) : (d.bad t).ps.length = d.ps.length + 1:=by
 show (d.ps ++ _).length = _
 simp
theorem Inv.to {t : List UInt8} {x : Option Nat × D} (h : Inv t x) {f : Option Nat} {d : D} (hok : okSt f = true) (hp : x.2.pos ≤ d.pos) (hl : d.pos ≤ t.length) (hs : d.start ≤ d.pos) (hc : d.clos = x.2.clos ∨ d.clos = 0) (ht : d.step = x.2.step ∨ d.step = 0) (hdv : d.dv = x.2.dv) (hnm : d.name = x.2.name)
  (h1 : f = some 125 → d.pos + 3 ≤ t.length) (h2 : f = some 154 → d.pos + 3 ≤ t.length) (h3 : f = some 162 → isAN (nx t d.pos).1 = true) (h4 : f ≠ some 41) (h5 : f ≠ some 72) (h6 : f ≠ some 73) : Inv t (f,d):=by
 have:=h.c0; have:=h.c1; have:=h.s0; have:=h.s1
 refine ⟨hok,hs,hl,?_,?_,?_,?_,by rw [hdv]; exact h.dvl,by rw [hdv]; exact h.dv0,by rw [hnm]; exact h.nm,h1,h2,h3,?_,?_⟩
 ·rcases hc with e | e <;> (dsimp only; omega)
 ·rcases hc with e | e <;> (dsimp only; omega)
 ·rcases ht with e | e <;> (dsimp only; omega)
 ·rcases ht with e | e <;> (dsimp only; omega)
 ·rintro (e | e | e)
  ·exact absurd e h4
  ·exact absurd e h5
  ·exact absurd e h6
 ·rintro (e | e)
  ·exact absurd e h5
  ·exact absurd e h6
theorem nxt_done {t : List UInt8} {d : D} (h : Inv t (some 77,d)) : Nxt t 77 d (outDone t d):=by
 have h1:=h.sp; have h2:=h.pl
 have e : (outDone t d).2.pos = d.pos ∧ (outDone t d).2.start = d.pos ∧ (outDone t d).2.clos = d.clos ∧ (outDone t d).2.step = d.step ∧ (outDone t d).2.dv = d.dv ∧ (outDone t d).2.name = d.name ∧ (outDone t d).2.chk = d.chk ∧ (outDone t d).2.opn = d.opn ∧ (outDone t d).2.ps.length ≤ d.ps.length + 4:=by
  unfold outDone
  dsimp only
  have k1:=(em_len t d 18).1
  split
  ·have k2:=(em_len t (d.em t 18) 1).1
   exact ⟨rfl,rfl,rfl,rfl,rfl,rfl,rfl,rfl,by omega⟩
  ·have k2:=(em_len t d 1).1
   exact ⟨rfl,rfl,rfl,rfl,rfl,rfl,rfl,rfl,by omega⟩
 obtain ⟨e1,e2,e3,e4,e5,e6,e7,e8,e9⟩:=e
 refine ⟨h.to (d:=(outDone t d).2) rfl (by rw [e1]; exact Nat.le_refl _) (by rw [e1]; exact h2) (by rw [e1,e2]; exact Nat.le_refl _) (Or.inl e3) (Or.inl e4) e5 e6 (by intro h; cases h) (by intro h; cases h) (by intro h; cases h) (by decide) (by decide) (by decide),?_,by omega,fun _ => e5,fun h => e7.trans h,fun _ _ => by rw [e1]; exact Nat.le_refl _,fun _ => e8,fun h => (by cases h),?_⟩
 ·show 16 * (t.length - (outDone t d).2.pos) + 0 < 16 * (t.length - d.pos) + 1
  rw [e1]; omega
 ·rintro (h | h | h) <;> cases h
theorem Nxt.of {t : List UInt8} {f : Nat} {d e : D} {g : Option Nat} (h : Inv t (some f,d)) (n1 : f ≠ 72 ∧ f ≠ 73 ∧ f ≠ 162) (hok : okSt g = true) (hp : d.pos ≤ e.pos) (hl : e.pos ≤ t.length) (hs : e.start ≤ e.pos) (hc0 : 0 ≤ e.clos) (hc1 : e.clos ≤ e.pos) (hs0 : 0 ≤ e.step) (hs1 : e.step ≤ e.pos)
  (hdv : e.dv = d.dv) (hnm : e.name = d.name) (hchk : d.chk = true → e.chk = true) (hopn : e.opn = d.opn) (hlen : e.ps.length ≤ d.ps.length + 6) (hmu : 16 * (t.length - e.pos) + rank g < 16 * (t.length - d.pos) + rank (some f))
  (h1 : g = some 125 → e.pos + 3 ≤ t.length) (h2 : g = some 154 → e.pos + 3 ≤ t.length) (h3 : g = some 162 → isAN (nx t e.pos).1 = true) (h4 : g ≠ some 41 ∧ g ≠ some 72 ∧ g ≠ some 73) : Nxt t f d (g,e):=by
 refine ⟨⟨hok,hs,hl,hc0,hc1,hs0,hs1,by rw [hdv]; exact h.dvl,by rw [hdv]; exact h.dv0,by rw [hnm]; exact h.nm,h1,h2,h3,?_,?_⟩,hmu,hlen,fun _ => hdv,hchk,fun _ _ => hp,fun _ => hopn,fun e => absurd e n1.2.2,?_⟩
 ·rintro (e | e | e)
  ·exact absurd e h4.1
  ·exact absurd e h4.2.1
  ·exact absurd e h4.2.2
 ·rintro (e | e)
  ·exact absurd e h4.2.1
  ·exact absurd e h4.2.2
 ·rintro (e | e | e)
  ·exact absurd e h4.1
  ·exact absurd e h4.2.1
  ·exact absurd e h4.2.2
theorem pre3 {p l : List UInt8} {n : Nat} (h : pre p l = true) (hp : p.length = n) : n ≤ l.length:=by rw [← hp]; exact pre_len h
theorem nxt_right {t : List UInt8} {d : D} (h : Inv t (some 154,d)) : Nxt t 154 d (outRight t d):=by
 have h1:=h.sp; have h2:=h.pl; have h3:=h.rt rfl; have h4:=h.s0; have h5:=h.s1
 dsimp only at *
 have k:=(em_len t { d with clos:=0,pos:=d.pos + 3 } d.rd).1
 exact Nxt.of h (by decide) rfl (show d.pos ≤ d.pos + 3 by omega) h3 (Nat.le_refl _) (Int.le_refl 0) (show (0 : Int) ≤ ((d.pos + 3 : Nat) : Int) by omega) h4 (show d.step ≤ ((d.pos + 3 : Nat) : Int) by omega) rfl rfl id rfl (Nat.le_trans k (by show d.ps.length + 2 ≤ _; omega)) (by show 16 * (t.length - (d.pos + 3)) + 3 < 16 * (t.length - d.pos) + 2; omega)
  (by intro h; cases h) (by intro h; cases h) (by intro h; cases h) (by decide)
theorem nxt_val {t : List UInt8} {d : D} (h : Inv t (some 158,d)) : Nxt t 158 d (outVal t d):=by
 have h1:=h.sp; have h2:=h.pl; have h4:=h.s0; have h5:=h.s1; have h6:=h.c0; have h7:=h.c1
 dsimp only at *
 have hq:=skipTo_le (stop:=isSp) (t:=t) _ _ rfl h2
 have k:=(em_len t { d with pos:=skipTo isSp t d.pos } 16).1
 exact Nxt.of h (by decide) rfl hq.2 hq.1 (Nat.le_refl _) h6 (show d.clos ≤ ((skipTo isSp t d.pos : Nat) : Int) by omega) h4 (show d.step ≤ ((skipTo isSp t d.pos : Nat) : Int) by omega) rfl rfl id rfl (Nat.le_trans k (by show d.ps.length + 2 ≤ _; omega)) (by show 16 * (t.length - (skipTo isSp t d.pos)) + 3 < 16 * (t.length - d.pos) + 4; omega)
  (by intro h; cases h) (by intro h; cases h) (by intro h; cases h) (by decide)
theorem nxt_end {t : List UInt8} {d : D} (h : Inv t (some 175,d)) : Nxt t 175 d (outEnd t d):=by
 have h1:=h.sp; have h2:=h.pl; have h4:=h.s0; have h5:=h.s1; have h6:=h.c0; have h7:=h.c1
 dsimp only at *
 have hn:=nx_le t h2
 unfold outEnd
 split
 ·rename_i hp
  have h3:=pre3 hp (rightD_len _)
  rw [List.length_drop] at h3
  exact Nxt.of h (by decide) rfl (Nat.le_refl _) h2 h1 h6 h7 h4 h5 rfl rfl id rfl (by show d.ps.length ≤ _; omega) (by show 16 * (t.length - d.pos) + 2 < 16 * (t.length - d.pos) + 3; omega)
   (by intro h; cases h) (fun _ => by show d.pos + 3 ≤ _; omega) (by intro h; cases h) (by decide)
 ·split
  ·rename_i hs
   have hin : d.pos < t.length:=nx_pos_of (by intro e; rw [e] at hs; revert hs; decide)
   have hp:=nx_pos t hin
   exact Nxt.of h (by decide) rfl (show d.pos ≤ d.pos + (nx t d.pos).2 by omega) hn (Nat.le_refl _) h6 (show d.clos ≤ ((d.pos + (nx t d.pos).2 : Nat) : Int) by omega) h4 (show d.step ≤ ((d.pos + (nx t d.pos).2 : Nat) : Int) by omega) rfl rfl id rfl (by show d.ps.length ≤ _; omega) (by show 16 * (t.length - (d.pos + (nx t d.pos).2)) + 3 < 16 * (t.length - d.pos) + 3; omega)
    (by intro h; cases h) (by intro h; cases h) (by intro h; cases h) (by decide)
  ·exact Nxt.of h (by decide) rfl (show d.pos ≤ d.pos + (nx t d.pos).2 by omega) hn (show d.start ≤ d.pos + (nx t d.pos).2 by omega) h6 (show d.clos ≤ ((d.pos + (nx t d.pos).2 : Nat) : Int) by omega) h4 (show d.step ≤ ((d.pos + (nx t d.pos).2 : Nat) : Int) by omega) rfl rfl id rfl (by rw [bad_len]; show d.ps.length + 1 ≤ _; omega) (by show 16 * (t.length - (d.pos + (nx t d.pos).2)) + 0 < 16 * (t.length - d.pos) + 3; omega)
    (by intro h; cases h) (by intro h; cases h) (by intro h; cases h) (by decide)
theorem nxt_left {t : List UInt8} {d : D} (h : Inv t (some 125,d)) : Nxt t 125 d (outLeft t d):=by
 have h1:=h.sp; have h2:=h.pl; have h3:=h.lf rfl; have h4:=h.s0; have h5:=h.s1; have h6:=h.c0; have h7:=h.c1
 dsimp only at *
 unfold outLeft
 split
 ·exact Nxt.of h (by decide) rfl (show d.pos ≤ d.pos + 3 by omega) h3 (show d.start ≤ d.pos + 3 by omega) h6 (show d.clos ≤ ((d.pos + 3 : Nat) : Int) by omega) h4 (show d.step ≤ ((d.pos + 3 : Nat) : Int) by omega) rfl rfl id rfl (by show d.ps.length ≤ _; omega) (by show 16 * (t.length - (d.pos + 3)) + 2 < 16 * (t.length - d.pos) + 2; omega)
   (by intro h; cases h) (by intro h; cases h) (by intro h; cases h) (by decide)
 ·have k:=(em_len t { d with pos:=d.pos + 3 } d.ld).1
  exact Nxt.of h (by decide) rfl (show d.pos ≤ d.pos + 3 by omega) h3 (Nat.le_refl _) h6 (show d.clos ≤ ((d.pos + 3 : Nat) : Int) by omega) (Int.le_refl 0) (show (0 : Int) ≤ ((d.pos + 3 : Nat) : Int) by omega) rfl rfl id rfl (Nat.le_trans k (by show d.ps.length + 2 ≤ _; omega)) (by show 16 * (t.length - (d.pos + 3)) + 3 < 16 * (t.length - d.pos) + 2; omega)
   (by intro h; cases h) (by intro h; cases h) (by intro h; cases h) (by decide)
theorem nxt_comment {t : List UInt8} {d : D} (h : Inv t (some 142,d)) : Nxt t 142 d (outComment t d):=by
 have h1:=h.sp; have h2:=h.pl; have h4:=h.s0; have h5:=h.s1; have h6:=h.c0; have h7:=h.c1
 dsimp only at *
 unfold outComment
 split
 ·exact Nxt.of h (by decide) rfl (Nat.le_refl _) h2 h1 h6 h7 h4 h5 rfl rfl id rfl (by rw [bad_len]; omega) (by show 16 * (t.length - d.pos) + 0 < 16 * (t.length - d.pos) + 2; omega)
   (by intro h; cases h) (by intro h; cases h) (by intro h; cases h) (by decide)
 ·rename_i hi
  obtain ⟨j,hj,hjl⟩:=(fnd_bd (x:=bs152 ++ rightD d.rd) (l:=t.drop d.pos)).resolve_left (by omega)
  rw [List.length_append,rightD_len,List.length_drop] at hjl
  have hb : bs152.length = 2:=rfl
  rw [hj,Int.toNat_natCast]
  have k1:=(em_len t d 18).1
  have k2:=(em_len t { d.em t 18 with pos:=d.pos + j,start:=d.pos + 2 } 18).1
  have k3:=(em_len t { ({ d.em t 18 with pos:=d.pos + j,start:=d.pos + 2 } : D).em t 18 with pos:=d.pos + j + 5,start:=d.pos + j + 2 } 18).1
  exact Nxt.of h (by decide) rfl (show d.pos ≤ d.pos + j + 5 by omega) (show d.pos + j + 5 ≤ t.length by omega) (Nat.le_refl _) h6 (show d.clos ≤ ((d.pos + j + 5 : Nat) : Int) by omega) h4 (show d.step ≤ ((d.pos + j + 5 : Nat) : Int) by omega) rfl rfl id rfl
   (Nat.le_trans k3 (Nat.add_le_add_right (Nat.le_trans k2 (Nat.add_le_add_right k1 2)) 2)) (by show 16 * (t.length - (d.pos + j + 5)) + 3 < 16 * (t.length - d.pos) + 2; omega)
   (by intro h; cases h) (by intro h; cases h) (by intro h; cases h) (by decide)
structure Fwd (t : List UInt8) (d : D) (r : Option Nat × D) : Prop where
 nxt : r.1 = none ∨ (r.1 = some 144 ∧ d.pos + 1 ≤ r.2.pos)
 pos : d.pos ≤ r.2.pos
 pl : r.2.pos ≤ t.length
 sp : r.2.start ≤ r.2.pos
 clos : r.2.clos = d.clos
 step : r.2.step = d.step
 dv : r.2.dv = d.dv
 name : r.2.name = d.name
 chk : r.2.chk = d.chk
 opn : r.2.opn = d.opn
 len : r.2.ps.length ≤ d.ps.length + 3
theorem qtGo_spec (t : List UInt8) (al : Bool) : ∀ (n p : Nat) (op es s1 : Bool) (s : Nat),t.length - p = n → p ≤ t.length → s ≤ p →
  p ≤ (qtGo t al op es s1 p s).2.2.1 ∧ (qtGo t al op es s1 p s).2.2.1 ≤ t.length ∧ (qtGo t al op es s1 p s).2.2.2 ≤ (qtGo t al op es s1 p s).2.2.1 ∧
  ((qtGo t al op es s1 p s).1 = 0 ∨ ((qtGo t al op es s1 p s).1 = 1 ∧ (nx t (qtGo t al op es s1 p s).2.2.1).1 = 34) ∨ ((qtGo t al op es s1 p s).1 = 2 ∧ (nx t (qtGo t al op es s1 p s).2.2.1).1 = 92 ∧ (nx t ((qtGo t al op es s1 p s).2.2.1 + 1)).1 = 34)):=by
 intro n
 induction n using Nat.strongRecOn with
 | _ n ih =>
  intro p op es s1 s hn hp hs
  rw [qtGo]
  by_cases hin : p < t.length
  ·have hpp:=nx_pos t hin
   have hpl:=nx_le t hp
   have rc:=fun (op' es' s1' : Bool) (s' : Nat) (hs' : s' ≤ p + (nx t p).2) => ih (t.length - (p + (nx t p).2)) (by omega) (p + (nx t p).2) op' es' s1' s' rfl hpl hs'
   rw [dif_pos hin]
   split
   ·rename_i h92
    have hw : (nx t p).2 = 1:=nx_one (r:=92) h92 (by decide)
    split
    ·rename_i h34
     split
     ·split
      ·obtain ⟨a,b,c,d⟩:=rc op true true s (by omega)
       exact ⟨by omega,b,c,d⟩
      ·exact ⟨Nat.le_refl _,hp,hs,Or.inr (Or.inr ⟨rfl,h92,by rw [hw] at h34; exact h34⟩)⟩
     ·obtain ⟨a,b,c,d⟩:=rc op es s1 s (by omega)
      exact ⟨by omega,b,c,d⟩
    ·split
     ·exact ⟨by show p ≤ p + (nx t p).2; omega,hpl,by show s ≤ p + (nx t p).2; omega,Or.inl rfl⟩
     ·obtain ⟨a,b,c,d⟩:=rc op es s1 s (by omega)
      exact ⟨by omega,b,c,d⟩
   ·split
    ·exact ⟨by show p ≤ p + (nx t p).2; omega,hpl,by show s ≤ p + (nx t p).2; omega,Or.inl rfl⟩
    ·split
     ·rename_i h34
      split
      ·obtain ⟨a,b,c,d⟩:=rc op es false s (by omega)
       exact ⟨by omega,b,c,d⟩
      ·split
       ·exact ⟨Nat.le_refl _,hp,hs,Or.inr (Or.inl ⟨rfl,h34⟩)⟩
       ·obtain ⟨a,b,c,d⟩:=rc true es s1 (p + (nx t p).2) (Nat.le_refl _)
        exact ⟨by omega,b,c,d⟩
     ·obtain ⟨a,b,c,d⟩:=rc op es s1 s (by omega)
      exact ⟨by omega,b,c,d⟩
  ·rw [dif_neg hin]
   exact ⟨Nat.le_refl _,hp,hs,Or.inl rfl⟩
theorem segI_len (t : List UInt8) (ty : Int) (lo hi : Nat) : (segI t ty lo hi).length ≤ 1:=by
 unfold segI
 split <;> simp
theorem quoI_len (t : List UInt8) (ty : Int) (es : Bool) (lo hi : Nat) : (quoI t ty es lo hi).length ≤ 1:=by
 unfold quoI
 split
 ·exact segI_len _ _ _ _
 ·simp
theorem fwd_quo {t : List UInt8} {d : D} {al : Bool} {ty : Int} (hp : d.pos ≤ t.length) (hs : d.start ≤ d.pos) : Fwd t d (outQuo t d al ty):=by
 have h:=qtGo_spec t al _ d.pos false false false d.start rfl hp hs
 unfold outQuo
 generalize qtGo t al false false false d.pos d.start = G at h
 obtain ⟨k,es,q,s⟩:=G
 obtain ⟨h1,h2,h3,h4⟩:=h
 dsimp only at *
 split
 ·exact ⟨Or.inl rfl,h1,h2,h3,rfl,rfl,rfl,rfl,rfl,rfl,by rw [bad_len]; show d.ps.length + 1 ≤ _; omega⟩
 ·rename_i hk
  have hqk : q + k ≤ t.length ∧ 1 ≤ k:=by
   rcases h4 with h4 | ⟨rfl,h4⟩ | ⟨rfl,_,h4⟩
   ·exact absurd h4 hk
   ·have:=nx_pos_of (t:=t) (p:=q) (by omega); omega
   ·have:=nx_pos_of (t:=t) (p:=q + 1) (by omega); omega
  have h5:=quoI_len t ty es s q
  refine ⟨Or.inr ⟨rfl,by show d.pos + 1 ≤ q + k; omega⟩,by show d.pos ≤ q + k; omega,hqk.1,Nat.le_refl _,rfl,rfl,rfl,rfl,rfl,rfl,?_⟩
  show (d.ps ++ _).length ≤ _
  rw [List.length_append]
  omega
theorem fwd_raw {t : List UInt8} {d : D} {ty : Int} (h96 : (nx t d.pos).1 = 96) (hs : d.start ≤ d.pos) : Fwd t d (outRaw t d ty):=by
 have hin : d.pos < t.length:=nx_pos_of (by omega)
 have hq:=skipTo_le (stop:=isTick) (t:=t) _ _ rfl (show d.pos + 1 ≤ t.length by omega)
 unfold outRaw
 split
 ·exact ⟨Or.inl rfl,by show d.pos ≤ skipTo isTick t (d.pos + 1); omega,hq.1,hq.2,rfl,rfl,rfl,rfl,rfl,rfl,by rw [bad_len]; show d.ps.length + 1 ≤ _; omega⟩
 ·refine ⟨Or.inr ⟨rfl,by show d.pos + 1 ≤ skipTo isTick t (d.pos + 1) + 1; omega⟩,by show d.pos ≤ skipTo isTick t (d.pos + 1) + 1; omega,by show skipTo isTick t (d.pos + 1) + 1 ≤ t.length; omega,Nat.le_refl _,rfl,rfl,rfl,rfl,rfl,rfl,?_⟩
  show (d.ps ++ _).length ≤ _
  simp
theorem fwd_param {t : List UInt8} {d : D} {eq : Bool} (hp : d.pos ≤ t.length) (hs : d.start ≤ d.pos) (hc : parC (nx t d.pos).1 = true ∨ (nx t d.pos).1 = 34 ∨ (nx t d.pos).1 = 96) : Fwd t d (outParam t d eq):=by
 have hn:=nx_le t hp
 have bad : Fwd t d (none,({ d with pos:=d.pos + (nx t d.pos).2 }).bad t):=
  ⟨Or.inl rfl,by show d.pos ≤ d.pos + (nx t d.pos).2; omega,hn,by show d.start ≤ d.pos + (nx t d.pos).2; omega,rfl,rfl,rfl,rfl,rfl,rfl,by rw [bad_len]; show d.ps.length + 1 ≤ _; omega⟩
 unfold outParam
 split
 ·rename_i h1
  split
  ·exact bad
  ·split
   ·have k:=fwd_quo (t:=t) (d:={ d with par:=1 }) (al:=!eq) (ty:=15) hp hs
    exact ⟨k.nxt,k.pos,k.pl,k.sp,k.clos,k.step,k.dv,k.name,k.chk,k.opn,k.len⟩
   ·rename_i h34
    have k:=fwd_raw (t:=t) (d:={ d with par:=1 }) (ty:=15) ((h1.resolve_left h34).1) hs
    exact ⟨k.nxt,k.pos,k.pl,k.sp,k.clos,k.step,k.dv,k.name,k.chk,k.opn,k.len⟩
 ·rename_i h1
  split
  ·exact bad
  ·rename_i h96
   have hpc : parC (nx t d.pos).1 = true:=by
    rcases hc with h | h | h
    ·exact h
    ·exact absurd (Or.inl h) h1
    ·exact absurd h h96
   have hin : d.pos < t.length:=nx_pos_of (by intro e; rw [e] at hpc; simp [parC,isANH_neg] at hpc)
   have hpp:=nx_pos t hin
   have hq : d.pos + 1 ≤ parEnd t d.pos ∧ parEnd t d.pos ≤ t.length:=by
    unfold parEnd
    rw [if_pos hpc]
    have:=skipTo_le (stop:=parStop) (t:=t) _ _ rfl hn
    omega
   generalize parEnd t d.pos = q at hq
   generalize parEq t d.pos = ne
   have bad2 : Fwd t d (none,({ d with pos:=q }).bad t):=⟨Or.inl rfl,by show d.pos ≤ q; omega,hq.2,by show d.start ≤ q; omega,rfl,rfl,rfl,rfl,rfl,rfl,by rw [bad_len]; show d.ps.length + 1 ≤ _; omega⟩
   unfold outPar2
   split
   ·have k:=(em_len t { d with pos:=q,par:=if ne then 2 else 1 } 15).1
    exact ⟨Or.inr ⟨rfl,hq.1⟩,by show d.pos ≤ q; omega,hq.2,Nat.le_refl _,rfl,rfl,rfl,rfl,rfl,rfl,Nat.le_trans k (by show d.ps.length + 2 ≤ _; omega)⟩
   ·split
    ·exact bad2
    ·split
     ·exact bad2
     ·have k:=(em_len t { d with pos:=q } 15).1
      exact ⟨Or.inr ⟨rfl,hq.1⟩,by show d.pos ≤ q; omega,hq.2,Nat.le_refl _,rfl,rfl,rfl,rfl,rfl,rfl,Nat.le_trans k (by show d.ps.length + 2 ≤ _; omega)⟩
theorem Nxt.fwd {t : List UInt8} {d d1 : D} {r : Option Nat × D} (h : Inv t (some 144,d)) (hf : Fwd t d1 r) (hp : d.pos ≤ d1.pos) (hc : d1.clos = d.clos) (ht : d1.step = d.step) (hdv : d1.dv = d.dv) (hnm : d1.name = d.name) (hch : d1.chk = d.chk) (ho : d1.opn = d.opn) (hps : d1.ps = d.ps) : Nxt t 144 d r:=by
 obtain ⟨g,e⟩:=r
 have h4:=h.s0; have h5:=h.s1; have h6:=h.c0; have h7:=h.c1
 dsimp only at *
 have k1:=hf.pos; have k2:=hf.pl; have k3:=hf.clos; have k4:=hf.step; have k5:=hf.len
 dsimp only at *
 have hlen : e.ps.length ≤ d.ps.length + 6:=by rw [hps] at k5; omega
 rcases hf.nxt with h1 | ⟨h1,h2⟩
 ·have h1' : g = none:=h1
  subst h1'
  exact Nxt.of h (by decide) rfl (by omega) k2 hf.sp (by omega) (by omega) (by omega) (by omega) (hf.dv.trans hdv) (hf.name.trans hnm) (fun h => (hf.chk.trans hch).trans h) (hf.opn.trans ho) hlen (by show 16 * (t.length - e.pos) + 0 < 16 * (t.length - d.pos) + 3; omega)
   (by intro h; cases h) (by intro h; cases h) (by intro h; cases h) (by decide)
 ·have h1' : g = some 144:=h1
  subst h1'
  have h2' : d1.pos + 1 ≤ e.pos:=h2
  exact Nxt.of h (by decide) rfl (by omega) k2 hf.sp (by omega) (by omega) (by omega) (by omega) (hf.dv.trans hdv) (hf.name.trans hnm) (fun h => (hf.chk.trans hch).trans h) (hf.opn.trans ho) hlen (by show 16 * (t.length - e.pos) + 3 < 16 * (t.length - d.pos) + 3; omega)
   (by intro h; cases h) (by intro h; cases h) (by intro h; cases h) (by decide)
theorem nxt_inside {t : List UInt8} {d : D} (h : Inv t (some 144,d)) : Nxt t 144 d (outInside t d):=by
 have h1:=h.sp; have h2:=h.pl; have h4:=h.s0; have h5:=h.s1; have h6:=h.c0; have h7:=h.c1
 dsimp only at *
 have hn:=nx_le t h2
 have bad : Nxt t 144 d (none,({ d with pos:=d.pos + (nx t d.pos).2 }).bad t):=
  Nxt.of h (by decide) rfl (show d.pos ≤ d.pos + (nx t d.pos).2 by omega) hn (show d.start ≤ d.pos + (nx t d.pos).2 by omega) h6 (show d.clos ≤ ((d.pos + (nx t d.pos).2 : Nat) : Int) by omega) h4 (show d.step ≤ ((d.pos + (nx t d.pos).2 : Nat) : Int) by omega) rfl rfl id rfl (by rw [bad_len]; show d.ps.length + 1 ≤ _; omega) (by show 16 * (t.length - (d.pos + (nx t d.pos).2)) + 0 < 16 * (t.length - d.pos) + 3; omega)
   (by intro h; cases h) (by intro h; cases h) (by intro h; cases h) (by decide)
 unfold outInside
 split
 ·rename_i hp
  have h3:=pre3 hp (rightD_len _)
  rw [List.length_drop] at h3
  exact Nxt.of h (by decide) rfl (Nat.le_refl _) h2 h1 h6 h7 h4 h5 rfl rfl id rfl (by omega) (by show 16 * (t.length - d.pos) + 2 < 16 * (t.length - d.pos) + 3; omega)
   (by intro h; cases h) (fun _ => by omega) (by intro h; cases h) (by decide)
 split
 ·exact bad
 rename_i hm1
 have hin : d.pos < t.length:=nx_pos_of hm1
 have hpp:=nx_pos t hin
 have sp1 : Nxt t 144 d (some 144,{ d with pos:=d.pos + (nx t d.pos).2,start:=d.pos + (nx t d.pos).2 }):=
  Nxt.of h (by decide) rfl (show d.pos ≤ d.pos + (nx t d.pos).2 by omega) hn (Nat.le_refl _) h6 (show d.clos ≤ ((d.pos + (nx t d.pos).2 : Nat) : Int) by omega) h4 (show d.step ≤ ((d.pos + (nx t d.pos).2 : Nat) : Int) by omega) rfl rfl id rfl (by show d.ps.length ≤ _; omega) (by show 16 * (t.length - (d.pos + (nx t d.pos).2)) + 3 < 16 * (t.length - d.pos) + 3; omega)
   (by intro h; cases h) (by intro h; cases h) (by intro h; cases h) (by decide)
 split
 ·exact sp1
 split
 ·have hq:=skipTo_le (stop:=notSp) (t:=t) _ _ rfl hn
  generalize skipTo notSp t (d.pos + (nx t d.pos).2) = q at hq
  split
  ·exact Nxt.fwd h (fwd_quo (d:={ d with pos:=q,start:=q }) hq.1 (Nat.le_refl _)) (by show d.pos ≤ q; omega) rfl rfl rfl rfl rfl rfl rfl
  ·split
   ·rename_i h96
    exact Nxt.fwd h (fwd_raw (d:={ d with pos:=q,start:=q }) h96 (Nat.le_refl _)) (by show d.pos ≤ q; omega) rfl rfl rfl rfl rfl rfl rfl
   ·exact Nxt.of h (by decide) rfl (show d.pos ≤ q by omega) hq.1 (Nat.le_refl _) h6 (show d.clos ≤ ((q : Nat) : Int) by omega) h4 (show d.step ≤ ((q : Nat) : Int) by omega) rfl rfl id rfl (by show d.ps.length ≤ _; omega) (by show 16 * (t.length - q) + 4 < 16 * (t.length - d.pos) + 3; omega)
     (by intro h; cases h) (by intro h; cases h) (by intro h; cases h) (by decide)
 split
 ·split
  ·exact bad
  ·have k:=(em_len t { d with pos:=d.pos + (nx t d.pos).2,clos:=d.clos + 1,inl:=false,step:=0 } 12).1
   exact Nxt.of h (by decide) rfl (show d.pos ≤ d.pos + (nx t d.pos).2 by omega) hn (Nat.le_refl _) (show 0 ≤ d.clos + 1 by omega) (show d.clos + 1 ≤ ((d.pos + (nx t d.pos).2 : Nat) : Int) by omega) (Int.le_refl 0) (show (0 : Int) ≤ ((d.pos + (nx t d.pos).2 : Nat) : Int) by omega) rfl rfl id rfl (Nat.le_trans k (by show d.ps.length + 2 ≤ _; omega)) (by show 16 * (t.length - (d.pos + (nx t d.pos).2)) + 3 < 16 * (t.length - d.pos) + 3; omega)
    (by intro h; cases h) (by intro h; cases h) (by intro h; cases h) (by decide)
 split
 ·split
  ·rename_i hq
   exact Nxt.fwd h (fwd_param (d:={ d with pos:=d.pos + (nx t d.pos).2,start:=d.pos + (nx t d.pos).2 }) hn (Nat.le_refl _) (Or.inr hq)) (by show d.pos ≤ d.pos + (nx t d.pos).2; omega) rfl rfl rfl rfl rfl rfl rfl
  ·exact sp1
 split
 ·rename_i hq
  refine Nxt.fwd h (fwd_param h2 h1 ?_) (Nat.le_refl _) rfl rfl rfl rfl rfl rfl rfl
  rcases hq.2 with e | e | e
  ·exact Or.inl (by unfold parC; rw [e]; rfl)
  ·exact Or.inr (Or.inl e)
  ·exact Or.inr (Or.inr e)
 split
 ·rename_i han
  exact Nxt.of h (by decide) rfl (Nat.le_refl _) h2 h1 h6 h7 h4 h5 rfl rfl id rfl (by omega) (by show 16 * (t.length - d.pos) + 2 < 16 * (t.length - d.pos) + 3; omega)
   (by intro h; cases h) (by intro h; cases h) (fun _ => han) (by decide)
 ·exact bad
theorem idGo_spec (t : List UInt8) : ∀ (n p : Nat) (i : Bool),t.length - p = n → p ≤ t.length → p ≤ (idGo t i p).2.1 ∧ (idGo t i p).2.1 ≤ t.length ∧ (isANH (nx t p).1 = true → p + 1 ≤ (idGo t i p).2.1):=by
 intro n
 induction n using Nat.strongRecOn with
 | _ n ih =>
  intro p i hn hp
  rw [idGo]
  by_cases hin : p < t.length
  ·have hpp:=nx_pos t hin
   have hpl:=nx_le t hp
   have rc:=fun (i' : Bool) => ih (t.length - (p + (nx t p).2)) (by omega) (p + (nx t p).2) i' rfl hpl
   rw [dif_pos hin]
   split
   ·obtain ⟨a,b,_⟩:=rc i
    exact ⟨by omega,b,fun _ => by omega⟩
   ·rename_i hno
    split
    ·split
     ·obtain ⟨a,b,_⟩:=rc true
      exact ⟨by omega,b,fun _ => by omega⟩
     ·exact ⟨by show p ≤ p + (nx t p).2; omega,hpl,fun _ => by show p + 1 ≤ p + (nx t p).2; omega⟩
    ·exact ⟨Nat.le_refl _,hp,fun h => absurd (Or.inl h) hno⟩
  ·rw [dif_neg hin]
   refine ⟨Nat.le_refl _,hp,fun h => ?_⟩
   rw [nx_end (by omega)] at h
   have h' : isANH (-1) = true:=h
   rw [isANH_neg] at h'
   cases h'
theorem nxt_ident {t : List UInt8} {d : D} (h : Inv t (some 162,d)) : Nxt t 162 d (outIdent t d):=by
 have h1:=h.sp; have h2:=h.pl; have h4:=h.s0; have h5:=h.s1; have h6:=h.c0; have h7:=h.c1; have h8:=h.id rfl
 dsimp only at *
 have hq:=idGo_spec t _ d.pos d.inl rfl h2
 have hnh : isANH (nx t d.pos).1 = true:=by unfold isANH; rw [h8]; rfl
 have hq3:=hq.2.2 hnh
 unfold outIdent
 generalize idGo t d.inl d.pos = G at hq hq3
 obtain ⟨b,q,i⟩:=G
 have hqp : d.pos + 1 ≤ q:=hq3
 have hqn : q ≤ t.length:=hq.2.1
 have wl : (wordA t d.start q).length ≤ t.length:=by unfold wordA; simp; omega
 dsimp only
 have bad : ∀ e : D,e.pos = q → e.start = d.start → e.clos = d.clos → e.step = d.step → e.dv = d.dv → e.name = d.name → e.chk = d.chk → e.ps = d.ps → Nxt t 162 d (none,e.bad t):=by
  intro e a1 a2 a3 a4 a5 a6 a7 a8
  have hl : (e.bad t).ps.length = d.ps.length + 1:=by rw [bad_len,a8]
  refine ⟨⟨rfl,by show e.start ≤ e.pos; omega,by show e.pos ≤ _; omega,by show 0 ≤ e.clos; omega,by show e.clos ≤ (e.pos : Int); omega,by show 0 ≤ e.step; omega,by show e.step ≤ (e.pos : Int); omega,by show e.dv.length ≤ _; rw [a5]; exact h.dvl,by show e.dv ≠ _; rw [a5]; exact h.dv0,by show e.name.length ≤ _; rw [a6]; exact h.nm,(by intro h; cases h),(by intro h; cases h),(by intro h; cases h),(by rintro (h | h | h) <;> cases h),(by rintro (h | h) <;> cases h)⟩,
   by show 16 * (t.length - e.pos) + 0 < 16 * (t.length - d.pos) + 2; omega,by show (e.bad t).ps.length ≤ _; omega,fun _ => a5,fun h => a7.trans h,fun _ _ => by show d.pos ≤ e.pos; omega,fun h => absurd rfl h,fun _ => Or.inl rfl,(by rintro (h | h | h) <;> cases h)⟩
 split
 ·exact bad _ rfl rfl rfl rfl rfl rfl rfl rfl
 ·split
  ·exact bad _ rfl rfl rfl rfl rfl rfl rfl rfl
  ·have k:=em_len t { d with pos:=q,inl:=i,clos:=0,name:=wordA t d.start q,opn:=updB d.opn (wordA t d.start q) true,step:=d.step + 1 } (if i then 14 else 13)
   refine ⟨⟨?_,Nat.le_refl _,hqn,Int.le_refl 0,show (0 : Int) ≤ (q : Int) by omega,show 0 ≤ d.step + 1 by omega,show d.step + 1 ≤ (q : Int) by omega,h.dvl,h.dv0,wl,?_,?_,?_,?_,?_⟩,
    ?_,Nat.le_trans k.1 (by show d.ps.length + 2 ≤ _; omega),fun _ => rfl,id,fun _ _ => by show d.pos ≤ q; omega,fun h => absurd rfl h,fun _ => Or.inr k.2,?_⟩
   ·dsimp only; split <;> rfl
   ·dsimp only; intro h; split at h <;> cases h
   ·dsimp only; intro h; split at h <;> cases h
   ·dsimp only; intro h; split at h <;> cases h
   ·dsimp only; rintro (h | h | h) <;> (split at h <;> cases h)
   ·dsimp only; rintro (h | h) <;> (split at h <;> cases h)
   ·show 16 * (t.length - q) + rank (some (if 0 < d.clos then 175 else 144)) < 16 * (t.length - d.pos) + 2
    have hr : rank (some (if 0 < d.clos then 175 else 144)) = 3:=by split <;> rfl
    rw [hr]; omega
   ·dsimp only; rintro (h | h | h) <;> (split at h <;> cases h)
theorem crE_ge (t : List UInt8) (p : Nat) : p ≤ (crE t p).1:=by
 simp only [crE]
 split
 ·split <;> omega
 ·split <;> omega
theorem jsGo_spec (t : List UInt8) : ∀ (n p : Nat) (q : Bool) (lv : Int),t.length - p = n → p ≤ t.length → p ≤ (jsGo t q lv p).2 ∧ (jsGo t q lv p).2 ≤ t.length ∧ ((jsGo t q lv p).1 = true → p + 1 ≤ (jsGo t q lv p).2) ∧ ((jsGo t q lv p).1 = false → t.length ≤ (jsGo t q lv p).2):=by
 intro n
 induction n using Nat.strongRecOn with
 | _ n ih =>
  intro p q lv hn hp
  rw [jsGo]
  by_cases hin : p < t.length
  ·have hpp:=nx_pos t hin
   have hj:=jsPos_le t hp
   have hj1 : p + 1 ≤ jsPos t p:=by unfold jsPos; split <;> omega
   rw [dif_pos hin]
   split
   ·exact ⟨hj.2,hj.1,fun _ => hj1,fun h => (by cases h)⟩
   ·obtain ⟨a,b,_,c⟩:=ih (t.length - jsPos t p) (by omega) (jsPos t p) (jsQ t q p) (jsLv t q lv p) rfl hj.1
    exact ⟨by omega,b,fun _ => by omega,c⟩
  ·rw [dif_neg hin]
   exact ⟨Nat.le_refl _,hp,fun h => (by cases h),fun _ => by show t.length ≤ p; omega⟩
theorem orgGo_spec (t : List UInt8) : ∀ (n p : Nat),t.length - p = n → p ≤ t.length → p ≤ orgGo t p ∧ orgGo t p ≤ t.length:=by
 intro n
 induction n using Nat.strongRecOn with
 | _ n ih =>
  intro p hn hp
  rw [orgGo]
  by_cases hin : p < t.length
  ·have hpp:=nx_pos t hin
   have hpl:=nx_le t hp
   rw [dif_pos hin]
   split
   ·exact ⟨by omega,hpl⟩
   ·obtain ⟨a,b⟩:=ih (t.length - (p + (nx t p).2)) (by omega) (p + (nx t p).2) rfl hpl
    exact ⟨by omega,b⟩
  ·rw [dif_neg hin]
   exact ⟨Nat.le_refl _,hp⟩
theorem nxt_json {t : List UInt8} {d : D} (h : Inv t (some 72,d)) : Nxt t 72 d (outJson t d):=by
 have h1:=h.sp; have h2:=h.pl; have h9:=h.fr (Or.inl rfl); obtain ⟨h6,h4⟩:=h.i0 (Or.inr (Or.inl rfl))
 dsimp only at *
 have hj:=jsGo_spec t _ (d.pos - 1) false 0 rfl (by omega)
 unfold outJson
 generalize jsGo t false 0 (d.pos - 1) = G at hj
 obtain ⟨b,q⟩:=G
 dsimp only at *
 split
 ·rename_i hb
  have hq:=hj.2.2.1 hb
  have hc1:=crE_ge t q
  have hc2:=crE_le t hj.2.1
  generalize (crE t q).1 = q2 at *
  have k:=(em_len t { d with pos:=q2 } 5).1
  refine ⟨⟨rfl,Nat.le_refl _,hc2,by show 0 ≤ d.clos; omega,by show d.clos ≤ (q2 : Int); omega,by show 0 ≤ d.step; omega,by show d.step ≤ (q2 : Int); omega,h.dvl,h.dv0,h.nm,(by intro h; cases h),(by intro h; cases h),(by intro h; cases h),(by rintro (h | h | h) <;> cases h),(by rintro (h | h) <;> cases h)⟩,
   by show 16 * (t.length - q2) + 3 < 16 * (t.length - d.pos) + 4; omega,Nat.le_trans k (by show d.ps.length + 2 ≤ _; omega),fun _ => rfl,id,fun h => absurd rfl h,fun _ => rfl,(by intro h; cases h),(by rintro (h | h | h) <;> cases h)⟩
 ·refine ⟨⟨rfl,by show d.start ≤ q; omega,hj.2.1,by show 0 ≤ d.clos; omega,by show d.clos ≤ (q : Int); omega,by show 0 ≤ d.step; omega,by show d.step ≤ (q : Int); omega,h.dvl,h.dv0,h.nm,(by intro h; cases h),(by intro h; cases h),(by intro h; cases h),(by rintro (h | h | h) <;> cases h),(by rintro (h | h) <;> cases h)⟩,
   ?_,by show (D.bad t _).ps.length ≤ _; rw [bad_len]; show d.ps.length + 1 ≤ _; omega,fun _ => rfl,id,fun h => absurd rfl h,fun _ => rfl,(by intro h; cases h),(by rintro (h | h | h) <;> cases h)⟩
  rename_i hb
  have:=hj.2.2.2 (by simpa using hb)
  show 16 * (t.length - q) + 0 < 16 * (t.length - d.pos) + 4
  omega
theorem nxt_org {t : List UInt8} {d : D} (h : Inv t (some 73,d)) : Nxt t 73 d (outOrg t d):=by
 have h1:=h.sp; have h2:=h.pl; have h9:=h.fr (Or.inr rfl); obtain ⟨h6,h4⟩:=h.i0 (Or.inr (Or.inr rfl))
 dsimp only at *
 have hj:=orgGo_spec t _ (d.pos - 1) rfl (by omega)
 unfold outOrg
 generalize orgGo t (d.pos - 1) = q at hj
 split
 ·have k:=(em_len t { d with pos:=q,dv:=bs100 } 6).1
  refine ⟨⟨rfl,Nat.le_refl _,hj.2,by show 0 ≤ d.clos; omega,by show d.clos ≤ (q : Int); omega,by show 0 ≤ d.step; omega,by show d.step ≤ (q : Int); omega,by show bs100.length ≤ _; decide,by show bs100 ≠ []; decide,h.nm,(by intro h; cases h),(by intro h; cases h),(by intro h; cases h),(by rintro (h | h | h) <;> cases h),(by rintro (h | h) <;> cases h)⟩,
   by show 16 * (t.length - q) + 3 < 16 * (t.length - d.pos) + 20; omega,Nat.le_trans k (by show d.ps.length + 2 ≤ _; omega),fun h => absurd rfl h,id,fun _ h => absurd rfl h,fun _ => rfl,(by intro h; cases h),(by rintro (h | h | h) <;> cases h)⟩
 ·exact ⟨⟨rfl,by show d.start ≤ d.pos - 1; omega,by show d.pos - 1 ≤ _; omega,by show 0 ≤ d.clos; omega,by show d.clos ≤ ((d.pos - 1 : Nat) : Int); omega,by show 0 ≤ d.step; omega,by show d.step ≤ ((d.pos - 1 : Nat) : Int); omega,h.dvl,h.dv0,h.nm,(by intro h; cases h),(by intro h; cases h),(by intro h; cases h),(by rintro (h | h | h) <;> cases h),(by rintro (h | h) <;> cases h)⟩,
   by show 16 * (t.length - (d.pos - 1)) + 3 < 16 * (t.length - d.pos) + 20; omega,by show d.ps.length ≤ _; omega,fun h => absurd rfl h,id,fun _ h => absurd rfl h,fun _ => rfl,(by intro h; cases h),(by rintro (h | h | h) <;> cases h)⟩
theorem fmFind_spec (t d : List UInt8) : ∀ (n p : Nat) (b : Bool),2 * (t.length - p) + (if b then 1 else 0) = n → p ≤ t.length → ∀ f,fmFind t d b p = some f → p ≤ f ∧ pre d (t.drop f) = true:=by
 intro n
 induction n using Nat.strongRecOn with
 | _ n ih =>
  intro p b hn hp f hf
  rw [fmFind] at hf
  cases b with
  | true =>
   rw [if_pos rfl] at hf
   split at hf
   ·rename_i h1
    cases hf
    exact ⟨Nat.le_refl _,h1⟩
   ·exact ih _ (by simp at hn ⊢; omega) p false rfl hp f hf
  | false =>
   rw [if_neg (by simp)] at hf
   split at hf
   ·rename_i hin
    have hpp:=nx_pos t hin
    have hpl:=nx_le t hp
    split at hf
    ·rename_i h1
     cases hf
     rw [Bool.and_eq_true] at h1
     exact ⟨by omega,h1.2⟩
    ·have:=ih _ (by simp at hn ⊢; omega) (p + (nx t p).2) false rfl hpl f hf
     exact ⟨by omega,this.2⟩
   ·cases hf
theorem fmOut_spec {t d : List UInt8} (hd : d.length = 3) {tp dr : Int} {st p : Nat} (hp : p ≤ t.length) (hs : st ≤ p) :
  p ≤ (fmOut t d tp dr st p).2.1 ∧ (fmOut t d tp dr st p).2.1 ≤ t.length ∧ (fmOut t d tp dr st p).2.2.1 ≤ (fmOut t d tp dr st p).2.1 ∧ (fmOut t d tp dr st p).2.2.2.length ≤ 2:=by
 have h1:=nx_le t hp
 have h2:=nx_le t h1
 unfold fmOut
 dsimp only
 split
 ·exact ⟨by show p ≤ p + (nx t p).2; omega,h1,by show st ≤ p + (nx t p).2; omega,by show 1 ≤ 2; decide⟩
 ·split
  ·exact ⟨by show p ≤ p + (nx t p).2 + _; omega,h2,by show st ≤ p + (nx t p).2 + _; omega,by show 1 ≤ 2; decide⟩
  ·have h3:=crE_le t h2
   have h4:=crE_ge t (p + (nx t p).2 + (nx t (p + (nx t p).2)).2)
   generalize crE t (p + (nx t p).2 + (nx t (p + (nx t p).2)).2) = C at h3 h4 ⊢
   obtain ⟨c,b⟩:=C
   dsimp only at h3 h4 ⊢
   split
   ·exact ⟨by show p ≤ t.length; omega,Nat.le_refl _,h3,by show 1 ≤ 2; decide⟩
   ·rename_i f hf
    obtain ⟨h5,h6⟩:=fmFind_spec t d _ c b rfl h3 f hf
    have h7:=pre3 h6 hd
    rw [List.length_drop] at h7
    have h8:=crE_le t (show f + 3 ≤ t.length by omega)
    have h9:=crE_ge t (f + 3)
    exact ⟨by show p ≤ (crE t (f + 3)).1; omega,h8,Nat.le_refl _,emitI_len _ _ _ _⟩
theorem nextOf_nextV (b : Bool) : nextOf (nextV b) = some 42 ∨ nextOf (nextV b) = none:=by cases b; exact Or.inr rfl; exact Or.inl rfl
theorem nextV_fv (b : Bool) : nextV b = fvV (nextOf (nextV b)):=by cases b <;> rfl
theorem intro_fv (t : List UInt8) (st p : Nat) : (inOut t st p).1 = fvV (nextOf (inOut t st p).1):=by
 unfold inOut
 dsimp only
 repeat' split
 all_goals first | rfl|exact nextV_fv _
theorem nxt_intro {t : List UInt8} {d : D} (h : Inv t (some 41,d)) : Nxt t 41 d (outIntro t d):=by
 have h1:=h.sp; have h2:=h.pl; obtain ⟨h6,h4⟩:=h.i0 (Or.inl rfl)
 dsimp only at *
 have hq:=skipTo_le (stop:=notSp) (t:=t) _ _ rfl h2
 have hn:=nx_le t hq.1
 have gen : ∀ (g : Option Nat) (p s : Nat) (l : List PI),(g = none ∨ g = some 42 ∨ ((g = some 72 ∨ g = some 73) ∧ d.pos + 1 ≤ p ∧ s = d.start)) → d.pos ≤ p → p ≤ t.length → s ≤ p → l.length ≤ 2 → Nxt t 41 d (g,{ d with pos:=p,start:=s,ps:=d.ps ++ l }):=by
  intro g p s l hg hp hl hs hlen
  have hok : okSt g = true:=by rcases hg with rfl | rfl | ⟨rfl | rfl,_⟩ <;> rfl
  have n1 : g ≠ some 125 ∧ g ≠ some 154 ∧ g ≠ some 162:=by rcases hg with rfl | rfl | ⟨rfl | rfl,_⟩ <;> decide
  refine ⟨⟨hok,hs,hl,by show 0 ≤ d.clos; omega,by show d.clos ≤ (p : Int); omega,by show 0 ≤ d.step; omega,by show d.step ≤ (p : Int); omega,h.dvl,h.dv0,h.nm,fun e => absurd e n1.1,fun e => absurd e n1.2.1,fun e => absurd e n1.2.2,fun _ => ⟨h6,h4⟩,?_⟩,
   ?_,by show (d.ps ++ l).length ≤ _; rw [List.length_append]; omega,fun _ => rfl,id,fun _ _ => hp,fun _ => rfl,(by intro h; cases h),fun _ => rfl⟩
  ·intro e
   rcases hg with rfl | rfl | ⟨_,h7,h8⟩
   ·rcases e with e | e <;> cases e
   ·rcases e with e | e <;> cases e
   ·show s + 1 ≤ p; omega
  ·show 16 * (t.length - p) + rank g < 16 * (t.length - d.pos) + 10
   rcases hg with rfl | rfl | ⟨rfl | rfl,h7,_⟩
   ·show _ + 0 < _; omega
   ·show _ + 3 < _; omega
   ·show _ + 4 < _; omega
   ·show _ + 20 < _; omega
 have hw : ∀ r : Nat,(nx t (skipTo notSp t d.pos)).1 = (r : Int) → r < 128 → d.pos + 1 ≤ skipTo notSp t d.pos + (nx t (skipTo notSp t d.pos)).2:=by
  intro r hr hr2
  have:=nx_one hr hr2
  omega
 have fm : ∀ (b3 : List UInt8) (tp dr : Int),b3.length = 3 → Nxt t 41 d (nextOf (nextV (fmOut t b3 tp dr d.start (skipTo notSp t d.pos + (nx t (skipTo notSp t d.pos)).2)).1),{ d with pos:=(fmOut t b3 tp dr d.start (skipTo notSp t d.pos + (nx t (skipTo notSp t d.pos)).2)).2.1,start:=(fmOut t b3 tp dr d.start (skipTo notSp t d.pos + (nx t (skipTo notSp t d.pos)).2)).2.2.1,ps:=d.ps ++ (fmOut t b3 tp dr d.start (skipTo notSp t d.pos + (nx t (skipTo notSp t d.pos)).2)).2.2.2 }):=by
  intro b3 tp dr hb
  have k:=fmOut_spec (tp:=tp) (dr:=dr) hb hn (show d.start ≤ skipTo notSp t d.pos + (nx t (skipTo notSp t d.pos)).2 by omega)
  refine gen _ _ _ _ ?_ (by omega) k.2.1 k.2.2.1 k.2.2.2
  rcases nextOf_nextV (fmOut t b3 tp dr d.start (skipTo notSp t d.pos + (nx t (skipTo notSp t d.pos)).2)).1 with e | e
  ·exact Or.inr (Or.inl e)
  ·exact Or.inl e
 have plain : ∀ g : Nat,(g = 42 ∨ ((g = 72 ∨ g = 73) ∧ d.pos + 1 ≤ skipTo notSp t d.pos + (nx t (skipTo notSp t d.pos)).2)) → Nxt t 41 d (nextOf (fnV g),{ d with pos:=skipTo notSp t d.pos + (nx t (skipTo notSp t d.pos)).2,start:=d.start,ps:=d.ps ++ [] }):=by
  intro g hg
  refine gen _ _ _ _ ?_ (by omega) hn (by omega) (by decide)
  rcases hg with rfl | ⟨rfl | rfl,h⟩
  ·exact Or.inr (Or.inl rfl)
  ·exact Or.inr (Or.inr ⟨Or.inl rfl,h,rfl⟩)
  ·exact Or.inr (Or.inr ⟨Or.inr rfl,h,rfl⟩)
 unfold outIntro
 generalize hI : inOut t d.start d.pos = I
 unfold inOut at hI
 dsimp only at hI
 split at hI
 ·subst hI; exact plain 42 (Or.inl rfl)
 ·split at hI
  ·subst hI; exact fm bs70 4 43 rfl
  ·split at hI
   ·subst hI; exact fm bs71 3 45 rfl
   ·split at hI
    ·rename_i h123
     subst hI; exact plain 72 (Or.inr ⟨Or.inl rfl,hw 123 h123 (by decide)⟩)
    ·split at hI
     ·rename_i h35
      subst hI; exact plain 73 (Or.inr ⟨Or.inr rfl,hw 35 h35 (by decide)⟩)
     ·subst hI; exact plain 42 (Or.inl rfl)
theorem isSC_len {t : List UInt8} {p : Nat} (h : isSC t p = true) : p + 3 ≤ t.length:=by
 unfold isSC at h
 rw [Bool.or_eq_true] at h
 rcases h with h | h
 ·have:=pre3 h (show bs124.length = 3 from rfl)
  rw [List.length_drop] at this
  omega
 ·have:=pre3 h (show bs137.length = 3 from rfl)
  rw [List.length_drop] at this
  omega
theorem txt_spec (t : List UInt8) {d : D} (hs : d.start ≤ d.pos) : (d.txt t).pos = d.pos ∧ (d.txt t).start = d.pos ∧ (d.txt t).clos = d.clos ∧ (d.txt t).step = d.step ∧ (d.txt t).dv = d.dv ∧ (d.txt t).name = d.name ∧ (d.txt t).chk = d.chk ∧ (d.txt t).opn = d.opn ∧ (d.txt t).inl = d.inl ∧ (d.txt t).ps.length ≤ d.ps.length + 2:=by
 unfold D.txt
 split
 ·have k:=(em_len t d 18).1
  exact ⟨rfl,rfl,rfl,rfl,rfl,rfl,rfl,rfl,rfl,k⟩
 ·exact ⟨rfl,by omega,rfl,rfl,rfl,rfl,rfl,rfl,rfl,by omega⟩
theorem nxt_main {t : List UInt8} {nd : Bool} {d : D} (h : Inv t (some 42,d)) : Nxt t 42 d (outMain t nd d):=by
 have h1:=h.sp; have h2:=h.pl; have h4:=h.s0; have h5:=h.s1; have h6:=h.c0; have h7:=h.c1
 dsimp only at *
 unfold outMain
 split
 ·exact Nxt.of h (by decide) rfl (Nat.le_refl _) h2 h1 h6 h7 h4 h5 rfl rfl id rfl (by omega) (by show 16 * (t.length - d.pos) + 1 < 16 * (t.length - d.pos) + 3; omega)
   (by intro h; cases h) (by intro h; cases h) (by intro h; cases h) (by decide)
 rename_i hlt
 have toEnd : ∀ e : D,e.start ≤ t.length → e.clos = d.clos → e.step = d.step → e.dv = d.dv → e.name = d.name → e.chk = d.chk → e.opn = d.opn → e.ps.length ≤ d.ps.length + 6 → Nxt t 42 d (some 77,{ e with pos:=t.length }):=by
  intro e a1 a2 a3 a4 a5 a6 a7 a8
  exact Nxt.of h (by decide) rfl h2 (Nat.le_refl _) a1 (by show 0 ≤ e.clos; omega) (by show e.clos ≤ (t.length : Int); omega) (by show 0 ≤ e.step; omega) (by show e.step ≤ (t.length : Int); omega) a4 a5 (fun h => a6.trans h) a7 a8 (by show 16 * (t.length - t.length) + 1 < 16 * (t.length - d.pos) + 3; omega)
   (by intro h; cases h) (by intro h; cases h) (by intro h; cases h) (by decide)
 split
 ·exact toEnd d (by omega) rfl rfl rfl rfl rfl rfl (by omega)
 rename_i hne
 have hmem:=minGo_pos (l:=ixs t nd d) (fun x hx => by obtain ⟨j,hj,_⟩:=ixs_mem (d:=d) h.dv0 hx; omega) hne
 obtain ⟨j,hj,hjl,_⟩:=ixs_mem (d:=d) h.dv0 hmem.2
 rw [hj,Int.toNat_natCast]
 have hp : d.pos + j < t.length:=by omega
 have T:=txt_spec t (d:={ d with pos:=d.pos + j }) (show d.start ≤ d.pos + j by omega)
 unfold outLex
 generalize hT : ({ d with pos:=d.pos + j } : D).txt t = T1 at T ⊢
 obtain ⟨t1,t2,t3,t4,t5,t6,t7,t8,t9,t10⟩:=T
 dsimp only at t1 t2 t3 t4 t5 t6 t7 t8 t9 t10 ⊢
 by_cases hsc : decide (scAt t d = -1) = false ∧ isSC t (d.pos + j) = true
 ·rw [if_pos hsc]
  have h3:=isSC_len hsc.2
  unfold outSc
  by_cases hil : T1.inl = true ∧ inlOk t T1.name T1.pos = false
  ·rw [if_pos hil]
   exact toEnd (T1.bad t) (by show T1.start ≤ _; omega) t3 t4 t5 t6 t7 t8 (by rw [bad_len]; omega)
  ·rw [if_neg hil]
   refine Nxt.of h (by decide) rfl (show d.pos ≤ T1.pos by omega) (show T1.pos ≤ t.length by omega) (show T1.start ≤ T1.pos by omega) (show 0 ≤ T1.clos by omega) (show T1.clos ≤ (T1.pos : Int) by omega) (show 0 ≤ T1.step by omega) (show T1.step ≤ (T1.pos : Int) by omega) t5 t6 (fun h => t7.trans h) t8 (show T1.ps.length ≤ _ by omega) (by show 16 * (t.length - T1.pos) + 2 < 16 * (t.length - d.pos) + 3; omega)
    (fun _ => by show T1.pos + 3 ≤ _; omega) (by intro h; cases h) (by intro h; cases h) (by decide)
 ·rw [if_neg hsc]
  by_cases hdv : nd = false ∧ decide (nextDiv t d = -1) = false ∧ pre d.dv (t.drop (d.pos + j)) = true
  ·rw [if_pos hdv]
   have h3:=pre_len hdv.2.2
   have h4':=List.length_pos_iff.2 h.dv0
   dsimp only at h4'
   rw [List.length_drop] at h3
   have hq:=skipTo_le (stop:=notSp) (t:=t) _ _ rfl (show d.pos + j + d.dv.length ≤ t.length by omega)
   unfold outDiv
   have e1 : T1.pos + T1.dv.length = d.pos + j + d.dv.length:=by rw [t1,t5]
   rw [e1]
   generalize skipTo notSp t (d.pos + j + d.dv.length) = q at hq
   have k:=(em_len t { T1 with chk:=true,pos:=q } 2).1
   exact Nxt.of h (by decide) rfl (show d.pos ≤ q by omega) hq.1 (Nat.le_refl _) (show 0 ≤ T1.clos by omega) (show T1.clos ≤ (q : Int) by omega) (show 0 ≤ T1.step by omega) (show T1.step ≤ (q : Int) by omega) t5 t6 (fun _ => rfl) t8 (Nat.le_trans k (by show T1.ps.length + 2 ≤ _; omega)) (by show 16 * (t.length - q) + 3 < 16 * (t.length - d.pos) + 3; omega)
    (by intro h; cases h) (by intro h; cases h) (by intro h; cases h) (by decide)
  ·rw [if_neg hdv]
   exact Nxt.of h (by decide) rfl (show d.pos ≤ d.pos + j + 1 by omega) (show d.pos + j + 1 ≤ t.length by omega) (show T1.start ≤ d.pos + j + 1 by omega) (show 0 ≤ T1.clos by omega) (show T1.clos ≤ ((d.pos + j + 1 : Nat) : Int) by omega) (show 0 ≤ T1.step by omega) (show T1.step ≤ ((d.pos + j + 1 : Nat) : Int) by omega) t5 t6 (fun h => t7.trans h) t8 (show T1.ps.length ≤ _ by omega) (by show 16 * (t.length - (d.pos + j + 1)) + 3 < 16 * (t.length - d.pos) + 3; omega)
    (by intro h; cases h) (by intro h; cases h) (by intro h; cases h) (by decide)
theorem nxt_all {t : List UInt8} {nd : Bool} {f : Nat} {d : D} (h : Inv t (some f,d)) : Nxt t f d (stp t nd f d):=by
 have hok:=h.ok
 simp only [okSt,List.elem_eq_mem,List.mem_cons,List.not_mem_nil,or_false,decide_eq_true_eq] at hok
 rcases hok with rfl | rfl | rfl | rfl | rfl | rfl | rfl | rfl | rfl | rfl | rfl | rfl
 ·exact nxt_intro h
 ·exact nxt_main h
 ·exact nxt_json h
 ·exact nxt_org h
 ·exact nxt_done h
 ·exact nxt_left h
 ·exact nxt_comment h
 ·exact nxt_inside h
 ·exact nxt_right h
 ·exact nxt_val h
 ·exact nxt_ident h
 ·exact nxt_end h
theorem lexes_ex {t : List UInt8} {nd : Bool} : ∀ (n : Nat) (x : Option Nat × D),mu t x = n → Inv t x → ∃ r,Lexes t nd x r:=by
 intro n
 induction n using Nat.strongRecOn with
 | _ n ih =>
  rintro ⟨f,d⟩ hn hi
  cases f with
  | none => exact ⟨d,.done d⟩
  | some f =>
   have k:=nxt_all (nd:=nd) hi
   obtain ⟨r,hr⟩:=ih (mu t (stp t nd f d)) (by rw [← hn]; exact k.mu) _ rfl k.inv
   exact ⟨r,.step f d r hr⟩
def d0 : D:=⟨0,0,false,8,9,false,[],0,0,0,bs103,fun _ => false,[]⟩
def st0 (nf : Bool) : Nat:=if nf then 42 else 41
theorem inv0 (t : List UInt8) (nf : Bool) : Inv t (some (st0 nf),d0):=by
 refine ⟨by cases nf <;> rfl,Nat.le_refl _,Nat.zero_le _,Int.le_refl _,Int.le_refl _,Int.le_refl _,Int.le_refl _,by show bs103.length ≤ _; decide,by show bs103 ≠ []; decide,Nat.zero_le _,?_,?_,?_,fun _ => ⟨rfl,rfl⟩,?_⟩
 ·cases nf <;> (intro h; cases h)
 ·cases nf <;> (intro h; cases h)
 ·cases nf <;> (intro h; cases h)
 ·cases nf <;> (rintro (h | h) <;> cases h)
theorem fnd_drop {x t : List UInt8} {p q : Nat} (h : fnd x (t.drop p) 0 = -1) (hpq : p ≤ q) : fnd x (t.drop q) 0 = -1:=by
 rcases fnd_bd (x:=x) (l:=t.drop q) with e | ⟨j,e,hj⟩
 ·exact e
 ·exfalso
  obtain ⟨_,_,h3⟩:=fnd_spec _ _ _ rfl e
  refine fnd_none _ 0 rfl h (q - p + j) (Nat.zero_le _) ?_ ?_
  ·rw [List.length_drop] at hj ⊢
   rcases Nat.eq_zero_or_pos x.length with h0 | h0
   ·have hx : x = []:=List.eq_nil_of_length_eq_zero h0
    subst hx
    rw [fnd] at h
    simp at h
   ·omega
  ·rw [List.drop_drop]
   rw [List.drop_drop] at h3
   rw [show p + (q - p + j) = q + j by omega]
   exact h3
theorem ixs_nil {t : List UInt8} {nd : Bool} {d : D} : ixs t nd d = [] ↔ scAt t d = -1 ∧ (nd = false → nextDiv t d = -1):=by
 unfold ixs idxs
 by_cases h1 : scAt t d = -1 <;> by_cases h2 : nextDiv t d = -1 <;> cases nd <;> simp [h1,h2]
theorem Flags.mono {t : List UInt8} {nd all s1 s2 : Bool} {d e : D} (h : Flags t nd d all s1 s2) (hdv : e.dv = d.dv) (hchk : d.chk = true → e.chk = true) (hp : d.pos ≤ e.pos) : Flags t nd e all s1 s2:=by
 have a1 : scAt t d = -1 → scAt t e = -1:=fun h => fnd_drop h hp
 have a2 : nextDiv t d = -1 → nextDiv t e = -1:=by
  unfold nextDiv
  intro h
  split
  ·rfl
  ·rename_i hc
   rw [if_neg (fun h => hc (hchk h))] at h
   rw [hdv]
   exact fnd_drop h hp
 refine ⟨fun ha => ?_,fun hs => a1 (h.s1 hs),fun hn hs => a2 (h.s2 hn hs)⟩
 have:=ixs_nil.1 (h.all ha)
 exact ixs_nil.2 ⟨a1 this.1,fun hn => a2 (this.2 hn)⟩
theorem Flags.ini {t : List UInt8} {nd : Bool} {d : D} : Flags t nd d false false false:=⟨fun h => (by cases h),fun h => (by cases h),fun _ h => (by cases h)⟩
def early (x : Option Nat) : Prop:=x = some 41 ∨ x = some 72 ∨ x = some 73
structure MS (L ib B mb : Nat) (t : List UInt8) (nd : Bool) (w0 : World) (x : Option Nat × D) (c : LC) (w : World) : Prop where
 ls : LS L ib B t x.2.dv c x.2.ps w
 dd : c.d x.2.dv x.2.opn x.2.ps = x.2
 map : ∃ n,MapO mb x.2.opn n w ∧ n + 8 * mu t x ≤ 90000000
 hf : ∃ all s1 s2,HF L B nd all s1 s2 c.H w ∧ Flags t nd x.2 all s1 s2 ∧ (early x.1 → all = false ∧ s1 = false ∧ s2 = false)
 mp : c.mp = .map (some mb)
 err : c.err = .nilIface
 below : Below B w0 w
 inv : Inv t x
 bnd : x.2.ps.length + 8 * mu t x ≤ 90000000
 wd : x.1 = some 72 ∨ x.1 = some 73 → c.width = 1
theorem MS.next {L ib B mb : Nat} {t : List UInt8} {nd : Bool} {w0 w w1 w' : World} {f : Nat} {d : D} {c : LC} {r : Option Nat × D} {a : Option Addr} {l k wd n : Nat} {it : Value} {all s1 s2 : Bool} (hmB : B ≤ mb) (h : MS L ib B mb t nd w0 (some f,d) c w) (hx1 : LS L ib B t d.dv c d.ps w1) (hf : Fr (HbS B w) w w1) (hH : HF L B nd all s1 s2 c.H w1) (hfl : Flags t nd r.2 all s1 s2) (hea : early r.1 → all = false ∧ s1 = false ∧ s2 = false)
  (hm1 : ∃ es cl,w1.heap[mb]? = some (.map es cl))
  (hy : LY L mb c (({ c with da:=a,dl:=l,dc:=k } : LC).upd r.2 wd it) w1 w') (hl : LS L ib B t r.2.dv (({ c with da:=a,dl:=l,dc:=k } : LC).upd r.2 wd it) r.2.ps w') (hm : MapO mb r.2.opn (n + 2) w') (hn : n + 8 * mu t (some f,d) ≤ 90000000) (hN : Nxt t f d r) (hwd : r.1 = some 72 ∨ r.1 = some 73 → wd = 1) :
  MS L ib B mb t nd w0 r (({ c with da:=a,dl:=l,dc:=k } : LC).upd r.2 wd it) w':=by
 have hmu:=hN.mu
 have hlen:=hN.len
 have hb:=h.bnd
 dsimp only at hb
 refine ⟨hl,rfl,⟨n + 2,hm,by omega⟩,⟨all,s1,s2,hH.ly hx1 hm1 hy,hfl,hea⟩,h.mp,h.err,?_,hN.inv,by omega,hwd⟩
 have hL:=h.ls.lx.at_.lt
 have hBL:=h.ls.lx.base
 have hsz:=h.below.size
 have hBw : B ≤ w.heap.size:=by omega
 have b1 : Below B w w1:=hf.below hBw (fun q hq => hq.1)
 have hBw1 : B ≤ w1.heap.size:=by have:=hf.size; omega
 refine (h.below.trans b1).trans (hy.fr.below hBw1 ?_)
 rintro q (e | e | e)
 ·subst e; exact hBL
 ·subst e; exact hmB
 ·obtain ⟨xs,ho,_⟩:=hx1.own
  exact (ho.lt q e).1
theorem MS.aft {L ib B mb : Nat} {t : List UInt8} {nd : Bool} {w0 w w' : World} {f : Nat} {d : D} {c : LC} (hmB : B ≤ mb) (h : MS L ib B mb t nd w0 (some f,d) c w) (n162 : f ≠ 162) (haf : ∃ a l k wd it,(f = 41 → (stp t nd f d).1 = some 72 ∨ (stp t nd f d).1 = some 73 → wd = 1) ∧ LI L c (({ c with da:=a,dl:=l,dc:=k } : LC).upd (stp t nd f d).2 wd it) w w' ∧ LS L ib B t (stp t nd f d).2.dv (({ c with da:=a,dl:=l,dc:=k } : LC).upd (stp t nd f d).2 wd it) (stp t nd f d).2.ps w') :
  ∃ c',MS L ib B mb t nd w0 (stp t nd f d) c' w':=by
 obtain ⟨a,l,k,wd,it,hwd,hi,hl⟩:=haf
 have hN:=nxt_all (nd:=nd) h.inv
 obtain ⟨n,hm,hn⟩:=h.map
 obtain ⟨all,s1,s2,hH,hfl,hea⟩:=h.hf
 have hm':=hm.li h.ls hi
 have ho:=hN.opn n162
 refine ⟨_,MS.next hmB h h.ls (Fr.refl _ _) hH ?_ ?_ hm.block hi.y hl ((hm'.fun ho.symm).mono (by omega)) hn hN ?_⟩
 ·by_cases he : early (some f)
  ·obtain ⟨rfl,rfl,rfl⟩:=hea he
   exact Flags.ini
  ·have n1 : f ≠ 72:=fun e => he (by subst e; exact Or.inr (Or.inl rfl))
   have n2 : f ≠ 73:=fun e => he (by subst e; exact Or.inr (Or.inr rfl))
   exact hfl.mono (hN.dv n2) hN.chk (hN.pos n1 n2)
 ·intro he
  have hf:=hN.st0 he
  subst hf
  exact hea (Or.inl rfl)
 ·intro he
  have hf:=hN.st0 (Or.inr he)
  subst hf
  exact hwd rfl he
theorem step_fn {L ib B mb : Nat} {t : List UInt8} {nd : Bool} {w0 w : World} {f : Nat} {d : D} {c : LC} (hmB : B ≤ mb) (hib : ib < B) (h : MS L ib B mb t nd w0 (some f,d) c w) :
  Enters PT f ∧ Fn PT f [Ptr L 0] w (fun u w' => u = fvV (stp t nd f d).1 ∧ ∃ c',MS L ib B mb t nd w0 (stp t nd f d) c' w'):=by
 have hinv:=h.inv
 have hok:=hinv.ok
 have hls:=h.ls
 have hdd:=h.dd
 have hb:=h.bnd
 have hsm:=hls.lx.small
 dsimp only at hls hdd hb
 have hn : d.ps.length + 16 < 100000000:=by omega
 have e1 : c.pos = d.pos:=congrArg D.pos hdd
 have e2 : c.start = d.start:=congrArg D.start hdd
 have e3 : c.clos = d.clos:=congrArg D.clos hdd
 have e4 : c.step = d.step:=congrArg D.step hdd
 have e5 : c.name = d.name:=congrArg D.name hdd
 have e6 : c.inl = d.inl:=congrArg D.inl hdd
 have i1:=hinv.sp; have i2:=hinv.pl; have i3:=hinv.c0; have i4:=hinv.c1; have i5:=hinv.s0; have i6:=hinv.s1
 dsimp only at i1 i2 i3 i4 i5 i6
 have fin : ∀ (g : Nat) (o : Option Nat × D),g = f → f ≠ 41 → f ≠ 162 → stp t nd f d = o → Enters PT f → Fn PT f [Ptr L 0] w (fun u w' => u = fvV o.1 ∧ Aft L ib B t c o.2 w w') →
   Enters PT f ∧ Fn PT f [Ptr L 0] w (fun u w' => u = fvV (stp t nd f d).1 ∧ ∃ c',MS L ib B mb t nd w0 (stp t nd f d) c' w'):=by
  intro g o _ n41 n162 ho hen hfn
  subst ho
  refine ⟨hen,Fn.mono hfn ?_⟩
  rintro u w' ⟨rfl,haf⟩
  obtain ⟨wd,it,a1,a2⟩:=haf
  exact ⟨rfl,h.aft hmB n162 ⟨c.da,c.dl,c.dc,wd,it,fun e => absurd e n41,a1,a2⟩⟩
 simp only [okSt,List.elem_eq_mem,List.mem_cons,List.not_mem_nil,or_false,decide_eq_true_eq] at hok
 rcases hok with rfl | rfl | rfl | rfl | rfl | rfl | rfl | rfl | rfl | rfl | rfl | rfl
 ·-- 41
  obtain ⟨dv,opn,ps,rfl⟩ : ∃ dv opn ps,d = c.d dv opn ps:=⟨d.dv,d.opn,d.ps,hdd.symm⟩
  refine ⟨en41,Fn.mono (intro_fnW (dv:=dv) (ps:=ps) hls (by have h9 : ps.length + 16 < 100000000:=hn; omega)) ?_⟩
  rintro u w' ⟨rfl,wd,it,hq,h1,h2⟩
  refine ⟨intro_fv _ _ _,h.aft hmB (by decide) ⟨c.da,c.dl,c.dc,wd,it,fun _ he => hq ?_,h1,h2⟩⟩
  have hfv:=intro_fv t c.start c.pos
  have he' : nextOf (inOut t c.start c.pos).1 = some 72 ∨ nextOf (inOut t c.start c.pos).1 = some 73:=he
  rcases he' with e | e
  ·exact Or.inl (by rw [hfv,e]; rfl)
  ·exact Or.inr (by rw [hfv,e]; rfl)
 ·-- 42
  obtain ⟨n,hm,hnn⟩:=h.map
  obtain ⟨all,s1,s2,hH,hfl,hea⟩:=h.hf
  have hmain:=main_fn (opn:=d.opn) hls hH hinv.dvl hinv.dv0 hib (by rw [hdd]; exact hfl) hn (by rw [e5]; have:=hinv.nm; dsimp only at this; omega)
  rw [hdd] at hmain
  refine ⟨en42,Fn.mono hmain ?_⟩
  rintro u w' ⟨rfl,w1,all',s1',s2',hf1,hH1,hfl1,wd,it,a1,a2⟩
  have hN:=nxt_all (nd:=nd) hinv
  have hx1:=hls.frH hf1 hib
  have hm1:=hm.frH hf1
  have hm':=hm1.li hx1 a1
  refine ⟨rfl,_,MS.next (a:=c.da) (l:=c.dl) (k:=c.dc) hmB h hx1 hf1 hH1 (hfl1.mono (hN.dv (by decide)) hN.chk (hN.pos (by decide) (by decide))) ?_ hm1.block a1.y a2 ((hm'.fun (hN.opn (by decide)).symm).mono (by omega)) hnn hN ?_⟩
  ·intro he
   exact absurd (hN.st0 he) (by decide)
  ·intro he
   exact absurd (hN.st0 (Or.inr he)) (by decide)
 ·-- 72
  have hfr:=hinv.fr (Or.inl rfl)
  dsimp only at hfr
  have:=json_fn (opn:=d.opn) hls (h.wd (Or.inl rfl)) (by omega) (by omega)
  rw [hdd] at this
  exact fin 72 _ rfl (by decide) (by decide) rfl en72 this
 ·-- 73
  have hfr:=hinv.fr (Or.inr rfl)
  dsimp only at hfr
  have:=org_fn (opn:=d.opn) hls (h.wd (Or.inr rfl)) (by omega) (by omega)
  rw [hdd] at this
  refine ⟨en73,Fn.mono this ?_⟩
  rintro u w' ⟨rfl,a,l,k,wd,it,a1,a2⟩
  exact ⟨rfl,h.aft hmB (by decide) ⟨a,l,k,wd,it,fun e => absurd e (by decide),a1.up rfl,a2⟩⟩
 ·have:=done_fn (opn:=d.opn) hls (by omega)
  rw [hdd] at this
  exact fin 77 _ rfl (by decide) (by decide) rfl en77 this
 ·have h3:=hinv.lf rfl
  dsimp only at h3
  have:=left_fn (opn:=d.opn) hls (by omega) (by omega)
  rw [hdd] at this
  exact fin 125 _ rfl (by decide) (by decide) rfl en125 this
 ·have:=comment_fn (opn:=d.opn) hls (by omega)
  rw [hdd] at this
  exact fin 142 _ rfl (by decide) (by decide) rfl en142 this
 ·have:=inside_fn (opn:=d.opn) hls (by omega) (by omega) (by omega) (by omega)
  rw [hdd] at this
  exact fin 144 _ rfl (by decide) (by decide) rfl en144 this
 ·have h3:=hinv.rt rfl
  dsimp only at h3
  have:=right_fn (opn:=d.opn) hls (by omega) (by omega)
  rw [hdd] at this
  exact fin 154 _ rfl (by decide) (by decide) rfl en154 this
 ·have:=val_fn (opn:=d.opn) hls (by omega)
  rw [hdd] at this
  exact fin 158 _ rfl (by decide) (by decide) rfl en158 this
 ·-- 162
  obtain ⟨n,hm,hnn⟩:=h.map
  obtain ⟨all,s1,s2,hH,hfl,hea⟩:=h.hf
  have:=ident_fn (opn:=d.opn) hls hm h.mp hmB (by omega) (by omega) (by omega) (by omega) (by omega)
  rw [hdd] at this
  refine ⟨en162,Fn.mono this ?_⟩
  rintro u w' ⟨rfl,wd,it,a1,a2,a3⟩
  have hN:=nxt_all (nd:=nd) hinv
  refine ⟨rfl,_,MS.next (a:=c.da) (l:=c.dl) (k:=c.dc) hmB h hls (Fr.refl _ _) hH (hfl.mono (hN.dv (by decide)) hN.chk (hN.pos (by decide) (by decide))) ?_ hm.block a1 a2 a3 hnn hN ?_⟩
  ·intro he
   exact absurd (hN.st0 he) (by decide)
  ·intro he
   exact absurd (hN.st0 (Or.inr he)) (by decide)
 ·have:=end_fn (opn:=d.opn) hls (by omega)
  rw [hdd] at this
  exact fin 175 _ rfl (by decide) (by decide) rfl en175 this
theorem mapO_empty {mb : Nat} {w : World} (h : w.heap[mb]? = some (.map #[] 0)) : MapO mb (fun _ => false) 0 w:=by
 refine ⟨.map [],⟨#[],0,h,⟨by simp,MapKept.stamped_empty 0,by simp⟩,Nat.le_refl _,rfl⟩,fun s => ?_⟩
 rfl
theorem runs_lex {t : List UInt8} {nf nd : Bool} {r : D} (ht : t.length ≤ 500000) (h : Lexes t nd (some (st0 nf),d0) r) : Runs t nf nd r.ps:=by
 intro B ib L mb ia da il ic dl dc items H w hls hhf hm hmB hib
 refine Fn.mono (run_fn (fun x : Option Nat × D => x.1) (fun x c w' => MS L ib B mb t nd w x c w' ∧ Lexes t nd x r) (mu t) (some (st0 nf),d0) (c:=LC.ini ia il ic (fnV (if nf then 42 else 41)) nf nd da dl dc (.map (some mb)) items H) ⟨?_,h⟩ (by cases nf <;> rfl) ?_ ?_ ?_) ?_
 ·have hmu : mu t (some (st0 nf),d0) ≤ 16 * t.length + 20:=by
   show 16 * (t.length - 0) + rank (some (st0 nf)) ≤ _
   have : rank (some (st0 nf)) ≤ 20:=by cases nf <;> decide
   omega
  refine ⟨hls,rfl,⟨0,mapO_empty hm,by omega⟩,⟨false,false,false,hhf,Flags.ini,fun _ => ⟨rfl,rfl,rfl⟩⟩,rfl,rfl,Below.refl _ _,inv0 t nf,by show 0 + _ ≤ _; omega,?_⟩
  cases nf <;> (rintro (e | e) <;> cases e)
 ·intro x c w' ⟨h1,_⟩
  exact h1.ls.lx.at_
 ·intro x c w1 w2 v ⟨h1,h2⟩ hlm
  have hi:=LI.of_lm (c:=c) hlm rfl
  obtain ⟨n,hm1,hn⟩:=h1.map
  obtain ⟨all,s1,s2,hH,hfl,hea⟩:=h1.hf
  have hL:=hls.lx.at_.lt
  have hBL:=h1.ls.lx.base
  have hsz:=h1.below.size
  refine ⟨⟨h1.ls.keep hlm rfl rfl rfl h1.ls.lx.pos,h1.dd,⟨n,hm1.li h1.ls hi,hn⟩,⟨all,s1,s2,hH.li h1.ls hi,hfl,hea⟩,h1.mp,h1.err,h1.below.trans (hlm.below hBL (by omega)),h1.inv,h1.bnd,h1.wd⟩,h2⟩
 ·rintro ⟨f0,d⟩ c w1 f ⟨h1,h2⟩ hf
  have hf' : f0 = some f:=hf
  subst hf'
  obtain ⟨hen,hfn⟩:=step_fn hmB hib h1
  refine ⟨hen,Fn.mono hfn ?_⟩
  rintro u w2 ⟨rfl,c2,h3⟩
  cases h2 with
  | step _ _ _ h4 => exact ⟨_,c2,rfl,⟨h3,h4⟩,(nxt_all h1.inv).mu⟩
 ·rintro u w' ⟨rfl,⟨f0,d⟩,c,hx,h1,h2⟩
  have hx' : f0 = none:=hx
  subst hx'
  cases h2 with
  | done _ => exact ⟨rfl,c,_,h1.ls,h1.err,h1.below⟩
end Go.Wk
