/- ParseBytes and Parse, over any run of the lexer. -/
import Derived.Test.YtmbencknblcocaaGreatDoorYah
import Derived.Laws.IdiomStrings
namespace Go.Wk
open Go Go.RowKit Go.Proofs
set_option maxRecDepth 100000
def Runs (t : List UInt8) (nf nd : Bool) (ps : List PI) : Prop:=
 ∀ (B ib L mb : Nat) (ia da : Option Addr) (il ic dl dc : Nat) (items H : Value) (w : World),LS L ib B t bs103 (LC.ini ia il ic (fnV (if nf then 42 else 41)) nf nd da dl dc (.map (some mb)) items H) [] w →
  HF L B nd false false false H w → w.heap[mb]? = some (.map #[] 0) → B ≤ mb → ib < B →
  Fn PT 81 [Ptr L 0] w (fun u w' => u = Ptr L 0 ∧ ∃ c dv,LS L ib B t dv c ps w' ∧ c.err = .nilIface ∧ Below B w w')
theorem TabsB.up {B B' : Nat} {w : World} (h : TabsB B w) (hB : B ≤ B') : TabsB B' w:=fun w' h' => h w' (h'.mono hB)
theorem parseBytes_fn {ib B : Nat} {t : List UInt8} {ia : Option Addr} {il ic : Nat} {nf nd : Bool} {w : World} {ps : List PI} (hr : Runs t nf nd ps) (hi : HBk ib w (.slice ia il ic) t) (hib : ib < w.heap.size) (hT : TabsB B w) (hB : B ≤ w.heap.size) (ht : t.length ≤ 1000000) :
  Fn PT 43 [.slice ia il ic,.agg #[.bool nf,.bool nd],fnV (if nf then 42 else 41)] w (fun u w' => ∃ L c dv,u = .tuple #[Ptr L 0,.nilIface] ∧ LS L ib w.heap.size t dv c ps w' ∧ c.err = .nilIface ∧ Ext w w'):=by
 refine fn_of Tryz.func43 rfl Tryz.ntmps43 rfl ?_
 repeat(first|refine C0 ?_|refine C1 ?_)
 refine RE.xe (e_box (cells:=#[.bool nf,.bool nd]) rfl rfl) rfl ?_
 rintro _ w1 ⟨b1,rfl,hn1⟩
 have hb1:=hn1.here
 have e1:=hn1.ext
 repeat(first|refine C0 ?_|refine C1 ?_|refine X1 rfl rfl ?_|refine X0 rfl rfl ?_|refine X23 rfl rfl hb1 rfl rfl rfl ?_|refine C2 ?_)
 refine RE.xc en80 rfl rfl (newLexer_fn (B:=w.heap.size) (t:=t) (ib:=ib) ⟨_,rfl⟩ (hi.ext e1) (by have:=e1.size; omega) ((hT.ext hB e1).up hB) e1.size ht) ?_
 rintro _ w2 ⟨L,da,dl,dc,mb,items,H,rfl,hL,hls,hhf,hm,hmb,e2⟩
 repeat(first|refine C0 ?_|refine C1 ?_|refine X1 rfl rfl ?_|refine X0 rfl rfl ?_|refine C2 ?_)
 refine RE.xc en81 rfl rfl (hr _ _ _ _ _ _ _ _ _ _ _ _ _ hls hhf hm (by have:=e1.size; omega) hib) ?_
 rintro _ w3 ⟨rfl,c,dv,hls3,herr,e3⟩
 repeat(first|refine C0 ?_|refine C1 ?_|refine X1 rfl rfl ?_|refine X0 rfl rfl ?_|refine C2 ?_)
 refine CE.ret ?_
 refine ret2 rfl rfl rfl ⟨L,c,dv,rfl,hls3,herr,?_⟩
 have e12:=e1.trans e2
 exact ⟨e3.os.trans e12.os,e3.tape.trans e12.tape,e3.output.trans e12.output,Nat.le_trans e12.size e3.size,fun k hk => by rw [e3.block k hk]; exact Below.block e12 k hk⟩
theorem ParseBytes_fn {ib B : Nat} {t : List UInt8} {ia : Option Addr} {il ic : Nat} {nf nd : Bool} {w : World} {ps : List PI} (hr : Runs t nf nd ps) (hi : HBk ib w (.slice ia il ic) t) (hib : ib < w.heap.size) (hT : TabsB B w) (hB : B ≤ w.heap.size) (ht : t.length ≤ 1000000) :
  Fn PT 31 [.slice ia il ic,.agg #[.bool nf,.bool nd]] w (fun u w' => ∃ it xs,u = .tuple #[it,.nilIface] ∧ Own B w' it xs ∧ All2 (IRep w') xs ps ∧ Ext w w'):=by
 refine fn_of Tryz.func31 rfl Tryz.ntmps31 rfl ?_
 repeat(first|refine C0 ?_|refine C1 ?_)
 refine RE.xe (e_box (cells:=#[.bool nf,.bool nd]) rfl rfl) rfl ?_
 rintro _ w1 ⟨b1,rfl,hn1⟩
 have hb1:=hn1.here
 have e1:=hn1.ext
 repeat(first|refine C0 ?_|refine C1 ?_|refine X0 rfl rfl ?_|refine X3 rfl rfl rfl ?_|refine X22 rfl rfl hb1 rfl rfl ?_|refine C2 ?_)
 refine CE.cut (fun s ds w' => ds = [] ∧ w' = w1 ∧ SubL [(6,fnV (if nf then 42 else 41)),(3,Ptr b1 0),(0,.slice ia il ic)] s) ?_ ?_
 ·refine CE.cond_s rfl (fun h => ?_) (fun h => ?_)
  ·subst h
   repeat(first|refine C1 ?_|refine X0 rfl rfl ?_)
   refine RE.nilx ?_
   exact ⟨rfl,rfl,rfl,rfl,rfl,trivial⟩
  ·subst h
   refine CE.skip ?_
   exact ⟨rfl,rfl,rfl,rfl,rfl,trivial⟩
 ·rintro s _ w' ⟨rfl,hw',hs⟩
  subst hw'
  refine CE.sub hs ?_
  have hB1 : B ≤ w'.heap.size:=by have:=e1.size; omega
  repeat(first|refine C0 ?_|refine C1 ?_|refine X1 rfl rfl ?_|refine X23 rfl rfl hb1 rfl rfl rfl ?_)
  refine RE.xc en43 rfl rfl (parseBytes_fn hr (hi.ext e1) (by have:=e1.size; omega) (hT.ext hB e1) hB1 ht) ?_
  rintro _ w2 ⟨L,c,dv,rfl,hls,herr,e2⟩
  have hL:=hls.lx.at_
  unfold AtL at hL
  repeat(first|refine C0 ?_|refine C1 ?_|refine X1 rfl rfl ?_|refine X0 rfl rfl ?_|refine X15 rfl rfl rfl ?_|refine C2 ?_)
  refine RE.x (op_neq_if rfl (Or.inl rfl) (by kernel_rfl)) rfl ?_
  repeat (refine C2 ?_)
  refine CE.cond_f rfl ?_
  repeat(first|refine C0 ?_|refine C3 ?_)
  refine CE.draw [0,0,0,0,0,0,0,0,0,0] mixed (by decide +kernel) ?_
  have hLd : w2.drew.heap[L]? = _:=hL
  repeat(first|refine Y1 rfl rfl ?_|refine Y0 rfl rfl ?_|refine Y2 rfl rfl ?_|refine Y3 rfl rfl rfl ?_|refine Y22 rfl rfl hLd rfl rfl ?_|refine C2 ?_)
  refine CE.ret ?_
  obtain ⟨xs,hown,hall⟩:=hls.own
  refine ret2 rfl rfl rfl ⟨c.items,xs,by rw [herr],?_,?_,(e1.trans e2).trans (Ext.drew _)⟩
  ·have h1:=ownsRow_ext hown (Ext.drew w2)
   refine ⟨h1.1,?_⟩
   rcases h1.2 with hn | ⟨g,cap,cur,h2,h3,h4⟩
   ·exact Or.inl hn
   ·exact Or.inr ⟨g,cap,cur,h2,by omega,h4⟩
  ·exact forall2_mono (fun x p hr => hr.ext (Ext.drew _)) hall
section
variable {n : Nat} {s : Slots} {w : World} {dst : Option Tmp} {ty : TypeId} {pos : String} {af : Array Edge} {g : Option (Nat × Bool)} {x y : Operand}
theorem e_conv_sb {l : List UInt8} (hx : ev s x = some (S l)) :
  OpE PT ⟨dst,.convert 9 42 x,ty,pos,af,g⟩ n s w (fun u w' => ∃ b,HBk b w' u l ∧ w.heap.size ≤ b ∧ b < w'.heap.size ∧ Ext w w'):=by
 refine ⟨fun ds a ha => ?_⟩
 have h1:=run_bytes_of_string (P:=PT) w 9 42 5 ⟨⟨l⟩⟩ Tryz.underlying9 Tryz.underlying42 Tryz.underlying5
 have hcap : l.length ≤ grownCap w (ByteArray.mk ⟨l⟩).size 0 5:=by
  have:=grownCap_ge w (ByteArray.mk ⟨l⟩).size 0 5
  rw [size_S] at *
  exact this
 refine ⟨_,_,Or.inl (by simp only [execOp,ha.ev hx,Sem.run_bind,h1,Result.andThen_ok,Sem.run_pure]; rfl),w.heap.size,?_,Nat.le_refl _,?_,?_⟩
 ·rw [size_S]
  refine ⟨_,_,rfl,by rw [← size_S l]; exact hcap,fun _ => ⟨0,rfl,fun i hi => ?_⟩⟩
  refine cell_of (heap_alloc_new _ _) ?_
  simp [bytesRow,Array.getElem?_append,hi]
 ·simp
 ·exact (Ext.drew w).trans (Ext.alloc _ _)
end
def hasS (l x : List UInt8) : Bool:=decide (fnd x l 0 ≠ -1)
theorem fnd_ge (x l : List UInt8) : ∀ (d i : Nat),l.length + 1 - i = d → fnd x l i = -1 ∨ (i : Int) ≤ fnd x l i:=by
 intro d
 induction d using Nat.strongRecOn with
 | _ d ih =>
  intro i hd
  rw [fnd]
  split
  ·split
   ·right; omega
   ·rcases ih (l.length + 1 - (i + 1)) (by omega) (i + 1) rfl with h | h
    ·left; exact h
    ·right; omega
  ·left; rfl
theorem has_fn {l x : List UInt8} {w : World} (hl : l.length ≤ 1000000) (hx : x.length ≤ 1000000) : Fn PT 11 [S l,S x] w (fun u w' => u = .bool (hasS l x) ∧ w' = w):=by
 refine fn_of Tryz.func11 rfl Tryz.ntmps11 rfl ?_
 repeat(first|refine C0 ?_|refine C1 ?_|refine X0 rfl rfl ?_|refine C2 ?_)
 refine CE.cut (fun s ds w' => ds = [] ∧ w' = w ∧ fnd x l 0 = -1) ?_ ?_
 ·refine CE.block ?_
  refine CE.loop (α:=Nat) (fun i => [(5,I i),(1,S x),(0,S l)]) (fun i w' => w' = w ∧ fnd x l i = fnd x l 0 ∧ i ≤ l.length + 1) (fun i => l.length + 2 - i) 0 ⟨rfl,rfl,rfl,trivial⟩ ⟨rfl,rfl,by omega⟩ ?_
  rintro i w' ⟨hw',hf,hi⟩
  have hw2 : w = w':=hw'.symm
  subst hw2
  repeat(first|refine C0 ?_|refine C1 ?_|refine X1 rfl rfl ?_|refine X8 rfl rfl rfl ?_|refine X14 rfl Tryz.underlying9 rfl ?_|refine X18 rfl rfl (by omega) (by omega) rfl ?_|refine C2 ?_)
  refine CE.cond_d rfl (fun h1 => ?_) (fun h1 => ?_)
  ·have h1' : i + x.length ≤ l.length:=by omega
   repeat(first|refine C0 ?_|refine C1 ?_|refine X1 rfl rfl ?_|refine X14 rfl Tryz.underlying9 rfl ?_|refine X18 rfl rfl (by omega) (by omega) rfl ?_|refine CE.block ?_|refine C3 ?_)
   refine RE.x (op_str_lh rfl rfl rfl Tryz.underlying9 (by omega) (by omega) (by omega)) rfl ?_
   have e1 : ((i : Int) + x.length).toNat - (i : Int).toNat = x.length:=by omega
   rw [e1,show ((i : Int)).toNat = i by omega]
   repeat(first|refine X1 rfl rfl ?_|refine X20 rfl rfl rfl ?_|refine C2 ?_)
   refine CE.cond_d rfl (fun h2 => ?_) (fun h2 => ?_)
   ·repeat(first|refine C0 ?_|refine C1 ?_|refine X0 rfl rfl ?_|refine C2 ?_)
    (refine CE.ret ?_;(try dsimp only);refine ret1 rfl rfl ?_)
    refine ⟨?_,rfl⟩
    have : hasS l x = true:=by
     unfold hasS
     rw [← hf,fnd,if_pos h1',if_pos h2]
     simp
    rw [this]
   ·repeat(first|refine C1 ?_|refine X1 rfl rfl ?_|refine X0 rfl rfl ?_|refine X18 rfl rfl (by omega) (by omega) rfl ?_|refine C3 ?_)
    refine RE.nilx ?_
    refine ⟨i + 1,by show l.length + 2 - (i + 1) < l.length + 2 - i; omega,rfl,⟨rfl,rfl,rfl,trivial⟩,rfl,?_,by omega⟩
    rw [← hf]
    conv => rhs; rw [fnd,if_pos h1',if_neg h2]
  ·refine CE.exit ?_
   refine ⟨rfl,rfl,?_⟩
   rw [← hf,fnd,if_neg (by omega)]
 ·rintro s _ w' ⟨rfl,hw',hf⟩
  subst hw'
  repeat(first|refine C0 ?_|refine C1 ?_|refine X0 rfl rfl ?_|refine C2 ?_)
  (refine CE.ret ?_;(try dsimp only);refine ret1 rfl rfl ?_)
  exact ⟨by simp [hasS,hf],rfl⟩
def begS (l : List UInt8) (i : Nat) (x : List UInt8) : Bool:=decide (i + x.length ≤ l.length) && decide ((l.drop i).take x.length = x)
theorem begins_fn {l x : List UInt8} {i : Nat} {w : World} (hl : l.length ≤ 1000000) (hx : x.length ≤ 1000000) (hi : i ≤ 1000000) : Fn PT 10 [S l,I i,S x] w (fun u w' => u = .bool (begS l i x) ∧ w' = w):=by
 refine fn_of Tryz.func10 rfl Tryz.ntmps10 rfl ?_
 repeat(first|refine C0 ?_|refine C1 ?_|refine X1 rfl rfl ?_|refine X0 rfl rfl ?_|refine X8 rfl rfl rfl ?_|refine X10 rfl rfl rfl ?_|refine X14 rfl Tryz.underlying9 rfl ?_|refine X16 rfl rfl rfl rfl ?_|refine X18 rfl rfl (by omega) (by omega) rfl ?_|refine RE.want rfl rfl ?_|refine C2 ?_)
 refine RE.splitD (fun h1 => ?_) (fun h1 => ?_)
 ·have h1' : i + x.length ≤ l.length:=by omega
  repeat(first|refine X1 rfl rfl ?_|refine X14 rfl Tryz.underlying9 rfl ?_|refine X18 rfl rfl (by omega) (by omega) rfl ?_|refine RE.want rfl rfl ?_)
  refine RE.x (op_str_lh rfl rfl rfl Tryz.underlying9 (by omega) (by omega) (by omega)) rfl ?_
  have e1 : ((i : Int) + x.length).toNat - (i : Int).toNat = x.length:=by omega
  rw [e1,show ((i : Int)).toNat = i by omega]
  repeat(first|refine X1 rfl rfl ?_|refine X0 rfl rfl ?_|refine X16 rfl rfl rfl rfl ?_|refine X20 rfl rfl rfl ?_|refine RE.want rfl rfl ?_|refine C2 ?_)
  (refine CE.ret ?_;(try dsimp only);refine ret1 rfl rfl ?_)
  refine ⟨?_,rfl⟩
  simp [begS,h1']
 ·have h1' : ¬ i + x.length ≤ l.length:=by omega
  repeat(first|refine X0 rfl rfl ?_|refine X17 rfl rfl rfl ?_|refine RE.nox rfl rfl rfl rfl ?_|refine C2 ?_)
  (refine CE.ret ?_;(try dsimp only);refine ret1 rfl rfl ?_)
  exact ⟨by simp [begS,h1'],rfl⟩
theorem pageHas_fn {l x : List UInt8} {i : Nat} {w : World} (hl : l.length ≤ 1000000) (hx : x.length ≤ 1000000) (hi : i ≤ 1000000) : Fn PT 34 [S l,I i,S x] w (fun u w' => u = .bool (begS l i x) ∧ w' = w):=by
 refine fn_of Tryz.func34 rfl Tryz.ntmps34 rfl ?_
 repeat(first|refine C0 ?_|refine C1 ?_|refine X1 rfl rfl ?_|refine X0 rfl rfl ?_|refine X8 rfl rfl rfl ?_|refine X10 rfl rfl rfl ?_|refine X14 rfl Tryz.underlying9 rfl ?_|refine X16 rfl rfl rfl rfl ?_|refine X18 rfl rfl (by omega) (by omega) rfl ?_|refine RE.want rfl rfl ?_|refine C2 ?_)
 refine RE.splitD (fun h1 => ?_) (fun h1 => ?_)
 ·have h1' : i + x.length ≤ l.length:=by omega
  repeat(first|refine X1 rfl rfl ?_|refine X14 rfl Tryz.underlying9 rfl ?_|refine X18 rfl rfl (by omega) (by omega) rfl ?_|refine RE.want rfl rfl ?_)
  refine RE.x (op_str_lh rfl rfl rfl Tryz.underlying9 (by omega) (by omega) (by omega)) rfl ?_
  have e1 : ((i : Int) + x.length).toNat - (i : Int).toNat = x.length:=by omega
  rw [e1,show ((i : Int)).toNat = i by omega]
  repeat(first|refine X1 rfl rfl ?_|refine X0 rfl rfl ?_|refine X16 rfl rfl rfl rfl ?_|refine X20 rfl rfl rfl ?_|refine RE.want rfl rfl ?_|refine C2 ?_)
  (refine CE.ret ?_;(try dsimp only);refine ret1 rfl rfl ?_)
  refine ⟨?_,rfl⟩
  simp [begS,h1']
 ·have h1' : ¬ i + x.length ≤ l.length:=by omega
  repeat(first|refine X0 rfl rfl ?_|refine X17 rfl rfl rfl ?_|refine RE.nox rfl rfl rfl rfl ?_|refine C2 ?_)
  (refine CE.ret ?_;(try dsimp only);refine ret1 rfl rfl ?_)
  exact ⟨by simp [begS,h1'],rfl⟩
def whiteB (b : UInt8) : Bool:=decide (b.toNat = 32) || (decide (9 ≤ b.toNat) && decide (b.toNat ≤ 13))
theorem pageWhite_fn (b : UInt8) (w : World) : Fn PT 37 [Wk.B b] w (fun u w' => u = .bool (whiteB b) ∧ w' = w):=by
 refine fn_of Tryz.func37 rfl Tryz.ntmps37 rfl ?_
 repeat(first|refine C0 ?_|refine C1 ?_|refine X1 rfl rfl ?_|refine X0 rfl rfl ?_|refine X5 rfl rfl rfl ?_|refine C2 ?_)
 refine RE.splitD (fun h1 => ?_) (fun h1 => ?_)
 ·repeat(first|refine X0 rfl rfl ?_|refine X16 rfl rfl rfl rfl ?_|refine RE.nox rfl rfl rfl rfl ?_|refine RE.nou rfl rfl rfl ?_|refine C2 ?_)
  (refine CE.ret ?_;(try dsimp only);refine ret1 rfl rfl ?_)
  have : b.toNat = 32:=by omega
  exact ⟨by simp [whiteB,this],rfl⟩
 ·have h1' : ¬ b.toNat = 32:=by omega
  repeat(first|refine X1 rfl rfl ?_|refine X10 rfl rfl rfl ?_|refine RE.want rfl rfl ?_)
  refine RE.splitD (fun h2 => ?_) (fun h2 => ?_)
  ·have h2' : 9 ≤ b.toNat:=by omega
   repeat(first|refine X1 rfl rfl ?_|refine X0 rfl rfl ?_|refine X8 rfl rfl rfl ?_|refine X16 rfl rfl rfl rfl ?_|refine X17 rfl rfl rfl ?_|refine RE.want rfl rfl ?_|refine C2 ?_)
   (refine CE.ret ?_;(try dsimp only);refine ret1 rfl rfl ?_)
   refine ⟨?_,rfl⟩
   have h3 : decide ((b.toNat : Int) ≤ 13) = decide (b.toNat ≤ 13):=by
    by_cases h : b.toNat ≤ 13
    ·simp [h]; omega
    ·simp [h]; omega
   rw [h3]
   simp [whiteB,h1',h2']
  ·have h2' : ¬ 9 ≤ b.toNat:=by omega
   repeat(first|refine X0 rfl rfl ?_|refine X17 rfl rfl rfl ?_|refine RE.want rfl rfl ?_|refine RE.nox rfl rfl rfl rfl ?_|refine C2 ?_)
   (refine CE.ret ?_;(try dsimp only);refine ret1 rfl rfl ?_)
   exact ⟨by simp [whiteB,h1',h2'],rfl⟩
def wides : List (List UInt8):=[[0xC2,0x85],[0xC2,0xA0],[0xE1,0x9A,0x80],[0xE2,0x80,0x80],[0xE2,0x80,0x81],[0xE2,0x80,0x82],[0xE2,0x80,0x83],[0xE2,0x80,0x84],[0xE2,0x80,0x85],[0xE2,0x80,0x86],[0xE2,0x80,0x87],[0xE2,0x80,0x88],[0xE2,0x80,0x89],[0xE2,0x80,0x8A],[0xE2,0x80,0xA8],[0xE2,0x80,0xA9],[0xE2,0x80,0xAF],[0xE2,0x81,0x9F],[0xE3,0x80,0x80]]
theorem pageSpaces_fn (w : World) : Fn PT 36 [] w (fun u w' => ∃ b,u = Sl b 0 19 19 ∧ w'.heap[b]? = some (.cells (wides.map Wk.S).toArray 9 (0,0)) ∧ Ext w w'):=by
 refine fn_of Tryz.func36 rfl Tryz.ntmps36 rfl ?_
 repeat(first|refine C0 ?_|refine C1 ?_|refine X0 rfl rfl ?_|refine C2 ?_)
 refine RE.xe (e_buildSlice (cells:=(wides.map Wk.S).toArray) (e:=9) rfl (by kernel_rfl) (by kernel_rfl)) rfl ?_
 rintro _ w1 ⟨b,rfl,hn⟩
 repeat(first|refine X0 rfl rfl ?_|refine C2 ?_)
 (refine CE.ret ?_;(try dsimp only);refine ret1 rfl rfl ?_)
 exact ⟨b,rfl,hn.here,hn.ext⟩
def wideAt (l : List UInt8) (i : Nat) : Nat → List (List UInt8) → Nat
 | n,[] => n
 | n,q :: r => wideAt l i (if begS l i q then q.length else n) r
theorem wideAt_snoc (l : List UInt8) (i : Nat) (q : List UInt8) : ∀ (r : List (List UInt8)) (n : Nat),wideAt l i n (r ++ [q]) = if begS l i q then q.length else wideAt l i n r
 | [],n => rfl
 | x :: r,n => by simpa [wideAt] using wideAt_snoc l i q r _
theorem begS_prefix (l : List UInt8) (i : Nat) (q : List UInt8) (hi : i ≤ l.length) : begS l i q = q.isPrefixOf (l.drop i):=by
 unfold begS
 have h : (decide ((l.drop i).take q.length = q)) = q.isPrefixOf (l.drop i):=by
  cases hp : q.isPrefixOf (l.drop i) with
  | true =>
   obtain ⟨z,hz⟩:=List.isPrefixOf_iff_prefix.1 hp
   rw [← hz]; simp
  | false =>
   have hn : ¬ (l.drop i).take q.length = q:=fun e => by
    have : q.isPrefixOf (l.drop i) = true:=List.isPrefixOf_iff_prefix.2 (by rw [← e]; exact List.take_prefix _ _)
    rw [hp] at this; cases this
   simp [hn]
 rw [h]
 cases hp : q.isPrefixOf (l.drop i) with
 | false => simp
 | true =>
  have:=(List.isPrefixOf_iff_prefix.1 hp).length_le
  simp at this
  simp
  omega
theorem wideAt_spec (l : List UInt8) (i : Nat) : ∀ (r : List (List UInt8)) (n : Nat),(wideAt l i n r = n ∧ ∀ q ∈ r,begS l i q = false) ∨ (∃ q ∈ r,begS l i q = true ∧ wideAt l i n r = q.length)
 | [],n => Or.inl ⟨rfl,by simp⟩
 | q :: r,n => by
  cases hb : begS l i q with
  | true =>
   rcases wideAt_spec l i r q.length with ⟨h1,_⟩ | ⟨q',h1,h2,h3⟩
   ·right
    exact ⟨q,by simp,hb,by simp [wideAt,hb,h1]⟩
   ·right
    exact ⟨q',by simp [h1],h2,by simpa [wideAt,hb] using h3⟩
  | false =>
   rcases wideAt_spec l i r n with ⟨h1,h4⟩ | ⟨q',h1,h2,h3⟩
   ·left
    refine ⟨by simp [wideAt,hb,h1],fun x hx => ?_⟩
    rcases List.mem_cons.1 hx with rfl | hx
    ·exact hb
    ·exact h4 x hx
   ·right
    exact ⟨q',by simp [h1],h2,by simpa [wideAt,hb] using h3⟩
theorem seq_wide : ∀ q ∈ Lib.spaceSeqs,q ∈ wides ∨ (∃ b,q = [b] ∧ Lib.isSp b = true):=by
 intro q hq
 have h : ∀ q ∈ Lib.spaceSeqs,wides.contains q = true ∨ (q.length = 1 ∧ Lib.isSp (q.headD 0) = true):=by decide
 rcases h q hq with h | ⟨h1,h2⟩
 ·left; simpa using h
 ·right
  cases q with
  | nil => simp at h1
  | cons b r =>
   cases r with
   | nil => exact ⟨b,rfl,h2⟩
   | cons _ _ => simp at h1
theorem wide_seq : ∀ q ∈ wides,q ∈ Lib.spaceSeqs:=by
 intro q hq
 have h : ∀ q ∈ wides,Lib.spaceSeqs.contains q = true:=by decide
 simpa using h q hq
theorem wide_len : ∀ q ∈ wides,∀ q' ∈ wides,q.head? = q'.head? → q.length = q'.length:=by decide
theorem whiteB_sp (b : UInt8) : whiteB b = Lib.isSp b:=by
 have h : ∀ i : Fin 256,whiteB (UInt8.ofNat i.val) = Lib.isSp (UInt8.ofNat i.val):=by decide
 have:=h ⟨b.toNat,b.toNat_lt⟩
 simpa using this
theorem head_pre {q l : List UInt8} (hq : q ≠ []) (h : q.isPrefixOf l = true) : q.head? = l.head?:=by
 obtain ⟨z,hz⟩:=List.isPrefixOf_iff_prefix.1 h
 cases q with
 | nil => exact absurd rfl hq
 | cons b r => rw [← hz]; rfl
theorem wide_head {l : List UInt8} {i : Nat} (hi : i < l.length) (hw : whiteB l[i] = false) : Lib.headSpace (l.drop i) = wideAt l i 0 wides:=by
 have hd:=List.drop_eq_getElem_cons hi
 have hil : i ≤ l.length:=by omega
 by_cases h : Lib.headSpace (l.drop i) = 0
 ·rw [h]
  rcases wideAt_spec l i wides 0 with ⟨h1,_⟩ | ⟨q,h1,h2,h3⟩
  ·exact h1.symm
  ·exfalso
   rw [begS_prefix l i q hil] at h2
   exact headSpace_of (wide_seq q h1) h2 h
 ·obtain ⟨q,_,hq,hp,he⟩:=find_seq h
  have hqw : q ∈ wides:=by
   rcases seq_wide q hq with h1 | ⟨b,rfl,hb⟩
   ·exact h1
   ·exfalso
    have:=head_pre (by simp) hp
    rw [hd] at this
    have hb2 : b = l[i]:=by simpa [List.getElem?_eq_getElem hi] using this
    rw [whiteB_sp,← hb2,hb] at hw
    cases hw
  rw [he]
  rcases wideAt_spec l i wides 0 with ⟨_,h2⟩ | ⟨q',h1,h2,h3⟩
  ·exfalso
   have:=h2 q hqw
   rw [begS_prefix l i q hil,hp] at this
   cases this
  ·rw [h3]
   rw [begS_prefix l i q' hil] at h2
   refine wide_len q hqw q' h1 ?_
   have hne : ∀ q ∈ wides,q ≠ []:=by decide
   rw [head_pre (hne q hqw) hp,head_pre (hne q' h1) h2]
theorem pageSpace_fn {l : List UInt8} {w : World} (hl : l.length ≤ 1000000) : Fn PT 27 [Wk.S l] w (fun u w' => u = .bool (!(nonSp l)) ∧ Ext w w'):=by
 refine fn_of Tryz.func27 rfl Tryz.ntmps27 rfl ?_
 repeat(first|refine C0 ?_|refine C1 ?_|refine X0 rfl rfl ?_|refine C2 ?_)
 refine RE.xc en36 rfl rfl (pageSpaces_fn w) ?_
 rintro _ w1 ⟨bw,rfl,hbw,e1⟩
 repeat(first|refine C0 ?_|refine C1 ?_|refine X0 rfl rfl ?_|refine C2 ?_)
 refine CE.cut (fun s ds w' => ds = [] ∧ w' = w1 ∧ nonSp l = false) ?_ ?_
 ·refine CE.block ?_
  refine CE.loop (α:=Nat) (fun i => [(4,I i),(3,Sl bw 0 19 19),(0,Wk.S l)]) (fun i w' => w' = w1 ∧ i ≤ l.length ∧ nonSp l = nonSp (l.drop i)) (fun i => l.length - i) 0 ⟨rfl,rfl,rfl,trivial⟩ ⟨rfl,Nat.zero_le _,by simp⟩ ?_
  rintro i w' ⟨hw',hi,hns⟩
  have hw2 : w1 = w':=hw'.symm
  subst hw2
  repeat(first|refine C0 ?_|refine C1 ?_|refine X1 rfl rfl ?_|refine X7 rfl rfl rfl ?_|refine X14 rfl Tryz.underlying9 rfl ?_|refine C2 ?_)
  refine CE.cond_d rfl (fun hlt => ?_) (fun hlt => ?_)
  ·have hil : i < l.length:=by omega
   repeat(first|refine C0 ?_|refine C1 ?_|refine X1 rfl rfl ?_|refine CE.block ?_|refine C3 ?_)
   refine RE.x (op_index_s (b:=l[i]) rfl rfl Tryz.underlying9 (by omega) (by simp [hil])) rfl ?_
   refine RE.xc en37 rfl rfl (pageWhite_fn _ _) ?_
   rintro _ w2 ⟨rfl,hw2⟩
   have hw3 : w1 = w2:=hw2.symm
   subst hw3
   have hd:=List.drop_eq_getElem_cons hil
   repeat (refine C2 ?_)
   refine CE.cond_s rfl (fun hwb => ?_) (fun hwb => ?_)
   ·have hsp : Lib.isSp l[i] = true:=by rw [← whiteB_sp]; exact hwb
    repeat(first|refine C1 ?_|refine X1 rfl rfl ?_|refine X0 rfl rfl ?_|refine X18 rfl rfl (by omega) (by omega) rfl ?_|refine CE.exit (show CE _ _ _ _ _ _ _ from ?_))
    refine RE.nilx ?_
    refine ⟨i + 1,by show l.length - (i + 1) < l.length - i; omega,rfl,⟨rfl,rfl,rfl,trivial⟩,rfl,by omega,?_⟩
    rw [hns,hd,nonSp_step (by rw [head_sp hsp]; decide),head_sp hsp]
    simp
   ·have hhead:=wide_head hil hwb
    repeat(first|refine C0 ?_|refine C1 ?_|refine X1 rfl rfl ?_|refine X0 rfl rfl ?_|refine X13 rfl rfl rfl ?_|refine C2 ?_|refine C3 ?_)
    refine CE.cut (fun s ds w' => ds = [] ∧ w' = w1 ∧ SubL [(5,I (wideAt l i 0 wides)),(4,I i),(3,Sl bw 0 19 19),(0,Wk.S l)] s) ?_ ?_
    ·refine CE.block ?_
     refine CE.loop (α:=Nat) (fun k => [(21,I k),(20,I 19),(19,Sl bw 0 19 19),(5,I (wideAt l i 0 (wides.take k))),(4,I i),(3,Sl bw 0 19 19),(0,Wk.S l)]) (fun k w' => w' = w1 ∧ k ≤ 19) (fun k => 19 - k) 0 ⟨rfl,rfl,rfl,rfl,rfl,rfl,rfl,trivial⟩ ⟨rfl,by omega⟩ ?_
     rintro k w' ⟨hw',hk⟩
     have hw2 : w1 = w':=hw'.symm
     subst hw2
     have hwl : wides.length = 19:=rfl
     repeat(first|refine C0 ?_|refine C1 ?_|refine X7 rfl rfl rfl ?_|refine C2 ?_)
     refine CE.cond_d rfl (fun hk19 => ?_) (fun hk19 => ?_)
     ·have hkw : k < wides.length:=by omega
      have hcell : w1.cell? ⟨bw,0 + (k : Int).toNat * 1,none⟩ = some (Wk.S wides[k]):=by
       refine cell_of hbw ?_
       simp [hkw]
      have htk : wides.take (k + 1) = wides.take k ++ [wides[k]]:=by simp
      have hql : wides[k].length ≤ 3:=by
       have : ∀ q ∈ wides,q.length ≤ 3:=by decide
       exact this _ (List.getElem_mem hkw)
      generalize hqk : wides[k] = q at hcell htk hql
      have hsn:=wideAt_snoc l i q (wides.take k) 0
      rw [← htk] at hsn
      repeat(first|refine C0 ?_|refine C1 ?_|refine CE.block ?_|refine C3 ?_)
      refine RE.x (op_indexAddr rfl rfl rfl (by omega) (by omega)) rfl ?_
      refine RE.x (op_load rfl rfl hcell) rfl ?_
      repeat(first|refine C0 ?_|refine C1 ?_|refine X1 rfl rfl ?_|refine X0 rfl rfl ?_|refine C2 ?_)
      refine RE.xc en34 rfl rfl (pageHas_fn (i:=i) hl (by omega) (by omega)) ?_
      rintro _ w2 ⟨rfl,hw2⟩
      have hw3 : w1 = w2:=hw2.symm
      subst hw3
      repeat (refine C2 ?_)
      refine CE.cond_s rfl (fun hb => ?_) (fun hb => ?_)
      ·repeat(first|refine C1 ?_|refine X1 rfl rfl ?_|refine X0 rfl rfl ?_|refine X14 rfl Tryz.underlying9 rfl ?_|refine X18 rfl rfl (by omega) (by omega) rfl ?_|refine C2 ?_)
       refine RE.nilx ?_
       rw [hb,if_pos rfl] at hsn
       exact ⟨k + 1,by show 19 - (k + 1) < 19 - k; omega,rfl,⟨rfl,rfl,rfl,by rw [hsn]; rfl,rfl,rfl,rfl,trivial⟩,rfl,by omega⟩
      ·refine C3 ?_
       repeat(first|refine C1 ?_|refine X1 rfl rfl ?_|refine X18 rfl rfl (by omega) (by omega) rfl ?_)
       refine RE.nilx ?_
       rw [hb,if_neg (by decide)] at hsn
       exact ⟨k + 1,by show 19 - (k + 1) < 19 - k; omega,rfl,⟨rfl,rfl,rfl,by rw [hsn]; rfl,rfl,rfl,rfl,trivial⟩,rfl,by omega⟩
     ·refine CE.exit ?_
      have hk' : k = 19:=by omega
      subst hk'
      exact ⟨rfl,rfl,rfl,rfl,rfl,rfl,trivial⟩
    ·rintro s _ w' ⟨rfl,hw',hs⟩
     have hw2 : w1 = w':=hw'.symm
     subst hw2
     refine CE.sub hs ?_
     rw [← hhead]
     have hle:=headSpace_le (l:=l.drop i)
     repeat(first|refine C0 ?_|refine C1 ?_|refine X1 rfl rfl ?_|refine X5 rfl rfl rfl ?_|refine C2 ?_)
     refine CE.cond_d rfl (fun h0 => ?_) (fun h0 => ?_)
     ·repeat(first|refine C0 ?_|refine C1 ?_|refine X0 rfl rfl ?_|refine C2 ?_)
      (refine CE.ret ?_;(try dsimp only);refine ret1 rfl rfl ?_)
      refine ⟨?_,e1⟩
      have : nonSp l = true:=by rw [hns]; exact nonSp_stop (by omega) (by intro e; rw [hd] at e; cases e)
      rw [this]; rfl
     ·have h0' : Lib.headSpace (l.drop i) ≠ 0:=by omega
      simp at hle
      repeat(first|refine C1 ?_|refine X1 rfl rfl ?_|refine X0 rfl rfl ?_|refine X18 rfl rfl (by omega) (by omega) rfl ?_|refine X19 rfl rfl (by omega) (by omega) rfl ?_|refine C2 ?_|refine C3 ?_)
      refine RE.nilx ?_
      refine ⟨i + Lib.headSpace (l.drop i),by show l.length - (i + Lib.headSpace (l.drop i)) < l.length - i; omega,rfl,⟨congrArg (fun z => some (I z)) ?_,rfl,rfl,trivial⟩,rfl,by omega,?_⟩
      ·omega
      ·rw [hns,nonSp_step h0',List.drop_drop]
  ·refine CE.exit ?_
   refine ⟨rfl,rfl,?_⟩
   rw [hns,List.drop_eq_nil_of_le (by omega)]
   rfl
 ·rintro s _ w' ⟨rfl,hw',hns⟩
  subst hw'
  repeat(first|refine C0 ?_|refine C1 ?_|refine X0 rfl rfl ?_|refine C2 ?_)
  (refine CE.ret ?_;(try dsimp only);refine ret1 rfl rfl ?_)
  exact ⟨by rw [hns]; rfl,e1⟩
def orIf (b : Bool) (k : Nat) (v : Int) : Int:=if b then bits .or .u16 v (2 ^ k) else v
set_option maxHeartbeats 4000000 in
theorem bits_fn (x : RI) (w : World) (hl : x.text.length ≤ 1000000) : Fn PT 14 [x.val] w (fun u w' => u = .int .u16 (foldBits 0 0 (asks x.ty x.text)) ∧ Ext w w'):=by
 refine fn_of Tryz.func14 rfl Tryz.ntmps14 rfl ?_
 repeat(first|refine C0 ?_|refine C1 ?_)
 refine RE.xe (e_box (cells:=x.lst.toArray) rfl rfl) rfl ?_
 rintro _ w1 ⟨bx,rfl,hn⟩
 have hb0:=hn.here
 have e0:=hn.ext
 refine X0 rfl rfl ?_
 refine C2 ?_
 refine C0 ?_
 refine C1 ?_
 refine X0 rfl rfl ?_
 refine C2 ?_
 have v0 : (0 : Int) = 0:=rfl
 refine C0 ?_
 refine CE.cut (fun s ds w' => ds = [] ∧ Ext w w' ∧ w'.heap[bx]? = some (.cells x.lst.toArray 31 (0,0)) ∧ SubL [(1,Ptr bx 0),(3,.int .u16 (orIf (decide (x.ty = 18) || decide (x.ty = 17)) 0 (0 : Int)))] s) ?_ ?_
 ·repeat(first|refine C0 ?_|refine C1 ?_|refine X1 rfl rfl ?_|refine X3 rfl rfl rfl ?_|refine X22 rfl rfl hb0 rfl rfl ?_|refine X5 rfl rfl rfl ?_)
  refine RE.splitD (fun h1 => ?_) (fun h1 => ?_)
  ·have h1' : x.ty = 18:=h1
   have HB : (decide (x.ty = 18) || decide (x.ty = 17)) = true:=by simp [h1']
   repeat(first|refine X16 rfl rfl rfl rfl ?_|refine RE.nox rfl rfl rfl rfl ?_|refine C2 ?_)
   refine CE.cond_t rfl ?_
   repeat(first|refine C1 ?_|refine X1 rfl rfl ?_)
   refine RE.x (op_or_u16 rfl rfl) rfl ?_
   repeat (refine X0 rfl rfl ?_)
   refine RE.nilx ?_
   exact ⟨rfl,e0,hb0,rfl,congrArg (fun z => some (Value.int .u16 z)) (show _ = _ by simp only [orIf]; rw [if_pos HB]; rfl),trivial⟩
  ·have h1' : ¬ x.ty = 18:=h1
   repeat(first|refine X3 rfl rfl rfl ?_|refine X22 rfl rfl hb0 rfl rfl ?_|refine X5 rfl rfl rfl ?_|refine X17 rfl rfl rfl ?_|refine RE.want rfl rfl ?_|refine C2 ?_)
   refine CE.cond_d rfl (fun h2 => ?_) (fun h2 => ?_)
   ·have h2' : x.ty = 17:=h2
    have HB : (decide (x.ty = 18) || decide (x.ty = 17)) = true:=by simp [h2']
    repeat(first|refine C1 ?_|refine X1 rfl rfl ?_)
    refine RE.x (op_or_u16 rfl rfl) rfl ?_
    repeat (refine X0 rfl rfl ?_)
    refine RE.nilx ?_
    exact ⟨rfl,e0,hb0,rfl,congrArg (fun z => some (Value.int .u16 z)) (show _ = _ by simp only [orIf]; rw [if_pos HB]; rfl),trivial⟩
   ·have h2' : ¬ x.ty = 17:=h2
    have HB : ¬ (decide (x.ty = 18) || decide (x.ty = 17)) = true:=by simp [h1',h2']
    refine CE.skip ?_
    exact ⟨rfl,e0,hb0,rfl,congrArg (fun z => some (Value.int .u16 z)) (show _ = _ by simp only [orIf]; rw [if_neg HB]),trivial⟩
 rintro s0 _ w2 ⟨rfl,e1,hb1,hs0⟩
 refine CE.sub hs0 ?_
 refine C0 ?_
 refine CE.cut (fun s ds w' => ds = [] ∧ Ext w w' ∧ w'.heap[bx]? = some (.cells x.lst.toArray 31 (0,0)) ∧ SubL [(1,Ptr bx 0),(3,.int .u16 (orIf (decide (x.ty = 17)) 1 (orIf (decide (x.ty = 18) || decide (x.ty = 17)) 0 (0 : Int))))] s) ?_ ?_
 ·repeat(first|refine C0 ?_|refine C1 ?_|refine X3 rfl rfl rfl ?_|refine X22 rfl rfl hb1 rfl rfl ?_|refine X5 rfl rfl rfl ?_|refine C2 ?_)
  refine CE.cond_d rfl (fun h1 => ?_) (fun h1 => ?_)
  ·have h1' : x.ty = 17:=h1
   have HB : (decide (x.ty = 17)) = true:=by simp [h1']
   repeat(first|refine C1 ?_|refine X1 rfl rfl ?_)
   refine RE.x (op_or_u16 rfl rfl) rfl ?_
   repeat (refine X0 rfl rfl ?_)
   refine RE.nilx ?_
   exact ⟨rfl,e1,hb1,rfl,congrArg (fun z => some (Value.int .u16 z)) (show _ = _ by simp only [orIf]; rw [if_pos HB]; rfl),trivial⟩
  ·have h1' : ¬ x.ty = 17:=h1
   have HB : ¬ (decide (x.ty = 17)) = true:=by simp [h1']
   refine CE.skip ?_
   exact ⟨rfl,e1,hb1,rfl,congrArg (fun z => some (Value.int .u16 z)) (show _ = _ by simp only [orIf]; rw [if_neg HB]),trivial⟩
 rintro s1 _ w3 ⟨rfl,e2,hb2,hs1⟩
 refine CE.sub hs1 ?_
 refine C0 ?_
 refine CE.cut (fun s ds w' => ds = [] ∧ Ext w w' ∧ w'.heap[bx]? = some (.cells x.lst.toArray 31 (0,0)) ∧ SubL [(1,Ptr bx 0),(3,.int .u16 (orIf (nonSp x.text) 2 (orIf (decide (x.ty = 17)) 1 (orIf (decide (x.ty = 18) || decide (x.ty = 17)) 0 (0 : Int)))))] s) ?_ ?_
 ·repeat(first|refine C0 ?_|refine C1 ?_|refine X3 rfl rfl rfl ?_|refine X22 rfl rfl hb2 rfl rfl ?_)
  refine RE.xc en27 rfl rfl (pageSpace_fn hl) ?_
  rintro _ wq ⟨rfl,eq⟩
  have hbq:=eq.block hb2
  have eqq:=e2.trans eq
  repeat(first|refine X11 rfl rfl ?_|refine C2 ?_)
  refine CE.cond_s rfl (fun h1 => ?_) (fun h1 => ?_)
  ·have HB : nonSp x.text = true:=by simpa using h1
   repeat(first|refine C1 ?_|refine X1 rfl rfl ?_)
   refine RE.x (op_or_u16 rfl rfl) rfl ?_
   repeat (refine X0 rfl rfl ?_)
   refine RE.nilx ?_
   exact ⟨rfl,eqq,hbq,rfl,congrArg (fun z => some (Value.int .u16 z)) (show _ = _ by simp only [orIf]; rw [if_pos HB]; rfl),trivial⟩
  ·have HB : ¬ nonSp x.text = true:=by simpa using h1
   refine CE.skip ?_
   exact ⟨rfl,eqq,hbq,rfl,congrArg (fun z => some (Value.int .u16 z)) (show _ = _ by simp only [orIf]; rw [if_neg HB]),trivial⟩
 rintro s2 _ w4 ⟨rfl,e3,hb3,hs2⟩
 refine CE.sub hs2 ?_
 refine C0 ?_
 refine CE.cut (fun s ds w' => ds = [] ∧ Ext w w' ∧ w'.heap[bx]? = some (.cells x.lst.toArray 31 (0,0)) ∧ SubL [(1,Ptr bx 0),(3,.int .u16 (orIf (decide (x.ty = 13)) 3 (orIf (nonSp x.text) 2 (orIf (decide (x.ty = 17)) 1 (orIf (decide (x.ty = 18) || decide (x.ty = 17)) 0 (0 : Int))))))] s) ?_ ?_
 ·repeat(first|refine C0 ?_|refine C1 ?_|refine X3 rfl rfl rfl ?_|refine X22 rfl rfl hb3 rfl rfl ?_|refine X5 rfl rfl rfl ?_|refine C2 ?_)
  refine CE.cond_d rfl (fun h1 => ?_) (fun h1 => ?_)
  ·have h1' : x.ty = 13:=h1
   have HB : (decide (x.ty = 13)) = true:=by simp [h1']
   repeat(first|refine C1 ?_|refine X1 rfl rfl ?_)
   refine RE.x (op_or_u16 rfl rfl) rfl ?_
   repeat (refine X0 rfl rfl ?_)
   refine RE.nilx ?_
   exact ⟨rfl,e3,hb3,rfl,congrArg (fun z => some (Value.int .u16 z)) (show _ = _ by simp only [orIf]; rw [if_pos HB]; rfl),trivial⟩
  ·have h1' : ¬ x.ty = 13:=h1
   have HB : ¬ (decide (x.ty = 13)) = true:=by simp [h1']
   refine CE.skip ?_
   exact ⟨rfl,e3,hb3,rfl,congrArg (fun z => some (Value.int .u16 z)) (show _ = _ by simp only [orIf]; rw [if_neg HB]),trivial⟩
 rintro s3 _ w5 ⟨rfl,e4,hb4,hs3⟩
 refine CE.sub hs3 ?_
 refine C0 ?_
 refine CE.cut (fun s ds w' => ds = [] ∧ Ext w w' ∧ w'.heap[bx]? = some (.cells x.lst.toArray 31 (0,0)) ∧ SubL [(1,Ptr bx 0),(3,.int .u16 (orIf (decide (x.ty = 14)) 4 (orIf (decide (x.ty = 13)) 3 (orIf (nonSp x.text) 2 (orIf (decide (x.ty = 17)) 1 (orIf (decide (x.ty = 18) || decide (x.ty = 17)) 0 (0 : Int)))))))] s) ?_ ?_
 ·repeat(first|refine C0 ?_|refine C1 ?_|refine X3 rfl rfl rfl ?_|refine X22 rfl rfl hb4 rfl rfl ?_|refine X5 rfl rfl rfl ?_|refine C2 ?_)
  refine CE.cond_d rfl (fun h1 => ?_) (fun h1 => ?_)
  ·have h1' : x.ty = 14:=h1
   have HB : (decide (x.ty = 14)) = true:=by simp [h1']
   repeat(first|refine C1 ?_|refine X1 rfl rfl ?_)
   refine RE.x (op_or_u16 rfl rfl) rfl ?_
   repeat (refine X0 rfl rfl ?_)
   refine RE.nilx ?_
   exact ⟨rfl,e4,hb4,rfl,congrArg (fun z => some (Value.int .u16 z)) (show _ = _ by simp only [orIf]; rw [if_pos HB]; rfl),trivial⟩
  ·have h1' : ¬ x.ty = 14:=h1
   have HB : ¬ (decide (x.ty = 14)) = true:=by simp [h1']
   refine CE.skip ?_
   exact ⟨rfl,e4,hb4,rfl,congrArg (fun z => some (Value.int .u16 z)) (show _ = _ by simp only [orIf]; rw [if_neg HB]),trivial⟩
 rintro s4 _ w6 ⟨rfl,e5,hb5,hs4⟩
 refine CE.sub hs4 ?_
 refine C0 ?_
 refine CE.cut (fun s ds w' => ds = [] ∧ Ext w w' ∧ w'.heap[bx]? = some (.cells x.lst.toArray 31 (0,0)) ∧ SubL [(1,Ptr bx 0),(3,.int .u16 (orIf (decide (x.ty = 10) || decide (x.ty = 8)) 5 (orIf (decide (x.ty = 14)) 4 (orIf (decide (x.ty = 13)) 3 (orIf (nonSp x.text) 2 (orIf (decide (x.ty = 17)) 1 (orIf (decide (x.ty = 18) || decide (x.ty = 17)) 0 (0 : Int))))))))] s) ?_ ?_
 ·repeat(first|refine C0 ?_|refine C1 ?_|refine X1 rfl rfl ?_|refine X3 rfl rfl rfl ?_|refine X22 rfl rfl hb5 rfl rfl ?_|refine X5 rfl rfl rfl ?_)
  refine RE.splitD (fun h1 => ?_) (fun h1 => ?_)
  ·have h1' : x.ty = 8:=h1
   have HB : (decide (x.ty = 10) || decide (x.ty = 8)) = true:=by simp [h1']
   repeat(first|refine X16 rfl rfl rfl rfl ?_|refine RE.nox rfl rfl rfl rfl ?_|refine C2 ?_)
   refine CE.cond_t rfl ?_
   repeat(first|refine C1 ?_|refine X1 rfl rfl ?_)
   refine RE.x (op_or_u16 rfl rfl) rfl ?_
   repeat (refine X0 rfl rfl ?_)
   refine RE.nilx ?_
   exact ⟨rfl,e5,hb5,rfl,congrArg (fun z => some (Value.int .u16 z)) (show _ = _ by simp only [orIf]; rw [if_pos HB]; rfl),trivial⟩
  ·have h1' : ¬ x.ty = 8:=h1
   repeat(first|refine X3 rfl rfl rfl ?_|refine X22 rfl rfl hb5 rfl rfl ?_|refine X5 rfl rfl rfl ?_|refine X17 rfl rfl rfl ?_|refine RE.want rfl rfl ?_|refine C2 ?_)
   refine CE.cond_d rfl (fun h2 => ?_) (fun h2 => ?_)
   ·have h2' : x.ty = 10:=h2
    have HB : (decide (x.ty = 10) || decide (x.ty = 8)) = true:=by simp [h2']
    repeat(first|refine C1 ?_|refine X1 rfl rfl ?_)
    refine RE.x (op_or_u16 rfl rfl) rfl ?_
    repeat (refine X0 rfl rfl ?_)
    refine RE.nilx ?_
    exact ⟨rfl,e5,hb5,rfl,congrArg (fun z => some (Value.int .u16 z)) (show _ = _ by simp only [orIf]; rw [if_pos HB]; rfl),trivial⟩
   ·have h2' : ¬ x.ty = 10:=h2
    have HB : ¬ (decide (x.ty = 10) || decide (x.ty = 8)) = true:=by simp [h1',h2']
    refine CE.skip ?_
    exact ⟨rfl,e5,hb5,rfl,congrArg (fun z => some (Value.int .u16 z)) (show _ = _ by simp only [orIf]; rw [if_neg HB]),trivial⟩
 rintro s5 _ w7 ⟨rfl,e6,hb6,hs5⟩
 refine CE.sub hs5 ?_
 refine C0 ?_
 refine CE.cut (fun s ds w' => ds = [] ∧ Ext w w' ∧ w'.heap[bx]? = some (.cells x.lst.toArray 31 (0,0)) ∧ SubL [(1,Ptr bx 0),(3,.int .u16 (orIf (decide (x.ty = 11) || decide (x.ty = 9)) 6 (orIf (decide (x.ty = 10) || decide (x.ty = 8)) 5 (orIf (decide (x.ty = 14)) 4 (orIf (decide (x.ty = 13)) 3 (orIf (nonSp x.text) 2 (orIf (decide (x.ty = 17)) 1 (orIf (decide (x.ty = 18) || decide (x.ty = 17)) 0 (0 : Int)))))))))] s) ?_ ?_
 ·repeat(first|refine C0 ?_|refine C1 ?_|refine X1 rfl rfl ?_|refine X3 rfl rfl rfl ?_|refine X22 rfl rfl hb6 rfl rfl ?_|refine X5 rfl rfl rfl ?_)
  refine RE.splitD (fun h1 => ?_) (fun h1 => ?_)
  ·have h1' : x.ty = 9:=h1
   have HB : (decide (x.ty = 11) || decide (x.ty = 9)) = true:=by simp [h1']
   repeat(first|refine X16 rfl rfl rfl rfl ?_|refine RE.nox rfl rfl rfl rfl ?_|refine C2 ?_)
   refine CE.cond_t rfl ?_
   repeat(first|refine C1 ?_|refine X1 rfl rfl ?_)
   refine RE.x (op_or_u16 rfl rfl) rfl ?_
   repeat (refine X0 rfl rfl ?_)
   refine RE.nilx ?_
   exact ⟨rfl,e6,hb6,rfl,congrArg (fun z => some (Value.int .u16 z)) (show _ = _ by simp only [orIf]; rw [if_pos HB]; rfl),trivial⟩
  ·have h1' : ¬ x.ty = 9:=h1
   repeat(first|refine X3 rfl rfl rfl ?_|refine X22 rfl rfl hb6 rfl rfl ?_|refine X5 rfl rfl rfl ?_|refine X17 rfl rfl rfl ?_|refine RE.want rfl rfl ?_|refine C2 ?_)
   refine CE.cond_d rfl (fun h2 => ?_) (fun h2 => ?_)
   ·have h2' : x.ty = 11:=h2
    have HB : (decide (x.ty = 11) || decide (x.ty = 9)) = true:=by simp [h2']
    repeat(first|refine C1 ?_|refine X1 rfl rfl ?_)
    refine RE.x (op_or_u16 rfl rfl) rfl ?_
    repeat (refine X0 rfl rfl ?_)
    refine RE.nilx ?_
    exact ⟨rfl,e6,hb6,rfl,congrArg (fun z => some (Value.int .u16 z)) (show _ = _ by simp only [orIf]; rw [if_pos HB]; rfl),trivial⟩
   ·have h2' : ¬ x.ty = 11:=h2
    have HB : ¬ (decide (x.ty = 11) || decide (x.ty = 9)) = true:=by simp [h1',h2']
    refine CE.skip ?_
    exact ⟨rfl,e6,hb6,rfl,congrArg (fun z => some (Value.int .u16 z)) (show _ = _ by simp only [orIf]; rw [if_neg HB]),trivial⟩
 rintro s6 _ w8 ⟨rfl,e7,hb7,hs6⟩
 refine CE.sub hs6 ?_
 refine C0 ?_
 refine CE.cut (fun s ds w' => ds = [] ∧ Ext w w' ∧ w'.heap[bx]? = some (.cells x.lst.toArray 31 (0,0)) ∧ SubL [(1,Ptr bx 0),(3,.int .u16 (orIf (decide (x.ty = 12)) 7 (orIf (decide (x.ty = 11) || decide (x.ty = 9)) 6 (orIf (decide (x.ty = 10) || decide (x.ty = 8)) 5 (orIf (decide (x.ty = 14)) 4 (orIf (decide (x.ty = 13)) 3 (orIf (nonSp x.text) 2 (orIf (decide (x.ty = 17)) 1 (orIf (decide (x.ty = 18) || decide (x.ty = 17)) 0 (0 : Int))))))))))] s) ?_ ?_
 ·repeat(first|refine C0 ?_|refine C1 ?_|refine X3 rfl rfl rfl ?_|refine X22 rfl rfl hb7 rfl rfl ?_|refine X5 rfl rfl rfl ?_|refine C2 ?_)
  refine CE.cond_d rfl (fun h1 => ?_) (fun h1 => ?_)
  ·have h1' : x.ty = 12:=h1
   have HB : (decide (x.ty = 12)) = true:=by simp [h1']
   repeat(first|refine C1 ?_|refine X1 rfl rfl ?_)
   refine RE.x (op_or_u16 rfl rfl) rfl ?_
   repeat (refine X0 rfl rfl ?_)
   refine RE.nilx ?_
   exact ⟨rfl,e7,hb7,rfl,congrArg (fun z => some (Value.int .u16 z)) (show _ = _ by simp only [orIf]; rw [if_pos HB]; rfl),trivial⟩
  ·have h1' : ¬ x.ty = 12:=h1
   have HB : ¬ (decide (x.ty = 12)) = true:=by simp [h1']
   refine CE.skip ?_
   exact ⟨rfl,e7,hb7,rfl,congrArg (fun z => some (Value.int .u16 z)) (show _ = _ by simp only [orIf]; rw [if_neg HB]),trivial⟩
 rintro s7 _ w9 ⟨rfl,e8,hb8,hs7⟩
 refine CE.sub hs7 ?_
 refine C0 ?_
 refine CE.cut (fun s ds w' => ds = [] ∧ Ext w w' ∧ w'.heap[bx]? = some (.cells x.lst.toArray 31 (0,0)) ∧ SubL [(1,Ptr bx 0),(3,.int .u16 (orIf (decide (x.ty = 15)) 8 (orIf (decide (x.ty = 12)) 7 (orIf (decide (x.ty = 11) || decide (x.ty = 9)) 6 (orIf (decide (x.ty = 10) || decide (x.ty = 8)) 5 (orIf (decide (x.ty = 14)) 4 (orIf (decide (x.ty = 13)) 3 (orIf (nonSp x.text) 2 (orIf (decide (x.ty = 17)) 1 (orIf (decide (x.ty = 18) || decide (x.ty = 17)) 0 (0 : Int)))))))))))] s) ?_ ?_
 ·repeat(first|refine C0 ?_|refine C1 ?_|refine X3 rfl rfl rfl ?_|refine X22 rfl rfl hb8 rfl rfl ?_|refine X5 rfl rfl rfl ?_|refine C2 ?_)
  refine CE.cond_d rfl (fun h1 => ?_) (fun h1 => ?_)
  ·have h1' : x.ty = 15:=h1
   have HB : (decide (x.ty = 15)) = true:=by simp [h1']
   repeat(first|refine C1 ?_|refine X1 rfl rfl ?_)
   refine RE.x (op_or_u16 rfl rfl) rfl ?_
   repeat (refine X0 rfl rfl ?_)
   refine RE.nilx ?_
   exact ⟨rfl,e8,hb8,rfl,congrArg (fun z => some (Value.int .u16 z)) (show _ = _ by simp only [orIf]; rw [if_pos HB]; rfl),trivial⟩
  ·have h1' : ¬ x.ty = 15:=h1
   have HB : ¬ (decide (x.ty = 15)) = true:=by simp [h1']
   refine CE.skip ?_
   exact ⟨rfl,e8,hb8,rfl,congrArg (fun z => some (Value.int .u16 z)) (show _ = _ by simp only [orIf]; rw [if_neg HB]),trivial⟩
 rintro s8 _ w10 ⟨rfl,e9,hb9,hs8⟩
 refine CE.sub hs8 ?_
 refine C0 ?_
 refine CE.cut (fun s ds w' => ds = [] ∧ Ext w w' ∧ w'.heap[bx]? = some (.cells x.lst.toArray 31 (0,0)) ∧ SubL [(1,Ptr bx 0),(3,.int .u16 (orIf (decide (x.ty = 16)) 9 (orIf (decide (x.ty = 15)) 8 (orIf (decide (x.ty = 12)) 7 (orIf (decide (x.ty = 11) || decide (x.ty = 9)) 6 (orIf (decide (x.ty = 10) || decide (x.ty = 8)) 5 (orIf (decide (x.ty = 14)) 4 (orIf (decide (x.ty = 13)) 3 (orIf (nonSp x.text) 2 (orIf (decide (x.ty = 17)) 1 (orIf (decide (x.ty = 18) || decide (x.ty = 17)) 0 (0 : Int))))))))))))] s) ?_ ?_
 ·repeat(first|refine C0 ?_|refine C1 ?_|refine X3 rfl rfl rfl ?_|refine X22 rfl rfl hb9 rfl rfl ?_|refine X5 rfl rfl rfl ?_|refine C2 ?_)
  refine CE.cond_d rfl (fun h1 => ?_) (fun h1 => ?_)
  ·have h1' : x.ty = 16:=h1
   have HB : (decide (x.ty = 16)) = true:=by simp [h1']
   repeat(first|refine C1 ?_|refine X1 rfl rfl ?_)
   refine RE.x (op_or_u16 rfl rfl) rfl ?_
   repeat (refine X0 rfl rfl ?_)
   refine RE.nilx ?_
   exact ⟨rfl,e9,hb9,rfl,congrArg (fun z => some (Value.int .u16 z)) (show _ = _ by simp only [orIf]; rw [if_pos HB]; rfl),trivial⟩
  ·have h1' : ¬ x.ty = 16:=h1
   have HB : ¬ (decide (x.ty = 16)) = true:=by simp [h1']
   refine CE.skip ?_
   exact ⟨rfl,e9,hb9,rfl,congrArg (fun z => some (Value.int .u16 z)) (show _ = _ by simp only [orIf]; rw [if_neg HB]),trivial⟩
 rintro s9 _ w11 ⟨rfl,e10,hb10,hs9⟩
 refine CE.sub hs9 ?_
 refine C0 ?_
 refine CE.cut (fun s ds w' => ds = [] ∧ Ext w w' ∧ w'.heap[bx]? = some (.cells x.lst.toArray 31 (0,0)) ∧ SubL [(1,Ptr bx 0),(3,.int .u16 (orIf (decide (x.ty = 10) || decide (x.ty = 11)) 10 (orIf (decide (x.ty = 16)) 9 (orIf (decide (x.ty = 15)) 8 (orIf (decide (x.ty = 12)) 7 (orIf (decide (x.ty = 11) || decide (x.ty = 9)) 6 (orIf (decide (x.ty = 10) || decide (x.ty = 8)) 5 (orIf (decide (x.ty = 14)) 4 (orIf (decide (x.ty = 13)) 3 (orIf (nonSp x.text) 2 (orIf (decide (x.ty = 17)) 1 (orIf (decide (x.ty = 18) || decide (x.ty = 17)) 0 (0 : Int)))))))))))))] s) ?_ ?_
 ·repeat(first|refine C0 ?_|refine C1 ?_|refine X1 rfl rfl ?_|refine X3 rfl rfl rfl ?_|refine X22 rfl rfl hb10 rfl rfl ?_|refine X5 rfl rfl rfl ?_)
  refine RE.splitD (fun h1 => ?_) (fun h1 => ?_)
  ·have h1' : x.ty = 10:=h1
   have HB : (decide (x.ty = 10) || decide (x.ty = 11)) = true:=by simp [h1']
   repeat(first|refine X16 rfl rfl rfl rfl ?_|refine RE.nox rfl rfl rfl rfl ?_|refine C2 ?_)
   refine CE.cond_t rfl ?_
   repeat(first|refine C1 ?_|refine X1 rfl rfl ?_)
   refine RE.x (op_or_u16 rfl rfl) rfl ?_
   repeat (refine X0 rfl rfl ?_)
   refine RE.nilx ?_
   exact ⟨rfl,e10,hb10,rfl,congrArg (fun z => some (Value.int .u16 z)) (show _ = _ by simp only [orIf]; rw [if_pos HB]; rfl),trivial⟩
  ·have h1' : ¬ x.ty = 10:=h1
   repeat(first|refine X3 rfl rfl rfl ?_|refine X22 rfl rfl hb10 rfl rfl ?_|refine X5 rfl rfl rfl ?_|refine X17 rfl rfl rfl ?_|refine RE.want rfl rfl ?_|refine C2 ?_)
   refine CE.cond_d rfl (fun h2 => ?_) (fun h2 => ?_)
   ·have h2' : x.ty = 11:=h2
    have HB : (decide (x.ty = 10) || decide (x.ty = 11)) = true:=by simp [h2']
    repeat(first|refine C1 ?_|refine X1 rfl rfl ?_)
    refine RE.x (op_or_u16 rfl rfl) rfl ?_
    repeat (refine X0 rfl rfl ?_)
    refine RE.nilx ?_
    exact ⟨rfl,e10,hb10,rfl,congrArg (fun z => some (Value.int .u16 z)) (show _ = _ by simp only [orIf]; rw [if_pos HB]; rfl),trivial⟩
   ·have h2' : ¬ x.ty = 11:=h2
    have HB : ¬ (decide (x.ty = 10) || decide (x.ty = 11)) = true:=by simp [h1',h2']
    refine CE.skip ?_
    exact ⟨rfl,e10,hb10,rfl,congrArg (fun z => some (Value.int .u16 z)) (show _ = _ by simp only [orIf]; rw [if_neg HB]),trivial⟩
 rintro s10 _ w12 ⟨rfl,e11,hb11,hs10⟩
 refine CE.sub hs10 ?_
 refine C0 ?_
 refine CE.cut (fun s ds w' => ds = [] ∧ Ext w w' ∧ w'.heap[bx]? = some (.cells x.lst.toArray 31 (0,0)) ∧ SubL [(1,Ptr bx 0),(3,.int .u16 (orIf (decide (3 ≤ x.ty) && decide (x.ty ≤ 6)) 11 (orIf (decide (x.ty = 10) || decide (x.ty = 11)) 10 (orIf (decide (x.ty = 16)) 9 (orIf (decide (x.ty = 15)) 8 (orIf (decide (x.ty = 12)) 7 (orIf (decide (x.ty = 11) || decide (x.ty = 9)) 6 (orIf (decide (x.ty = 10) || decide (x.ty = 8)) 5 (orIf (decide (x.ty = 14)) 4 (orIf (decide (x.ty = 13)) 3 (orIf (nonSp x.text) 2 (orIf (decide (x.ty = 17)) 1 (orIf (decide (x.ty = 18) || decide (x.ty = 17)) 0 (0 : Int))))))))))))))] s) ?_ ?_
 ·repeat(first|refine C0 ?_|refine C1 ?_|refine X1 rfl rfl ?_|refine X3 rfl rfl rfl ?_|refine X22 rfl rfl hb11 rfl rfl ?_|refine X10 rfl rfl rfl ?_)
  refine RE.splitD (fun h1 => ?_) (fun h1 => ?_)
  ·have h1' : x.ty ≥ 3:=h1
   repeat(first|refine X3 rfl rfl rfl ?_|refine X22 rfl rfl hb11 rfl rfl ?_|refine X8 rfl rfl rfl ?_|refine X16 rfl rfl rfl rfl ?_|refine RE.want rfl rfl ?_|refine C2 ?_)
   refine CE.cond_d rfl (fun h2 => ?_) (fun h2 => ?_)
   ·have h2' : x.ty ≤ 6:=h2
    have HB : (decide (3 ≤ x.ty) && decide (x.ty ≤ 6)) = true:=by simp [h2']; omega
    repeat(first|refine C1 ?_|refine X1 rfl rfl ?_)
    refine RE.x (op_or_u16 rfl rfl) rfl ?_
    repeat (refine X0 rfl rfl ?_)
    refine RE.nilx ?_
    exact ⟨rfl,e11,hb11,rfl,congrArg (fun z => some (Value.int .u16 z)) (show _ = _ by simp only [orIf]; rw [if_pos HB]; rfl),trivial⟩
   ·have h2' : ¬ x.ty ≤ 6:=h2
    have HB : ¬ (decide (3 ≤ x.ty) && decide (x.ty ≤ 6)) = true:=by simp; omega
    refine CE.skip ?_
    exact ⟨rfl,e11,hb11,rfl,congrArg (fun z => some (Value.int .u16 z)) (show _ = _ by simp only [orIf]; rw [if_neg HB]),trivial⟩
  ·have h1' : ¬ x.ty ≥ 3:=h1
   have HB : ¬ (decide (3 ≤ x.ty) && decide (x.ty ≤ 6)) = true:=by simp; omega
   repeat(first|refine X17 rfl rfl rfl ?_|refine RE.nox rfl rfl rfl rfl ?_|refine C2 ?_)
   refine CE.cond_f rfl ?_
   refine CE.skip ?_
   exact ⟨rfl,e11,hb11,rfl,congrArg (fun z => some (Value.int .u16 z)) (show _ = _ by simp only [orIf]; rw [if_neg HB]),trivial⟩
 rintro s11 _ w13 ⟨rfl,e12,hb12,hs11⟩
 refine CE.sub hs11 ?_
 refine C0 ?_
 refine CE.cut (fun s ds w' => ds = [] ∧ Ext w w' ∧ w'.heap[bx]? = some (.cells x.lst.toArray 31 (0,0)) ∧ SubL [(1,Ptr bx 0),(3,.int .u16 (orIf (decide (x.ty = 0) || decide (x.ty = 1)) 12 (orIf (decide (3 ≤ x.ty) && decide (x.ty ≤ 6)) 11 (orIf (decide (x.ty = 10) || decide (x.ty = 11)) 10 (orIf (decide (x.ty = 16)) 9 (orIf (decide (x.ty = 15)) 8 (orIf (decide (x.ty = 12)) 7 (orIf (decide (x.ty = 11) || decide (x.ty = 9)) 6 (orIf (decide (x.ty = 10) || decide (x.ty = 8)) 5 (orIf (decide (x.ty = 14)) 4 (orIf (decide (x.ty = 13)) 3 (orIf (nonSp x.text) 2 (orIf (decide (x.ty = 17)) 1 (orIf (decide (x.ty = 18) || decide (x.ty = 17)) 0 (0 : Int)))))))))))))))] s) ?_ ?_
 ·repeat(first|refine C0 ?_|refine C1 ?_|refine X1 rfl rfl ?_|refine X3 rfl rfl rfl ?_|refine X22 rfl rfl hb12 rfl rfl ?_|refine X5 rfl rfl rfl ?_)
  refine RE.splitD (fun h1 => ?_) (fun h1 => ?_)
  ·have h1' : x.ty = 0:=h1
   have HB : (decide (x.ty = 0) || decide (x.ty = 1)) = true:=by simp [h1']
   repeat(first|refine X16 rfl rfl rfl rfl ?_|refine RE.nox rfl rfl rfl rfl ?_|refine C2 ?_)
   refine CE.cond_t rfl ?_
   repeat(first|refine C1 ?_|refine X1 rfl rfl ?_)
   refine RE.x (op_or_u16 rfl rfl) rfl ?_
   repeat (refine X0 rfl rfl ?_)
   refine RE.nilx ?_
   exact ⟨rfl,e12,hb12,rfl,congrArg (fun z => some (Value.int .u16 z)) (show _ = _ by simp only [orIf]; rw [if_pos HB]; rfl),trivial⟩
  ·have h1' : ¬ x.ty = 0:=h1
   repeat(first|refine X3 rfl rfl rfl ?_|refine X22 rfl rfl hb12 rfl rfl ?_|refine X5 rfl rfl rfl ?_|refine X17 rfl rfl rfl ?_|refine RE.want rfl rfl ?_|refine C2 ?_)
   refine CE.cond_d rfl (fun h2 => ?_) (fun h2 => ?_)
   ·have h2' : x.ty = 1:=h2
    have HB : (decide (x.ty = 0) || decide (x.ty = 1)) = true:=by simp [h2']
    repeat(first|refine C1 ?_|refine X1 rfl rfl ?_)
    refine RE.x (op_or_u16 rfl rfl) rfl ?_
    repeat (refine X0 rfl rfl ?_)
    refine RE.nilx ?_
    exact ⟨rfl,e12,hb12,rfl,congrArg (fun z => some (Value.int .u16 z)) (show _ = _ by simp only [orIf]; rw [if_pos HB]; rfl),trivial⟩
   ·have h2' : ¬ x.ty = 1:=h2
    have HB : ¬ (decide (x.ty = 0) || decide (x.ty = 1)) = true:=by simp [h1',h2']
    refine CE.skip ?_
    exact ⟨rfl,e12,hb12,rfl,congrArg (fun z => some (Value.int .u16 z)) (show _ = _ by simp only [orIf]; rw [if_neg HB]),trivial⟩
 rintro s12 _ w14 ⟨rfl,e13,hb13,hs12⟩
 refine CE.sub hs12 ?_
 refine C0 ?_
 refine CE.cut (fun s ds w' => ds = [] ∧ Ext w w' ∧ w'.heap[bx]? = some (.cells x.lst.toArray 31 (0,0)) ∧ SubL [(1,Ptr bx 0),(3,.int .u16 (orIf (decide (x.ty = 1)) 13 (orIf (decide (x.ty = 0) || decide (x.ty = 1)) 12 (orIf (decide (3 ≤ x.ty) && decide (x.ty ≤ 6)) 11 (orIf (decide (x.ty = 10) || decide (x.ty = 11)) 10 (orIf (decide (x.ty = 16)) 9 (orIf (decide (x.ty = 15)) 8 (orIf (decide (x.ty = 12)) 7 (orIf (decide (x.ty = 11) || decide (x.ty = 9)) 6 (orIf (decide (x.ty = 10) || decide (x.ty = 8)) 5 (orIf (decide (x.ty = 14)) 4 (orIf (decide (x.ty = 13)) 3 (orIf (nonSp x.text) 2 (orIf (decide (x.ty = 17)) 1 (orIf (decide (x.ty = 18) || decide (x.ty = 17)) 0 (0 : Int))))))))))))))))] s) ?_ ?_
 ·repeat(first|refine C0 ?_|refine C1 ?_|refine X3 rfl rfl rfl ?_|refine X22 rfl rfl hb13 rfl rfl ?_|refine X5 rfl rfl rfl ?_|refine C2 ?_)
  refine CE.cond_d rfl (fun h1 => ?_) (fun h1 => ?_)
  ·have h1' : x.ty = 1:=h1
   have HB : (decide (x.ty = 1)) = true:=by simp [h1']
   repeat(first|refine C1 ?_|refine X1 rfl rfl ?_)
   refine RE.x (op_or_u16 rfl rfl) rfl ?_
   repeat (refine X0 rfl rfl ?_)
   refine RE.nilx ?_
   exact ⟨rfl,e13,hb13,rfl,congrArg (fun z => some (Value.int .u16 z)) (show _ = _ by simp only [orIf]; rw [if_pos HB]; rfl),trivial⟩
  ·have h1' : ¬ x.ty = 1:=h1
   have HB : ¬ (decide (x.ty = 1)) = true:=by simp [h1']
   refine CE.skip ?_
   exact ⟨rfl,e13,hb13,rfl,congrArg (fun z => some (Value.int .u16 z)) (show _ = _ by simp only [orIf]; rw [if_neg HB]),trivial⟩
 rintro s13 _ w15 ⟨rfl,e14,hb14,hs13⟩
 refine CE.sub hs13 ?_
 refine C0 ?_
 refine CE.cut (fun s ds w' => ds = [] ∧ Ext w w' ∧ w'.heap[bx]? = some (.cells x.lst.toArray 31 (0,0)) ∧ SubL [(1,Ptr bx 0),(3,.int .u16 (orIf (decide (x.ty = 0)) 14 (orIf (decide (x.ty = 1)) 13 (orIf (decide (x.ty = 0) || decide (x.ty = 1)) 12 (orIf (decide (3 ≤ x.ty) && decide (x.ty ≤ 6)) 11 (orIf (decide (x.ty = 10) || decide (x.ty = 11)) 10 (orIf (decide (x.ty = 16)) 9 (orIf (decide (x.ty = 15)) 8 (orIf (decide (x.ty = 12)) 7 (orIf (decide (x.ty = 11) || decide (x.ty = 9)) 6 (orIf (decide (x.ty = 10) || decide (x.ty = 8)) 5 (orIf (decide (x.ty = 14)) 4 (orIf (decide (x.ty = 13)) 3 (orIf (nonSp x.text) 2 (orIf (decide (x.ty = 17)) 1 (orIf (decide (x.ty = 18) || decide (x.ty = 17)) 0 (0 : Int)))))))))))))))))] s) ?_ ?_
 ·repeat(first|refine C0 ?_|refine C1 ?_|refine X3 rfl rfl rfl ?_|refine X22 rfl rfl hb14 rfl rfl ?_|refine X5 rfl rfl rfl ?_|refine C2 ?_)
  refine CE.cond_d rfl (fun h1 => ?_) (fun h1 => ?_)
  ·have h1' : x.ty = 0:=h1
   have HB : (decide (x.ty = 0)) = true:=by simp [h1']
   repeat(first|refine C1 ?_|refine X1 rfl rfl ?_)
   refine RE.x (op_or_u16 rfl rfl) rfl ?_
   repeat (refine X0 rfl rfl ?_)
   refine RE.nilx ?_
   exact ⟨rfl,e14,hb14,rfl,congrArg (fun z => some (Value.int .u16 z)) (show _ = _ by simp only [orIf]; rw [if_pos HB]; rfl),trivial⟩
  ·have h1' : ¬ x.ty = 0:=h1
   have HB : ¬ (decide (x.ty = 0)) = true:=by simp [h1']
   refine CE.skip ?_
   exact ⟨rfl,e14,hb14,rfl,congrArg (fun z => some (Value.int .u16 z)) (show _ = _ by simp only [orIf]; rw [if_neg HB]),trivial⟩
 rintro s14 _ w16 ⟨rfl,e15,hb15,hs14⟩
 refine CE.sub hs14 ?_
 repeat(first|refine C0 ?_|refine C1 ?_|refine X1 rfl rfl ?_|refine X0 rfl rfl ?_|refine C2 ?_)
 (refine CE.ret ?_;(try dsimp only);refine ret1 rfl rfl ?_)
 refine ⟨?_,e15⟩
 rfl
end Go.Wk
