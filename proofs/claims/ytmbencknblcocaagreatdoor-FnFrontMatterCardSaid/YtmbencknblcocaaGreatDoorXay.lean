/- IsProbablySourceOfItems. -/
import Derived.Test.YtmbencknblcocaaGreatDoorXaw
namespace Go.Wk
open Go Go.RowKit Go.Proofs
set_option maxRecDepth 100000

/-- The search through the items. -/
def srcGo (o : List UInt8) : List PI → Bool
  | [] => true
  | p :: r => if p.ty = 0 then false else if p.ty = 1 then true else if h : p.pos < o.length then (if p.fb = o[p.pos].toNat then srcGo o r else false) else false
def source (o : List UInt8) (ps : List PI) : Bool :=
  match ps.getLast? with
  | none => false
  | some e => if e.ty = 1 then (if e.pos = o.length then srcGo o ps else false) else false

theorem source_fn {B ob : Nat} {o : List UInt8} {sv it : Value} {xs : List IC} {ps : List PI} {w : World} (hs : HBk ob w sv o) (hob : Own B w it xs) (hall : All2 (IRep w) xs ps) (hne : ps ≠ []) (hn : ps.length ≤ 20000000) (ho : o.length ≤ 1000000) :
    Fn PT 33 [sv, it] w (fun u w' => u = .bool (source o ps) ∧ Ext w w') := by
  have hxl := forall2_len hall
  obtain ⟨a0, cap0, hit⟩ := hob.len0
  subst hit
  obtain ⟨sa, sc, rfl, hcp, hcl⟩ := hs
  have hpl : 0 < ps.length := by cases ps with | nil => exact absurd rfl hne | cons _ _ => simp
  have hmax : maxLen = 9223372036854775807 := rfl
  refine fn_of Tryz.func33 rfl Tryz.ntmps33 rfl ?_
  refine CE.seq ?_
  refine CE.text ?_
  refine RE.x (op_assign rfl) rfl ?_
  refine RE.nilx (show CE _ _ _ _ _ _ _ from ?_)
  repeat refine CE.seq ?_
  refine CE.cut (fun s ds w' => ds = [] ∧ w' = w ∧ SubL [(15, .bool false), (1, .slice a0 xs.length cap0), (0, .slice sa o.length sc)] s) ?_ ?_
  · repeat (first | refine CE.text ?_ | refine RE.x (op_move rfl) rfl ?_ | refine RE.x (op_eql rfl rfl) rfl ?_ | refine RE.x (op_len_sl rfl rfl) rfl ?_)
    refine RE.splitD (fun h1 => ?_) (fun h1 => ?_)
    · repeat (first | refine RE.x (op_move rfl) rfl ?_ | refine RE.x (op_eql rfl rfl) rfl ?_ | refine RE.x (op_len_sl rfl rfl) rfl ?_ | refine RE.x (op_pick_t rfl rfl rfl) rfl ?_ | refine RE.want rfl rfl ?_)
      have h0 : decide ((xs.length : Int) = 0) = false := decide_eq_false (by omega)
      rw [h0]
      skip
      refine RE.nilx ?_
      exact ⟨rfl, rfl, rfl, rfl, rfl, trivial⟩
    · repeat (first | refine RE.x (op_pick_f rfl rfl) rfl ?_ | refine RE.nox rfl rfl rfl rfl ?_)
      refine RE.nilx ?_
      exact ⟨rfl, rfl, rfl, rfl, rfl, trivial⟩
  rintro s _ w' ⟨rfl, hw', hsb⟩
  subst hw'
  refine CE.sub hsb ?_
  refine CE.cond_f rfl ?_
  refine CE.skip (show CE _ _ _ _ _ _ _ from ?_)
  repeat (first | refine CE.seq ?_ | refine CE.text ?_ | refine RE.x (op_move rfl) rfl ?_ | refine RE.x (op_eql rfl rfl) rfl ?_ | refine RE.x (op_len_sl rfl rfl) rfl ?_ | refine RE.nilx (show CE _ _ _ _ _ _ _ from ?_))
  refine CE.cond_d rfl (fun h2 => ?_) (fun h2 => ?_)
  · omega
  repeat (first | refine CE.seq ?_ | refine CE.text ?_ | refine RE.x (op_move rfl) rfl ?_ | refine RE.x (op_len_sl rfl rfl) rfl ?_ | refine RE.x (op_sub64 rfl rfl (by omega) (by omega)) rfl ?_ | refine CE.skip (show CE _ _ _ _ _ _ _ from ?_))
  have hxs : xs.length - 1 < xs.length := by omega
  obtain ⟨g, cap, cur, hv', hg, hcur⟩ := hob.item hxs
  cases hv'
  have hel := all2_at hall (xs.length - 1) hxs (by omega)
  have hlast : ps.getLast? = some (ps[xs.length - 1]'(by omega)) := by rw [List.getLast?_eq_getElem?, show ps.length - 1 = xs.length - 1 by omega]; exact List.getElem?_eq_getElem _
  generalize ps[xs.length - 1] = e at hel hlast
  generalize xs[xs.length - 1] = x at hel hcur
  refine RE.x (op_indexAddr rfl rfl rfl (by omega) (by omega)) rfl ?_
  have e0 : 0 + ((xs.length : Int) - 1).toNat * 7 = (xs.length - 1) * 7 := by omega
  rw [e0]
  refine RE.x (op_loadA (k := 7) (vs := x.lst) rfl rfl hg hcur rfl) rfl ?_
  refine RE.xe (e_alloc (cells := #[I 0, .nilIface, I 0, I 0, .slice none 0 0, .int .u8 0, .bool false]) Tryz.zeroValue63 rfl) rfl ?_
  rintro _ w1 ⟨bx, rfl, hn1⟩
  refine RE.xs (e_storeA (k := 7) (cells := x.lst.toArray) rfl rfl rfl hn1.here rfl rfl (by simpa using IC.lst_one hel.evOne)) ?_
  rintro _ w2 hu2
  have e2 : Ext w' w2 := hn1.ext.fr (Fr.of_upd (S := (· = bx)) hu2 rfl) (fun q hq => by subst hq; have := hn1.num; omega)
  have hb2 := hu2.here
  repeat (first | refine CE.seq ?_ | refine CE.text ?_ | refine RE.x (op_fieldAddr0 rfl rfl) rfl ?_ | refine RE.x (op_loadB rfl rfl hb2 rfl) rfl ?_ | refine RE.x (op_neq rfl rfl) rfl ?_ | refine RE.nilx (show CE _ _ _ _ _ _ _ from ?_))
  refine CE.cond_d rfl (fun h3 => ?_) (fun h3 => ?_)
  · repeat (first | refine CE.seq ?_ | refine CE.text ?_ | refine RE.x (op_assign rfl) rfl ?_ | refine RE.nilx (show CE _ _ _ _ _ _ _ from ?_))
    (refine CE.ret ?_; (try dsimp only); refine ret1 rfl rfl ?_)
    have : source o ps = false := by unfold source; rw [hlast]; dsimp only; rw [if_neg (fun h => h3 (by rw [hel.ty, h]))]
    rw [this]
    exact ⟨rfl, e2⟩
  refine CE.skip (show CE _ _ _ _ _ _ _ from ?_)
  have h3' : e.ty = 1 := by rw [← hel.ty]; omega
  repeat (first | refine CE.seq ?_ | refine CE.text ?_ | refine RE.x (op_loadA rfl rfl hb2 rfl rfl) rfl ?_)
  refine RE.xc en44 rfl rfl (pos_fn (hel.ext e2).at) ?_
  rintro _ w3 ⟨rfl, e3⟩
  repeat (first | refine RE.x (op_move rfl) rfl ?_ | refine RE.x (op_neq rfl rfl) rfl ?_ | refine RE.x (op_len_sl rfl rfl) rfl ?_ | refine RE.nilx (show CE _ _ _ _ _ _ _ from ?_))
  refine CE.cond_d rfl (fun h4 => ?_) (fun h4 => ?_)
  · repeat (first | refine CE.seq ?_ | refine CE.text ?_ | refine RE.x (op_assign rfl) rfl ?_ | refine RE.nilx (show CE _ _ _ _ _ _ _ from ?_))
    (refine CE.ret ?_; (try dsimp only); refine ret1 rfl rfl ?_)
    have : source o ps = false := by unfold source; rw [hlast]; dsimp only; rw [if_pos h3', if_neg (by omega)]
    rw [this]
    exact ⟨rfl, e2.trans e3⟩
  refine CE.skip (show CE _ _ _ _ _ _ _ from ?_)
  have hsrc : source o ps = srcGo o ps := by unfold source; rw [hlast]; dsimp only; rw [if_pos h3', if_pos (by omega)]
  rw [hsrc]
  have e13 := e2.trans e3
  repeat (first | refine CE.seq ?_ | refine CE.text ?_ | refine RE.x (op_move rfl) rfl ?_ | refine RE.x (op_len_sl rfl rfl) rfl ?_ | refine RE.nilx (show CE _ _ _ _ _ _ _ from ?_))
  refine CE.block ?_
  refine CE.loop (α := Nat) (fun k => [(35, I k), (34, I xs.length), (33, .slice (some ⟨g, 0, none⟩) xs.length cap0), (0, .slice sa o.length sc)])
    (fun k w' => Ext w3 w' ∧ k ≤ xs.length ∧ srcGo o ps = srcGo o (ps.drop k)) (fun k => xs.length - k) 0 ⟨rfl, rfl, rfl, rfl, trivial⟩ ⟨Ext.refl _, Nat.zero_le _, rfl⟩ ?_
  rintro k w4 ⟨e4, hk, hgo⟩
  repeat (first | refine CE.seq ?_ | refine CE.text ?_ | refine RE.x (op_lss rfl rfl) rfl ?_ | refine RE.nilx (show CE _ _ _ _ _ _ _ from ?_))
  refine CE.cond_d rfl (fun hlt => ?_) (fun hlt => ?_)
  · have hkx : k < xs.length := by omega
    have hkp : k < ps.length := by omega
    obtain ⟨g', cap', cur', hv', hg', hcur'⟩ := hob.item hkx
    cases hv'
    have hg4 := (e13.trans e4).block hg'
    have hp := all2_at hall k hkx hkp
    have hdr := List.drop_eq_getElem_cons hkp
    generalize ps[k] = p at hp hdr
    generalize xs[k] = y at hp hcur'
    rw [hdr] at hgo
    repeat (first | refine CE.seq ?_ | refine CE.text ?_ | refine CE.block ?_ | refine CE.skip (show CE _ _ _ _ _ _ _ from ?_))
    refine RE.x (op_indexAddr rfl rfl rfl (by omega) (by omega)) rfl ?_
    have e0 : 0 + (k : Int).toNat * 7 = k * 7 := by omega
    rw [e0]
    refine RE.x (op_loadA (k := 7) (vs := y.lst) rfl rfl hg4 hcur' rfl) rfl ?_
    refine RE.xe (e_alloc (cells := #[I 0, .nilIface, I 0, I 0, .slice none 0 0, .int .u8 0, .bool false]) Tryz.zeroValue63 rfl) rfl ?_
    rintro _ w5 ⟨by5, rfl, hn5⟩
    refine RE.xs (e_storeA (k := 7) (cells := y.lst.toArray) rfl rfl rfl hn5.here rfl rfl (by simpa using IC.lst_one hp.evOne)) ?_
    rintro _ w6 hu6
    have e6 : Ext w4 w6 := hn5.ext.fr (Fr.of_upd (S := (· = by5)) hu6 rfl) (fun q hq => by subst hq; have := hn5.num; omega)
    have hb6 := hu6.here
    have e06 := (e13.trans e4).trans e6
    repeat (first | refine CE.seq ?_ | refine CE.text ?_ | refine RE.x (op_fieldAddr0 rfl rfl) rfl ?_ | refine RE.x (op_loadB rfl rfl hb6 rfl) rfl ?_ | refine RE.x (op_eql rfl rfl) rfl ?_ | refine RE.nilx (show CE _ _ _ _ _ _ _ from ?_))
    refine CE.cond_d rfl (fun h5 => ?_) (fun h5 => ?_)
    · repeat (first | refine CE.seq ?_ | refine CE.text ?_ | refine RE.x (op_assign rfl) rfl ?_ | refine RE.nilx (show CE _ _ _ _ _ _ _ from ?_))
      (refine CE.ret ?_; (try dsimp only); refine ret1 rfl rfl ?_)
      rw [hgo]
      unfold srcGo
      rw [if_pos (by rw [← hp.ty]; exact h5)]
      exact ⟨rfl, e06⟩
    refine CE.skip (show CE _ _ _ _ _ _ _ from ?_)
    have hy0 : ¬ p.ty = 0 := by rw [← hp.ty]; exact h5
    repeat (first | refine CE.seq ?_ | refine CE.text ?_ | refine RE.x (op_fieldAddr0 rfl rfl) rfl ?_ | refine RE.x (op_loadB rfl rfl hb6 rfl) rfl ?_ | refine RE.x (op_eql rfl rfl) rfl ?_ | refine RE.nilx (show CE _ _ _ _ _ _ _ from ?_))
    refine CE.cond_d rfl (fun h6 => ?_) (fun h6 => ?_)
    · repeat (first | refine CE.seq ?_ | refine CE.text ?_ | refine RE.x (op_assign rfl) rfl ?_ | refine RE.nilx (show CE _ _ _ _ _ _ _ from ?_))
      (refine CE.ret ?_; (try dsimp only); refine ret1 rfl rfl ?_)
      rw [hgo]
      unfold srcGo
      rw [if_neg hy0, if_pos (by rw [← hp.ty]; exact h6)]
      exact ⟨rfl, e06⟩
    refine CE.skip (show CE _ _ _ _ _ _ _ from ?_)
    have hy1 : ¬ p.ty = 1 := by rw [← hp.ty]; exact h6
    repeat (first | refine CE.seq ?_ | refine CE.text ?_ | refine RE.x (op_loadA rfl rfl hb6 rfl rfl) rfl ?_)
    refine RE.xc en44 rfl rfl (pos_fn (hp.ext e06).at) ?_
    rintro _ w7 ⟨rfl, e7⟩
    have e07 := e06.trans e7
    repeat (first | refine RE.x (op_move rfl) rfl ?_ | refine RE.x (op_geq rfl rfl) rfl ?_ | refine RE.x (op_len_sl rfl rfl) rfl ?_ | refine RE.nilx (show CE _ _ _ _ _ _ _ from ?_))
    refine CE.cond_d rfl (fun h7 => ?_) (fun h7 => ?_)
    · repeat (first | refine CE.seq ?_ | refine CE.text ?_ | refine RE.x (op_assign rfl) rfl ?_ | refine RE.nilx (show CE _ _ _ _ _ _ _ from ?_))
      (refine CE.ret ?_; (try dsimp only); refine ret1 rfl rfl ?_)
      rw [hgo]
      unfold srcGo
      rw [if_neg hy0, if_neg hy1, dif_neg (by omega)]
      exact ⟨rfl, e07⟩
    refine CE.skip (show CE _ _ _ _ _ _ _ from ?_)
    have hpo : p.pos < o.length := by omega
    have hb7d : w7.drew.heap[by5]? = _ := e7.block hb6
    obtain ⟨oo, rfl, hcells⟩ := hcl (by intro e; subst e; simp at hpo)
    have hcp7 : w7.drew.cell? ⟨ob, oo + (p.pos : Int).toNat * 1, none⟩ = some (Wk.B o[p.pos]) := by
      have e1 : oo + (p.pos : Int).toNat * 1 = oo + p.pos := by omega
      rw [e1]
      exact (e07.trans (Ext.drew _)).cell (hcells p.pos hpo)
    repeat refine CE.seq ?_
    refine CE.drawR Ext [0, 0, 0, 0, 0, 0, 0, 0] mixed Ext.refl (fun _ _ _ => Ext.trans) (by decide +kernel) ?_
    repeat (first | refine RE.dd (fun _ hw => op_move rfl) rfl Ext.refl ?_ | refine RE.dd (fun _ hw => op_fieldAddr0 rfl rfl) rfl Ext.refl ?_ | refine RE.dd (fun _ hw => op_loadB rfl rfl (Ext.block hw hb7d) rfl) rfl Ext.refl ?_ | refine RE.dd (fun _ hw => op_loadA rfl rfl (Ext.block hw hb7d) rfl rfl) rfl Ext.refl ?_)
    refine RE.dc en44 rfl rfl (fun w8 hw8 => pos_fn ((hp.ext e07).ext ((Ext.drew _).trans hw8)).at) ?_
    skip
    refine RE.dd (fun _ _ => op_indexAddr rfl rfl rfl (by omega) (by omega)) rfl Ext.refl ?_
    refine RE.dd (fun _ hw => op_load rfl rfl (hw.cell hcp7)) rfl Ext.refl ?_
    repeat (refine RE.dd (fun _ hw => op_neq rfl rfl) rfl Ext.refl ?_)
    refine RE.nil (fun w8 hw8 => show CE _ _ _ _ _ _ _ from ?_)
    have e08 := e07.trans ((Ext.drew _).trans hw8)
    refine CE.cond_d rfl (fun h8 => ?_) (fun h8 => ?_)
    · repeat (first | refine CE.seq ?_ | refine CE.text ?_ | refine RE.x (op_assign rfl) rfl ?_ | refine RE.nilx (show CE _ _ _ _ _ _ _ from ?_))
      (refine CE.ret ?_; (try dsimp only); refine ret1 rfl rfl ?_)
      rw [hgo]
      unfold srcGo
      rw [if_neg hy0, if_neg hy1, dif_pos hpo, if_neg (by rw [← hp.fb]; omega)]
      exact ⟨rfl, e08⟩
    · refine CE.skip (show CE _ _ _ _ _ _ _ from ?_)
      repeat (first | refine CE.text ?_ | refine RE.x (op_move rfl) rfl ?_ | refine RE.x (op_add64 rfl rfl (by omega) (by omega)) rfl ?_)
      refine RE.nilx ?_
      refine ⟨k + 1, by show xs.length - (k + 1) < xs.length - k; omega, rfl, ⟨rfl, rfl, rfl, rfl, trivial⟩, (e4.trans e6).trans (e7.trans ((Ext.drew _).trans hw8)), hkx, ?_⟩
      rw [hgo]
      conv => lhs; unfold srcGo
      rw [if_neg hy0, if_neg hy1, dif_pos hpo, if_pos (by rw [← hp.fb]; omega)]
  · refine CE.exit ?_
    have hk' : k = ps.length := by omega
    subst hk'
    repeat (first | refine CE.seq ?_ | refine CE.text ?_ | refine RE.x (op_assign rfl) rfl ?_ | refine RE.nilx (show CE _ _ _ _ _ _ _ from ?_))
    (refine CE.ret ?_; (try dsimp only); refine ret1 rfl rfl ?_)
    rw [hgo, List.drop_length]
    exact ⟨rfl, e13.trans e4⟩

/-- Is a text the source of a page's items? -/
theorem sourceOf_fn {B : Nat} {t o : List UInt8} {f d : Bool} {ps : List PI} {w : World} (hr : Runs t (!f) (!d) ps) (hT : TabsB B w) (hB : B ≤ w.heap.size) (ht : t.length ≤ 1000000) (ho : o.length ≤ 1000000) (hn : ps.length ≤ 20000000) (hne : ps ≠ []) :
    Fn PT 23 [S t, .bool f, .bool d, S o] w (fun u w' => u = .bool (source o ps) ∧ Ext w w') := by
  refine fn_of Tryz.func23 rfl Tryz.ntmps23 rfl ?_
  repeat (first | refine CE.seq ?_ | refine CE.text ?_ | refine RE.x (op_move rfl) rfl ?_ | refine RE.x (op_assign rfl) rfl ?_ | refine RE.nilx (show CE _ _ _ _ _ _ _ from ?_))
  refine RE.xe (e_conv_sb rfl) rfl ?_
  rintro v w1 ⟨b, hb, hb1, hb2, e1⟩
  repeat (refine RE.x (op_move rfl) rfl ?_)
  refine RE.xc en32 rfl rfl (config_fn f d w1) ?_
  rintro _ w2 ⟨rfl, e2⟩
  have e12 := e1.trans e2
  obtain ⟨a, cp, rfl, hcp, hcl⟩ := hb
  have hb' : HBk b w2 (.slice a t.length cp) t := HBk.ext ⟨a, cp, rfl, hcp, hcl⟩ e2
  skip
  refine RE.xc en31 rfl rfl (ParseBytes_fn hr hb' (by have := e2.size; omega) (hT.ext hB e12) (by have := e12.size; omega) ht) ?_
  rintro _ w3 ⟨it, xs, rfl, hown, hall, e3⟩
  have e13 := e12.trans e3
  repeat (first | refine CE.seq ?_ | refine CE.text ?_ | refine RE.x (op_move rfl) rfl ?_ | refine RE.x (op_assign rfl) rfl ?_ | refine RE.x (op_extract rfl rfl) rfl ?_ | refine RE.nilx (show CE _ _ _ _ _ _ _ from ?_))
  refine RE.xe (e_conv_sb rfl) rfl ?_
  rintro v w4 ⟨b4, hb4, _, _, e4⟩
  repeat (refine RE.x (op_move rfl) rfl ?_)
  refine RE.xc en33 rfl rfl (source_fn hb4 (ownsRow_ext hown e4) (forall2_mono (fun x p hr => hr.ext e4) hall) hne hn ho) ?_
  rintro _ w5 ⟨rfl, e5⟩
  repeat (first | refine RE.x (op_assign rfl) rfl ?_ | refine RE.nilx (show CE _ _ _ _ _ _ _ from ?_))
  (refine CE.ret ?_; (try dsimp only); refine ret1 rfl rfl ?_)
  exact ⟨rfl, (e13.trans e4).trans e5⟩
end Go.Wk
namespace Go.Wk
open Go Go.RowKit Go.Proofs
set_option maxRecDepth 100000

theorem item_cell {w : World} {g k : Nat} {cur : Array Value} {T : TypeId} {l : List Value} {u : Value} (hg : w.heap[g]? = some (.cells cur T (0, 0))) (hcur : (cur.toList.drop (k * 5)).take 5 = l) (j : Nat) (hj : j < 5) (hu : l[j]? = some u) :
    w.cell? ⟨g, k * 5 + j, none⟩ = some u := by
  refine cell_of hg ?_
  rw [← hcur, List.getElem?_take, if_pos hj, List.getElem?_drop] at hu
  simpa using hu

def wholeB (rs : List RI) : Bool := rs.all (fun x => decide (x.ty ≠ 0)) && (match rs.getLast? with | none => false | some e => decide (e.ty = 1))

theorem last_at {rs : List RI} (h : 0 < rs.length) : rs.getLast? = some (rs[rs.length - 1]'(by omega)) := by
  rw [List.getLast?_eq_getElem?]; exact List.getElem?_eq_getElem _

theorem whole_fn {B : Nat} {rs : List RI} {v : Value} {w : World} (h : OwnR B w v rs) (hn : rs.length ≤ 20000000) :
    Fn PT 13 [v] w (fun u w' => u = .bool (wholeB rs) ∧ Ext w w') := by
  obtain ⟨a0, cap0, hv⟩ := h.len0
  subst hv
  have hmax : maxLen = 9223372036854775807 := rfl
  refine fn_of Tryz.func13 rfl Tryz.ntmps13 rfl ?_
  repeat (first | refine CE.seq ?_ | refine CE.text ?_ | refine RE.x (op_move rfl) rfl ?_ | refine RE.x (op_assign rfl) rfl ?_ | refine RE.x (op_len_sl rfl rfl) rfl ?_ | refine RE.nilx (show CE _ _ _ _ _ _ _ from ?_))
  refine CE.cut (fun s ds w' => ds = [] ∧ Ext w w' ∧ rs.all (fun x => decide (x.ty ≠ 0)) = true ∧ SubL [(0, .slice a0 rs.length cap0)] s) ?_ ?_
  · refine CE.block ?_
    refine CE.loop (α := Nat) (fun k => [(7, I k), (6, I rs.length), (5, .slice a0 rs.length cap0), (0, .slice a0 rs.length cap0)])
      (fun k w' => Ext w w' ∧ k ≤ rs.length ∧ rs.all (fun x => decide (x.ty ≠ 0)) = (rs.drop k).all (fun x => decide (x.ty ≠ 0))) (fun k => rs.length - k) 0 ⟨rfl, rfl, rfl, rfl, trivial⟩ ⟨Ext.refl _, Nat.zero_le _, rfl⟩ ?_
    rintro k w2 ⟨e2, hk, hgo⟩
    repeat (first | refine CE.seq ?_ | refine CE.text ?_ | refine RE.x (op_lss rfl rfl) rfl ?_ | refine RE.nilx (show CE _ _ _ _ _ _ _ from ?_))
    refine CE.cond_d rfl (fun hlt => ?_) (fun hlt => ?_)
    · have hkx : k < rs.length := by omega
      obtain ⟨g, cap, cur, hv, hg, hcur⟩ := h.item hkx
      cases hv
      have hg2 := e2.block hg
      have hd := List.drop_eq_getElem_cons hkx
      generalize hxk : rs[k] = x at hcur hd
      rw [hd, List.all_cons] at hgo
      repeat (first | refine CE.seq ?_ | refine CE.text ?_ | refine CE.block ?_ | refine CE.skip (show CE _ _ _ _ _ _ _ from ?_))
      refine RE.x (op_indexAddr rfl rfl rfl (by omega) (by omega)) rfl ?_
      have e0 : 0 + (k : Int).toNat * 5 = k * 5 := by omega
      rw [e0]
      refine RE.x (op_loadA (k := 5) (vs := x.lst) rfl rfl hg2 hcur rfl) rfl ?_
      refine RE.xe (e_alloc (cells := #[I 0, I 0, S [], .bool false, .int .u16 0]) Tryz.zeroValue31 rfl) rfl ?_
      rintro _ w3 ⟨bx, rfl, hn3⟩
      refine RE.xs (e_storeA (k := 5) (cells := x.lst.toArray) rfl rfl rfl hn3.here rfl rfl (by simp [RI.lst, Value.oneCell'])) ?_
      rintro _ w4 hu4
      have e34 : Ext w2 w4 := hn3.ext.fr (Fr.of_upd (S := (· = bx)) hu4 rfl) (fun q hq => by subst hq; have := hn3.num; omega)
      have e4 := e2.trans e34
      have hb4 := hu4.here
      repeat (first | refine CE.seq ?_ | refine CE.text ?_ | refine RE.x (op_fieldAddr0 rfl rfl) rfl ?_ | refine RE.x (op_loadB rfl rfl hb4 rfl) rfl ?_ | refine RE.x (op_eql rfl rfl) rfl ?_ | refine RE.nilx (show CE _ _ _ _ _ _ _ from ?_))
      refine CE.cond_d rfl (fun h5 => ?_) (fun h5 => ?_)
      · repeat (first | refine CE.seq ?_ | refine CE.text ?_ | refine RE.x (op_assign rfl) rfl ?_ | refine RE.nilx (show CE _ _ _ _ _ _ _ from ?_))
        (refine CE.ret ?_; (try dsimp only); refine ret1 rfl rfl ?_)
        have : wholeB rs = false := by unfold wholeB; rw [hgo, decide_eq_false (by simpa using h5)]; rfl
        rw [this]
        exact ⟨rfl, e4⟩
      · refine CE.skip (show CE _ _ _ _ _ _ _ from ?_)
        repeat (first | refine CE.text ?_ | refine RE.x (op_move rfl) rfl ?_ | refine RE.x (op_add64 rfl rfl (by omega) (by omega)) rfl ?_)
        refine RE.nilx ?_
        refine ⟨k + 1, by show rs.length - (k + 1) < rs.length - k; omega, rfl, ⟨rfl, rfl, rfl, rfl, trivial⟩, e4, hkx, ?_⟩
        rw [hgo, decide_eq_true (show x.ty ≠ 0 from h5), Bool.true_and]
    · refine CE.exit ?_
      have hk' : k = rs.length := by omega
      subst hk'
      exact ⟨rfl, e2, by rw [hgo, List.drop_length]; rfl, rfl, trivial⟩
  · rintro s _ w2 ⟨rfl, e2, hall, hs⟩
    refine CE.sub hs ?_
    repeat (first | refine CE.seq ?_ | refine CE.text ?_ | refine RE.x (op_move rfl) rfl ?_ | refine RE.x (op_gtr rfl rfl) rfl ?_ | refine RE.x (op_len_sl rfl rfl) rfl ?_)
    refine RE.splitD (fun h1 => ?_) (fun h1 => ?_)
    · have hpl : 0 < rs.length := by omega
      obtain ⟨g, cap, cur, hv, hg, hcur⟩ := h.item (k := rs.length - 1) (by omega)
      cases hv
      have hg2 := e2.block hg
      have hl := last_at hpl
      generalize rs[rs.length - 1] = x at hcur hl
      repeat (first | refine RE.x (op_move rfl) rfl ?_ | refine RE.x (op_len_sl rfl rfl) rfl ?_ | refine RE.x (op_sub64 rfl rfl (by omega) (by omega)) rfl ?_ | refine RE.want rfl rfl ?_)
      refine RE.x (op_indexAddr rfl rfl rfl (by omega) (by omega)) rfl ?_
      have e0 : 0 + ((rs.length : Int) - 1).toNat * 5 = (rs.length - 1) * 5 := by omega
      rw [e0]
      repeat (first | refine RE.x (op_fieldAddr rfl rfl) rfl ?_ | refine RE.want rfl rfl ?_)
      refine RE.x (op_load rfl rfl (item_cell hg2 hcur 0 (by decide) rfl)) rfl ?_
      repeat (first | refine RE.x (op_assign rfl) rfl ?_ | refine RE.x (op_eql rfl rfl) rfl ?_ | refine RE.x (op_pick_t rfl rfl rfl) rfl ?_ | refine RE.want rfl rfl ?_ | refine RE.nilx (show CE _ _ _ _ _ _ _ from ?_))
      (refine CE.ret ?_; (try dsimp only); refine ret1 rfl rfl ?_)
      refine ⟨?_, e2⟩
      unfold wholeB
      rw [hall, hl]
      rfl
    · have hpl : rs = [] := List.eq_nil_of_length_eq_zero (by omega)
      repeat (first | refine RE.x (op_assign rfl) rfl ?_ | refine RE.x (op_pick_f rfl rfl) rfl ?_ | refine RE.nox rfl rfl rfl rfl ?_ | refine RE.nilx (show CE _ _ _ _ _ _ _ from ?_))
      (refine CE.ret ?_; (try dsimp only); refine ret1 rfl rfl ?_)
      refine ⟨?_, e2⟩
      rw [hpl]
      rfl

theorem last_ne {q : List RI} {e : RI} {k : Nat} (h : k < (q ++ [e]).length - 1) : ∃ hk : k < q.length, (q ++ [e])[k]'(by omega) = q[k] := by
  have h1 : k < q.length := by simpa using h
  exact ⟨h1, List.getElem_append_left h1⟩

/-- Is it known? -/
theorem known_fn {B : Nat} {q : List RI} {e : RI} {v : Value} {o : List UInt8} {w : World} (h : OwnR B w v (q ++ [e])) (hn : (q ++ [e]).length ≤ 20000000) :
    Fn PT 24 [v, S o] w (fun u w' => u = .bool (q.all fun x => decide (x.text ≠ [])) ∧ Ext w w') := by
  have hlen : (q ++ [e]).length = q.length + 1 := by simp
  generalize hrs : q ++ [e] = rs at h hn hlen
  obtain ⟨a0, cap0, hv⟩ := h.len0
  subst hv
  have hmax : maxLen = 9223372036854775807 := rfl
  refine fn_of Tryz.func24 rfl Tryz.ntmps24 rfl ?_
  repeat (first | refine CE.seq ?_ | refine CE.text ?_ | refine RE.x (op_move rfl) rfl ?_ | refine RE.x (op_assign rfl) rfl ?_ | refine RE.x (op_len_sl rfl rfl) rfl ?_ | refine RE.nilx (show CE _ _ _ _ _ _ _ from ?_))
  refine CE.cut (fun s ds w' => ds = [] ∧ Ext w w' ∧ q.all (fun x => decide (x.text ≠ [])) = true ∧ SubL [(0, .slice a0 rs.length cap0)] s) ?_ ?_
  · refine CE.block ?_
    refine CE.loop (α := Nat) (fun k => [(9, I k), (8, I rs.length), (7, .slice a0 rs.length cap0), (0, .slice a0 rs.length cap0)])
      (fun k w' => Ext w w' ∧ k ≤ rs.length ∧ q.all (fun x => decide (x.text ≠ [])) = (q.drop k).all (fun x => decide (x.text ≠ []))) (fun k => rs.length - k) 0 ⟨rfl, rfl, rfl, rfl, trivial⟩ ⟨Ext.refl _, Nat.zero_le _, rfl⟩ ?_
    rintro k w2 ⟨e2, hk, hgo⟩
    repeat (first | refine CE.seq ?_ | refine CE.text ?_ | refine RE.x (op_lss rfl rfl) rfl ?_ | refine RE.nilx (show CE _ _ _ _ _ _ _ from ?_))
    refine CE.cond_d rfl (fun hlt => ?_) (fun hlt => ?_)
    · have hkx : k < rs.length := by omega
      obtain ⟨g, cap, cur, hv, hg, hcur⟩ := h.item hkx
      cases hv
      have hg2 := e2.block hg
      have hd : ∀ hk : k < q.length, q.drop k = rs[k] :: q.drop (k + 1) := by
        intro hq
        rw [List.drop_eq_getElem_cons hq]
        congr 1
        subst hrs
        rw [List.getElem_append_left hq]
      generalize hxk : rs[k] = x at hcur hd
      repeat (first | refine CE.seq ?_ | refine CE.text ?_ | refine RE.x (op_move rfl) rfl ?_ | refine CE.block ?_ | refine CE.skip (show CE _ _ _ _ _ _ _ from ?_))
      refine RE.x (op_indexAddr rfl rfl rfl (by omega) (by omega)) rfl ?_
      have e0 : 0 + (k : Int).toNat * 5 = k * 5 := by omega
      rw [e0]
      refine RE.x (op_loadA (k := 5) (vs := x.lst) rfl rfl hg2 hcur rfl) rfl ?_
      refine RE.xe (e_alloc (cells := #[I 0, I 0, S [], .bool false, .int .u16 0]) Tryz.zeroValue31 rfl) rfl ?_
      rintro _ w3 ⟨bx, rfl, hn3⟩
      repeat (refine RE.x (op_assign rfl) rfl ?_)
      refine RE.xs (e_storeA (k := 5) (cells := x.lst.toArray) rfl rfl rfl hn3.here rfl rfl (by simp [RI.lst, Value.oneCell'])) ?_
      rintro _ w4 hu4
      have e34 : Ext w2 w4 := hn3.ext.fr (Fr.of_upd (S := (· = bx)) hu4 rfl) (fun q hq => by subst hq; have := hn3.num; omega)
      have e4 := e2.trans e34
      have hb4 := hu4.here
      repeat (first | refine CE.seq ?_ | refine CE.text ?_ | refine RE.x (op_move rfl) rfl ?_ | refine RE.x (op_lss rfl rfl) rfl ?_ | refine RE.x (op_len_sl rfl rfl) rfl ?_ | refine RE.x (op_sub64 rfl rfl (by omega) (by omega)) rfl ?_ | refine RE.nilx (show CE _ _ _ _ _ _ _ from ?_))
      refine RE.splitD (fun h5 => ?_) (fun h5 => ?_)
      · have hkq : k < q.length := by omega
        rw [hd hkq, List.all_cons] at hgo
        repeat (first | refine RE.x (op_fieldAddr0 rfl rfl) rfl ?_ | refine RE.x (op_loadB rfl rfl hb4 rfl) rfl ?_ | refine RE.x (op_pick_t rfl rfl rfl) rfl ?_ | refine RE.x (op_eql_s rfl rfl) rfl ?_ | refine RE.want rfl rfl ?_ | refine RE.nilx (show CE _ _ _ _ _ _ _ from ?_))
        refine CE.cond_d rfl (fun h6 => ?_) (fun h6 => ?_)
        · repeat (first | refine CE.seq ?_ | refine CE.text ?_ | refine RE.x (op_assign rfl) rfl ?_ | refine RE.nilx (show CE _ _ _ _ _ _ _ from ?_))
          (refine CE.ret ?_; (try dsimp only); refine ret1 rfl rfl ?_)
          rw [hgo, decide_eq_false (by simpa using h6)]
          exact ⟨rfl, e4⟩
        · refine CE.skip (show CE _ _ _ _ _ _ _ from ?_)
          repeat (first | refine CE.text ?_ | refine RE.x (op_move rfl) rfl ?_ | refine RE.x (op_add64 rfl rfl (by omega) (by omega)) rfl ?_)
          refine RE.nilx ?_
          refine ⟨k + 1, by show rs.length - (k + 1) < rs.length - k; omega, rfl, ⟨rfl, rfl, rfl, rfl, trivial⟩, e4, hkx, ?_⟩
          rw [hgo, decide_eq_true (show x.text ≠ [] from h6), Bool.true_and]
      · repeat (first | refine RE.x (op_pick_f rfl rfl) rfl ?_ | refine RE.nox rfl rfl rfl rfl ?_ | refine RE.nilx (show CE _ _ _ _ _ _ _ from ?_))
        refine CE.cond_f rfl ?_
        refine CE.skip (show CE _ _ _ _ _ _ _ from ?_)
        repeat (first | refine CE.text ?_ | refine RE.x (op_move rfl) rfl ?_ | refine RE.x (op_add64 rfl rfl (by omega) (by omega)) rfl ?_)
        refine RE.nilx ?_
        refine ⟨k + 1, by show rs.length - (k + 1) < rs.length - k; omega, rfl, ⟨rfl, rfl, rfl, rfl, trivial⟩, e4, hkx, ?_⟩
        rw [hgo, List.drop_of_length_le (by omega), List.drop_of_length_le (by omega)]
    · refine CE.exit ?_
      refine ⟨rfl, e2, by rw [hgo, List.drop_of_length_le (by omega)]; rfl, rfl, trivial⟩
  · rintro s _ w2 ⟨rfl, e2, hall, hs⟩
    refine CE.sub hs ?_
    repeat (first | refine CE.seq ?_ | refine CE.text ?_ | refine RE.x (op_move rfl) rfl ?_ | refine RE.x (op_assign rfl) rfl ?_ | refine RE.x (op_gtr rfl rfl) rfl ?_ | refine RE.x (op_len_sl rfl rfl) rfl ?_ | refine RE.nilx (show CE _ _ _ _ _ _ _ from ?_))
    (refine CE.ret ?_; (try dsimp only); refine ret1 rfl rfl ?_)
    refine ⟨?_, e2⟩
    rw [hall, decide_eq_true (by omega)]

/-- A text's source by the specification. -/
def spSource (o : List UInt8) (q : List RI) (e : RI) : Bool := decide (e.ty = 1) && decide (e.pos = o.length) && q.all fun x => begS o x.pos (x.text.take 1)

theorem spSource_fn {B : Nat} {q : List RI} {e : RI} {v : Value} {o : List UInt8} {w : World} (h : OwnR B w v (q ++ [e])) (hn : (q ++ [e]).length ≤ 20000000) (ho : o.length ≤ 1000000) (hne : ∀ x ∈ q, x.text ≠ [] ∧ x.pos ≤ 1000000) :
    Fn PT 25 [v, S o] w (fun u w' => u = .bool (spSource o q e) ∧ Ext w w') := by
  have hlen : (q ++ [e]).length = q.length + 1 := by simp
  have hle : ∀ hk : (q ++ [e]).length - 1 < (q ++ [e]).length, (q ++ [e])[(q ++ [e]).length - 1] = e := by
    intro hk
    simp
  generalize hrs : q ++ [e] = rs at h hn hlen hle
  obtain ⟨g, cap, cur, hv', hg, hcur⟩ := h.item (k := rs.length - 1) (by omega)
  subst hv'
  rw [hle] at hcur
  have hmax : maxLen = 9223372036854775807 := rfl
  refine fn_of Tryz.func25 rfl Tryz.ntmps25 rfl ?_
  repeat (first | refine CE.seq ?_ | refine CE.text ?_ | refine RE.x (op_move rfl) rfl ?_ | refine RE.x (op_assign rfl) rfl ?_ | refine RE.x (op_eql rfl rfl) rfl ?_ | refine RE.x (op_len_sl rfl rfl) rfl ?_ | refine RE.nilx (show CE _ _ _ _ _ _ _ from ?_))
  have h0 : decide ((rs.length : Int) = 0) = false := decide_eq_false (by omega)
  rw [h0]
  repeat (first | refine RE.x (op_move rfl) rfl ?_ | refine RE.x (op_len_sl rfl rfl) rfl ?_ | refine RE.x (op_sub64 rfl rfl (by omega) (by omega)) rfl ?_ | refine RE.want rfl rfl ?_)
  refine RE.x (op_indexAddr rfl rfl rfl (by omega) (by omega)) rfl ?_
  have e0 : 0 + ((rs.length : Int) - 1).toNat * 5 = (rs.length - 1) * 5 := by omega
  rw [e0]
  repeat (first | refine RE.x (op_fieldAddr rfl rfl) rfl ?_ | refine RE.want rfl rfl ?_)
  refine RE.x (op_load rfl rfl (item_cell hg hcur 0 (by decide) rfl)) rfl ?_
  repeat (first | refine RE.x (op_move rfl) rfl ?_ | refine RE.x (op_neq rfl rfl) rfl ?_ | refine RE.x (op_pick_f rfl rfl) rfl ?_ | refine RE.want rfl rfl ?_)
  refine RE.splitH (fun h1 => ?_) (fun h1 => ?_)
  · repeat (first | refine RE.x (op_pick_t rfl rfl rfl) rfl ?_ | refine RE.nox rfl rfl rfl rfl ?_ | refine RE.nilx (show CE _ _ _ _ _ _ _ from ?_))
    refine CE.cond_t rfl ?_
    repeat (first | refine CE.seq ?_ | refine CE.text ?_ | refine RE.x (op_assign rfl) rfl ?_ | refine RE.nilx (show CE _ _ _ _ _ _ _ from ?_))
    (refine CE.ret ?_; (try dsimp only); refine ret1 rfl rfl ?_)
    have : spSource o q e = false := by unfold spSource; rw [decide_eq_false (by simpa using h1)]; rfl
    rw [this]
    exact ⟨rfl, Ext.refl _⟩
  have h1' : e.ty = 1 := by simpa using h1
  repeat (first | refine RE.x (op_move rfl) rfl ?_ | refine RE.x (op_len_sl rfl rfl) rfl ?_ | refine RE.x (op_sub64 rfl rfl (by omega) (by omega)) rfl ?_ | refine RE.want rfl rfl ?_)
  refine RE.x (op_indexAddr rfl rfl rfl (by omega) (by omega)) rfl ?_
  rw [e0]
  repeat (first | refine RE.x (op_fieldAddr rfl rfl) rfl ?_ | refine RE.want rfl rfl ?_)
  refine RE.x (op_load rfl rfl (item_cell hg hcur 1 (by decide) rfl)) rfl ?_
  repeat (first | refine RE.x (op_move rfl) rfl ?_ | refine RE.x (op_neq rfl rfl) rfl ?_ | refine RE.x (op_len_s rfl Tryz.underlying9) rfl ?_ | refine RE.x (op_pick_f rfl rfl) rfl ?_ | refine RE.want rfl rfl ?_ | refine RE.nilx (show CE _ _ _ _ _ _ _ from ?_))
  refine CE.cond_d rfl (fun h2 => ?_) (fun h2 => ?_)
  · repeat (first | refine CE.seq ?_ | refine CE.text ?_ | refine RE.x (op_assign rfl) rfl ?_ | refine RE.nilx (show CE _ _ _ _ _ _ _ from ?_))
    (refine CE.ret ?_; (try dsimp only); refine ret1 rfl rfl ?_)
    have : spSource o q e = false := by unfold spSource; rw [decide_eq_true h1', decide_eq_false (by omega)]; rfl
    rw [this]
    exact ⟨rfl, Ext.refl _⟩
  refine CE.skip (show CE _ _ _ _ _ _ _ from ?_)
  have hsp : spSource o q e = q.all fun x => begS o x.pos (x.text.take 1) := by unfold spSource; rw [decide_eq_true h1', decide_eq_true (by omega)]; rfl
  rw [hsp]
  repeat (first | refine CE.seq ?_ | refine CE.text ?_ | refine RE.x (op_move rfl) rfl ?_ | refine RE.x (op_len_sl rfl rfl) rfl ?_ | refine RE.x (op_sub64 rfl rfl (by omega) (by omega)) rfl ?_)
  have hcapl : rs.length ≤ cap := by
    rcases h.2 with ⟨_, h0⟩ | ⟨g', cap', cur', he, hb, hg', hnc, _⟩
    · omega
    · cases he; exact hnc
  refine RE.x (op_slice_h rfl rfl rfl (by omega) (by omega)) rfl ?_
  have hsl : sliced (some ⟨g, 0, none⟩) 0 ((rs.length : Int) - 1).toNat cap 5 = .slice (some ⟨g, 0, none⟩) q.length cap := by
    unfold sliced
    have : ((rs.length : Int) - 1).toNat = q.length := by omega
    rw [this]
    simp
    intro _
    rfl
  rw [hsl]
  repeat (first | refine RE.x (op_move rfl) rfl ?_ | refine RE.x (op_len_sl rfl rfl) rfl ?_ | refine RE.nilx (show CE _ _ _ _ _ _ _ from ?_))
  refine CE.block ?_
  refine CE.loop (α := Nat) (fun k => [(38, I k), (37, I q.length), (36, .slice (some ⟨g, 0, none⟩) q.length cap), (1, S o)])
    (fun k w' => Ext w w' ∧ k ≤ q.length ∧ (q.all fun x => begS o x.pos (x.text.take 1)) = (q.drop k).all fun x => begS o x.pos (x.text.take 1)) (fun k => q.length - k) 0 ⟨rfl, rfl, rfl, rfl, trivial⟩ ⟨Ext.refl _, Nat.zero_le _, rfl⟩ ?_
  rintro k w2 ⟨e2, hk, hgo⟩
  repeat (first | refine CE.seq ?_ | refine CE.text ?_ | refine RE.x (op_lss rfl rfl) rfl ?_ | refine RE.nilx (show CE _ _ _ _ _ _ _ from ?_))
  refine CE.cond_d rfl (fun hlt => ?_) (fun hlt => ?_)
  · have hkq : k < q.length := by omega
    obtain ⟨g', cap', cur', hv, hg', hcur'⟩ := h.item (k := k) (by omega)
    cases hv
    have hg2 := e2.block hg'
    have hd : q.drop k = rs[k]'(by omega) :: q.drop (k + 1) := by
      rw [List.drop_eq_getElem_cons hkq]
      congr 1
      subst hrs
      rw [List.getElem_append_left hkq]
    have hxm : rs[k]'(by omega) ∈ q := by
      subst hrs
      rw [List.getElem_append_left hkq]
      exact List.getElem_mem hkq
    have hx := hne _ hxm
    generalize rs[k]'(by omega) = x at hcur' hd hx
    rw [hd, List.all_cons] at hgo
    repeat (first | refine CE.seq ?_ | refine CE.text ?_ | refine CE.block ?_ | refine CE.skip (show CE _ _ _ _ _ _ _ from ?_))
    refine RE.x (op_indexAddr rfl rfl rfl (by omega) (by omega)) rfl ?_
    have e0 : 0 + (k : Int).toNat * 5 = k * 5 := by omega
    rw [e0]
    refine RE.x (op_loadA (k := 5) (vs := x.lst) rfl rfl hg2 hcur' rfl) rfl ?_
    refine RE.xe (e_alloc (cells := #[I 0, I 0, S [], .bool false, .int .u16 0]) Tryz.zeroValue31 rfl) rfl ?_
    rintro _ w3 ⟨bx, rfl, hn3⟩
    skip
    refine RE.xs (e_storeA (k := 5) (cells := x.lst.toArray) rfl rfl rfl hn3.here rfl rfl (by simp [RI.lst, Value.oneCell'])) ?_
    rintro _ w4 hu4
    have e34 : Ext w2 w4 := hn3.ext.fr (Fr.of_upd (S := (· = bx)) hu4 rfl) (fun q hq => by subst hq; have := hn3.num; omega)
    have e4 := e2.trans e34
    have hb4 := hu4.here
    have hb4d : w4.drew.heap[bx]? = _ := hb4
    repeat (first | refine CE.seq ?_ | refine RE.nilx (show CE _ _ _ _ _ _ _ from ?_))
    repeat refine CE.seq ?_
    refine CE.drawR Ext [0, 0, 0, 0, 0, 0, 0, 0] mixed Ext.refl (fun _ _ _ => Ext.trans) (by decide +kernel) ?_
    repeat (first | refine RE.dd (fun _ hw => op_move rfl) rfl Ext.refl ?_ | refine RE.dd (fun _ hw => op_fieldAddr0 rfl rfl) rfl Ext.refl ?_ | refine RE.dd (fun _ hw => op_loadB rfl rfl (Ext.block hw hb4d) rfl) rfl Ext.refl ?_)
    have htx : 1 ≤ x.text.length := by
      cases hxt : x.text with
      | nil => exact absurd hxt hx.1
      | cons _ _ => simp
    refine RE.dd (fun _ _ => op_str_h (l := x.text) rfl rfl Tryz.underlying9 (by decide) (by omega)) rfl Ext.refl ?_
    skip
    refine RE.dc en34 rfl rfl (fun w5 _ => Fn.mono (pageHas_fn (i := x.pos) (x := x.text.take 1) ho (by simp; omega) hx.2) (by rintro _ w6 ⟨rfl, rfl⟩; exact ⟨rfl, Ext.refl _⟩)) ?_
    repeat (refine RE.dd (fun _ hw => op_not rfl) rfl Ext.refl ?_)
    refine RE.nil (fun w8 hw8 => show CE _ _ _ _ _ _ _ from ?_)
    have e8 := e4.trans ((Ext.drew _).trans hw8)
    refine CE.cond_s rfl (fun h8 => ?_) (fun h8 => ?_)
    · repeat (first | refine CE.seq ?_ | refine CE.text ?_ | refine RE.x (op_assign rfl) rfl ?_ | refine RE.nilx (show CE _ _ _ _ _ _ _ from ?_))
      (refine CE.ret ?_; (try dsimp only); refine ret1 rfl rfl ?_)
      have : begS o x.pos (x.text.take 1) = false := by simpa using h8
      rw [hgo, this]
      exact ⟨rfl, e8⟩
    · refine CE.skip (show CE _ _ _ _ _ _ _ from ?_)
      repeat (first | refine CE.text ?_ | refine RE.x (op_move rfl) rfl ?_ | refine RE.x (op_add64 rfl rfl (by omega) (by omega)) rfl ?_)
      refine RE.nilx ?_
      refine ⟨k + 1, by show q.length - (k + 1) < q.length - k; omega, rfl, ⟨rfl, rfl, rfl, rfl, trivial⟩, e8, hkq, ?_⟩
      have : begS o x.pos (x.text.take 1) = true := by simpa using h8
      rw [hgo, this, Bool.true_and]
  · refine CE.exit ?_
    repeat (first | refine CE.seq ?_ | refine CE.text ?_ | refine RE.x (op_assign rfl) rfl ?_ | refine RE.nilx (show CE _ _ _ _ _ _ _ from ?_))
    (refine CE.ret ?_; (try dsimp only); refine ret1 rfl rfl ?_)
    rw [hgo, List.drop_of_length_le (by omega)]
    exact ⟨rfl, e2⟩
end Go.Wk
namespace Go.Wk
open Go Go.RowKit Go.Proofs
set_option maxRecDepth 100000

def okAt (o : List UInt8) (p : PI) : Bool := if h : p.pos < o.length then decide (p.fb = o[p.pos].toNat) else false

theorem srcGo_app {o : List UInt8} {e : PI} (he : e.ty = 1) : ∀ {ps : List PI}, (∀ p ∈ ps, p.ty ≠ 0 ∧ p.ty ≠ 1) → srcGo o (ps ++ [e]) = ps.all (okAt o)
  | [], _ => by
    show srcGo o [e] = true
    unfold srcGo
    rw [if_neg (by omega), if_pos he]
  | p :: r, h => by
    have hp := h p (List.mem_cons_self ..)
    have ih := srcGo_app (o := o) he (ps := r) (fun q hq => h q (List.mem_cons_of_mem _ hq))
    rw [List.cons_append, List.all_cons]
    conv => lhs; unfold srcGo
    rw [if_neg hp.1, if_neg hp.2]
    unfold okAt
    by_cases hl : p.pos < o.length
    · rw [dif_pos hl, dif_pos hl]
      by_cases hb : p.fb = o[p.pos].toNat
      · rw [if_pos hb, decide_eq_true hb, Bool.true_and]; exact ih
      · rw [if_neg hb, decide_eq_false hb]; rfl
    · rw [dif_neg hl, dif_neg hl]
      rfl

theorem source_app {o : List UInt8} {ps : List PI} {e : PI} (h : ∀ p ∈ ps, p.ty ≠ 0 ∧ p.ty ≠ 1) : source o (ps ++ [e]) = (decide (e.ty = 1) && decide (e.pos = o.length) && ps.all (okAt o)) := by
  unfold source
  rw [List.getLast?_append, List.getLast?_singleton]
  dsimp only [Option.some_or]
  by_cases he : e.ty = 1
  · rw [if_pos he, decide_eq_true he]
    by_cases hp : e.pos = o.length
    · rw [if_pos hp, decide_eq_true hp, srcGo_app he h]; rfl
    · rw [if_neg hp, decide_eq_false hp]; rfl
  · rw [if_neg he, decide_eq_false he]; rfl

theorem whole_app {t : List UInt8} {ps : List PI} {e : PI} (h : ∀ p ∈ ps, p.ty ≠ 0 ∧ p.ty ≠ 1) : wholeB ((ps ++ [e]).map (told t)) = decide (e.ty = 1) := by
  have hl : ((ps ++ [e]).map (told t)).getLast? = some (told t e) := by rw [List.map_append, List.map_singleton, List.getLast?_append, List.getLast?_singleton]; rfl
  have e1 : (told t e).ty = e.ty := rfl
  unfold wholeB
  rw [hl]
  dsimp only
  rw [e1, List.map_append, List.all_append, List.map_singleton]
  have ha : (ps.map (told t)).all (fun x => decide (x.ty ≠ 0)) = true := by
    rw [List.all_eq_true]
    intro x hx
    obtain ⟨p, hp, rfl⟩ := List.mem_map.1 hx
    exact decide_eq_true (h p hp).1
  rw [ha, Bool.true_and, List.all_cons, List.all_nil, Bool.and_true, e1]
  by_cases he : e.ty = 1
  · rw [decide_eq_true he, decide_eq_true (by omega)]; rfl
  · rw [decide_eq_false he, Bool.and_false]

theorem ptext_hd {t : List UInt8} {p : PI} (g : Good t p) (hp : p.pos < t.length) (hne : ptext t p ≠ []) : (ptext t p).take 1 = [t[p.pos]] := by
  have key : ∀ (lo hi : Nat) (h1 : lo < hi) (h2 : lo < t.length), ∃ r, (t.drop lo).take (hi - lo) = t[lo] :: r := by
    intro lo hi h1 h2
    rw [List.drop_eq_getElem_cons h2, show hi - lo = (hi - lo - 1) + 1 by omega, List.take_succ_cons]
    exact ⟨_, rfl⟩
  cases hs : p.segs with
  | nil =>
    have hpos : p.pos = p.lo := by unfold PI.pos; rw [hs]
    have htx : ptext t p = (t.drop p.lo).take (p.hi - p.lo) := by unfold ptext; rw [hs]
    rw [htx] at hne ⊢
    have h1 : p.lo < p.hi := by
      rcases Nat.lt_or_ge p.lo p.hi with h | h
      · exact h
      · exact absurd (by rw [show p.hi - p.lo = 0 by omega]; exact List.take_zero) hne
    obtain ⟨r, hr⟩ := key p.lo p.hi h1 (by omega)
    rw [hr]
    simp only [hpos]
    rfl
  | cons s r =>
    have hpos : p.pos = s.1 := by unfold PI.pos; rw [hs]
    have htx : ptext t p = (t.drop s.1).take (s.2 - s.1) ++ segText t r := by unfold ptext segText; rw [hs]; rfl
    have hsg := g.seg s (by rw [hs]; exact List.mem_cons_self ..)
    obtain ⟨r', hr⟩ := key s.1 s.2 hsg.1 (by omega)
    rw [htx, hr]
    simp only [hpos]
    rfl

theorem ok_beg {t o : List UInt8} {p : PI} (g : Good t p) (hp : p.pos < t.length) (hlen : o.length = t.length) (hne : ptext t p ≠ []) : okAt o p = begS o (told t p).pos ((told t p).text.take 1) := by
  have e1 : (told t p).pos = p.pos := rfl
  have e2 : (told t p).text = ptext t p := rfl
  have hpo : p.pos < o.length := by omega
  rw [e1, e2, ptext_hd g hp hne]
  unfold okAt begS
  rw [dif_pos hpo, g.fb hp, decide_eq_true (show p.pos + [t[p.pos]].length ≤ o.length from hpo), Bool.true_and, List.drop_eq_getElem_cons hpo]
  show _ = decide ([o[p.pos]] = [t[p.pos]])
  by_cases h : t[p.pos] = o[p.pos]
  · rw [decide_eq_true (by rw [h]), decide_eq_true (by rw [h])]
  · rw [decide_eq_false (fun e => h (UInt8.toNat_inj.1 e)), decide_eq_false (fun e => h (by injection e with e1; exact e1.symm))]

theorem all_congr_on {α : Type} {f g : α → Bool} : ∀ {l : List α}, (∀ a ∈ l, f a = g a) → l.all f = l.all g
  | [], _ => rfl
  | a :: l, h => by rw [List.all_cons, List.all_cons, h a (List.mem_cons_self ..), all_congr_on (fun b hb => h b (List.mem_cons_of_mem _ hb))]

/-- A page is its own source where it is whole; another text where its bytes agree. -/
theorem source_self {t : List UInt8} {l : List PI} (h : FI t l) : source t l = wholeB (l.map (told t)) := by
  obtain ⟨ps, e, rfl, row, _, ge, hend⟩ := h.out
  have hm : ∀ p ∈ ps, p.ty ≠ 0 ∧ p.ty ≠ 1 := fun p hp => by have := (row.mid p hp).ty; constructor <;> omega
  rw [source_app hm, whole_app hm]
  rcases hend with ⟨h0, _, _⟩ | ⟨h1, _, hs, hlo, _, hlt⟩
  · rw [decide_eq_false (show ¬ e.ty = 1 by omega)]; rfl
  · have hpos : e.pos = t.length := by unfold PI.pos; rw [hs]; exact hlo
    rw [decide_eq_true h1, decide_eq_true hpos]
    have : ps.all (okAt t) = true := by
      rw [List.all_eq_true]
      intro p hp
      unfold okAt
      rw [dif_pos (hlt p hp)]
      exact decide_eq_true ((row.mid p hp).good.fb (hlt p hp))
    rw [this]; rfl

theorem law7_fn {B : Nat} {t o : List UInt8} {f d : Bool} {w : World} (hT : TabsB B w) (hB : B ≤ w.heap.size) : Fn PT 7 [S t, .bool f, .bool d, S o] w (fun u w' => u = .bool true ∧ Ext w w') := by
  refine fn_of Tryz.func7 rfl Tryz.ntmps7 rfl ?_
  repeat (first | refine CE.seq ?_ | refine CE.text ?_ | refine RE.x (op_move rfl) rfl ?_ | refine RE.x (op_assign rfl) rfl ?_ | refine RE.x (op_gtr rfl rfl) rfl ?_ | refine RE.x (op_len_s rfl Tryz.underlying9) rfl ?_ | refine RE.nilx (show CE _ _ _ _ _ _ _ from ?_))
  refine RE.splitD (fun h1 => ?_) (fun h1 => ?_)
  · repeat (first | refine RE.x (op_pick_t rfl rfl rfl) rfl ?_ | refine RE.nox rfl rfl rfl rfl ?_ | refine RE.nilx (show CE _ _ _ _ _ _ _ from ?_))
    refine CE.cond_t rfl ?_
    repeat (first | refine CE.seq ?_ | refine CE.text ?_ | refine RE.x (op_assign rfl) rfl ?_ | refine RE.nilx (show CE _ _ _ _ _ _ _ from ?_))
    (refine CE.ret ?_; (try dsimp only); refine ret1 rfl rfl ?_)
    exact ⟨rfl, Ext.refl _⟩
  repeat (first | refine RE.x (op_move rfl) rfl ?_ | refine RE.x (op_gtr rfl rfl) rfl ?_ | refine RE.x (op_len_s rfl Tryz.underlying9) rfl ?_ | refine RE.x (op_pick_f rfl rfl) rfl ?_ | refine RE.want rfl rfl ?_ | refine RE.nilx (show CE _ _ _ _ _ _ _ from ?_))
  refine CE.cond_d rfl (fun h2 => ?_) (fun h2 => ?_)
  · repeat (first | refine CE.seq ?_ | refine CE.text ?_ | refine RE.x (op_assign rfl) rfl ?_ | refine RE.nilx (show CE _ _ _ _ _ _ _ from ?_))
    (refine CE.ret ?_; (try dsimp only); refine ret1 rfl rfl ?_)
    exact ⟨rfl, Ext.refl _⟩
  refine CE.skip (show CE _ _ _ _ _ _ _ from ?_)
  repeat (first | refine CE.seq ?_ | refine CE.text ?_ | refine RE.x (op_move rfl) rfl ?_ | refine RE.x (op_gtr rfl rfl) rfl ?_ | refine RE.x (op_len_s rfl Tryz.underlying9) rfl ?_)
  refine RE.splitD (fun h3 => ?_) (fun h3 => ?_)
  · repeat (first | refine RE.x (op_pick_t rfl rfl rfl) rfl ?_ | refine RE.nox rfl rfl rfl rfl ?_ | refine RE.nilx (show CE _ _ _ _ _ _ _ from ?_))
    refine CE.cond_t rfl ?_
    repeat (first | refine CE.seq ?_ | refine CE.text ?_ | refine RE.x (op_assign rfl) rfl ?_ | refine RE.nilx (show CE _ _ _ _ _ _ _ from ?_))
    (refine CE.ret ?_; (try dsimp only); refine ret1 rfl rfl ?_)
    exact ⟨rfl, Ext.refl _⟩
  repeat (first | refine RE.x (op_move rfl) rfl ?_ | refine RE.x (op_gtr rfl rfl) rfl ?_ | refine RE.x (op_len_s rfl Tryz.underlying9) rfl ?_ | refine RE.x (op_pick_f rfl rfl) rfl ?_ | refine RE.want rfl rfl ?_ | refine RE.nilx (show CE _ _ _ _ _ _ _ from ?_))
  refine CE.cond_d rfl (fun h4 => ?_) (fun h4 => ?_)
  · repeat (first | refine CE.seq ?_ | refine CE.text ?_ | refine RE.x (op_assign rfl) rfl ?_ | refine RE.nilx (show CE _ _ _ _ _ _ _ from ?_))
    (refine CE.ret ?_; (try dsimp only); refine ret1 rfl rfl ?_)
    exact ⟨rfl, Ext.refl _⟩
  refine CE.skip (show CE _ _ _ _ _ _ _ from ?_)
  have ht : t.length ≤ 65536 := by omega
  have ho : o.length ≤ 65536 := by omega
  obtain ⟨r, hr, hp⟩ := parseL_fn (t := t) (f := f) (d := d) hT hB (by omega)
  have hg := gd_lex hr (inv0 t (!f)) (fun p hp => by cases hp)
  have hfew := lex_few (by omega) hr
  have hruns := runs_lex (by omega) hr
  have hne := ne_lex hr (inv0 t (!f)) (fun h => by cases h)
  have hxb : ∀ x ∈ r.ps.map (told t), x.pos ≤ 1000000 ∧ x.text.length ≤ 1000000 := by
    intro x hx
    obtain ⟨p, hp, rfl⟩ := List.mem_map.1 hx
    have g1 := pos_le (hg p hp)
    have g2 := ptext_le (hg p hp)
    exact ⟨show p.pos ≤ _ by omega, show (ptext t p).length ≤ _ by omega⟩
  repeat (first | refine CE.seq ?_ | refine CE.text ?_ | refine RE.x (op_move rfl) rfl ?_)
  refine RE.xc en12 rfl rfl hp ?_
  rintro v w1 ⟨hv, e1⟩
  repeat (first | refine CE.seq ?_ | refine CE.text ?_ | refine RE.x (op_move rfl) rfl ?_ | refine RE.x (op_assign rfl) rfl ?_ | refine RE.nilx (show CE _ _ _ _ _ _ _ from ?_))
  refine RE.xc en11 rfl rfl (has_fn (x := [92]) (by omega) (by decide)) ?_
  rintro _ w2 ⟨rfl, hw2⟩
  subst hw2
  repeat (refine RE.x (op_move rfl) rfl ?_)
  refine RE.splitH (fun h5 => ?_) (fun h5 => ?_)
  · repeat (first | refine RE.x (op_pick_t rfl rfl rfl) rfl ?_ | refine RE.nox rfl rfl rfl rfl ?_ | refine RE.nilx (show CE _ _ _ _ _ _ _ from ?_))
    refine CE.cond_t rfl ?_
    repeat (first | refine CE.seq ?_ | refine CE.text ?_ | refine RE.x (op_move rfl) rfl ?_)
    refine RE.xc en19 rfl rfl (shape_fn hv (by omega) (by rw [List.length_map]; exact hfew) hxb) ?_
    rintro _ w2 ⟨rfl, e2⟩
    rw [shape_lex hr]
    repeat (first | refine RE.x (op_assign rfl) rfl ?_ | refine RE.nilx (show CE _ _ _ _ _ _ _ from ?_))
    (refine CE.ret ?_; (try dsimp only); refine ret1 rfl rfl ?_)
    exact ⟨rfl, e1.trans e2⟩
  repeat (first | refine RE.x (op_move rfl) rfl ?_ | refine RE.want rfl rfl ?_)
  refine RE.xc en11 rfl rfl (has_fn (x := inlS) (by omega) (by decide)) ?_
  rintro _ w3 ⟨rfl, hw3⟩
  subst hw3
  repeat (first | refine RE.x (op_pick_f rfl rfl) rfl ?_ | refine RE.nilx (show CE _ _ _ _ _ _ _ from ?_))
  refine CE.cond_s rfl (fun h6 => ?_) (fun h6 => ?_)
  · repeat (first | refine CE.seq ?_ | refine CE.text ?_ | refine RE.x (op_move rfl) rfl ?_)
    refine RE.xc en19 rfl rfl (shape_fn hv (by omega) (by rw [List.length_map]; exact hfew) hxb) ?_
    rintro _ w2 ⟨rfl, e2⟩
    rw [shape_lex hr]
    repeat (first | refine RE.x (op_assign rfl) rfl ?_ | refine RE.nilx (show CE _ _ _ _ _ _ _ from ?_))
    (refine CE.ret ?_; (try dsimp only); refine ret1 rfl rfl ?_)
    exact ⟨rfl, e1.trans e2⟩
  refine CE.skip (show CE _ _ _ _ _ _ _ from ?_)
  have hfi := fi_all h6 hr
  have hsw := source_self hfi
  obtain ⟨ps, e, hrs, row, _, ge, hend⟩ := hfi.out
  have hm : ∀ p ∈ ps, p.ty ≠ 0 ∧ p.ty ≠ 1 := fun p hp => by have := (row.mid p hp).ty; constructor <;> omega
  have hB1 : B ≤ w3.heap.size := by have := e1.size; omega
  repeat (first | refine CE.seq ?_ | refine CE.text ?_ | refine RE.x (op_move rfl) rfl ?_)
  refine RE.xc en23 rfl rfl (sourceOf_fn hruns (hT.ext hB e1) hB1 (by omega) (by omega) hfew hne) ?_
  rintro _ w4 ⟨rfl, e4⟩
  have e14 := e1.trans e4
  repeat (refine RE.x (op_move rfl) rfl ?_)
  refine RE.xc en13 rfl rfl (whole_fn (ownsRow_ext hv e4) (by rw [List.length_map]; exact hfew)) ?_
  rintro _ w5 ⟨rfl, e5⟩
  have e15 := e14.trans e5
  rw [hsw]
  skip
  refine RE.x (op_neq_b rfl rfl Tryz.underlying4) rfl ?_
  rw [show (!(wholeB (r.ps.map (told t)) == wholeB (r.ps.map (told t)))) = false by simp]
  repeat (refine RE.nilx (show CE _ _ _ _ _ _ _ from ?_))
  refine CE.cond_f rfl ?_
  refine CE.skip (show CE _ _ _ _ _ _ _ from ?_)
  have hmap : r.ps.map (told t) = ps.map (told t) ++ [told t e] := by rw [hrs, List.map_append]; rfl
  have hv5 := ownsRow_ext hv (e4.trans e5)
  rw [hmap] at hv hv5
  have hlen2 : (ps.map (told t) ++ [told t e]).length ≤ 20000000 := by rw [← hmap, List.length_map]; exact hfew
  repeat (first | refine CE.seq ?_ | refine CE.text ?_ | refine RE.x (op_move rfl) rfl ?_)
  refine RE.xc en24 rfl rfl (known_fn hv5 hlen2) ?_
  rintro _ w6 ⟨rfl, e6⟩
  repeat (first | refine RE.x (op_not rfl) rfl ?_ | refine RE.nilx (show CE _ _ _ _ _ _ _ from ?_))
  refine CE.cond_s rfl (fun h7 => ?_) (fun h7 => ?_)
  · repeat (first | refine CE.seq ?_ | refine CE.text ?_ | refine RE.x (op_assign rfl) rfl ?_ | refine RE.nilx (show CE _ _ _ _ _ _ _ from ?_))
    (refine CE.ret ?_; (try dsimp only); refine ret1 rfl rfl ?_)
    exact ⟨rfl, e15.trans e6⟩
  refine CE.skip (show CE _ _ _ _ _ _ _ from ?_)
  have hk : ∀ p ∈ ps, ptext t p ≠ [] := by
    intro p hp
    have h8 : (ps.map (told t)).all (fun x => decide (x.text ≠ [])) = true := by simpa using h7
    have := List.all_eq_true.1 h8 (told t p) (List.mem_map.2 ⟨p, hp, rfl⟩)
    exact of_decide_eq_true this
  have e16 := e15.trans e6
  repeat (first | refine CE.seq ?_ | refine CE.text ?_ | refine RE.x (op_move rfl) rfl ?_)
  refine RE.xc en23 rfl rfl (sourceOf_fn (o := o) hruns (hT.ext hB e16) (by have := e16.size; omega) (by omega) (by omega) hfew hne) ?_
  rintro _ w7 ⟨rfl, e7⟩
  repeat (refine RE.x (op_move rfl) rfl ?_)
  refine RE.xc en25 rfl rfl (spSource_fn (ownsRow_ext hv5 (e6.trans e7)) hlen2 (by omega) ?_) ?_
  · intro x hx
    obtain ⟨p, hp, rfl⟩ := List.mem_map.1 hx
    have g1 := pos_le (row.mid p hp).good
    exact ⟨hk p hp, show p.pos ≤ _ by omega⟩
  rintro _ w8 ⟨rfl, e8⟩
  have hlaw : source o r.ps = spSource o (ps.map (told t)) (told t e) := by
    rw [hrs, source_app hm]
    unfold spSource
    have t1 : (told t e).ty = e.ty := rfl
    have t2 : (told t e).pos = e.pos := rfl
    rw [t1, t2]
    rcases hend with ⟨h0, _, _⟩ | ⟨he1, _, hs, hlo, _, hlt⟩
    · rw [decide_eq_false (show ¬ e.ty = 1 by omega)]; rfl
    · by_cases hpo : e.pos = o.length
      · have hpos : e.pos = t.length := by unfold PI.pos; rw [hs]; exact hlo
        rw [decide_eq_true he1, decide_eq_true hpo, Bool.true_and, Bool.true_and, Bool.true_and, List.all_map]
        have : ∀ p ∈ ps, okAt o p = ((fun x : RI => begS o x.pos (x.text.take 1)) ∘ told t) p := fun p hp => ok_beg (row.mid p hp).good (hlt p hp) (by omega) (hk p hp)
        exact all_congr_on this
      · rw [decide_eq_false hpo, Bool.and_false]; rfl
  rw [hlaw]
  skip
  refine RE.x (op_eql_b rfl rfl Tryz.underlying4) rfl ?_
  repeat (first | refine RE.x (op_assign rfl) rfl ?_ | refine RE.nilx (show CE _ _ _ _ _ _ _ from ?_))
  (refine CE.ret ?_; (try dsimp only); refine ret1 rfl rfl ?_)
  exact ⟨by simp, (e16.trans e7).trans e8⟩
end Go.Wk
