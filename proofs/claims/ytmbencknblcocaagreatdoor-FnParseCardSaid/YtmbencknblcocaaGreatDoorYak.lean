/- Part of the walk. -/
import Derived.Test.YtmbencknblcocaaGreatDoorTie
import Derived.Test.YtmbencknblcocaaGreatDoorYaj
import Derived.Lib.LaidRTabT
import Derived.Lib.LaidU8T
namespace Go.Proofs.YtmbencknblcocaaGreatDoor
open Go Go.Shelf Go.Lib Go.Wk
set_option maxRecDepth 100000
theorem letter_eq : Pinned.letter = rtabData letterT:=by kernel_rfl
theorem digit_eq : Pinned.digit = rtabData digitT:=by kernel_rfl
theorem first_eq : Pinned.utf8First = firstData:=by kernel_rfl
theorem accept_eq : Rows.laid_unicode_utf8_acceptRanges = acceptData:=by kernel_rfl
theorem white_eq : Rows.laid_unicode_White_Space = whiteData:=by kernel_rfl
theorem props_eq : (Rows.laid_unicode_properties : DataW Unit) = tabData .u8 propertiesTab:=by kernel_rfl
theorem asc_eq : (Rows.laid_bytes_asciiSpace : DataW Unit) = tabData .u8 asciiSpaceTab:=by kernel_rfl
theorem nohandle : (Rows.fnFrontUnendedRow.laid.filter fun x => x.2.handleName?.isSome) = []:=by kernel_rfl
noncomputable def ρu : Ren:=⟨fun n => n,fun | 5 => 5 | 119 => 121 | 138 => 140 | 139 => 141 | n => n,fun | 3 => 2 | 4 => 3 | n => n⟩
theorem u8ty : U8Types Tryz.prog ρu:=⟨by kernel_rfl,by kernel_rfl,by kernel_rfl,by kernel_rfl⟩
theorem u8x : U8Extra Tryz.prog ρu:=⟨by kernel_rfl,by kernel_rfl,by kernel_rfl,by kernel_rfl,by kernel_rfl,by kernel_rfl,by kernel_rfl⟩
theorem rty : RTypes Tryz.prog Tryz.lays198_ren:={ Tryz.lays198 with }
theorem rx : RExtra Tryz.prog Tryz.lays198_ren:=⟨by kernel_rfl,by kernel_rfl,by kernel_rfl,by kernel_rfl,by kernel_rfl,by kernel_rfl,by kernel_rfl,by kernel_rfl⟩
theorem wx : WhiteExtra Tryz.prog Tryz.lays199_ren:=⟨by kernel_rfl,by kernel_rfl,by kernel_rfl,by kernel_rfl,by kernel_rfl,by kernel_rfl,by kernel_rfl,by kernel_rfl⟩
theorem tabIs_of_reads {w : World} {name : String} {g : Nat} {zs : List Int} (hn : Tryz.prog.globalNamed name = some g) (hy : (Tryz.prog.globals[g]?).map (·.type) = some 121) (h : VarReads Tryz.prog w name (tabData .u8 zs)) :
  TabIs Tryz.prog w name .u8 zs:=by
 obtain ⟨g',t,cs,fuel,p,hg,hty,hvar,hd⟩:=h
 obtain rfl:=Option.some.inj (hn.symm.trans hg)
 obtain rfl:=Option.some.inj (hy.symm.trans hty)
 have hcs:=cells_of_tab (P:=Tryz.prog) u8ty.t119 u8ty.t5 u8x.c5 u8x.c119 hd
 unfold TabIs
 rw [hvar]
 congr 1
 apply Array.ext'
 rw [hcs]
theorem tabs_of {W : World} (hL : laidMetH Tryz.prog Rows.fnFrontUnendedRow.laid W) : Wk.Tabs W:=by
 have h : laidMet Tryz.prog Rows.fnFrontUnendedRow.laid W:=by
  unfold laidMetH at hL
  rw [nohandle] at hL
  exact hL
 have r : ∀ n d,(n,d) ∈ Rows.fnFrontUnendedRow.laid → VarReads Tryz.prog W n d:=fun n d hm => laidMet.reads h hm
 have r1 := r "unicode/utf8.acceptRanges" Rows.laid_unicode_utf8_acceptRanges (by simp [Rows.fnFrontUnendedRow])
 have r2 := r "unicode.White_Space" Rows.laid_unicode_White_Space (by simp [Rows.fnFrontUnendedRow])
 have r3 := r "unicode.properties" Rows.laid_unicode_properties (by simp [Rows.fnFrontUnendedRow])
 have r4 := r "bytes.asciiSpace" Rows.laid_bytes_asciiSpace (by simp [Rows.fnFrontUnendedRow])
 have r5 := r "unicode.Digit" Rows.laid_unicode_Digit (by simp [Rows.fnFrontUnendedRow])
 have r6 := r "unicode.Letter" Rows.laid_unicode_Letter (by simp [Rows.fnFrontUnendedRow])
 have r7 := r "unicode/utf8.first" Rows.laid_unicode_utf8_first (by simp [Rows.fnFrontUnendedRow])
 rw [accept_eq] at r1
 rw [white_eq] at r2
 rw [props_eq] at r3
 rw [asc_eq] at r4
 rw [show Rows.laid_unicode_Digit = rtabData digitT from digit_eq] at r5
 rw [show Rows.laid_unicode_Letter = rtabData letterT from letter_eq] at r6
 rw [show Rows.laid_unicode_utf8_first = firstData from first_eq] at r7
 exact ⟨utf8Tabs_of_readsT u8ty u8x r7 r1,whiteTab_of_reads Tryz.lays199 wx r2,tabIs_of_reads (g:=0) (by kernel_rfl) (by kernel_rfl) r4,tabIs_of_reads (g:=5) (by kernel_rfl) (by kernel_rfl) r3,
  rvar_of_readsT rty rx (by kernel_rfl) (by kernel_rfl) r6,rvar_of_readsT rty rx (by kernel_rfl) (by kernel_rfl) r5⟩
theorem tabsB {W : World} (h : Wk.Tabs W) : Wk.TabsB W.heap.size W:=fun w' hb =>
 ⟨Utf8Tabs_below h.u8 hb,WhiteTab_below h.white hb,TabIs_below (g:=0) (by kernel_rfl) h.asc hb,TabIs_below (g:=5) (by kernel_rfl) h.props hb,RVar_below h.letter hb,RVar_below h.digit hb⟩
theorem own : ownKnob Tryz.prog.godebug = none:=by kernel_rfl
noncomputable abbrev N0 : Nat:=(World.settled Tryz.prog default).heap.size
def errText : List UInt8:=[98,121,116,101,115,46,66,117,102,102,101,114,58,32,116,111,111,32,108,97,114,103,101]
noncomputable def laidWorld (os : Os) : World:=
 let N:=(World.settled Tryz.prog os).heap.size
 let w0:=World.holding Tryz.prog os ⟨#[
  .cells (rgCells .u16 digitT.r16) 155,.cells (rgCells .u32 digitT.r32) 158,
  .cells #[.slice (some ⟨N,0,none⟩) digitT.r16.size digitT.r16.size,.slice (some ⟨N + 1,0,none⟩) digitT.r32.size digitT.r32.size,.int .i64 digitT.off] 153,
  .cells (rgCells .u16 letterT.r16) 155,.cells (rgCells .u32 letterT.r32) 158,
  .cells #[.slice (some ⟨N + 3,0,none⟩) letterT.r16.size letterT.r16.size,.slice (some ⟨N + 4,0,none⟩) letterT.r32.size letterT.r32.size,.int .i64 letterT.off] 153,
  .cells (whiteT.map fun (z : Nat) => Value.int .u16 (z : Int)).toArray 155,
  .cells #[.slice (some ⟨N + 6,0,none⟩) 7 7,.slice none 0 0,.int .i64 2] 153,
  .cells #[.string ⟨⟨errText⟩⟩] 144],#[],[]⟩
 let put (h : Array Obj) (g : Nat) (cs : Array Value) : Array Obj:=h.modify g fun
  | .cells _ t frozen => .cells cs t frozen
  | o => o
 let h1:=put w0.heap 0 (asciiSpaceTab.map fun z => Value.int .u8 z).toArray
 let h2:=put h1 1 #[.pointer (some ⟨N + 7,0,none⟩)]
 let h3:=put h2 2 (firstTab.map fun z => Value.int .u8 z).toArray
 let h4:=put h3 3 ((List.range 16).flatMap fun i => [Value.int .u8 (accLo i),Value.int .u8 (accHi i)]).toArray
 let h5:=put h4 4 #[.iface 142 (.pointer (some ⟨N + 8,0,none⟩))]
 let h6:=put h5 5 (propertiesTab.map fun z => Value.int .u8 z).toArray
 let h7:=put h6 6 #[.pointer (some ⟨N + 5,0,none⟩)]
 let h8:=put h7 7 #[.pointer (some ⟨N + 2,0,none⟩)]
 { w0 with heap:=h8 }
theorem piece0 (os : Os) (args : Array Value) : LaidIn Tryz.prog ((laidWorld os).forCall (fun _ _ => 0) ⟨#[],args,[]⟩).memory
  [("unicode/utf8.acceptRanges", Rows.laid_unicode_utf8_acceptRanges), ("unicode.White_Space", Rows.laid_unicode_White_Space), ("unicode.properties", Rows.laid_unicode_properties), ("bytes.ErrTooLarge", Rows.laid_bytes_ErrTooLarge), ("bytes.asciiSpace", Rows.laid_bytes_asciiSpace)] [3, 1, 5, 4, 0, N0 + 6, N0 + 7, N0 + 8] :=
 LaidIn.of_run [3,1,5,4,0,N0 + 6,N0 + 7,N0 + 8] 8 (by kernel_rfl) (by kernel_rfl) (by kernel_rfl) (by kernel_rfl)
theorem pieceD (os : Os) (args : Array Value) : LaidIn Tryz.prog ((laidWorld os).forCall (fun _ _ => 0) ⟨#[], args, []⟩).memory [("unicode.Digit", rtabData digitT)] [7, N0 + 2, N0, N0 + 1] :=
 laidIn_rtabT (ρ:=Tryz.lays198_ren) rty rx (by kernel_rfl) (by kernel_rfl) digitT (N0 + 2) N0 (N0 + 1) 155 158
  (by kernel_rfl) (by kernel_rfl) (by kernel_rfl) (by kernel_rfl) (by kernel_rfl) (of_decide_eq_true (by kernel_rfl)) (of_decide_eq_true (by kernel_rfl)) (of_decide_eq_true (by kernel_rfl))
theorem pieceL (os : Os) (args : Array Value) : LaidIn Tryz.prog ((laidWorld os).forCall (fun _ _ => 0) ⟨#[], args, []⟩).memory [("unicode.Letter", rtabData letterT)] [6, N0 + 5, N0 + 3, N0 + 4] :=
 laidIn_rtabT (ρ:=Tryz.lays198_ren) rty rx (by kernel_rfl) (by kernel_rfl) letterT (N0 + 5) (N0 + 3) (N0 + 4) 155 158
  (by kernel_rfl) (by kernel_rfl) (by kernel_rfl) (by kernel_rfl) (by kernel_rfl) (of_decide_eq_true (by kernel_rfl)) (of_decide_eq_true (by kernel_rfl)) (of_decide_eq_true (by kernel_rfl))
theorem pieceF (os : Os) (args : Array Value) : LaidIn Tryz.prog ((laidWorld os).forCall (fun _ _ => 0) ⟨#[], args, []⟩).memory [("unicode/utf8.first", firstData)] [2] :=
 LaidIn.of_run [2] 8 (by kernel_rfl) (by kernel_rfl) (by kernel_rfl) (by kernel_rfl)
theorem laid_met (os : Os) (args : Array Value) : laidMet Tryz.prog Rows.fnFrontUnendedRow.laid ((laidWorld os).forCall (fun _ _ => 0) ⟨#[],args,[]⟩).memory:=by
 have h:=((((piece0 os args).append (pieceD os args) (by kernel_rfl)).append (pieceL os args) (by kernel_rfl)).append (pieceF os args) (by kernel_rfl)).met
 have e : Rows.fnFrontUnendedRow.laid = (([("unicode/utf8.acceptRanges", Rows.laid_unicode_utf8_acceptRanges), ("unicode.White_Space", Rows.laid_unicode_White_Space), ("unicode.properties", Rows.laid_unicode_properties), ("bytes.ErrTooLarge", Rows.laid_bytes_ErrTooLarge), ("bytes.asciiSpace", Rows.laid_bytes_asciiSpace)] ++ [("unicode.Digit", rtabData digitT)]) ++ [("unicode.Letter", rtabData letterT)]) ++ [("unicode/utf8.first", firstData)] := by
  rw [← digit_eq,← letter_eq,← first_eq]
  rfl
 rw [e]
 exact h
end Go.Proofs.YtmbencknblcocaaGreatDoor
