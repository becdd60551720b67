/- The questions about an item. -/
import Derived.Test.YtmbencknblcocaaGreatDoorYae
namespace Go.Wk
open Go Go.RowKit Go.Proofs
set_option maxRecDepth 100000
theorem isInd_fn (x : IC) (w : World) : Fn PT 47 [x.val] w (fun u w' => u = .bool (decide (x.ty = 17)) ∧ Ext w w'):=by
 refine fn_of Tryz.func47 rfl Tryz.ntmps47 rfl ?_
 repeat(first|refine C0 ?_|refine C1 ?_)
 refine RE.xe (e_box (cells:=x.lst.toArray) rfl rfl) rfl ?_
 rintro _ w1 ⟨bx,rfl,hn1⟩
 have hb:=hn1.here
 repeat(first|refine C0 ?_|refine C1 ?_|refine X0 rfl rfl ?_|refine X3 rfl rfl rfl ?_|refine X22 rfl rfl hb rfl rfl ?_|refine X5 rfl rfl rfl ?_|refine C2 ?_)
 (refine CE.ret ?_;(try dsimp only);refine ret1 rfl rfl ?_)
 exact ⟨rfl,hn1.ext⟩
theorem isName_fn (x : IC) (w : World) : Fn PT 49 [x.val] w (fun u w' => u = .bool (decide (x.ty = 13)) ∧ Ext w w'):=by
 refine fn_of Tryz.func49 rfl Tryz.ntmps49 rfl ?_
 repeat(first|refine C0 ?_|refine C1 ?_)
 refine RE.xe (e_box (cells:=x.lst.toArray) rfl rfl) rfl ?_
 rintro _ w1 ⟨bx,rfl,hn1⟩
 have hb:=hn1.here
 repeat(first|refine C0 ?_|refine C1 ?_|refine X0 rfl rfl ?_|refine X3 rfl rfl rfl ?_|refine X22 rfl rfl hb rfl rfl ?_|refine X5 rfl rfl rfl ?_|refine C2 ?_)
 (refine CE.ret ?_;(try dsimp only);refine ret1 rfl rfl ?_)
 exact ⟨rfl,hn1.ext⟩
theorem isInline_fn (x : IC) (w : World) : Fn PT 50 [x.val] w (fun u w' => u = .bool (decide (x.ty = 14)) ∧ Ext w w'):=by
 refine fn_of Tryz.func50 rfl Tryz.ntmps50 rfl ?_
 repeat(first|refine C0 ?_|refine C1 ?_)
 refine RE.xe (e_box (cells:=x.lst.toArray) rfl rfl) rfl ?_
 rintro _ w1 ⟨bx,rfl,hn1⟩
 have hb:=hn1.here
 repeat(first|refine C0 ?_|refine C1 ?_|refine X0 rfl rfl ?_|refine X3 rfl rfl rfl ?_|refine X22 rfl rfl hb rfl rfl ?_|refine X5 rfl rfl rfl ?_|refine C2 ?_)
 (refine CE.ret ?_;(try dsimp only);refine ret1 rfl rfl ?_)
 exact ⟨rfl,hn1.ext⟩
theorem isClose_fn (x : IC) (w : World) : Fn PT 53 [x.val] w (fun u w' => u = .bool (decide (x.ty = 12)) ∧ Ext w w'):=by
 refine fn_of Tryz.func53 rfl Tryz.ntmps53 rfl ?_
 repeat(first|refine C0 ?_|refine C1 ?_)
 refine RE.xe (e_box (cells:=x.lst.toArray) rfl rfl) rfl ?_
 rintro _ w1 ⟨bx,rfl,hn1⟩
 have hb:=hn1.here
 repeat(first|refine C0 ?_|refine C1 ?_|refine X0 rfl rfl ?_|refine X3 rfl rfl rfl ?_|refine X22 rfl rfl hb rfl rfl ?_|refine X5 rfl rfl rfl ?_|refine C2 ?_)
 (refine CE.ret ?_;(try dsimp only);refine ret1 rfl rfl ?_)
 exact ⟨rfl,hn1.ext⟩
theorem isParam_fn (x : IC) (w : World) : Fn PT 54 [x.val] w (fun u w' => u = .bool (decide (x.ty = 15)) ∧ Ext w w'):=by
 refine fn_of Tryz.func54 rfl Tryz.ntmps54 rfl ?_
 repeat(first|refine C0 ?_|refine C1 ?_)
 refine RE.xe (e_box (cells:=x.lst.toArray) rfl rfl) rfl ?_
 rintro _ w1 ⟨bx,rfl,hn1⟩
 have hb:=hn1.here
 repeat(first|refine C0 ?_|refine C1 ?_|refine X0 rfl rfl ?_|refine X3 rfl rfl rfl ?_|refine X22 rfl rfl hb rfl rfl ?_|refine X5 rfl rfl rfl ?_|refine C2 ?_)
 (refine CE.ret ?_;(try dsimp only);refine ret1 rfl rfl ?_)
 exact ⟨rfl,hn1.ext⟩
theorem isPval_fn (x : IC) (w : World) : Fn PT 55 [x.val] w (fun u w' => u = .bool (decide (x.ty = 16)) ∧ Ext w w'):=by
 refine fn_of Tryz.func55 rfl Tryz.ntmps55 rfl ?_
 repeat(first|refine C0 ?_|refine C1 ?_)
 refine RE.xe (e_box (cells:=x.lst.toArray) rfl rfl) rfl ?_
 rintro _ w1 ⟨bx,rfl,hn1⟩
 have hb:=hn1.here
 repeat(first|refine C0 ?_|refine C1 ?_|refine X0 rfl rfl ?_|refine X3 rfl rfl rfl ?_|refine X22 rfl rfl hb rfl rfl ?_|refine X5 rfl rfl rfl ?_|refine C2 ?_)
 (refine CE.ret ?_;(try dsimp only);refine ret1 rfl rfl ?_)
 exact ⟨rfl,hn1.ext⟩
theorem isEnd_fn (x : IC) (w : World) : Fn PT 59 [x.val] w (fun u w' => u = .bool (decide (x.ty = 1)) ∧ Ext w w'):=by
 refine fn_of Tryz.func59 rfl Tryz.ntmps59 rfl ?_
 repeat(first|refine C0 ?_|refine C1 ?_)
 refine RE.xe (e_box (cells:=x.lst.toArray) rfl rfl) rfl ?_
 rintro _ w1 ⟨bx,rfl,hn1⟩
 have hb:=hn1.here
 repeat(first|refine C0 ?_|refine C1 ?_|refine X0 rfl rfl ?_|refine X3 rfl rfl rfl ?_|refine X22 rfl rfl hb rfl rfl ?_|refine X5 rfl rfl rfl ?_|refine C2 ?_)
 (refine CE.ret ?_;(try dsimp only);refine ret1 rfl rfl ?_)
 exact ⟨rfl,hn1.ext⟩
theorem isErr_fn (x : IC) (w : World) : Fn PT 60 [x.val] w (fun u w' => u = .bool (decide (x.ty = 0)) ∧ Ext w w'):=by
 refine fn_of Tryz.func60 rfl Tryz.ntmps60 rfl ?_
 repeat(first|refine C0 ?_|refine C1 ?_)
 refine RE.xe (e_box (cells:=x.lst.toArray) rfl rfl) rfl ?_
 rintro _ w1 ⟨bx,rfl,hn1⟩
 have hb:=hn1.here
 repeat(first|refine C0 ?_|refine C1 ?_|refine X0 rfl rfl ?_|refine X3 rfl rfl rfl ?_|refine X22 rfl rfl hb rfl rfl ?_|refine X5 rfl rfl rfl ?_|refine C2 ?_)
 (refine CE.ret ?_;(try dsimp only);refine ret1 rfl rfl ?_)
 exact ⟨rfl,hn1.ext⟩
theorem isLeft_fn (x : IC) (w : World) : Fn PT 51 [x.val] w (fun u w' => u = .bool (decide (x.ty = 10) || decide (x.ty = 8)) ∧ Ext w w'):=by
 refine fn_of Tryz.func51 rfl Tryz.ntmps51 rfl ?_
 repeat(first|refine C0 ?_|refine C1 ?_)
 refine RE.xe (e_box (cells:=x.lst.toArray) rfl rfl) rfl ?_
 rintro _ w1 ⟨bx,rfl,hn1⟩
 have hb:=hn1.here
 repeat(first|refine C0 ?_|refine C1 ?_|refine X1 rfl rfl ?_|refine X0 rfl rfl ?_|refine X3 rfl rfl rfl ?_|refine X22 rfl rfl hb rfl rfl ?_|refine X5 rfl rfl rfl ?_|refine C2 ?_)
 refine RE.splitD (fun h1 => ?_) (fun h1 => ?_)
 ·repeat(first|refine X0 rfl rfl ?_|refine X16 rfl rfl rfl rfl ?_|refine RE.nox rfl rfl rfl rfl ?_|refine C2 ?_)
  (refine CE.ret ?_;(try dsimp only);refine ret1 rfl rfl ?_)
  exact ⟨by have h2 : x.ty = 10:=h1; simp [h2],hn1.ext⟩
 ·repeat(first|refine X0 rfl rfl ?_|refine X3 rfl rfl rfl ?_|refine X22 rfl rfl hb rfl rfl ?_|refine X5 rfl rfl rfl ?_|refine X17 rfl rfl rfl ?_|refine RE.want rfl rfl ?_|refine C2 ?_)
  (refine CE.ret ?_;(try dsimp only);refine ret1 rfl rfl ?_)
  exact ⟨by have h2 : ¬ x.ty = 10:=h1; simp [h2],hn1.ext⟩
theorem isRight_fn (x : IC) (w : World) : Fn PT 52 [x.val] w (fun u w' => u = .bool (decide (x.ty = 11) || decide (x.ty = 9)) ∧ Ext w w'):=by
 refine fn_of Tryz.func52 rfl Tryz.ntmps52 rfl ?_
 repeat(first|refine C0 ?_|refine C1 ?_)
 refine RE.xe (e_box (cells:=x.lst.toArray) rfl rfl) rfl ?_
 rintro _ w1 ⟨bx,rfl,hn1⟩
 have hb:=hn1.here
 repeat(first|refine C0 ?_|refine C1 ?_|refine X1 rfl rfl ?_|refine X0 rfl rfl ?_|refine X3 rfl rfl rfl ?_|refine X22 rfl rfl hb rfl rfl ?_|refine X5 rfl rfl rfl ?_|refine C2 ?_)
 refine RE.splitD (fun h1 => ?_) (fun h1 => ?_)
 ·repeat(first|refine X0 rfl rfl ?_|refine X16 rfl rfl rfl rfl ?_|refine RE.nox rfl rfl rfl rfl ?_|refine C2 ?_)
  (refine CE.ret ?_;(try dsimp only);refine ret1 rfl rfl ?_)
  exact ⟨by have h2 : x.ty = 11:=h1; simp [h2],hn1.ext⟩
 ·repeat(first|refine X0 rfl rfl ?_|refine X3 rfl rfl rfl ?_|refine X22 rfl rfl hb rfl rfl ?_|refine X5 rfl rfl rfl ?_|refine X17 rfl rfl rfl ?_|refine RE.want rfl rfl ?_|refine C2 ?_)
  (refine CE.ret ?_;(try dsimp only);refine ret1 rfl rfl ?_)
  exact ⟨by have h2 : ¬ x.ty = 11:=h1; simp [h2],hn1.ext⟩
theorem isMark_fn (x : IC) (w : World) : Fn PT 56 [x.val] w (fun u w' => u = .bool (decide (x.ty = 10) || decide (x.ty = 11)) ∧ Ext w w'):=by
 refine fn_of Tryz.func56 rfl Tryz.ntmps56 rfl ?_
 repeat(first|refine C0 ?_|refine C1 ?_)
 refine RE.xe (e_box (cells:=x.lst.toArray) rfl rfl) rfl ?_
 rintro _ w1 ⟨bx,rfl,hn1⟩
 have hb:=hn1.here
 repeat(first|refine C0 ?_|refine C1 ?_|refine X1 rfl rfl ?_|refine X0 rfl rfl ?_|refine X3 rfl rfl rfl ?_|refine X22 rfl rfl hb rfl rfl ?_|refine X5 rfl rfl rfl ?_|refine C2 ?_)
 refine RE.splitD (fun h1 => ?_) (fun h1 => ?_)
 ·repeat(first|refine X0 rfl rfl ?_|refine X16 rfl rfl rfl rfl ?_|refine RE.nox rfl rfl rfl rfl ?_|refine C2 ?_)
  (refine CE.ret ?_;(try dsimp only);refine ret1 rfl rfl ?_)
  exact ⟨by have h2 : x.ty = 10:=h1; simp [h2],hn1.ext⟩
 ·repeat(first|refine X0 rfl rfl ?_|refine X3 rfl rfl rfl ?_|refine X22 rfl rfl hb rfl rfl ?_|refine X5 rfl rfl rfl ?_|refine X17 rfl rfl rfl ?_|refine RE.want rfl rfl ?_|refine C2 ?_)
  (refine CE.ret ?_;(try dsimp only);refine ret1 rfl rfl ?_)
  exact ⟨by have h2 : ¬ x.ty = 10:=h1; simp [h2],hn1.ext⟩
theorem isFront_fn (x : IC) (w : World) : Fn PT 57 [x.val] w (fun u w' => u = .bool (decide (3 ≤ x.ty) && decide (x.ty ≤ 6)) ∧ Ext w w'):=by
 refine fn_of Tryz.func57 rfl Tryz.ntmps57 rfl ?_
 repeat(first|refine C0 ?_|refine C1 ?_)
 refine RE.xe (e_box (cells:=x.lst.toArray) rfl rfl) rfl ?_
 rintro _ w1 ⟨bx,rfl,hn1⟩
 have hb:=hn1.here
 repeat(first|refine C0 ?_|refine C1 ?_|refine X1 rfl rfl ?_|refine X0 rfl rfl ?_|refine X3 rfl rfl rfl ?_|refine X22 rfl rfl hb rfl rfl ?_|refine X10 rfl rfl rfl ?_|refine C2 ?_)
 refine RE.splitD (fun h1 => ?_) (fun h1 => ?_)
 ·repeat(first|refine X0 rfl rfl ?_|refine X3 rfl rfl rfl ?_|refine X22 rfl rfl hb rfl rfl ?_|refine X8 rfl rfl rfl ?_|refine X16 rfl rfl rfl rfl ?_|refine RE.want rfl rfl ?_|refine C2 ?_)
  (refine CE.ret ?_;(try dsimp only);refine ret1 rfl rfl ?_)
  exact ⟨by have h2 : x.ty ≥ 3:=h1; simp [h2],hn1.ext⟩
 ·repeat(first|refine X0 rfl rfl ?_|refine X17 rfl rfl rfl ?_|refine RE.nox rfl rfl rfl rfl ?_|refine C2 ?_)
  (refine CE.ret ?_;(try dsimp only);refine ret1 rfl rfl ?_)
  exact ⟨by have h2 : ¬ 3 ≤ x.ty:=h1; simp [h2],hn1.ext⟩
theorem isText_fn (x : IC) (w : World) : Fn PT 46 [x.val] w (fun u w' => u = .bool (decide (x.ty = 18) || decide (x.ty = 17)) ∧ Ext w w'):=by
 refine fn_of Tryz.func46 rfl Tryz.ntmps46 rfl ?_
 repeat(first|refine C0 ?_|refine C1 ?_)
 refine RE.xe (e_box (cells:=x.lst.toArray) rfl rfl) rfl ?_
 rintro _ w1 ⟨bx,rfl,hn1⟩
 have hb:=hn1.here
 repeat(first|refine C0 ?_|refine C1 ?_|refine X1 rfl rfl ?_|refine X0 rfl rfl ?_|refine X3 rfl rfl rfl ?_|refine X22 rfl rfl hb rfl rfl ?_|refine X5 rfl rfl rfl ?_|refine C2 ?_)
 refine RE.splitD (fun h1 => ?_) (fun h1 => ?_)
 ·repeat(first|refine X0 rfl rfl ?_|refine X16 rfl rfl rfl rfl ?_|refine RE.nox rfl rfl rfl rfl ?_|refine C2 ?_)
  (refine CE.ret ?_;(try dsimp only);refine ret1 rfl rfl ?_)
  exact ⟨by have h2 : x.ty = 18:=h1; simp [h2],hn1.ext⟩
 ·repeat(first|refine X23 rfl rfl hb rfl rfl rfl ?_|refine RE.want rfl rfl ?_)
  refine RE.xc en47 rfl rfl (isInd_fn x w1) ?_
  rintro _ w2 ⟨rfl,e2⟩
  repeat(first|refine X0 rfl rfl ?_|refine X17 rfl rfl rfl ?_|refine C2 ?_)
  (refine CE.ret ?_;(try dsimp only);refine ret1 rfl rfl ?_)
  exact ⟨by have h2 : ¬ x.ty = 18:=h1; simp [h2],hn1.ext.trans e2⟩
theorem isDone_fn (x : IC) (w : World) : Fn PT 58 [x.val] w (fun u w' => u = .bool (decide (x.ty = 0) || decide (x.ty = 1)) ∧ Ext w w'):=by
 refine fn_of Tryz.func58 rfl Tryz.ntmps58 rfl ?_
 repeat(first|refine C0 ?_|refine C1 ?_)
 refine RE.xe (e_box (cells:=x.lst.toArray) rfl rfl) rfl ?_
 rintro _ w1 ⟨bx,rfl,hn1⟩
 have hb:=hn1.here
 repeat(first|refine C0 ?_|refine C1 ?_|refine X0 rfl rfl ?_|refine X23 rfl rfl hb rfl rfl rfl ?_|refine C2 ?_)
 refine RE.xc en60 rfl rfl (isErr_fn x w1) ?_
 rintro _ w2 ⟨rfl,e2⟩
 have hb2:=e2.block hb
 repeat (refine X1 rfl rfl ?_)
 refine RE.splitD (fun h1 => ?_) (fun h1 => ?_)
 ·repeat(first|refine X0 rfl rfl ?_|refine X16 rfl rfl rfl rfl ?_|refine RE.nox rfl rfl rfl rfl ?_|refine C2 ?_)
  (refine CE.ret ?_;(try dsimp only);refine ret1 rfl rfl ?_)
  exact ⟨by have h2 : x.ty = 0:=h1; simp [h2],hn1.ext.trans e2⟩
 ·repeat(first|refine X23 rfl rfl hb2 rfl rfl rfl ?_|refine RE.want rfl rfl ?_)
  refine RE.xc en59 rfl rfl (isEnd_fn x w2) ?_
  rintro _ w3 ⟨rfl,e3⟩
  repeat(first|refine X0 rfl rfl ?_|refine X17 rfl rfl rfl ?_|refine C2 ?_)
  (refine CE.ret ?_;(try dsimp only);refine ret1 rfl rfl ?_)
  exact ⟨by have h2 : ¬ x.ty = 0:=h1; simp [h2],(hn1.ext.trans e2).trans e3⟩
end Go.Wk
