/- The specification's lexer: words, finish; is a text ASCII? -/
import Derived.Test.YtmbencknblcocaaGreatDoorYaw
namespace Go.Wk
open Go Go.RowKit Go.Proofs
set_option maxRecDepth 100000
set_option maxHeartbeats 4000000 in
theorem pageWord_fn (b : UInt8) (w : World) : Fn PT 89 [Wk.B b] w (fun u w' => u = .bool (wordB b) ∧ w' = w):=by
 refine fn_of Tryz.func89 rfl Tryz.ntmps89 rfl ?_
 repeat(first|refine C0 ?_|refine C1 ?_|refine X1 rfl rfl ?_|refine X0 rfl rfl ?_|refine X10 rfl rfl rfl ?_|refine C2 ?_)
 refine RE.splitD (fun h1 => ?_) (fun h1 => ?_)
 ·repeat(first|refine X1 rfl rfl ?_|refine X8 rfl rfl rfl ?_|refine X16 rfl rfl rfl rfl ?_|refine RE.want rfl rfl ?_)
  refine RE.splitD (fun h2 => ?_) (fun h2 => ?_)
  ·repeat(first|refine X1 rfl rfl ?_|refine X0 rfl rfl ?_|refine X16 rfl rfl rfl rfl ?_|refine RE.nox rfl rfl rfl rfl ?_|refine RE.nou rfl rfl rfl ?_|refine C2 ?_)
   (refine CE.ret ?_;(try dsimp only);refine ret1 rfl rfl ?_)
   refine ⟨?_,rfl⟩
   congr 1
   unfold wordB
   rw [Bool.eq_iff_iff]
   simp
   omega
  ·repeat(first|refine X1 rfl rfl ?_|refine X10 rfl rfl rfl ?_|refine RE.want rfl rfl ?_)
   refine RE.splitD (fun h3 => ?_) (fun h3 => ?_)
   ·repeat(first|refine X1 rfl rfl ?_|refine X8 rfl rfl rfl ?_|refine X16 rfl rfl rfl rfl ?_|refine X17 rfl rfl rfl ?_|refine RE.want rfl rfl ?_)
    refine RE.splitD (fun h4 => ?_) (fun h4 => ?_)
    ·repeat(first|refine X1 rfl rfl ?_|refine X0 rfl rfl ?_|refine X16 rfl rfl rfl rfl ?_|refine RE.nox rfl rfl rfl rfl ?_|refine RE.nou rfl rfl rfl ?_|refine C2 ?_)
     (refine CE.ret ?_;(try dsimp only);refine ret1 rfl rfl ?_)
     refine ⟨?_,rfl⟩
     congr 1
     unfold wordB
     rw [Bool.eq_iff_iff]
     simp
     omega
    ·repeat(first|refine X1 rfl rfl ?_|refine X10 rfl rfl rfl ?_|refine RE.want rfl rfl ?_)
     refine RE.splitD (fun h5 => ?_) (fun h5 => ?_)
     ·repeat(first|refine X1 rfl rfl ?_|refine X8 rfl rfl rfl ?_|refine X16 rfl rfl rfl rfl ?_|refine X17 rfl rfl rfl ?_|refine RE.want rfl rfl ?_)
      refine RE.splitD (fun h6 => ?_) (fun h6 => ?_)
      ·repeat(first|refine X1 rfl rfl ?_|refine X0 rfl rfl ?_|refine X16 rfl rfl rfl rfl ?_|refine RE.nox rfl rfl rfl rfl ?_|refine C2 ?_)
       (refine CE.ret ?_;(try dsimp only);refine ret1 rfl rfl ?_)
       refine ⟨?_,rfl⟩
       congr 1
       unfold wordB
       rw [Bool.eq_iff_iff]
       simp
       omega
      ·repeat(first|refine X1 rfl rfl ?_|refine X5 rfl rfl rfl ?_|refine X17 rfl rfl rfl ?_|refine RE.want rfl rfl ?_)
       refine RE.splitD (fun h7 => ?_) (fun h7 => ?_)
       ·repeat(first|refine X0 rfl rfl ?_|refine X16 rfl rfl rfl rfl ?_|refine RE.nox rfl rfl rfl rfl ?_|refine C2 ?_)
        (refine CE.ret ?_;(try dsimp only);refine ret1 rfl rfl ?_)
        refine ⟨?_,rfl⟩
        congr 1
        unfold wordB
        rw [Bool.eq_iff_iff]
        simp
        omega
       ·repeat(first|refine X1 rfl rfl ?_|refine X0 rfl rfl ?_|refine X5 rfl rfl rfl ?_|refine X17 rfl rfl rfl ?_|refine RE.want rfl rfl ?_|refine C2 ?_)
        (refine CE.ret ?_;(try dsimp only);refine ret1 rfl rfl ?_)
        refine ⟨?_,rfl⟩
        congr 1
        unfold wordB
        rw [Bool.eq_iff_iff]
        simp
        omega
     ·repeat(first|refine X1 rfl rfl ?_|refine X5 rfl rfl rfl ?_|refine X17 rfl rfl rfl ?_|refine RE.want rfl rfl ?_|refine RE.nox rfl rfl rfl rfl ?_)
      refine RE.splitD (fun h8 => ?_) (fun h8 => ?_)
      ·repeat(first|refine X0 rfl rfl ?_|refine X16 rfl rfl rfl rfl ?_|refine RE.nox rfl rfl rfl rfl ?_|refine C2 ?_)
       (refine CE.ret ?_;(try dsimp only);refine ret1 rfl rfl ?_)
       refine ⟨?_,rfl⟩
       congr 1
       unfold wordB
       rw [Bool.eq_iff_iff]
       simp
       omega
      ·repeat(first|refine X1 rfl rfl ?_|refine X0 rfl rfl ?_|refine X5 rfl rfl rfl ?_|refine X17 rfl rfl rfl ?_|refine RE.want rfl rfl ?_|refine C2 ?_)
       (refine CE.ret ?_;(try dsimp only);refine ret1 rfl rfl ?_)
       refine ⟨?_,rfl⟩
       congr 1
       unfold wordB
       rw [Bool.eq_iff_iff]
       simp
       omega
   ·repeat(first|refine X1 rfl rfl ?_|refine X10 rfl rfl rfl ?_|refine X17 rfl rfl rfl ?_|refine RE.want rfl rfl ?_|refine RE.nox rfl rfl rfl rfl ?_)
    refine RE.splitD (fun h9 => ?_) (fun h9 => ?_)
    ·repeat(first|refine X1 rfl rfl ?_|refine X8 rfl rfl rfl ?_|refine X16 rfl rfl rfl rfl ?_|refine X17 rfl rfl rfl ?_|refine RE.want rfl rfl ?_)
     refine RE.splitD (fun h10 => ?_) (fun h10 => ?_)
     ·repeat(first|refine X1 rfl rfl ?_|refine X0 rfl rfl ?_|refine X16 rfl rfl rfl rfl ?_|refine RE.nox rfl rfl rfl rfl ?_|refine C2 ?_)
      (refine CE.ret ?_;(try dsimp only);refine ret1 rfl rfl ?_)
      refine ⟨?_,rfl⟩
      congr 1
      unfold wordB
      rw [Bool.eq_iff_iff]
      simp
      omega
     ·repeat(first|refine X1 rfl rfl ?_|refine X5 rfl rfl rfl ?_|refine X17 rfl rfl rfl ?_|refine RE.want rfl rfl ?_)
      refine RE.splitD (fun h11 => ?_) (fun h11 => ?_)
      ·repeat(first|refine X0 rfl rfl ?_|refine X16 rfl rfl rfl rfl ?_|refine RE.nox rfl rfl rfl rfl ?_|refine C2 ?_)
       (refine CE.ret ?_;(try dsimp only);refine ret1 rfl rfl ?_)
       refine ⟨?_,rfl⟩
       congr 1
       unfold wordB
       rw [Bool.eq_iff_iff]
       simp
       omega
      ·repeat(first|refine X1 rfl rfl ?_|refine X0 rfl rfl ?_|refine X5 rfl rfl rfl ?_|refine X17 rfl rfl rfl ?_|refine RE.want rfl rfl ?_|refine C2 ?_)
       (refine CE.ret ?_;(try dsimp only);refine ret1 rfl rfl ?_)
       refine ⟨?_,rfl⟩
       congr 1
       unfold wordB
       rw [Bool.eq_iff_iff]
       simp
       omega
    ·repeat(first|refine X1 rfl rfl ?_|refine X5 rfl rfl rfl ?_|refine X17 rfl rfl rfl ?_|refine RE.want rfl rfl ?_|refine RE.nox rfl rfl rfl rfl ?_)
     refine RE.splitD (fun h12 => ?_) (fun h12 => ?_)
     ·repeat(first|refine X0 rfl rfl ?_|refine X16 rfl rfl rfl rfl ?_|refine RE.nox rfl rfl rfl rfl ?_|refine C2 ?_)
      (refine CE.ret ?_;(try dsimp only);refine ret1 rfl rfl ?_)
      refine ⟨?_,rfl⟩
      congr 1
      unfold wordB
      rw [Bool.eq_iff_iff]
      simp
      omega
     ·repeat(first|refine X1 rfl rfl ?_|refine X0 rfl rfl ?_|refine X5 rfl rfl rfl ?_|refine X17 rfl rfl rfl ?_|refine RE.want rfl rfl ?_|refine C2 ?_)
      (refine CE.ret ?_;(try dsimp only);refine ret1 rfl rfl ?_)
      refine ⟨?_,rfl⟩
      congr 1
      unfold wordB
      rw [Bool.eq_iff_iff]
      simp
      omega
 ·repeat(first|refine X1 rfl rfl ?_|refine X10 rfl rfl rfl ?_|refine X17 rfl rfl rfl ?_|refine RE.want rfl rfl ?_|refine RE.nox rfl rfl rfl rfl ?_)
  refine RE.splitD (fun h13 => ?_) (fun h13 => ?_)
  ·repeat(first|refine X1 rfl rfl ?_|refine X8 rfl rfl rfl ?_|refine X16 rfl rfl rfl rfl ?_|refine X17 rfl rfl rfl ?_|refine RE.want rfl rfl ?_)
   refine RE.splitD (fun h14 => ?_) (fun h14 => ?_)
   ·repeat(first|refine X1 rfl rfl ?_|refine X0 rfl rfl ?_|refine X16 rfl rfl rfl rfl ?_|refine RE.nox rfl rfl rfl rfl ?_|refine RE.nou rfl rfl rfl ?_|refine C2 ?_)
    (refine CE.ret ?_;(try dsimp only);refine ret1 rfl rfl ?_)
    refine ⟨?_,rfl⟩
    congr 1
    unfold wordB
    rw [Bool.eq_iff_iff]
    simp
    omega
   ·repeat(first|refine X1 rfl rfl ?_|refine X10 rfl rfl rfl ?_|refine RE.want rfl rfl ?_)
    refine RE.splitD (fun h15 => ?_) (fun h15 => ?_)
    ·repeat(first|refine X1 rfl rfl ?_|refine X8 rfl rfl rfl ?_|refine X16 rfl rfl rfl rfl ?_|refine X17 rfl rfl rfl ?_|refine RE.want rfl rfl ?_)
     refine RE.splitD (fun h16 => ?_) (fun h16 => ?_)
     ·repeat(first|refine X1 rfl rfl ?_|refine X0 rfl rfl ?_|refine X16 rfl rfl rfl rfl ?_|refine RE.nox rfl rfl rfl rfl ?_|refine C2 ?_)
      (refine CE.ret ?_;(try dsimp only);refine ret1 rfl rfl ?_)
      refine ⟨?_,rfl⟩
      congr 1
      unfold wordB
      rw [Bool.eq_iff_iff]
      simp
      omega
     ·repeat(first|refine X1 rfl rfl ?_|refine X5 rfl rfl rfl ?_|refine X17 rfl rfl rfl ?_|refine RE.want rfl rfl ?_)
      refine RE.splitD (fun h17 => ?_) (fun h17 => ?_)
      ·repeat(first|refine X0 rfl rfl ?_|refine X16 rfl rfl rfl rfl ?_|refine RE.nox rfl rfl rfl rfl ?_|refine C2 ?_)
       (refine CE.ret ?_;(try dsimp only);refine ret1 rfl rfl ?_)
       refine ⟨?_,rfl⟩
       congr 1
       unfold wordB
       rw [Bool.eq_iff_iff]
       simp
       omega
      ·repeat(first|refine X1 rfl rfl ?_|refine X0 rfl rfl ?_|refine X5 rfl rfl rfl ?_|refine X17 rfl rfl rfl ?_|refine RE.want rfl rfl ?_|refine C2 ?_)
       (refine CE.ret ?_;(try dsimp only);refine ret1 rfl rfl ?_)
       refine ⟨?_,rfl⟩
       congr 1
       unfold wordB
       rw [Bool.eq_iff_iff]
       simp
       omega
    ·repeat(first|refine X1 rfl rfl ?_|refine X5 rfl rfl rfl ?_|refine X17 rfl rfl rfl ?_|refine RE.want rfl rfl ?_|refine RE.nox rfl rfl rfl rfl ?_)
     refine RE.splitD (fun h18 => ?_) (fun h18 => ?_)
     ·repeat(first|refine X0 rfl rfl ?_|refine X16 rfl rfl rfl rfl ?_|refine RE.nox rfl rfl rfl rfl ?_|refine C2 ?_)
      (refine CE.ret ?_;(try dsimp only);refine ret1 rfl rfl ?_)
      refine ⟨?_,rfl⟩
      congr 1
      unfold wordB
      rw [Bool.eq_iff_iff]
      simp
      omega
     ·repeat(first|refine X1 rfl rfl ?_|refine X0 rfl rfl ?_|refine X5 rfl rfl rfl ?_|refine X17 rfl rfl rfl ?_|refine RE.want rfl rfl ?_|refine C2 ?_)
      (refine CE.ret ?_;(try dsimp only);refine ret1 rfl rfl ?_)
      refine ⟨?_,rfl⟩
      congr 1
      unfold wordB
      rw [Bool.eq_iff_iff]
      simp
      omega
  ·repeat(first|refine X1 rfl rfl ?_|refine X10 rfl rfl rfl ?_|refine X17 rfl rfl rfl ?_|refine RE.want rfl rfl ?_|refine RE.nox rfl rfl rfl rfl ?_)
   refine RE.splitD (fun h19 => ?_) (fun h19 => ?_)
   ·repeat(first|refine X1 rfl rfl ?_|refine X8 rfl rfl rfl ?_|refine X16 rfl rfl rfl rfl ?_|refine X17 rfl rfl rfl ?_|refine RE.want rfl rfl ?_)
    refine RE.splitD (fun h20 => ?_) (fun h20 => ?_)
    ·repeat(first|refine X1 rfl rfl ?_|refine X0 rfl rfl ?_|refine X16 rfl rfl rfl rfl ?_|refine RE.nox rfl rfl rfl rfl ?_|refine C2 ?_)
     (refine CE.ret ?_;(try dsimp only);refine ret1 rfl rfl ?_)
     refine ⟨?_,rfl⟩
     congr 1
     unfold wordB
     rw [Bool.eq_iff_iff]
     simp
     omega
    ·repeat(first|refine X1 rfl rfl ?_|refine X5 rfl rfl rfl ?_|refine X17 rfl rfl rfl ?_|refine RE.want rfl rfl ?_)
     refine RE.splitD (fun h21 => ?_) (fun h21 => ?_)
     ·repeat(first|refine X0 rfl rfl ?_|refine X16 rfl rfl rfl rfl ?_|refine RE.nox rfl rfl rfl rfl ?_|refine C2 ?_)
      (refine CE.ret ?_;(try dsimp only);refine ret1 rfl rfl ?_)
      refine ⟨?_,rfl⟩
      congr 1
      unfold wordB
      rw [Bool.eq_iff_iff]
      simp
      omega
     ·repeat(first|refine X1 rfl rfl ?_|refine X0 rfl rfl ?_|refine X5 rfl rfl rfl ?_|refine X17 rfl rfl rfl ?_|refine RE.want rfl rfl ?_|refine C2 ?_)
      (refine CE.ret ?_;(try dsimp only);refine ret1 rfl rfl ?_)
      refine ⟨?_,rfl⟩
      congr 1
      unfold wordB
      rw [Bool.eq_iff_iff]
      simp
      omega
   ·repeat(first|refine X1 rfl rfl ?_|refine X5 rfl rfl rfl ?_|refine X17 rfl rfl rfl ?_|refine RE.want rfl rfl ?_|refine RE.nox rfl rfl rfl rfl ?_)
    refine RE.splitD (fun h22 => ?_) (fun h22 => ?_)
    ·repeat(first|refine X0 rfl rfl ?_|refine X16 rfl rfl rfl rfl ?_|refine RE.nox rfl rfl rfl rfl ?_|refine C2 ?_)
     (refine CE.ret ?_;(try dsimp only);refine ret1 rfl rfl ?_)
     refine ⟨?_,rfl⟩
     congr 1
     unfold wordB
     rw [Bool.eq_iff_iff]
     simp
     omega
    ·repeat(first|refine X1 rfl rfl ?_|refine X0 rfl rfl ?_|refine X5 rfl rfl rfl ?_|refine X17 rfl rfl rfl ?_|refine RE.want rfl rfl ?_|refine C2 ?_)
     (refine CE.ret ?_;(try dsimp only);refine ret1 rfl rfl ?_)
     refine ⟨?_,rfl⟩
     congr 1
     unfold wordB
     rw [Bool.eq_iff_iff]
     simp
     omega
end Go.Wk
