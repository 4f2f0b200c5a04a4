import Derived.Test.YtbigjdlcmlopcaaGreatDoorV
namespace Go.Proofs.YtbigjdlcmlopcaaGreatDoor
open Go.RowKit

theorem or_u8 (a b : Nat) (ha : a < 64) (hb : b < 64) : ∃ o : Nat, o < 64 ∧ bits .or .u8 (a : Int) (b : Int) = (o : Int) := by
  have h := (bits_nat .u8 8 (by decide) wraps_u8_8 a b (by omega) (by omega)).2
  exact ⟨a ||| b, Nat.or_lt_two_pow (n := 6) ha hb, h⟩
theorem wraps_u32_32 (n : Int) (h₀ : 0 ≤ n) (h₁ : n < 2 ^ 32) : IntKind.u32.wrap n = n := by rw [IntKind.wrap_u32]; omega
/-- The high part and the low part of a number. -/
theorem or_u32 (x a i y : Nat) (hx : x = 2 ^ i * a) (hy : y < 2 ^ i) (h : x < 4294967296) (h2 : y < 4294967296) : bits .or .u32 (x : Int) (y : Int) = ((x + y : Nat) : Int) := by
  have h := (bits_nat .u32 32 (by decide) wraps_u32_32 x y (by omega) (by omega)).2
  rw [h, hx, Nat.two_pow_add_eq_or_of_lt hy]
theorem or_u64 (x a i y : Nat) (hx : x = 2 ^ i * a) (hy : y < 2 ^ i) (h : x < 18446744073709551616) (h2 : y < 18446744073709551616) : bits .or .u64 (x : Int) (y : Int) = ((x + y : Nat) : Int) := by
  have h := bits_or_u64_nat x y h h2
  rw [h, hx, Nat.two_pow_add_eq_or_of_lt hy]

/-- assemble32. -/
theorem f145 {w : World} (i0 i1 i2 i3 : Nat) (h0 : i0 < 64) (h1 : i1 < 64) (h2 : i2 < 64) (h3 : i3 < 64) :
    Calls Tryz.prog 145 #[.int .u8 i0, .int .u8 i1, .int .u8 i2, .int .u8 i3] w fun r w' => r = .returned (.tuple #[.int .u32 ((i0 * 67108864 + i1 * 1048576 + i2 * 16384 + i3 * 256 : Nat) : Int), .bool true]) ∧ w' = w := by
  obtain ⟨o1, p1, e1⟩ := or_u8 i0 i1 h0 h1
  obtain ⟨o2, p2, e2⟩ := or_u8 o1 i2 p1 h2
  obtain ⟨o3, p3, e3⟩ := or_u8 o2 i3 p2 h3
  have b1 : ((o3 : Int) == 255) = false := by simp; omega
  have g1 := or_u32 (i0 * 67108864) i0 26 (i1 * 1048576) (by omega) (by omega) (by omega) (by omega)
  have g2 := or_u32 (i0 * 67108864 + i1 * 1048576) (i0 * 64 + i1) 20 (i2 * 16384) (by omega) (by omega) (by omega) (by omega)
  have g3 := or_u32 (i0 * 67108864 + i1 * 1048576 + i2 * 16384) ((i0 * 64 + i1) * 64 + i2) 14 (i3 * 256) (by omega) (by omega) (by omega) (by omega)
  simp only [Int.natCast_add, Int.natCast_mul, Int.cast_ofNat_Int] at g1 g2 g3
  go_enter Tryz.func145, Tryz.ntmps145
  go_wp2
  go_ret2
  refine ⟨?_, rfl⟩
  simp

set_option maxHeartbeats 3200000 in
/-- assemble64. -/
theorem f142 {w : World} (i0 i1 i2 i3 i4 i5 i6 i7 : Nat) (h0 : i0 < 64) (h1 : i1 < 64) (h2 : i2 < 64) (h3 : i3 < 64) (h4 : i4 < 64) (h5 : i5 < 64) (h6 : i6 < 64) (h7 : i7 < 64) :
    Calls Tryz.prog 142 #[.int .u8 i0, .int .u8 i1, .int .u8 i2, .int .u8 i3, .int .u8 i4, .int .u8 i5, .int .u8 i6, .int .u8 i7] w fun r w' =>
      r = .returned (.tuple #[.int .u64 ((i0 * 288230376151711744 + i1 * 4503599627370496 + i2 * 70368744177664 + i3 * 1099511627776 + i4 * 17179869184 + i5 * 268435456 + i6 * 4194304 + i7 * 65536 : Nat) : Int), .bool true]) ∧ w' = w := by
  obtain ⟨o1, p1, e1⟩ := or_u8 i0 i1 h0 h1
  obtain ⟨o2, p2, e2⟩ := or_u8 o1 i2 p1 h2
  obtain ⟨o3, p3, e3⟩ := or_u8 o2 i3 p2 h3
  obtain ⟨o4, p4, e4⟩ := or_u8 o3 i4 p3 h4
  obtain ⟨o5, p5, e5⟩ := or_u8 o4 i5 p4 h5
  obtain ⟨o6, p6, e6⟩ := or_u8 o5 i6 p5 h6
  obtain ⟨o7, p7, e7⟩ := or_u8 o6 i7 p6 h7
  have b1 : ((o7 : Int) == 255) = false := by simp; omega
  have g1 := or_u64 (i0 * 288230376151711744) i0 58 (i1 * 4503599627370496) (by omega) (by omega) (by omega) (by omega)
  have g2 := or_u64 (i0 * 288230376151711744 + i1 * 4503599627370496) (i0 * 64 + i1) 52 (i2 * 70368744177664) (by omega) (by omega) (by omega) (by omega)
  have g3 := or_u64 (i0 * 288230376151711744 + i1 * 4503599627370496 + i2 * 70368744177664) ((i0 * 64 + i1) * 64 + i2) 46 (i3 * 1099511627776) (by omega) (by omega) (by omega) (by omega)
  have g4 := or_u64 (i0 * 288230376151711744 + i1 * 4503599627370496 + i2 * 70368744177664 + i3 * 1099511627776) (((i0 * 64 + i1) * 64 + i2) * 64 + i3) 40 (i4 * 17179869184) (by omega) (by omega) (by omega) (by omega)
  have g5 := or_u64 (i0 * 288230376151711744 + i1 * 4503599627370496 + i2 * 70368744177664 + i3 * 1099511627776 + i4 * 17179869184) ((((i0 * 64 + i1) * 64 + i2) * 64 + i3) * 64 + i4) 34 (i5 * 268435456) (by omega) (by omega) (by omega) (by omega)
  have g6 := or_u64 (i0 * 288230376151711744 + i1 * 4503599627370496 + i2 * 70368744177664 + i3 * 1099511627776 + i4 * 17179869184 + i5 * 268435456) (((((i0 * 64 + i1) * 64 + i2) * 64 + i3) * 64 + i4) * 64 + i5) 28 (i6 * 4194304) (by omega) (by omega) (by omega) (by omega)
  have g7 := or_u64 (i0 * 288230376151711744 + i1 * 4503599627370496 + i2 * 70368744177664 + i3 * 1099511627776 + i4 * 17179869184 + i5 * 268435456 + i6 * 4194304) ((((((i0 * 64 + i1) * 64 + i2) * 64 + i3) * 64 + i4) * 64 + i5) * 64 + i6) 22 (i7 * 65536) (by omega) (by omega) (by omega) (by omega)
  simp only [Int.natCast_add, Int.natCast_mul, Int.cast_ofNat_Int] at g1 g2 g3 g4 g5 g6 g7
  go_enter Tryz.func142, Tryz.ntmps142
  go_wp2
  go_ret2
  refine ⟨?_, rfl⟩
  simp

set_option maxHeartbeats 3200000 in
/-- BEPutUint32. -/
theorem f146 {w : World} (D o n c N : Nat) (G : Nat → Value) (V : Nat) (hV : V < 4294967296) (hr : w.rowIs D 5 N G) (hn : 4 ≤ n) (hN : o + 4 ≤ N) :
    Calls Tryz.prog 146 #[.slice (some ⟨D, o, none⟩) n c, .int .u32 V] w fun r w' => r = .returned (.tuple #[]) ∧ Upd D w w' ∧ ∃ G', w'.rowIs D 5 N G' ∧ G' o = .int .u8 (V / 16777216 : Nat) ∧ G' (o + 1) = .int .u8 (V / 65536 % 256 : Nat) ∧ G' (o + 2) = .int .u8 (V / 256 % 256 : Nat) ∧ ∀ j, j < o → G' j = G j := by
  have c0 := hr.cell (i := o) (by omega)
  have c1 := hr.cell (i := o + 1) (by omega)
  have c2 := hr.cell (i := o + 2) (by omega)
  have c3 := hr.cell (i := o + 3) (by omega)
  have z0 := hr.frozen o
  have z1 := hr.frozen (o + 1)
  have z2 := hr.frozen (o + 2)
  have z3 := hr.frozen (o + 3)
  have n0 : 0 < n := by omega
  have n1 : 1 < n := by omega
  have n2 : 2 < n := by omega
  have n3 : 3 < n := by omega
  go_enter Tryz.func146, Tryz.ntmps146
  go_wp2
  go_end0
  refine ⟨rfl, upd4 (Upd.refl D w) _ _ _ _, _, (((hr.set o _).set (o + 1) _).set (o + 2) _).set (o + 3) _, ?_, ?_, ?_, ?_⟩
  · simp
  · simp
  · simp
  · intro j hj
    show (if j = o + 3 then _ else if j = o + 2 then _ else if j = o + 1 then _ else if j = o then _ else G j) = G j
    rw [if_neg (by omega), if_neg (by omega), if_neg (by omega), if_neg (by omega)]

set_option maxHeartbeats 3200000 in
/-- BEPutUint64. -/
theorem f143 {w : World} (D o n c N : Nat) (G : Nat → Value) (V : Nat) (hV : V < 18446744073709551616) (hr : w.rowIs D 5 N G) (hn : 8 ≤ n) (hN : o + 8 ≤ N) :
    Calls Tryz.prog 143 #[.slice (some ⟨D, o, none⟩) n c, .int .u64 V] w fun r w' => r = .returned (.tuple #[]) ∧ Upd D w w' ∧ ∃ G', w'.rowIs D 5 N G' ∧ G' o = .int .u8 (V / 72057594037927936 : Nat) ∧ G' (o + 1) = .int .u8 (V / 281474976710656 % 256 : Nat) ∧ G' (o + 2) = .int .u8 (V / 1099511627776 % 256 : Nat)
      ∧ G' (o + 3) = .int .u8 (V / 4294967296 % 256 : Nat) ∧ G' (o + 4) = .int .u8 (V / 16777216 % 256 : Nat) ∧ G' (o + 5) = .int .u8 (V / 65536 % 256 : Nat) ∧ ∀ j, j < o → G' j = G j := by
  have c0 := hr.cell (i := o) (by omega)
  have c1 := hr.cell (i := o + 1) (by omega)
  have c2 := hr.cell (i := o + 2) (by omega)
  have c3 := hr.cell (i := o + 3) (by omega)
  have c4 := hr.cell (i := o + 4) (by omega)
  have c5 := hr.cell (i := o + 5) (by omega)
  have c6 := hr.cell (i := o + 6) (by omega)
  have c7 := hr.cell (i := o + 7) (by omega)
  have z0 := hr.frozen o
  have z1 := hr.frozen (o + 1)
  have z2 := hr.frozen (o + 2)
  have z3 := hr.frozen (o + 3)
  have z4 := hr.frozen (o + 4)
  have z5 := hr.frozen (o + 5)
  have z6 := hr.frozen (o + 6)
  have z7 := hr.frozen (o + 7)
  have n0 : 0 < n := by omega
  have n1 : 1 < n := by omega
  have n2 : 2 < n := by omega
  have n3 : 3 < n := by omega
  have n4 : 4 < n := by omega
  have n5 : 5 < n := by omega
  have n6 : 6 < n := by omega
  have n7 : 7 < n := by omega
  go_enter Tryz.func143, Tryz.ntmps143
  go_wp2
  go_end0
  refine ⟨rfl, (((upd4 (Upd.refl D w) _ _ _ _).setCell ⟨D, o + 4, none⟩ rfl _).setCell ⟨D, o + 5, none⟩ rfl _).setCell ⟨D, o + 6, none⟩ rfl _ |>.setCell ⟨D, o + 7, none⟩ rfl _, _, (((((((hr.set o _).set (o + 1) _).set (o + 2) _).set (o + 3) _).set (o + 4) _).set (o + 5) _).set (o + 6) _).set (o + 7) _, ?_, ?_, ?_, ?_, ?_, ?_, ?_⟩
  · simp
  · simp
  · simp
  · simp
  · simp
  · simp
  · intro j hj
    show (if j = o + 7 then _ else if j = o + 6 then _ else if j = o + 5 then _ else if j = o + 4 then _ else if j = o + 3 then _ else if j = o + 2 then _ else if j = o + 1 then _ else if j = o then _ else G j) = G j
    rw [if_neg (by omega), if_neg (by omega), if_neg (by omega), if_neg (by omega), if_neg (by omega), if_neg (by omega), if_neg (by omega), if_neg (by omega)]
end Go.Proofs.YtbigjdlcmlopcaaGreatDoor
