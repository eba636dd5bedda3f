/-
  The walk of spec.sequence (23), one theorem a way.
-/
import Derived.Test.YtlbhelibgifaaaaDoorWalkA
namespace Go.Proofs.YtlbhelibgifaaaaDoor
open Go.RowKit

set_option maxRecDepth 100000 in
set_option maxHeartbeats 400000 in
theorem seq_asc (s : ByteArray) (a : Nat) (x : UInt8) (w : World) (ha : a < s.size) (haz : (a : Int) < (s.size : Int)) (hx : s[a] = x) (c1 : (x.toNat : Int) < 128) :
    Calls Tryd.prog 23 #[.string s, .int .i64 a] w fun e w' => e = .returned (.int .i64 1) ∧ w = w' := by
  go_enter Tryd.func23, Tryd.ntmps23
  go_wp2
  go_ret
  exact ⟨rfl, rfl⟩
set_option maxRecDepth 100000 in
set_option maxHeartbeats 400000 in
theorem seq_low (s : ByteArray) (a : Nat) (x : UInt8) (w : World) (ha : a < s.size) (haz : (a : Int) < (s.size : Int)) (hx : s[a] = x) (c1 : 128 ≤ (x.toNat : Int)) (c2 : (x.toNat : Int) < 194) :
    Calls Tryd.prog 23 #[.string s, .int .i64 a] w fun e w' => e = .returned (.int .i64 0) ∧ w = w' := by
  go_enter Tryd.func23, Tryd.ntmps23
  go_wp2
  go_ret
  exact ⟨rfl, rfl⟩
set_option maxRecDepth 100000 in
set_option maxHeartbeats 400000 in
theorem seq_high (s : ByteArray) (a : Nat) (x : UInt8) (w : World) (ha : a < s.size) (haz : (a : Int) < (s.size : Int)) (hx : s[a] = x) (c1 : 245 ≤ (x.toNat : Int)) :
    Calls Tryd.prog 23 #[.string s, .int .i64 a] w fun e w' => e = .returned (.int .i64 0) ∧ w = w' := by
  go_enter Tryd.func23, Tryd.ntmps23
  go_wp2
  go_ret
  exact ⟨rfl, rfl⟩
set_option maxRecDepth 100000 in
set_option maxHeartbeats 400000 in
theorem seq_two_no (s : ByteArray) (a : Nat) (x : UInt8) (w : World) (ha : a < s.size) (hr : s.size + 3 ≤ 9223372036854775807) (haz : (a : Int) < (s.size : Int)) (hx : s[a] = x) (c1 : 194 ≤ (x.toNat : Int)) (c2 : (x.toNat : Int) ≤ 223)
    (C : Hid (∀ W, Calls Tryd.prog 25 #[.string s, .int .i64 ((a : Int) + 1), .int .i64 1] W fun e w' => e = .returned (.bool false) ∧ W = w')) :
    Calls Tryd.prog 23 #[.string s, .int .i64 a] w fun e w' => e = .returned (.int .i64 0) ∧ w = w' := by
  go_enter Tryd.func23, Tryd.ntmps23
  go_wp2_with fail
  ((with_reducible refine (C.out _).mono ?_); rintro e w' ⟨rfl, rfl⟩)
  go_wp2_with fail
  go_ret
  exact ⟨rfl, rfl⟩
set_option maxRecDepth 100000 in
set_option maxHeartbeats 400000 in
theorem seq_two (s : ByteArray) (a : Nat) (x : UInt8) (w : World) (ha : a < s.size) (hr : s.size + 3 ≤ 9223372036854775807) (haz : (a : Int) < (s.size : Int)) (hx : s[a] = x) (c1 : 194 ≤ (x.toNat : Int)) (c2 : (x.toNat : Int) ≤ 223)
    (C : Hid (∀ W, Calls Tryd.prog 25 #[.string s, .int .i64 ((a : Int) + 1), .int .i64 1] W fun e w' => e = .returned (.bool true) ∧ W = w')) :
    Calls Tryd.prog 23 #[.string s, .int .i64 a] w fun e w' => e = .returned (.int .i64 2) ∧ w = w' := by
  go_enter Tryd.func23, Tryd.ntmps23
  go_wp2_with fail
  ((with_reducible refine (C.out _).mono ?_); rintro e w' ⟨rfl, rfl⟩)
  go_wp2_with fail
  go_ret
  exact ⟨rfl, rfl⟩
set_option maxRecDepth 100000 in
set_option maxHeartbeats 400000 in
theorem seq_three_no (s : ByteArray) (a : Nat) (x : UInt8) (w : World) (ha : a < s.size) (hr : s.size + 3 ≤ 9223372036854775807) (haz : (a : Int) < (s.size : Int)) (hx : s[a] = x) (c1 : 224 ≤ (x.toNat : Int)) (c2 : (x.toNat : Int) ≤ 239)
    (C : Hid (∀ W, Calls Tryd.prog 25 #[.string s, .int .i64 ((a : Int) + 1), .int .i64 2] W fun e w' => e = .returned (.bool false) ∧ W = w')) :
    Calls Tryd.prog 23 #[.string s, .int .i64 a] w fun e w' => e = .returned (.int .i64 0) ∧ w = w' := by
  go_enter Tryd.func23, Tryd.ntmps23
  go_wp2_with fail
  ((with_reducible refine (C.out _).mono ?_); rintro e w' ⟨rfl, rfl⟩)
  go_wp2_with fail
  go_ret
  exact ⟨rfl, rfl⟩
set_option maxRecDepth 100000 in
set_option maxHeartbeats 400000 in
theorem seq_three_lo0 (s : ByteArray) (a : Nat) (x : UInt8) (y : UInt8) (w : World) (ha : a < s.size) (hr : s.size + 3 ≤ 9223372036854775807) (haz : (a : Int) < (s.size : Int)) (hx : s[a] = x) (c1 : 224 ≤ (x.toNat : Int)) (c2 : (x.toNat : Int) ≤ 239) (hn : a + 1 < s.size) (hnz : (a : Int) + 1 < (s.size : Int)) (hy : s[a + 1] = y) (d1 : ((x.toNat : Int) == 224) = true) (_d2 : ((x.toNat : Int) == 237) = false) (g : (y.toNat : Int) < 160)
    (C : Hid (∀ W, Calls Tryd.prog 25 #[.string s, .int .i64 ((a : Int) + 1), .int .i64 2] W fun e w' => e = .returned (.bool true) ∧ W = w')) :
    Calls Tryd.prog 23 #[.string s, .int .i64 a] w fun e w' => e = .returned (.int .i64 0) ∧ w = w' := by
  go_enter Tryd.func23, Tryd.ntmps23
  go_wp2_with fail
  ((with_reducible refine (C.out _).mono ?_); rintro e w' ⟨rfl, rfl⟩)
  go_wp2_with fail
  go_ret
  exact ⟨rfl, rfl⟩
set_option maxRecDepth 100000 in
set_option maxHeartbeats 400000 in
theorem seq_three_lo1 (s : ByteArray) (a : Nat) (x : UInt8) (y : UInt8) (w : World) (ha : a < s.size) (hr : s.size + 3 ≤ 9223372036854775807) (haz : (a : Int) < (s.size : Int)) (hx : s[a] = x) (c1 : 224 ≤ (x.toNat : Int)) (c2 : (x.toNat : Int) ≤ 239) (hn : a + 1 < s.size) (hnz : (a : Int) + 1 < (s.size : Int)) (hy : s[a + 1] = y) (d1 : ((x.toNat : Int) == 224) = true) (d2 : ((x.toNat : Int) == 237) = false) (g : 160 ≤ (y.toNat : Int))
    (C : Hid (∀ W, Calls Tryd.prog 25 #[.string s, .int .i64 ((a : Int) + 1), .int .i64 2] W fun e w' => e = .returned (.bool true) ∧ W = w')) :
    Calls Tryd.prog 23 #[.string s, .int .i64 a] w fun e w' => e = .returned (.int .i64 3) ∧ w = w' := by
  go_enter Tryd.func23, Tryd.ntmps23
  go_wp2_with fail
  ((with_reducible refine (C.out _).mono ?_); rintro e w' ⟨rfl, rfl⟩)
  go_wp2_with fail
  go_ret
  exact ⟨rfl, rfl⟩
set_option maxRecDepth 100000 in
set_option maxHeartbeats 400000 in
theorem seq_three_hi0 (s : ByteArray) (a : Nat) (x : UInt8) (y : UInt8) (w : World) (ha : a < s.size) (hr : s.size + 3 ≤ 9223372036854775807) (haz : (a : Int) < (s.size : Int)) (hx : s[a] = x) (c1 : 224 ≤ (x.toNat : Int)) (c2 : (x.toNat : Int) ≤ 239) (hn : a + 1 < s.size) (hnz : (a : Int) + 1 < (s.size : Int)) (hy : s[a + 1] = y) (d1 : ((x.toNat : Int) == 224) = false) (d2 : ((x.toNat : Int) == 237) = true) (g : 159 < (y.toNat : Int))
    (C : Hid (∀ W, Calls Tryd.prog 25 #[.string s, .int .i64 ((a : Int) + 1), .int .i64 2] W fun e w' => e = .returned (.bool true) ∧ W = w')) :
    Calls Tryd.prog 23 #[.string s, .int .i64 a] w fun e w' => e = .returned (.int .i64 0) ∧ w = w' := by
  go_enter Tryd.func23, Tryd.ntmps23
  go_wp2_with fail
  ((with_reducible refine (C.out _).mono ?_); rintro e w' ⟨rfl, rfl⟩)
  go_wp2_with fail
  go_ret
  exact ⟨rfl, rfl⟩
set_option maxRecDepth 100000 in
set_option maxHeartbeats 400000 in
theorem seq_three_hi1 (s : ByteArray) (a : Nat) (x : UInt8) (y : UInt8) (w : World) (ha : a < s.size) (hr : s.size + 3 ≤ 9223372036854775807) (haz : (a : Int) < (s.size : Int)) (hx : s[a] = x) (c1 : 224 ≤ (x.toNat : Int)) (c2 : (x.toNat : Int) ≤ 239) (hn : a + 1 < s.size) (hnz : (a : Int) + 1 < (s.size : Int)) (hy : s[a + 1] = y) (d1 : ((x.toNat : Int) == 224) = false) (d2 : ((x.toNat : Int) == 237) = true) (g : (y.toNat : Int) ≤ 159)
    (C : Hid (∀ W, Calls Tryd.prog 25 #[.string s, .int .i64 ((a : Int) + 1), .int .i64 2] W fun e w' => e = .returned (.bool true) ∧ W = w')) :
    Calls Tryd.prog 23 #[.string s, .int .i64 a] w fun e w' => e = .returned (.int .i64 3) ∧ w = w' := by
  go_enter Tryd.func23, Tryd.ntmps23
  go_wp2_with fail
  ((with_reducible refine (C.out _).mono ?_); rintro e w' ⟨rfl, rfl⟩)
  go_wp2_with fail
  go_ret
  exact ⟨rfl, rfl⟩
set_option maxRecDepth 100000 in
set_option maxHeartbeats 400000 in
theorem seq_three (s : ByteArray) (a : Nat) (x : UInt8) (w : World) (ha : a < s.size) (hr : s.size + 3 ≤ 9223372036854775807) (haz : (a : Int) < (s.size : Int)) (hx : s[a] = x) (c1 : 224 ≤ (x.toNat : Int)) (c2 : (x.toNat : Int) ≤ 239) (d1 : ((x.toNat : Int) == 224) = false) (d2 : ((x.toNat : Int) == 237) = false)
    (C : Hid (∀ W, Calls Tryd.prog 25 #[.string s, .int .i64 ((a : Int) + 1), .int .i64 2] W fun e w' => e = .returned (.bool true) ∧ W = w')) :
    Calls Tryd.prog 23 #[.string s, .int .i64 a] w fun e w' => e = .returned (.int .i64 3) ∧ w = w' := by
  go_enter Tryd.func23, Tryd.ntmps23
  go_wp2_with fail
  ((with_reducible refine (C.out _).mono ?_); rintro e w' ⟨rfl, rfl⟩)
  go_wp2_with fail
  go_ret
  exact ⟨rfl, rfl⟩
set_option maxRecDepth 100000 in
set_option maxHeartbeats 400000 in
theorem seq_four_no (s : ByteArray) (a : Nat) (x : UInt8) (w : World) (ha : a < s.size) (hr : s.size + 3 ≤ 9223372036854775807) (haz : (a : Int) < (s.size : Int)) (hx : s[a] = x) (c1 : 240 ≤ (x.toNat : Int)) (c2 : (x.toNat : Int) ≤ 244)
    (C : Hid (∀ W, Calls Tryd.prog 25 #[.string s, .int .i64 ((a : Int) + 1), .int .i64 3] W fun e w' => e = .returned (.bool false) ∧ W = w')) :
    Calls Tryd.prog 23 #[.string s, .int .i64 a] w fun e w' => e = .returned (.int .i64 0) ∧ w = w' := by
  go_enter Tryd.func23, Tryd.ntmps23
  go_wp2_with fail
  ((with_reducible refine (C.out _).mono ?_); rintro e w' ⟨rfl, rfl⟩)
  go_wp2_with fail
  go_ret
  exact ⟨rfl, rfl⟩
set_option maxRecDepth 100000 in
set_option maxHeartbeats 400000 in
theorem seq_four_lo0 (s : ByteArray) (a : Nat) (x : UInt8) (y : UInt8) (w : World) (ha : a < s.size) (hr : s.size + 3 ≤ 9223372036854775807) (haz : (a : Int) < (s.size : Int)) (hx : s[a] = x) (c1 : 240 ≤ (x.toNat : Int)) (c2 : (x.toNat : Int) ≤ 244) (hn : a + 1 < s.size) (hnz : (a : Int) + 1 < (s.size : Int)) (hy : s[a + 1] = y) (d1 : ((x.toNat : Int) == 240) = true) (_d2 : ((x.toNat : Int) == 244) = false) (g : (y.toNat : Int) < 144)
    (C : Hid (∀ W, Calls Tryd.prog 25 #[.string s, .int .i64 ((a : Int) + 1), .int .i64 3] W fun e w' => e = .returned (.bool true) ∧ W = w')) :
    Calls Tryd.prog 23 #[.string s, .int .i64 a] w fun e w' => e = .returned (.int .i64 0) ∧ w = w' := by
  go_enter Tryd.func23, Tryd.ntmps23
  go_wp2_with fail
  ((with_reducible refine (C.out _).mono ?_); rintro e w' ⟨rfl, rfl⟩)
  go_wp2_with fail
  go_ret
  exact ⟨rfl, rfl⟩
set_option maxRecDepth 100000 in
set_option maxHeartbeats 400000 in
theorem seq_four_lo1 (s : ByteArray) (a : Nat) (x : UInt8) (y : UInt8) (w : World) (ha : a < s.size) (hr : s.size + 3 ≤ 9223372036854775807) (haz : (a : Int) < (s.size : Int)) (hx : s[a] = x) (c1 : 240 ≤ (x.toNat : Int)) (c2 : (x.toNat : Int) ≤ 244) (hn : a + 1 < s.size) (hnz : (a : Int) + 1 < (s.size : Int)) (hy : s[a + 1] = y) (d1 : ((x.toNat : Int) == 240) = true) (d2 : ((x.toNat : Int) == 244) = false) (g : 144 ≤ (y.toNat : Int))
    (C : Hid (∀ W, Calls Tryd.prog 25 #[.string s, .int .i64 ((a : Int) + 1), .int .i64 3] W fun e w' => e = .returned (.bool true) ∧ W = w')) :
    Calls Tryd.prog 23 #[.string s, .int .i64 a] w fun e w' => e = .returned (.int .i64 4) ∧ w = w' := by
  go_enter Tryd.func23, Tryd.ntmps23
  go_wp2_with fail
  ((with_reducible refine (C.out _).mono ?_); rintro e w' ⟨rfl, rfl⟩)
  go_wp2_with fail
  go_ret
  exact ⟨rfl, rfl⟩
set_option maxRecDepth 100000 in
set_option maxHeartbeats 400000 in
theorem seq_four_hi0 (s : ByteArray) (a : Nat) (x : UInt8) (y : UInt8) (w : World) (ha : a < s.size) (hr : s.size + 3 ≤ 9223372036854775807) (haz : (a : Int) < (s.size : Int)) (hx : s[a] = x) (c1 : 240 ≤ (x.toNat : Int)) (c2 : (x.toNat : Int) ≤ 244) (hn : a + 1 < s.size) (hnz : (a : Int) + 1 < (s.size : Int)) (hy : s[a + 1] = y) (d1 : ((x.toNat : Int) == 240) = false) (d2 : ((x.toNat : Int) == 244) = true) (g : 143 < (y.toNat : Int))
    (C : Hid (∀ W, Calls Tryd.prog 25 #[.string s, .int .i64 ((a : Int) + 1), .int .i64 3] W fun e w' => e = .returned (.bool true) ∧ W = w')) :
    Calls Tryd.prog 23 #[.string s, .int .i64 a] w fun e w' => e = .returned (.int .i64 0) ∧ w = w' := by
  go_enter Tryd.func23, Tryd.ntmps23
  go_wp2_with fail
  ((with_reducible refine (C.out _).mono ?_); rintro e w' ⟨rfl, rfl⟩)
  go_wp2_with fail
  go_ret
  exact ⟨rfl, rfl⟩
set_option maxRecDepth 100000 in
set_option maxHeartbeats 400000 in
theorem seq_four_hi1 (s : ByteArray) (a : Nat) (x : UInt8) (y : UInt8) (w : World) (ha : a < s.size) (hr : s.size + 3 ≤ 9223372036854775807) (haz : (a : Int) < (s.size : Int)) (hx : s[a] = x) (c1 : 240 ≤ (x.toNat : Int)) (c2 : (x.toNat : Int) ≤ 244) (hn : a + 1 < s.size) (hnz : (a : Int) + 1 < (s.size : Int)) (hy : s[a + 1] = y) (d1 : ((x.toNat : Int) == 240) = false) (d2 : ((x.toNat : Int) == 244) = true) (g : (y.toNat : Int) ≤ 143)
    (C : Hid (∀ W, Calls Tryd.prog 25 #[.string s, .int .i64 ((a : Int) + 1), .int .i64 3] W fun e w' => e = .returned (.bool true) ∧ W = w')) :
    Calls Tryd.prog 23 #[.string s, .int .i64 a] w fun e w' => e = .returned (.int .i64 4) ∧ w = w' := by
  go_enter Tryd.func23, Tryd.ntmps23
  go_wp2_with fail
  ((with_reducible refine (C.out _).mono ?_); rintro e w' ⟨rfl, rfl⟩)
  go_wp2_with fail
  go_ret
  exact ⟨rfl, rfl⟩
set_option maxRecDepth 100000 in
set_option maxHeartbeats 400000 in
theorem seq_four (s : ByteArray) (a : Nat) (x : UInt8) (w : World) (ha : a < s.size) (hr : s.size + 3 ≤ 9223372036854775807) (haz : (a : Int) < (s.size : Int)) (hx : s[a] = x) (c1 : 240 ≤ (x.toNat : Int)) (c2 : (x.toNat : Int) ≤ 244) (d1 : ((x.toNat : Int) == 240) = false) (d2 : ((x.toNat : Int) == 244) = false)
    (C : Hid (∀ W, Calls Tryd.prog 25 #[.string s, .int .i64 ((a : Int) + 1), .int .i64 3] W fun e w' => e = .returned (.bool true) ∧ W = w')) :
    Calls Tryd.prog 23 #[.string s, .int .i64 a] w fun e w' => e = .returned (.int .i64 4) ∧ w = w' := by
  go_enter Tryd.func23, Tryd.ntmps23
  go_wp2_with fail
  ((with_reducible refine (C.out _).mono ?_); rintro e w' ⟨rfl, rfl⟩)
  go_wp2_with fail
  go_ret
  exact ⟨rfl, rfl⟩
end Go.Proofs.YtlbhelibgifaaaaDoor
