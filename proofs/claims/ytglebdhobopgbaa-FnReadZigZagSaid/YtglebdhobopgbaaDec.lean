/- The zigzag reader (function 12) walked on the bytes of a number of one to nine groups: it hands back the number, how many bytes it took, and no error. Conditions: the bytes lie at the front of the slice; all but the last one have their high bit. -/
import Derived.Test.YtglebdhobopgbaaProg
import Derived.WalkKit
import Derived.WalkSpells
import Derived.WalkLawsBesides
namespace Go.Proofs.Ytglebdhobopgbaa.Dec
open Go.RowKit

/-- Seven bits of a byte. -/
def grp (b : Int) : Int := bits .and .u64 (IntKind.u64.wrap b) 127
/-- The number back out of its zigzag form. -/
def back (v : Int) : Int := wrap64 (bits .xor .u64 (v / 2) (IntKind.u64.wrap (-bits .and .u64 v 1)))
/-- One group more. -/
def more (v b p : Int) : Int := bits .or .u64 v (IntKind.u64.wrap (grp b * p))
/-- The ninth byte, whole. -/
def ninth (v b : Int) : Int := bits .or .u64 v (IntKind.u64.wrap (IntKind.u64.wrap b * 72057594037927936))

set_option maxRecDepth 100000 in
set_option maxHeartbeats 1000000 in
theorem dec1 (g n c : Nat) (b0 : Int) (w : World) (hn : 1 ≤ (n : Int)) (hm : (n : Int) ≤ 9223372036854775807)
    (c0 : w.cell? ⟨g, 0, none⟩ = some (.int .u8 b0))
    (t0 : (bits .and .u8 b0 128 != 0) = false) :
    Calls Try.prog 12 #[.slice (some ⟨g, 0, none⟩) n c] w fun e w' => e = .returned (.tuple #[.int .i64 (back (grp b0)), .int .i64 1, .nilIface]) ∧ w = w' := by
  go_enter Try.func12, Try.ntmps12
  go_wp2
  go_ret3
  exact ⟨rfl, rfl⟩

set_option maxRecDepth 100000 in
set_option maxHeartbeats 1000000 in
theorem dec2 (g n c : Nat) (b0 b1 : Int) (w : World) (hn : 2 ≤ (n : Int)) (hm : (n : Int) ≤ 9223372036854775807)
    (c0 : w.cell? ⟨g, 0, none⟩ = some (.int .u8 b0)) (c1 : w.cell? ⟨g, 1, none⟩ = some (.int .u8 b1))
    (t0 : (bits .and .u8 b0 128 != 0) = true) (t1 : (bits .and .u8 b1 128 != 0) = false) :
    Calls Try.prog 12 #[.slice (some ⟨g, 0, none⟩) n c] w fun e w' => e = .returned (.tuple #[.int .i64 (back (more (grp b0) b1 128)), .int .i64 2, .nilIface]) ∧ w = w' := by
  go_enter Try.func12, Try.ntmps12
  go_wp2
  go_ret3
  exact ⟨rfl, rfl⟩

set_option maxRecDepth 100000 in
set_option maxHeartbeats 1000000 in
theorem dec3 (g n c : Nat) (b0 b1 b2 : Int) (w : World) (hn : 3 ≤ (n : Int)) (hm : (n : Int) ≤ 9223372036854775807)
    (c0 : w.cell? ⟨g, 0, none⟩ = some (.int .u8 b0)) (c1 : w.cell? ⟨g, 1, none⟩ = some (.int .u8 b1)) (c2 : w.cell? ⟨g, 2, none⟩ = some (.int .u8 b2))
    (t0 : (bits .and .u8 b0 128 != 0) = true) (t1 : (bits .and .u8 b1 128 != 0) = true) (t2 : (bits .and .u8 b2 128 != 0) = false) :
    Calls Try.prog 12 #[.slice (some ⟨g, 0, none⟩) n c] w fun e w' => e = .returned (.tuple #[.int .i64 (back (more (more (grp b0) b1 128) b2 16384)), .int .i64 3, .nilIface]) ∧ w = w' := by
  go_enter Try.func12, Try.ntmps12
  go_wp2
  go_ret3
  exact ⟨rfl, rfl⟩

set_option maxRecDepth 100000 in
set_option maxHeartbeats 1000000 in
theorem dec4 (g n c : Nat) (b0 b1 b2 b3 : Int) (w : World) (hn : 4 ≤ (n : Int)) (hm : (n : Int) ≤ 9223372036854775807)
    (c0 : w.cell? ⟨g, 0, none⟩ = some (.int .u8 b0)) (c1 : w.cell? ⟨g, 1, none⟩ = some (.int .u8 b1)) (c2 : w.cell? ⟨g, 2, none⟩ = some (.int .u8 b2)) (c3 : w.cell? ⟨g, 3, none⟩ = some (.int .u8 b3))
    (t0 : (bits .and .u8 b0 128 != 0) = true) (t1 : (bits .and .u8 b1 128 != 0) = true) (t2 : (bits .and .u8 b2 128 != 0) = true) (t3 : (bits .and .u8 b3 128 != 0) = false) :
    Calls Try.prog 12 #[.slice (some ⟨g, 0, none⟩) n c] w fun e w' => e = .returned (.tuple #[.int .i64 (back (more (more (more (grp b0) b1 128) b2 16384) b3 2097152)), .int .i64 4, .nilIface]) ∧ w = w' := by
  go_enter Try.func12, Try.ntmps12
  go_wp2
  go_ret3
  exact ⟨rfl, rfl⟩

set_option maxRecDepth 100000 in
set_option maxHeartbeats 1000000 in
theorem dec5 (g n c : Nat) (b0 b1 b2 b3 b4 : Int) (w : World) (hn : 5 ≤ (n : Int)) (hm : (n : Int) ≤ 9223372036854775807)
    (c0 : w.cell? ⟨g, 0, none⟩ = some (.int .u8 b0)) (c1 : w.cell? ⟨g, 1, none⟩ = some (.int .u8 b1)) (c2 : w.cell? ⟨g, 2, none⟩ = some (.int .u8 b2)) (c3 : w.cell? ⟨g, 3, none⟩ = some (.int .u8 b3)) (c4 : w.cell? ⟨g, 4, none⟩ = some (.int .u8 b4))
    (t0 : (bits .and .u8 b0 128 != 0) = true) (t1 : (bits .and .u8 b1 128 != 0) = true) (t2 : (bits .and .u8 b2 128 != 0) = true) (t3 : (bits .and .u8 b3 128 != 0) = true) (t4 : (bits .and .u8 b4 128 != 0) = false) :
    Calls Try.prog 12 #[.slice (some ⟨g, 0, none⟩) n c] w fun e w' => e = .returned (.tuple #[.int .i64 (back (more (more (more (more (grp b0) b1 128) b2 16384) b3 2097152) b4 268435456)), .int .i64 5, .nilIface]) ∧ w = w' := by
  go_enter Try.func12, Try.ntmps12
  go_wp2
  go_ret3
  exact ⟨rfl, rfl⟩

set_option maxRecDepth 100000 in
set_option maxHeartbeats 1000000 in
theorem dec6 (g n c : Nat) (b0 b1 b2 b3 b4 b5 : Int) (w : World) (hn : 6 ≤ (n : Int)) (hm : (n : Int) ≤ 9223372036854775807)
    (c0 : w.cell? ⟨g, 0, none⟩ = some (.int .u8 b0)) (c1 : w.cell? ⟨g, 1, none⟩ = some (.int .u8 b1)) (c2 : w.cell? ⟨g, 2, none⟩ = some (.int .u8 b2)) (c3 : w.cell? ⟨g, 3, none⟩ = some (.int .u8 b3)) (c4 : w.cell? ⟨g, 4, none⟩ = some (.int .u8 b4)) (c5 : w.cell? ⟨g, 5, none⟩ = some (.int .u8 b5))
    (t0 : (bits .and .u8 b0 128 != 0) = true) (t1 : (bits .and .u8 b1 128 != 0) = true) (t2 : (bits .and .u8 b2 128 != 0) = true) (t3 : (bits .and .u8 b3 128 != 0) = true) (t4 : (bits .and .u8 b4 128 != 0) = true) (t5 : (bits .and .u8 b5 128 != 0) = false) :
    Calls Try.prog 12 #[.slice (some ⟨g, 0, none⟩) n c] w fun e w' => e = .returned (.tuple #[.int .i64 (back (more (more (more (more (more (grp b0) b1 128) b2 16384) b3 2097152) b4 268435456) b5 34359738368)), .int .i64 6, .nilIface]) ∧ w = w' := by
  go_enter Try.func12, Try.ntmps12
  go_wp2
  go_ret3
  exact ⟨rfl, rfl⟩

set_option maxRecDepth 100000 in
set_option maxHeartbeats 1000000 in
theorem dec7 (g n c : Nat) (b0 b1 b2 b3 b4 b5 b6 : Int) (w : World) (hn : 7 ≤ (n : Int)) (hm : (n : Int) ≤ 9223372036854775807)
    (c0 : w.cell? ⟨g, 0, none⟩ = some (.int .u8 b0)) (c1 : w.cell? ⟨g, 1, none⟩ = some (.int .u8 b1)) (c2 : w.cell? ⟨g, 2, none⟩ = some (.int .u8 b2)) (c3 : w.cell? ⟨g, 3, none⟩ = some (.int .u8 b3)) (c4 : w.cell? ⟨g, 4, none⟩ = some (.int .u8 b4)) (c5 : w.cell? ⟨g, 5, none⟩ = some (.int .u8 b5)) (c6 : w.cell? ⟨g, 6, none⟩ = some (.int .u8 b6))
    (t0 : (bits .and .u8 b0 128 != 0) = true) (t1 : (bits .and .u8 b1 128 != 0) = true) (t2 : (bits .and .u8 b2 128 != 0) = true) (t3 : (bits .and .u8 b3 128 != 0) = true) (t4 : (bits .and .u8 b4 128 != 0) = true) (t5 : (bits .and .u8 b5 128 != 0) = true) (t6 : (bits .and .u8 b6 128 != 0) = false) :
    Calls Try.prog 12 #[.slice (some ⟨g, 0, none⟩) n c] w fun e w' => e = .returned (.tuple #[.int .i64 (back (more (more (more (more (more (more (grp b0) b1 128) b2 16384) b3 2097152) b4 268435456) b5 34359738368) b6 4398046511104)), .int .i64 7, .nilIface]) ∧ w = w' := by
  go_enter Try.func12, Try.ntmps12
  go_wp2
  go_ret3
  exact ⟨rfl, rfl⟩

set_option maxRecDepth 100000 in
set_option maxHeartbeats 1000000 in
theorem dec8 (g n c : Nat) (b0 b1 b2 b3 b4 b5 b6 b7 : Int) (w : World) (hn : 8 ≤ (n : Int)) (hm : (n : Int) ≤ 9223372036854775807)
    (c0 : w.cell? ⟨g, 0, none⟩ = some (.int .u8 b0)) (c1 : w.cell? ⟨g, 1, none⟩ = some (.int .u8 b1)) (c2 : w.cell? ⟨g, 2, none⟩ = some (.int .u8 b2)) (c3 : w.cell? ⟨g, 3, none⟩ = some (.int .u8 b3)) (c4 : w.cell? ⟨g, 4, none⟩ = some (.int .u8 b4)) (c5 : w.cell? ⟨g, 5, none⟩ = some (.int .u8 b5)) (c6 : w.cell? ⟨g, 6, none⟩ = some (.int .u8 b6)) (c7 : w.cell? ⟨g, 7, none⟩ = some (.int .u8 b7))
    (t0 : (bits .and .u8 b0 128 != 0) = true) (t1 : (bits .and .u8 b1 128 != 0) = true) (t2 : (bits .and .u8 b2 128 != 0) = true) (t3 : (bits .and .u8 b3 128 != 0) = true) (t4 : (bits .and .u8 b4 128 != 0) = true) (t5 : (bits .and .u8 b5 128 != 0) = true) (t6 : (bits .and .u8 b6 128 != 0) = true) (t7 : (bits .and .u8 b7 128 != 0) = false) :
    Calls Try.prog 12 #[.slice (some ⟨g, 0, none⟩) n c] w fun e w' => e = .returned (.tuple #[.int .i64 (back (more (more (more (more (more (more (more (grp b0) b1 128) b2 16384) b3 2097152) b4 268435456) b5 34359738368) b6 4398046511104) b7 562949953421312)), .int .i64 8, .nilIface]) ∧ w = w' := by
  go_enter Try.func12, Try.ntmps12
  go_wp2
  go_ret3
  exact ⟨rfl, rfl⟩

set_option maxRecDepth 100000 in
set_option maxHeartbeats 1000000 in
theorem dec9 (g n c : Nat) (b0 b1 b2 b3 b4 b5 b6 b7 b8 : Int) (w : World) (hn : 9 ≤ (n : Int)) (hm : (n : Int) ≤ 9223372036854775807)
    (c0 : w.cell? ⟨g, 0, none⟩ = some (.int .u8 b0)) (c1 : w.cell? ⟨g, 1, none⟩ = some (.int .u8 b1)) (c2 : w.cell? ⟨g, 2, none⟩ = some (.int .u8 b2)) (c3 : w.cell? ⟨g, 3, none⟩ = some (.int .u8 b3)) (c4 : w.cell? ⟨g, 4, none⟩ = some (.int .u8 b4)) (c5 : w.cell? ⟨g, 5, none⟩ = some (.int .u8 b5)) (c6 : w.cell? ⟨g, 6, none⟩ = some (.int .u8 b6)) (c7 : w.cell? ⟨g, 7, none⟩ = some (.int .u8 b7)) (c8 : w.cell? ⟨g, 8, none⟩ = some (.int .u8 b8))
    (t0 : (bits .and .u8 b0 128 != 0) = true) (t1 : (bits .and .u8 b1 128 != 0) = true) (t2 : (bits .and .u8 b2 128 != 0) = true) (t3 : (bits .and .u8 b3 128 != 0) = true) (t4 : (bits .and .u8 b4 128 != 0) = true) (t5 : (bits .and .u8 b5 128 != 0) = true) (t6 : (bits .and .u8 b6 128 != 0) = true) (t7 : (bits .and .u8 b7 128 != 0) = true) :
    Calls Try.prog 12 #[.slice (some ⟨g, 0, none⟩) n c] w fun e w' => e = .returned (.tuple #[.int .i64 (back (ninth (more (more (more (more (more (more (more (grp b0) b1 128) b2 16384) b3 2097152) b4 268435456) b5 34359738368) b6 4398046511104) b7 562949953421312) b8)), .int .i64 9, .nilIface]) ∧ w = w' := by
  go_enter Try.func12, Try.ntmps12
  go_wp2
  go_ret3
  exact ⟨rfl, rfl⟩

end Go.Proofs.Ytglebdhobopgbaa.Dec
