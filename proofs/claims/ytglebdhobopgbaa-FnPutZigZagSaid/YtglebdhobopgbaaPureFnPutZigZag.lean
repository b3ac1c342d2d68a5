/- Every int64 is written by the program's zigzag writer as the reference writes it: the plain half of the statement FnPutZigZag. No condition. -/
import Derived.Test.YtglebdhobopgbaaPFnPutZigZagx1
import Derived.Test.YtglebdhobopgbaaZz
namespace Go.Proofs.Ytglebdhobopgbaa.Pure
open Go.RowKit Go.Proofs.Ytglebdhobopgbaa.PFnPutZigZag Go.Proofs.YtglebdhobopgbaaW.PrintWords Go.Proofs.YtglebdhobopgbaaW.PrintLast
open Go.Proofs.Ytglebdhobopgbaa.Zz

/-- One group more. -/
theorem spec_more {k : Nat} {v : Int} {xs : List Int} {i : Int} (hi0 : 0 ≤ i) (hi : i < 8) (hv : 128 ≤ v) (hv2 : v < 18446744073709551616) (hx : xs.length < 9) :
    spec_ZigZag.l0 (k + 1) v xs i = spec_ZigZag.l0 k (v / 128) (xs ++ [v % 128 + 128]) (i + 1) := by
  simp only [spec_ZigZag.l0]
  rw [if_pos hi, if_neg (by omega), if_pos (by omega), and_or_byte (by omega) hv2, show wrap64 (i + 1) = i + 1 by unfold wrap64; omega]

/-- The last group. -/
theorem spec_last {k : Nat} {v : Int} {xs : List Int} {i : Int} (hi : i < 8) (hv0 : 0 ≤ v) (hv : v < 128) (hx : xs.length < 9) :
    spec_ZigZag.l0 (k + 1) v xs i = some (xs ++ [v]) := by
  simp only [spec_ZigZag.l0]
  rw [if_pos hi, if_pos hv, if_pos (by omega), show v % 256 = v by omega]

/-- The ninth byte. -/
theorem spec_ninth {k : Nat} {v : Int} {xs : List Int} (hv0 : 0 ≤ v) (hv : v < 256) (hx : xs.length < 9) :
    spec_ZigZag.l0 (k + 1) v xs 8 = some (xs ++ [v]) := by
  simp only [spec_ZigZag.l0]
  rw [if_neg (by omega), if_pos (by omega), show v % 256 = v by omega]

theorem equal_self (l : List Int) : bytes_Equal.f l l = some true := by
  unfold bytes_Equal.f
  rw [beq_self_eq_true]

theorem both (a : Int) (h1 : -9223372036854775808 ≤ a) (h2 : a ≤ 9223372036854775807) : ∃ l, hdr_zig_zag_encode_i64.f a = some l ∧ spec_ZigZag.f 9 a = some l := by
  have hn := zz_nonneg a
  have hl := zz_lt h1 h2
  unfold hdr_zig_zag_encode_i64.f spec_ZigZag.f
  rw [zz_spec h1 h2, zz_prog h1 h2]
  generalize zz a = v at hn hl
  simp only [List.replicate, Option.bind_some]
  rw [if_pos (by decide)]
  by_cases c0 : v < 128
  · refine ⟨[v], ?_, ?_⟩
    · rw [if_pos (show v / 128 = 0 by omega), if_pos (by decide), show (v) % 256 = v by omega]; rfl
    · rw [spec_last (by decide) (by omega) (by omega) (by decide)]; rfl
  rw [if_neg (show ¬ v / 128 = 0 by omega), if_pos (by decide), and_or_byte hn hl,
    spec_more (k := 8) (by decide) (by decide) (by omega) (by omega) (by decide), show (0 : Int) + 1 = 1 by decide]
  by_cases c1 : v < 16384
  · refine ⟨[(v) % 128 + 128, v / 128], ?_, ?_⟩
    · rw [if_pos (show v / 16384 = 0 by omega), if_pos (by simp), show (v / 128) % 256 = v / 128 by omega]; rfl
    · rw [spec_last (by decide) (by omega) (by omega) (by simp)]; rfl
  rw [if_neg (show ¬ v / 16384 = 0 by omega), if_pos (by simp), or_byte (y := v / 128) (by omega) (by omega),
    spec_more (k := 7) (by decide) (by decide) (by omega) (by omega) (by simp), show v / 128 / 128 = v / 16384 by omega, show (1 : Int) + 1 = 2 by decide]
  by_cases c2 : v < 2097152
  · refine ⟨[(v) % 128 + 128, (v / 128) % 128 + 128, v / 16384], ?_, ?_⟩
    · rw [if_pos (show v / 2097152 = 0 by omega), if_pos (by simp), show (v / 16384) % 256 = v / 16384 by omega]; rfl
    · rw [spec_last (by decide) (by omega) (by omega) (by simp)]; rfl
  rw [if_neg (show ¬ v / 2097152 = 0 by omega), if_pos (by simp), or_byte (y := v / 16384) (by omega) (by omega),
    spec_more (k := 6) (by decide) (by decide) (by omega) (by omega) (by simp), show v / 16384 / 128 = v / 2097152 by omega, show (2 : Int) + 1 = 3 by decide]
  by_cases c3 : v < 268435456
  · refine ⟨[(v) % 128 + 128, (v / 128) % 128 + 128, (v / 16384) % 128 + 128, v / 2097152], ?_, ?_⟩
    · rw [if_pos (show v / 268435456 = 0 by omega), if_pos (by simp), show (v / 2097152) % 256 = v / 2097152 by omega]; rfl
    · rw [spec_last (by decide) (by omega) (by omega) (by simp)]; rfl
  rw [if_neg (show ¬ v / 268435456 = 0 by omega), if_pos (by simp), or_byte (y := v / 2097152) (by omega) (by omega),
    spec_more (k := 5) (by decide) (by decide) (by omega) (by omega) (by simp), show v / 2097152 / 128 = v / 268435456 by omega, show (3 : Int) + 1 = 4 by decide]
  by_cases c4 : v < 34359738368
  · refine ⟨[(v) % 128 + 128, (v / 128) % 128 + 128, (v / 16384) % 128 + 128, (v / 2097152) % 128 + 128, v / 268435456], ?_, ?_⟩
    · rw [if_pos (show v / 34359738368 = 0 by omega), if_pos (by simp), show (v / 268435456) % 256 = v / 268435456 by omega]; rfl
    · rw [spec_last (by decide) (by omega) (by omega) (by simp)]; rfl
  rw [if_neg (show ¬ v / 34359738368 = 0 by omega), if_pos (by simp), or_byte (y := v / 268435456) (by omega) (by omega),
    spec_more (k := 4) (by decide) (by decide) (by omega) (by omega) (by simp), show v / 268435456 / 128 = v / 34359738368 by omega, show (4 : Int) + 1 = 5 by decide]
  by_cases c5 : v < 4398046511104
  · refine ⟨[(v) % 128 + 128, (v / 128) % 128 + 128, (v / 16384) % 128 + 128, (v / 2097152) % 128 + 128, (v / 268435456) % 128 + 128, v / 34359738368], ?_, ?_⟩
    · rw [if_pos (show v / 4398046511104 = 0 by omega), if_pos (by simp), show (v / 34359738368) % 256 = v / 34359738368 by omega]; rfl
    · rw [spec_last (by decide) (by omega) (by omega) (by simp)]; rfl
  rw [if_neg (show ¬ v / 4398046511104 = 0 by omega), if_pos (by simp), or_byte (y := v / 34359738368) (by omega) (by omega),
    spec_more (k := 3) (by decide) (by decide) (by omega) (by omega) (by simp), show v / 34359738368 / 128 = v / 4398046511104 by omega, show (5 : Int) + 1 = 6 by decide]
  by_cases c6 : v < 562949953421312
  · refine ⟨[(v) % 128 + 128, (v / 128) % 128 + 128, (v / 16384) % 128 + 128, (v / 2097152) % 128 + 128, (v / 268435456) % 128 + 128, (v / 34359738368) % 128 + 128, v / 4398046511104], ?_, ?_⟩
    · rw [if_pos (show v / 562949953421312 = 0 by omega), if_pos (by simp), show (v / 4398046511104) % 256 = v / 4398046511104 by omega]; rfl
    · rw [spec_last (by decide) (by omega) (by omega) (by simp)]; rfl
  rw [if_neg (show ¬ v / 562949953421312 = 0 by omega), if_pos (by simp), or_byte (y := v / 4398046511104) (by omega) (by omega),
    spec_more (k := 2) (by decide) (by decide) (by omega) (by omega) (by simp), show v / 4398046511104 / 128 = v / 562949953421312 by omega, show (6 : Int) + 1 = 7 by decide]
  by_cases c7 : v < 72057594037927936
  · refine ⟨[(v) % 128 + 128, (v / 128) % 128 + 128, (v / 16384) % 128 + 128, (v / 2097152) % 128 + 128, (v / 268435456) % 128 + 128, (v / 34359738368) % 128 + 128, (v / 4398046511104) % 128 + 128, v / 562949953421312], ?_, ?_⟩
    · rw [if_pos (show v / 72057594037927936 = 0 by omega), if_pos (by simp), show (v / 562949953421312) % 256 = v / 562949953421312 by omega]; rfl
    · rw [spec_last (by decide) (by omega) (by omega) (by simp)]; rfl
  rw [if_neg (show ¬ v / 72057594037927936 = 0 by omega), if_pos (by simp), or_byte (y := v / 562949953421312) (by omega) (by omega),
    spec_more (k := 1) (by decide) (by decide) (by omega) (by omega) (by simp), show v / 562949953421312 / 128 = v / 72057594037927936 by omega, show (7 : Int) + 1 = 8 by decide]
  refine ⟨[(v) % 128 + 128, (v / 128) % 128 + 128, (v / 16384) % 128 + 128, (v / 2097152) % 128 + 128, (v / 268435456) % 128 + 128, (v / 34359738368) % 128 + 128, (v / 4398046511104) % 128 + 128, (v / 562949953421312) % 128 + 128, v / 72057594037927936], ?_, ?_⟩
  · rw [if_pos (by simp), show (v / 72057594037927936) % 256 = v / 72057594037927936 by omega]; rfl
  · rw [spec_ninth (by omega) (by omega) (by simp)]; rfl

theorem FnPutZigZag : laws_FnPutZigZag.Pure := by
  intro a hwf
  have hb : -9223372036854775808 ≤ a ∧ a ≤ 9223372036854775807 := by simpa [Lit.wf, show IntKind.i64.min = -9223372036854775808 by decide] using hwf
  obtain ⟨l, h1, h2⟩ := both a hb.1 hb.2
  refine ⟨9, ?_⟩
  unfold laws_FnPutZigZag.f impl_PutZigZag.f hdr_ZZPutZigZag.f
  rw [h1, h2]
  simp only [Option.bind_some]
  rw [equal_self]
  rfl

end Go.Proofs.Ytglebdhobopgbaa.Pure
