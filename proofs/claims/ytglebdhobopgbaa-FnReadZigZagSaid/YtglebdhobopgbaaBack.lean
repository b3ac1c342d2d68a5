/- What the reference writes is read back: the reader's operations on the bytes of a number come to the number, for every int64. No condition but that the number is an int64 and that its bytes lie in front. -/
import Derived.Test.YtglebdhobopgbaaZz
import Derived.Test.YtglebdhobopgbaaDec
import Derived.Test.YtglebdhobopgbaaPFnReadZigZagx1
namespace Go.Proofs.Ytglebdhobopgbaa.Back
open Go.RowKit Go.Proofs.Ytglebdhobopgbaa.Zz Go.Proofs.Ytglebdhobopgbaa.Dec Go.Proofs.Ytglebdhobopgbaa.PFnReadZigZag

theorem grp_byte {b : Int} (h1 : 0 ≤ b) (h2 : b < 256) : grp b = b % 128 := by
  unfold grp
  rw [show IntKind.u64.wrap b = b by rw [u64_wrap]; omega, and_127 h1 (by omega)]

theorem or_join (k : Nat) {v x : Int} (hv : 0 ≤ v) (hk : v < 2 ^ k) (hx : 0 ≤ x) (hd : x % 2 ^ k = 0) (hx2 : x < 18446744073709551616) (hv2 : v < 18446744073709551616) :
    bits .or .u64 v x = v + x := by
  rw [u64_or v x hv hv2 hx hx2]
  obtain ⟨m, rfl⟩ := Int.eq_ofNat_of_zero_le hv
  obtain ⟨n, rfl⟩ := Int.eq_ofNat_of_zero_le hx
  rw [Int.toNat_natCast, Int.toNat_natCast, Nat.or_comm, nat_join k n m (by exact_mod_cast hd) (by exact_mod_cast hk)]
  omega

theorem high (b : Int) (h1 : 128 ≤ b) (h2 : b < 256) : (bits .and .u8 b 128 != 0) = true := by
  obtain ⟨n, rfl⟩ := Int.eq_ofNat_of_zero_le (show 0 ≤ b by omega)
  have h := u8_and_nat n 128 (by omega) (by decide)
  have a2 : ∀ m : Fin 256, 128 ≤ m.val → m.val &&& 128 ≠ 0 := by decide +kernel
  have a3 := a2 ⟨n, by omega⟩ (by simp only; omega)
  rw [show ((128 : Nat) : Int) = 128 by decide] at h
  rw [h, bne_iff_ne]
  simp only at a3
  omega
theorem low (b : Int) (h1 : 0 ≤ b) (h2 : b < 128) : (bits .and .u8 b 128 != 0) = false := by
  obtain ⟨n, rfl⟩ := Int.eq_ofNat_of_zero_le h1
  have h := u8_and_nat n 128 (by omega) (by decide)
  have a2 : ∀ m : Fin 128, m.val &&& 128 = 0 := by decide +kernel
  have a3 := a2 ⟨n, by omega⟩
  rw [show ((128 : Nat) : Int) = 128 by decide] at h
  simp only at a3
  rw [h, a3]
  decide

theorem back_zz {a : Int} (h1 : -9223372036854775808 ≤ a) (h2 : a ≤ 9223372036854775807) : back (zz a) = a := by
  have hn := zz_nonneg a
  have hl := zz_lt h1 h2
  have hand : bits .and .u64 (zz a) 1 = zz a % 2 := by
    rw [u64_and (zz a) 1 hn hl (by decide) (by decide)]
    obtain ⟨n, e⟩ := Int.eq_ofNat_of_zero_le hn
    rw [e, Int.toNat_natCast, show (1 : Int).toNat = 1 by decide, nat_mask1]
    omega
  unfold back
  rw [hand]
  by_cases h : 0 ≤ a
  · have e : zz a = 2 * a := by unfold zz; rw [if_pos h]
    rw [e, show IntKind.u64.wrap (-(2 * a % 2)) = 0 by rw [u64_wrap]; omega, u64_xor_zero, u64_wrap]
    unfold wrap64
    omega
  · have e : zz a = -2 * a - 1 := by unfold zz; rw [if_neg h]
    rw [e, show IntKind.u64.wrap (-((-2 * a - 1) % 2)) = 18446744073709551615 by rw [u64_wrap]; omega, u64_xor_ones, u64_wrap]
    unfold wrap64
    omega

theorem more_1 {v b : Int} (hv : 0 ≤ v) (hv2 : v < 128) (hb : 0 ≤ b) (hb2 : b < 256) : more v b 128 = v + b % 128 * 128 := by
  unfold more
  rw [grp_byte hb hb2, show IntKind.u64.wrap (b % 128 * 128) = b % 128 * 128 by rw [u64_wrap]; omega]
  exact or_join 7 hv hv2 (by omega) (by rw [show (2 : Int) ^ 7 = 128 by decide]; omega) (by omega) (by omega)
theorem more_2 {v b : Int} (hv : 0 ≤ v) (hv2 : v < 16384) (hb : 0 ≤ b) (hb2 : b < 256) : more v b 16384 = v + b % 128 * 16384 := by
  unfold more
  rw [grp_byte hb hb2, show IntKind.u64.wrap (b % 128 * 16384) = b % 128 * 16384 by rw [u64_wrap]; omega]
  exact or_join 14 hv hv2 (by omega) (by rw [show (2 : Int) ^ 14 = 16384 by decide]; omega) (by omega) (by omega)
theorem more_3 {v b : Int} (hv : 0 ≤ v) (hv2 : v < 2097152) (hb : 0 ≤ b) (hb2 : b < 256) : more v b 2097152 = v + b % 128 * 2097152 := by
  unfold more
  rw [grp_byte hb hb2, show IntKind.u64.wrap (b % 128 * 2097152) = b % 128 * 2097152 by rw [u64_wrap]; omega]
  exact or_join 21 hv hv2 (by omega) (by rw [show (2 : Int) ^ 21 = 2097152 by decide]; omega) (by omega) (by omega)
theorem more_4 {v b : Int} (hv : 0 ≤ v) (hv2 : v < 268435456) (hb : 0 ≤ b) (hb2 : b < 256) : more v b 268435456 = v + b % 128 * 268435456 := by
  unfold more
  rw [grp_byte hb hb2, show IntKind.u64.wrap (b % 128 * 268435456) = b % 128 * 268435456 by rw [u64_wrap]; omega]
  exact or_join 28 hv hv2 (by omega) (by rw [show (2 : Int) ^ 28 = 268435456 by decide]; omega) (by omega) (by omega)
theorem more_5 {v b : Int} (hv : 0 ≤ v) (hv2 : v < 34359738368) (hb : 0 ≤ b) (hb2 : b < 256) : more v b 34359738368 = v + b % 128 * 34359738368 := by
  unfold more
  rw [grp_byte hb hb2, show IntKind.u64.wrap (b % 128 * 34359738368) = b % 128 * 34359738368 by rw [u64_wrap]; omega]
  exact or_join 35 hv hv2 (by omega) (by rw [show (2 : Int) ^ 35 = 34359738368 by decide]; omega) (by omega) (by omega)
theorem more_6 {v b : Int} (hv : 0 ≤ v) (hv2 : v < 4398046511104) (hb : 0 ≤ b) (hb2 : b < 256) : more v b 4398046511104 = v + b % 128 * 4398046511104 := by
  unfold more
  rw [grp_byte hb hb2, show IntKind.u64.wrap (b % 128 * 4398046511104) = b % 128 * 4398046511104 by rw [u64_wrap]; omega]
  exact or_join 42 hv hv2 (by omega) (by rw [show (2 : Int) ^ 42 = 4398046511104 by decide]; omega) (by omega) (by omega)
theorem more_7 {v b : Int} (hv : 0 ≤ v) (hv2 : v < 562949953421312) (hb : 0 ≤ b) (hb2 : b < 256) : more v b 562949953421312 = v + b % 128 * 562949953421312 := by
  unfold more
  rw [grp_byte hb hb2, show IntKind.u64.wrap (b % 128 * 562949953421312) = b % 128 * 562949953421312 by rw [u64_wrap]; omega]
  exact or_join 49 hv hv2 (by omega) (by rw [show (2 : Int) ^ 49 = 562949953421312 by decide]; omega) (by omega) (by omega)
theorem ninth_is {v b : Int} (hv : 0 ≤ v) (hv2 : v < 72057594037927936) (hb : 0 ≤ b) (hb2 : b < 256) : ninth v b = v + b * 72057594037927936 := by
  unfold ninth
  rw [show IntKind.u64.wrap b = b by rw [u64_wrap]; omega, show IntKind.u64.wrap (b * 72057594037927936) = b * 72057594037927936 by rw [u64_wrap]; omega]
  exact or_join 56 hv hv2 (by omega) (by rw [show (2 : Int) ^ 56 = 72057594037927936 by decide]; omega) (by omega) (by omega)

theorem head_1 {v : Int} : grp ((v) % 128 + 128) = v % 128 := by
  rw [grp_byte (by omega) (by omega)]; omega
theorem head_2 {v : Int} : more (grp ((v) % 128 + 128)) ((v / 128) % 128 + 128) 128 = v % 16384 := by
  rw [head_1, more_1 (by omega) (by omega) (by omega) (by omega)]; omega
theorem head_3 {v : Int} : more (more (grp ((v) % 128 + 128)) ((v / 128) % 128 + 128) 128) ((v / 16384) % 128 + 128) 16384 = v % 2097152 := by
  rw [head_2, more_2 (by omega) (by omega) (by omega) (by omega)]; omega
theorem head_4 {v : Int} : more (more (more (grp ((v) % 128 + 128)) ((v / 128) % 128 + 128) 128) ((v / 16384) % 128 + 128) 16384) ((v / 2097152) % 128 + 128) 2097152 = v % 268435456 := by
  rw [head_3, more_3 (by omega) (by omega) (by omega) (by omega)]; omega
theorem head_5 {v : Int} : more (more (more (more (grp ((v) % 128 + 128)) ((v / 128) % 128 + 128) 128) ((v / 16384) % 128 + 128) 16384) ((v / 2097152) % 128 + 128) 2097152) ((v / 268435456) % 128 + 128) 268435456 = v % 34359738368 := by
  rw [head_4, more_4 (by omega) (by omega) (by omega) (by omega)]; omega
theorem head_6 {v : Int} : more (more (more (more (more (grp ((v) % 128 + 128)) ((v / 128) % 128 + 128) 128) ((v / 16384) % 128 + 128) 16384) ((v / 2097152) % 128 + 128) 2097152) ((v / 268435456) % 128 + 128) 268435456) ((v / 34359738368) % 128 + 128) 34359738368 = v % 4398046511104 := by
  rw [head_5, more_5 (by omega) (by omega) (by omega) (by omega)]; omega
theorem head_7 {v : Int} : more (more (more (more (more (more (grp ((v) % 128 + 128)) ((v / 128) % 128 + 128) 128) ((v / 16384) % 128 + 128) 16384) ((v / 2097152) % 128 + 128) 2097152) ((v / 268435456) % 128 + 128) 268435456) ((v / 34359738368) % 128 + 128) 34359738368) ((v / 4398046511104) % 128 + 128) 4398046511104 = v % 562949953421312 := by
  rw [head_6, more_6 (by omega) (by omega) (by omega) (by omega)]; omega
theorem head_8 {v : Int} : more (more (more (more (more (more (more (grp ((v) % 128 + 128)) ((v / 128) % 128 + 128) 128) ((v / 16384) % 128 + 128) 16384) ((v / 2097152) % 128 + 128) 2097152) ((v / 268435456) % 128 + 128) 268435456) ((v / 34359738368) % 128 + 128) 34359738368) ((v / 4398046511104) % 128 + 128) 4398046511104) ((v / 562949953421312) % 128 + 128) 562949953421312 = v % 72057594037927936 := by
  rw [head_7, more_7 (by omega) (by omega) (by omega) (by omega)]; omega
theorem whole_1 {v : Int} (hv : 0 ≤ v) (hl : v < 128) : grp (v) = v := by
  rw [grp_byte hv (by omega)]; omega
theorem whole_2 {v : Int} (hv : 0 ≤ v) (hl : v < 16384) : more (grp ((v) % 128 + 128)) (v / 128) 128 = v := by
  rw [head_1, more_1 (by omega) (by omega) (by omega) (by omega)]; omega
theorem whole_3 {v : Int} (hv : 0 ≤ v) (hl : v < 2097152) : more (more (grp ((v) % 128 + 128)) ((v / 128) % 128 + 128) 128) (v / 16384) 16384 = v := by
  rw [head_2, more_2 (by omega) (by omega) (by omega) (by omega)]; omega
theorem whole_4 {v : Int} (hv : 0 ≤ v) (hl : v < 268435456) : more (more (more (grp ((v) % 128 + 128)) ((v / 128) % 128 + 128) 128) ((v / 16384) % 128 + 128) 16384) (v / 2097152) 2097152 = v := by
  rw [head_3, more_3 (by omega) (by omega) (by omega) (by omega)]; omega
theorem whole_5 {v : Int} (hv : 0 ≤ v) (hl : v < 34359738368) : more (more (more (more (grp ((v) % 128 + 128)) ((v / 128) % 128 + 128) 128) ((v / 16384) % 128 + 128) 16384) ((v / 2097152) % 128 + 128) 2097152) (v / 268435456) 268435456 = v := by
  rw [head_4, more_4 (by omega) (by omega) (by omega) (by omega)]; omega
theorem whole_6 {v : Int} (hv : 0 ≤ v) (hl : v < 4398046511104) : more (more (more (more (more (grp ((v) % 128 + 128)) ((v / 128) % 128 + 128) 128) ((v / 16384) % 128 + 128) 16384) ((v / 2097152) % 128 + 128) 2097152) ((v / 268435456) % 128 + 128) 268435456) (v / 34359738368) 34359738368 = v := by
  rw [head_5, more_5 (by omega) (by omega) (by omega) (by omega)]; omega
theorem whole_7 {v : Int} (hv : 0 ≤ v) (hl : v < 562949953421312) : more (more (more (more (more (more (grp ((v) % 128 + 128)) ((v / 128) % 128 + 128) 128) ((v / 16384) % 128 + 128) 16384) ((v / 2097152) % 128 + 128) 2097152) ((v / 268435456) % 128 + 128) 268435456) ((v / 34359738368) % 128 + 128) 34359738368) (v / 4398046511104) 4398046511104 = v := by
  rw [head_6, more_6 (by omega) (by omega) (by omega) (by omega)]; omega
theorem whole_8 {v : Int} (hv : 0 ≤ v) (hl : v < 72057594037927936) : more (more (more (more (more (more (more (grp ((v) % 128 + 128)) ((v / 128) % 128 + 128) 128) ((v / 16384) % 128 + 128) 16384) ((v / 2097152) % 128 + 128) 2097152) ((v / 268435456) % 128 + 128) 268435456) ((v / 34359738368) % 128 + 128) 34359738368) ((v / 4398046511104) % 128 + 128) 4398046511104) (v / 562949953421312) 562949953421312 = v := by
  rw [head_7, more_7 (by omega) (by omega) (by omega) (by omega)]; omega
theorem whole_9 {v : Int} (hv : 0 ≤ v) (hl : v < 18446744073709551616) : ninth (more (more (more (more (more (more (more (grp ((v) % 128 + 128)) ((v / 128) % 128 + 128) 128) ((v / 16384) % 128 + 128) 16384) ((v / 2097152) % 128 + 128) 2097152) ((v / 268435456) % 128 + 128) 268435456) ((v / 34359738368) % 128 + 128) 34359738368) ((v / 4398046511104) % 128 + 128) 4398046511104) ((v / 562949953421312) % 128 + 128) 562949953421312) (v / 72057594037927936) = v := by
  rw [head_8, ninth_is (by omega) (by omega) (by omega) (by omega)]; omega

/-- One group more. -/
theorem spec_more {k : Nat} {v : Int} {xs : List Int} {i : Int} (hi0 : 0 ≤ i) (hi : i < 8) (hv : 128 ≤ v) (hv2 : v < 18446744073709551616) (hx : xs.length < 9) :
    spec_ZigZag.l0 (k + 1) v xs i = spec_ZigZag.l0 k (v / 128) (xs ++ [v % 128 + 128]) (i + 1) := by
  simp only [spec_ZigZag.l0]
  rw [if_pos hi, if_neg (by omega), if_pos (by omega), and_or_byte (by omega) hv2, show wrap64 (i + 1) = i + 1 by unfold wrap64; omega]
/-- The last group. -/
theorem spec_last {k : Nat} {v : Int} {xs : List Int} {i : Int} (hi : i < 8) (hv0 : 0 ≤ v) (hv : v < 128) (hx : xs.length < 9) :
    spec_ZigZag.l0 (k + 1) v xs i = some (xs ++ [v]) := by
  simp only [spec_ZigZag.l0]
  rw [if_pos hi, if_pos hv, if_pos (by omega), show v % 256 = v by omega]
/-- The ninth byte. -/
theorem spec_ninth {k : Nat} {v : Int} {xs : List Int} (hv0 : 0 ≤ v) (hv : v < 256) (hx : xs.length < 9) :
    spec_ZigZag.l0 (k + 1) v xs 8 = some (xs ++ [v]) := by
  simp only [spec_ZigZag.l0]
  rw [if_neg (by omega), if_pos (by omega), show v % 256 = v by omega]

/-- What is read of a list of bytes that lies in front of others. -/
def Reads (l : List Int) (a : Int) : Prop := ∀ (g c n : Nat) (t : List Int) (w : World), (l ++ t).length = n → (n : Int) ≤ 9223372036854775807 →
    (∀ j u, (l ++ t)[j]? = some u → w.cell? ⟨g, j, none⟩ = some (.int .u8 u)) →
    Calls Try.prog 12 #[.slice (some ⟨g, 0, none⟩) n c] w fun e w' => e = .returned (.tuple #[.int .i64 a, .int .i64 (l.length : Int), .nilIface]) ∧ w = w'

theorem reads_1 {v : Int} (hv : 0 ≤ v) (hl : v < 128) : Reads [v] (back v) := by
  intro g c n t w hn hm hc
  subst hn
  have h := dec1 g _ c (v) w (by simp only [List.length_append, List.length_cons, List.length_nil]; omega) hm (hc 0 _ (by simp)) (low _ (by omega) (by omega))
  rw [whole_1 (by omega) hl] at h
  exact h
theorem reads_2 {v : Int} (hv : 128 ≤ v) (hl : v < 16384) : Reads [(v) % 128 + 128, v / 128] (back v) := by
  intro g c n t w hn hm hc
  subst hn
  have h := dec2 g _ c ((v) % 128 + 128) (v / 128) w (by simp only [List.length_append, List.length_cons, List.length_nil]; omega) hm (hc 0 _ (by simp)) (hc 1 _ (by simp)) (high _ (by omega) (by omega)) (low _ (by omega) (by omega))
  rw [whole_2 (by omega) hl] at h
  exact h
theorem reads_3 {v : Int} (hv : 16384 ≤ v) (hl : v < 2097152) : Reads [(v) % 128 + 128, (v / 128) % 128 + 128, v / 16384] (back v) := by
  intro g c n t w hn hm hc
  subst hn
  have h := dec3 g _ c ((v) % 128 + 128) ((v / 128) % 128 + 128) (v / 16384) w (by simp only [List.length_append, List.length_cons, List.length_nil]; omega) hm (hc 0 _ (by simp)) (hc 1 _ (by simp)) (hc 2 _ (by simp)) (high _ (by omega) (by omega)) (high _ (by omega) (by omega)) (low _ (by omega) (by omega))
  rw [whole_3 (by omega) hl] at h
  exact h
theorem reads_4 {v : Int} (hv : 2097152 ≤ v) (hl : v < 268435456) : Reads [(v) % 128 + 128, (v / 128) % 128 + 128, (v / 16384) % 128 + 128, v / 2097152] (back v) := by
  intro g c n t w hn hm hc
  subst hn
  have h := dec4 g _ c ((v) % 128 + 128) ((v / 128) % 128 + 128) ((v / 16384) % 128 + 128) (v / 2097152) w (by simp only [List.length_append, List.length_cons, List.length_nil]; omega) hm (hc 0 _ (by simp)) (hc 1 _ (by simp)) (hc 2 _ (by simp)) (hc 3 _ (by simp)) (high _ (by omega) (by omega)) (high _ (by omega) (by omega)) (high _ (by omega) (by omega)) (low _ (by omega) (by omega))
  rw [whole_4 (by omega) hl] at h
  exact h
theorem reads_5 {v : Int} (hv : 268435456 ≤ v) (hl : v < 34359738368) : Reads [(v) % 128 + 128, (v / 128) % 128 + 128, (v / 16384) % 128 + 128, (v / 2097152) % 128 + 128, v / 268435456] (back v) := by
  intro g c n t w hn hm hc
  subst hn
  have h := dec5 g _ c ((v) % 128 + 128) ((v / 128) % 128 + 128) ((v / 16384) % 128 + 128) ((v / 2097152) % 128 + 128) (v / 268435456) w (by simp only [List.length_append, List.length_cons, List.length_nil]; omega) hm (hc 0 _ (by simp)) (hc 1 _ (by simp)) (hc 2 _ (by simp)) (hc 3 _ (by simp)) (hc 4 _ (by simp)) (high _ (by omega) (by omega)) (high _ (by omega) (by omega)) (high _ (by omega) (by omega)) (high _ (by omega) (by omega)) (low _ (by omega) (by omega))
  rw [whole_5 (by omega) hl] at h
  exact h
theorem reads_6 {v : Int} (hv : 34359738368 ≤ v) (hl : v < 4398046511104) : Reads [(v) % 128 + 128, (v / 128) % 128 + 128, (v / 16384) % 128 + 128, (v / 2097152) % 128 + 128, (v / 268435456) % 128 + 128, v / 34359738368] (back v) := by
  intro g c n t w hn hm hc
  subst hn
  have h := dec6 g _ c ((v) % 128 + 128) ((v / 128) % 128 + 128) ((v / 16384) % 128 + 128) ((v / 2097152) % 128 + 128) ((v / 268435456) % 128 + 128) (v / 34359738368) w (by simp only [List.length_append, List.length_cons, List.length_nil]; omega) hm (hc 0 _ (by simp)) (hc 1 _ (by simp)) (hc 2 _ (by simp)) (hc 3 _ (by simp)) (hc 4 _ (by simp)) (hc 5 _ (by simp)) (high _ (by omega) (by omega)) (high _ (by omega) (by omega)) (high _ (by omega) (by omega)) (high _ (by omega) (by omega)) (high _ (by omega) (by omega)) (low _ (by omega) (by omega))
  rw [whole_6 (by omega) hl] at h
  exact h
theorem reads_7 {v : Int} (hv : 4398046511104 ≤ v) (hl : v < 562949953421312) : Reads [(v) % 128 + 128, (v / 128) % 128 + 128, (v / 16384) % 128 + 128, (v / 2097152) % 128 + 128, (v / 268435456) % 128 + 128, (v / 34359738368) % 128 + 128, v / 4398046511104] (back v) := by
  intro g c n t w hn hm hc
  subst hn
  have h := dec7 g _ c ((v) % 128 + 128) ((v / 128) % 128 + 128) ((v / 16384) % 128 + 128) ((v / 2097152) % 128 + 128) ((v / 268435456) % 128 + 128) ((v / 34359738368) % 128 + 128) (v / 4398046511104) w (by simp only [List.length_append, List.length_cons, List.length_nil]; omega) hm (hc 0 _ (by simp)) (hc 1 _ (by simp)) (hc 2 _ (by simp)) (hc 3 _ (by simp)) (hc 4 _ (by simp)) (hc 5 _ (by simp)) (hc 6 _ (by simp)) (high _ (by omega) (by omega)) (high _ (by omega) (by omega)) (high _ (by omega) (by omega)) (high _ (by omega) (by omega)) (high _ (by omega) (by omega)) (high _ (by omega) (by omega)) (low _ (by omega) (by omega))
  rw [whole_7 (by omega) hl] at h
  exact h
theorem reads_8 {v : Int} (hv : 562949953421312 ≤ v) (hl : v < 72057594037927936) : Reads [(v) % 128 + 128, (v / 128) % 128 + 128, (v / 16384) % 128 + 128, (v / 2097152) % 128 + 128, (v / 268435456) % 128 + 128, (v / 34359738368) % 128 + 128, (v / 4398046511104) % 128 + 128, v / 562949953421312] (back v) := by
  intro g c n t w hn hm hc
  subst hn
  have h := dec8 g _ c ((v) % 128 + 128) ((v / 128) % 128 + 128) ((v / 16384) % 128 + 128) ((v / 2097152) % 128 + 128) ((v / 268435456) % 128 + 128) ((v / 34359738368) % 128 + 128) ((v / 4398046511104) % 128 + 128) (v / 562949953421312) w (by simp only [List.length_append, List.length_cons, List.length_nil]; omega) hm (hc 0 _ (by simp)) (hc 1 _ (by simp)) (hc 2 _ (by simp)) (hc 3 _ (by simp)) (hc 4 _ (by simp)) (hc 5 _ (by simp)) (hc 6 _ (by simp)) (hc 7 _ (by simp)) (high _ (by omega) (by omega)) (high _ (by omega) (by omega)) (high _ (by omega) (by omega)) (high _ (by omega) (by omega)) (high _ (by omega) (by omega)) (high _ (by omega) (by omega)) (high _ (by omega) (by omega)) (low _ (by omega) (by omega))
  rw [whole_8 (by omega) hl] at h
  exact h
theorem reads_9 {v : Int} (hv : 72057594037927936 ≤ v) (hl : v < 18446744073709551616) : Reads [(v) % 128 + 128, (v / 128) % 128 + 128, (v / 16384) % 128 + 128, (v / 2097152) % 128 + 128, (v / 268435456) % 128 + 128, (v / 34359738368) % 128 + 128, (v / 4398046511104) % 128 + 128, (v / 562949953421312) % 128 + 128, v / 72057594037927936] (back v) := by
  intro g c n t w hn hm hc
  subst hn
  have h := dec9 g _ c ((v) % 128 + 128) ((v / 128) % 128 + 128) ((v / 16384) % 128 + 128) ((v / 2097152) % 128 + 128) ((v / 268435456) % 128 + 128) ((v / 34359738368) % 128 + 128) ((v / 4398046511104) % 128 + 128) ((v / 562949953421312) % 128 + 128) (v / 72057594037927936) w (by simp only [List.length_append, List.length_cons, List.length_nil]; omega) hm (hc 0 _ (by simp)) (hc 1 _ (by simp)) (hc 2 _ (by simp)) (hc 3 _ (by simp)) (hc 4 _ (by simp)) (hc 5 _ (by simp)) (hc 6 _ (by simp)) (hc 7 _ (by simp)) (hc 8 _ (by simp)) (high _ (by omega) (by omega)) (high _ (by omega) (by omega)) (high _ (by omega) (by omega)) (high _ (by omega) (by omega)) (high _ (by omega) (by omega)) (high _ (by omega) (by omega)) (high _ (by omega) (by omega)) (high _ (by omega) (by omega))
  rw [whole_9 (by omega) hl] at h
  exact h

/-- The bytes of a number by the reference; read, they come to it. -/
theorem spec_reads (a : Int) (h1 : -9223372036854775808 ≤ a) (h2 : a ≤ 9223372036854775807) : ∃ l, spec_ZigZag.f 9 a = some l ∧ 1 ≤ l.length ∧ l.length ≤ 9 ∧ Reads l a := by
  have hn := zz_nonneg a
  have hl := zz_lt h1 h2
  have hb := back_zz h1 h2
  unfold spec_ZigZag.f
  rw [zz_spec h1 h2]
  generalize zz a = v at hn hl hb
  subst hb
  by_cases c0 : v < 128
  · refine ⟨[v], ?_, by simp, by simp, reads_1 (by omega) c0⟩
    rw [spec_last (by decide) (by omega) (by omega) (by decide)]; rfl
  rw [spec_more (k := 8) (by decide) (by decide) (by omega) (by omega) (by decide), show (0 : Int) + 1 = 1 by decide]
  by_cases c1 : v < 16384
  · refine ⟨[(v) % 128 + 128, v / 128], ?_, by simp, by simp, reads_2 (by omega) c1⟩
    rw [spec_last (by decide) (by omega) (by omega) (by simp)]; rfl
  rw [spec_more (k := 7) (by decide) (by decide) (by omega) (by omega) (by simp), show v / 128 / 128 = v / 16384 by omega, show (1 : Int) + 1 = 2 by decide]
  by_cases c2 : v < 2097152
  · refine ⟨[(v) % 128 + 128, (v / 128) % 128 + 128, v / 16384], ?_, by simp, by simp, reads_3 (by omega) c2⟩
    rw [spec_last (by decide) (by omega) (by omega) (by simp)]; rfl
  rw [spec_more (k := 6) (by decide) (by decide) (by omega) (by omega) (by simp), show v / 16384 / 128 = v / 2097152 by omega, show (2 : Int) + 1 = 3 by decide]
  by_cases c3 : v < 268435456
  · refine ⟨[(v) % 128 + 128, (v / 128) % 128 + 128, (v / 16384) % 128 + 128, v / 2097152], ?_, by simp, by simp, reads_4 (by omega) c3⟩
    rw [spec_last (by decide) (by omega) (by omega) (by simp)]; rfl
  rw [spec_more (k := 5) (by decide) (by decide) (by omega) (by omega) (by simp), show v / 2097152 / 128 = v / 268435456 by omega, show (3 : Int) + 1 = 4 by decide]
  by_cases c4 : v < 34359738368
  · refine ⟨[(v) % 128 + 128, (v / 128) % 128 + 128, (v / 16384) % 128 + 128, (v / 2097152) % 128 + 128, v / 268435456], ?_, by simp, by simp, reads_5 (by omega) c4⟩
    rw [spec_last (by decide) (by omega) (by omega) (by simp)]; rfl
  rw [spec_more (k := 4) (by decide) (by decide) (by omega) (by omega) (by simp), show v / 268435456 / 128 = v / 34359738368 by omega, show (4 : Int) + 1 = 5 by decide]
  by_cases c5 : v < 4398046511104
  · refine ⟨[(v) % 128 + 128, (v / 128) % 128 + 128, (v / 16384) % 128 + 128, (v / 2097152) % 128 + 128, (v / 268435456) % 128 + 128, v / 34359738368], ?_, by simp, by simp, reads_6 (by omega) c5⟩
    rw [spec_last (by decide) (by omega) (by omega) (by simp)]; rfl
  rw [spec_more (k := 3) (by decide) (by decide) (by omega) (by omega) (by simp), show v / 34359738368 / 128 = v / 4398046511104 by omega, show (5 : Int) + 1 = 6 by decide]
  by_cases c6 : v < 562949953421312
  · refine ⟨[(v) % 128 + 128, (v / 128) % 128 + 128, (v / 16384) % 128 + 128, (v / 2097152) % 128 + 128, (v / 268435456) % 128 + 128, (v / 34359738368) % 128 + 128, v / 4398046511104], ?_, by simp, by simp, reads_7 (by omega) c6⟩
    rw [spec_last (by decide) (by omega) (by omega) (by simp)]; rfl
  rw [spec_more (k := 2) (by decide) (by decide) (by omega) (by omega) (by simp), show v / 4398046511104 / 128 = v / 562949953421312 by omega, show (6 : Int) + 1 = 7 by decide]
  by_cases c7 : v < 72057594037927936
  · refine ⟨[(v) % 128 + 128, (v / 128) % 128 + 128, (v / 16384) % 128 + 128, (v / 2097152) % 128 + 128, (v / 268435456) % 128 + 128, (v / 34359738368) % 128 + 128, (v / 4398046511104) % 128 + 128, v / 562949953421312], ?_, by simp, by simp, reads_8 (by omega) c7⟩
    rw [spec_last (by decide) (by omega) (by omega) (by simp)]; rfl
  rw [spec_more (k := 1) (by decide) (by decide) (by omega) (by omega) (by simp), show v / 562949953421312 / 128 = v / 72057594037927936 by omega, show (7 : Int) + 1 = 8 by decide]
  refine ⟨[(v) % 128 + 128, (v / 128) % 128 + 128, (v / 16384) % 128 + 128, (v / 2097152) % 128 + 128, (v / 268435456) % 128 + 128, (v / 34359738368) % 128 + 128, (v / 4398046511104) % 128 + 128, (v / 562949953421312) % 128 + 128, v / 72057594037927936], ?_, by simp, by simp, reads_9 (by omega) hl⟩
  rw [spec_ninth (by omega) (by omega) (by simp)]; rfl

end Go.Proofs.Ytglebdhobopgbaa.Back
