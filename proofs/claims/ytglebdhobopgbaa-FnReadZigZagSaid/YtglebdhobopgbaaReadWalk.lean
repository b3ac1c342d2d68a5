/- The program's reader (functions 10 and 8) hands back the number whose bytes lie in front, how many bytes it took, and true. Conditions: the slice reads as bytes, its first ones are a number's, one to nine of them. -/
import Derived.Test.YtglebdhobopgbaaBack
import Derived.WalkKit
import Derived.WalkSpells
import Derived.WalkLawsBesides
import Derived.Lib.Hide
namespace Go.Proofs.Ytglebdhobopgbaa.ReadWalk
open Go.RowKit Go.Proofs.Ytglebdhobopgbaa.Back Go.Proofs.Ytglebdhobopgbaa.PFnReadZigZag
open Go.Proofs.YtglebdhobopgbaaW.PrintWords Go.Proofs.YtglebdhobopgbaaW.PrintLast Go.Proofs.YtglebdhobopgbaaW.PrintMore
attribute [local go_sem] min2_int min_two

theorem calls10 (v : Value) (a k : Int) (w : World) (h : Calls Try.prog 12 #[v] w fun e w' => e = .returned (.tuple #[.int .i64 a, .int .i64 k, .nilIface]) ∧ w = w') :
    Calls Try.prog 10 #[v] w fun e w' => e = .returned (.tuple #[.int .i64 a, .int .i64 k, .nilIface]) ∧ w = w' := by
  have H := Lib.hid h
  clear h
  go_enter Try.func10, Try.ntmps10
  go_wp2_with (go_at_call 12; refine (H.out).mono ?_; rintro e w' ⟨rfl, rfl⟩)
  go_ret3
  exact ⟨rfl, rfl⟩

theorem reads_take {w : World} {A : Option Addr} {n m : Nat} {xs : List Int} (h : ReadsInt w .u8 A n xs) (hm : m ≤ n) : ReadsInt w .u8 A m (xs.take m) := by
  obtain ⟨h1, h2, h3⟩ := h
  refine ⟨by rw [List.length_take]; omega, by omega, fun hp => ?_⟩
  obtain ⟨ad, e, hc⟩ := h3 (by omega)
  refine ⟨ad, e, fun j hj => ?_⟩
  rw [hc j (by omega)]
  congr 2
  simp [List.getD_eq_getElem?_getD, hj]

theorem fresh_cells {w : World} {base g n cap : Nat} {xs : List Int} (h : w.ownsRow base 5 1 (.slice (some ⟨g, 0, none⟩) n cap) n (nums .u8 xs)) :
    ∀ j u, xs[j]? = some u → w.cell? ⟨g, j, none⟩ = some (.int .u8 u) := fun j u hu => by
  have hc := h.cells (g := g) rfl j (.int .u8 u) (by simp [nums, hu])
  rwa [add_plain] at hc

set_option maxRecDepth 100000 in
set_option maxHeartbeats 1000000 in
theorem calls8 (A : Option Addr) (n c : Nat) (l t : List Int) (a : Int) (w : World) (hr : ReadsInt w .u8 A n (l ++ t)) (hl1 : 1 ≤ l.length) (hl9 : l.length ≤ 9) (hnc : n ≤ c) (hc63 : (c : Int) ≤ 9223372036854775807) (R : Reads l a) :
    Calls Try.prog 8 #[.slice A n c] w fun e w' => e = .returned (.tuple #[.int .i64 a, .int .i64 (l.length : Int), .bool true]) ∧ Below w.heap.size w w' := by
  have hx : (l ++ t).length = n := hr.1
  have hlt : l.length ≤ n := by rw [← hx, List.length_append]; omega
  -- the bytes that are kept: the first twenty at most
  have key : ∀ m : Nat, m ≤ n → m ≤ 20 → l.length ≤ m → ∃ t', (l ++ t).take m = l ++ t' ∧ (l ++ t').length = m := fun m h1 h2 h3 =>
    ⟨t.take (m - l.length), by rw [List.take_append, List.take_of_length_le (by omega)], by rw [List.length_append] at hx; rw [List.length_append, List.length_take]; omega⟩
  have HR := Lib.hid R
  have HX := Lib.hid hx
  clear R hx
  by_cases h20 : 20 < (n : Int)
  · obtain ⟨t', e1, e2⟩ := key 20 (by omega) (by omega) (by omega)
    have hr2 := reads_take hr (show 20 ≤ n by omega)
    rw [e1] at hr2
    have HR2 := Lib.hid hr2
    have E2 := Lib.hid e2
    clear hr hr2 e1 e2 key HX
    go_enter Try.func8, Try.ntmps8
    go_wp2_with (first | (at_builtin; refine print_append_row (w0 := w) w.heap.size rfl (.const (.slice none 0 0)) (.tmp 13) 23 5 .u8 1 rfl Try.underlying23 info5 (by decide) (.slice none 0 0) [] (l ++ t') A 20 c rfl rfl (own_nil _ _ _ _) HR2.out (Below.refl _ _) (Nat.le_refl _) ?hl ?_; (case hl => simp); intro v1 w1 hown hb hg hat; clear hg hat; rw [List.nil_append, E2.out] at hown; obtain ⟨g, cap, rfl, _, _⟩ := hown.form (by omega); have HC := Lib.hid (fresh_cells hown); have HB := Lib.hid hb; clear hown hb) | (go_at_call 10; refine (calls10 _ a (l.length : Int) _ (HR.out g cap _ t' _ E2.out (by omega) HC.out)).mono ?_; rintro e w' ⟨rfl, rfl⟩))
    go_ret3
    exact ⟨rfl, HB.out⟩
  · obtain ⟨t', e1, e2⟩ := key n (by omega) (by omega) (by omega)
    have hr2 := reads_take hr (show n ≤ n by omega)
    rw [e1] at hr2
    have HR2 := Lib.hid hr2
    have E2 := Lib.hid e2
    clear hr hr2 e1 e2 key HX
    have h20' : (n : Int) ≤ 20 := by omega
    have hn1 : (l.length : Int) ≤ n := by omega
    go_enter Try.func8, Try.ntmps8
    go_wp2_with (first | (at_builtin; refine print_append_row (w0 := w) w.heap.size rfl (.const (.slice none 0 0)) (.tmp 13) 23 5 .u8 1 rfl Try.underlying23 info5 (by decide) (.slice none 0 0) [] (l ++ t') A n c rfl rfl (own_nil _ _ _ _) HR2.out (Below.refl _ _) (Nat.le_refl _) ?hl ?_; (case hl => simp; omega); intro v1 w1 hown hb hg hat; clear hg hat; rw [List.nil_append, E2.out] at hown; obtain ⟨g, cap, rfl, _, _⟩ := hown.form (by omega); have HC := Lib.hid (fresh_cells hown); have HB := Lib.hid hb; clear hown hb) | (go_at_call 10; refine (calls10 _ a (l.length : Int) _ (HR.out g cap _ t' _ E2.out (by omega) HC.out)).mono ?_; rintro e w' ⟨rfl, rfl⟩))
    go_ret3
    exact ⟨rfl, HB.out⟩
end Go.Proofs.Ytglebdhobopgbaa.ReadWalk
