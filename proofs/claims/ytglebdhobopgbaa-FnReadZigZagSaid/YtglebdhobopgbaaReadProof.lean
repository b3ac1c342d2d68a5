/- The statement FnReadZigZag, whole: a number that the reference writes is read by the program as it was, whatever stands behind it: for every int64 and every slice of bytes. No condition. (The frame is the guide's shell, written by proof-skeleton.mjs; the walk is this session's.) -/
import Derived.Test.YtglebdhobopgbaaRows
import Derived.Test.YtglebdhobopgbaaReadWalk
import Derived.WalkKit
import Derived.ProofKit
import Derived.OpenShut
import Derived.ShutString
import Derived.ChangeOld
import Derived.Below
import Derived.Lib.Hide
namespace Go.Proofs.Ytglebdhobopgbaa.fnReadZigZag
open Go.ChangeShapes Go.WideShapes Go.ChangeAt Go.RowKit
open Go.ChangeMaps (open_string shut_string)
set_option linter.unusedVariables false
open Go.Proofs.Ytglebdhobopgbaa.ReadWalk Go.Proofs.Ytglebdhobopgbaa.Back Go.Proofs.Ytglebdhobopgbaa.PFnReadZigZag
open Go.Proofs.YtglebdhobopgbaaW.PrintWords Go.Proofs.YtglebdhobopgbaaW.PrintLast Go.Proofs.YtglebdhobopgbaaW.PrintMore

theorem own : ownKnob Try.prog.godebug = none := by kernel_rfl
theorem laidOut : laidOutB Try.prog = true := by kernel_rfl

/-- WHAT THE WALK IS TOLD OF A SLICE OF INTEGERS THAT CAME IN: it is nil; or it leads to a row of 'cap' cells, the numbers 'zs' (the first 'len' are its elements, the rest its spare room), each fitting its kind. -/
def IsRow (k : IntKind) (w : World) (a : Option Addr) (len cap : Nat) (zs : List Int) : Prop :=
  (a = none ∧ len = 0 ∧ cap = 0 ∧ zs = []) ∨
  ∃ x, a = some x ∧ len ≤ cap ∧ cap ≤ maxLen ∧ zs.length = cap ∧ (∀ i, i < zs.length → w.cell? (x.add i) = some (.int k (zs.getD i 0))) ∧ ∀ n ∈ zs, (Lit.int k n).wf = true

/-! ### STEP 1: THE WALK: the Go text returns true, AND WRITES NOTHING THAT WAS THERE: 'Below w.heap.size w w'' (Derived/Below.lean: '.refl', '.alloc', '.drew', '.setCell' at a new block, '.trans'). Open each 'IsRow' by 'rcases' AHEAD of 'go_enter'; part every test ahead of the walk. -/
theorem reads_row {w : World} {a : Option Addr} {len cap : Nat} {zs : List Int} (h : IsRow .u8 w a len cap zs) : ReadsInt w .u8 a len (zs.take len) := by
  rcases h with ⟨rfl, rfl, rfl, rfl⟩ | ⟨x, rfl, h1, h2, h3, h4, _⟩
  · exact ⟨rfl, by omega, fun hp => absurd hp (by omega)⟩
  · unfold maxLen at h2
    refine ⟨by rw [List.length_take]; omega, by omega, fun _ => ⟨x, rfl, fun j hj => ?_⟩⟩
    rw [h4 j (by omega)]
    congr 2
    simp [List.getD_eq_getElem?_getD, hj]

theorem own_facts {w : World} {base n g cap : Nat} {xs : List Int} (h : w.ownsRow base 5 1 (.slice (some ⟨g, 0, none⟩) n cap) n (nums .u8 xs)) :
    ReadsInt w .u8 (some ⟨g, 0, none⟩) n xs ∧ n ≤ cap ∧ (cap : Int) ≤ 9223372036854775807 := by
  obtain ⟨A, c, e, hr⟩ := own_reads h
  injection e with e1 e2 e3
  subst e1 e3
  refine ⟨hr, ?_⟩
  rcases h.2 with ⟨h', _⟩ | ⟨g', cap', cur, h', _, _, h1, h2, _⟩
  · cases h'
  · injection h' with h'1 h'2 h'3
    subst h'3
    unfold maxLen at h2
    exact ⟨h1, by omega⟩

set_option maxRecDepth 100000 in
set_option maxHeartbeats 1000000 in
theorem walk (a0 : Int) (a1 : Option Addr) (len1 cap1 : Nat) (z1 : List Int) (w : World) (w0 : (Lit.int .i64 a0).wf = true) (w1 : IsRow .u8 w a1 len1 cap1 z1) :
    Calls Try.prog 4 #[.int .i64 a0, .slice a1 len1 cap1] w fun e w' => e = .returned (.bool true) ∧ Below w.heap.size w w' := by
  by_cases hbig : 2147483647 < (len1 : Int)
  · go_enter Try.func4, Try.ntmps4
    go_wp2
    go_ret
    exact ⟨rfl, Below.refl _ _⟩
  by_cases hfew : 50 < (len1 : Int)
  · go_enter Try.func4, Try.ntmps4
    go_wp2
    go_ret
    exact ⟨rfl, Below.refl _ _⟩
  have hb0 : -9223372036854775808 ≤ a0 ∧ a0 ≤ 9223372036854775807 := by simpa [Lit.wf, show IntKind.i64.min = -9223372036854775808 by decide] using w0
  obtain ⟨l, hf, hl1, hl9, hR⟩ := spec_reads a0 hb0.1 hb0.2
  have hr := reads_row w1
  obtain ⟨ys, hys⟩ : ∃ ys, ys = z1.take len1 := ⟨_, rfl⟩
  rw [← hys] at hr
  have hly : ys.length ≤ 50 := by have := hr.1; omega
  have HF := Lib.hid hf
  have HRD := Lib.hid hR
  have HR := Lib.hid hr
  clear hf hR hr hys w1 w0 hb0
  go_enter Try.func4, Try.ntmps4
  go_wp2_with (first | (go_at_call 7; refine (spec_ZigZag.calls 9 a0 l _ HF.out).mono ?_; rintro e w' ⟨v0, rfl, hK, hB⟩; have ho : w'.ownsRow w.heap.size 5 1 v0 l.length (nums .u8 l) := Kd.own_of_R hK; obtain ⟨g, cap, rfl, _, _⟩ := ho.form (by omega); have HO := Lib.hid ho; have HB := Lib.hid hB; clear ho hB hK) | (at_builtin; refine print_append_row (w0 := w) w.heap.size rfl (.tmp 18) (.tmp 19) 23 5 .u8 1 rfl Try.underlying23 info5 (by decide) (.slice (some ⟨g, 0, none⟩) l.length cap) l ys a1 len1 cap1 rfl rfl HO.out (HR.out.below HB.out) HB.out HB.out.size ?hl ?_; (case hl => omega); intro v1 w2 hown hb hg hat; clear hg hat; obtain ⟨N, hN⟩ : ∃ N, (l ++ ys).length = N := ⟨_, rfl⟩; have hN0 : 0 < N := (by rw [List.length_append] at hN; omega); rw [hN] at hown; obtain ⟨g2, cap2, rfl, _, _⟩ := hown.form hN0; have HO2 := Lib.hid (own_facts hown); have HB2 := Lib.hid hb; clear hown hb hN hN0) | (go_at_call 8; refine (calls8 (some ⟨g2, 0, none⟩) N cap2 l ys a0 _ HO2.out.1 hl1 hl9 HO2.out.2.1 HO2.out.2.2 HRD.out).mono ?_; rintro e w3 ⟨rfl, hb3⟩; have HB3 := Lib.hid (below_step HB2.out hb3); clear hb3))
  go_ret
  exact ⟨by simp, HB3.out⟩

/-! ### THE ROW's STEP: WRITTEN OUT: LEAVE IT -/
set_option maxRecDepth 100000 in
theorem lifted (os : Os) (started : os.Started) (H : Type) (enc : TypeId × Value → H) :
    ReturnsInHanded {} Try.checked os 4 .any (Rows.fnReadZigZagSpec.pre6 enc Try.prog Try.f4 Rows.fnReadZigZagRow.domain false) (Rows.fnReadZigZagSpec.post enc Try.prog Try.f4 false true false false) := by
  refine returnsInHanded_of_change (C := Try.checked) own started (by kernel_rfl) Try.func4
    (ChangeSpec.witness6 (enc := enc) (C := Try.checked) false ⟨#[], #[.int .i64 0, .slice none 0 0], []⟩ 8 (by kernel_rfl) (by kernel_rfl) (by kernel_rfl) (by kernel_rfl)) ?_
  intro W base args ds gs before hval0 hW hcnd _
  have hval : ∀ (j : Nat) t v, Try.f4.params[j]? = some t → args[j]? = some v → Value.okWide Try.prog W .any base t v := hval0
  have hW' := hW
  obtain ⟨p, q, hA0, hV, rfl, hfz, hnd⟩ := hW
  have hA : DataW.TrodAll enc Try.prog W 0 (fun _ => true) true Try.f4.params.toList args.toList ds p := hA0
  rw [Try.params4] at hA hval
  obtain ⟨v0, vs0, d0, ds0, p0, q0, hargs, rfl, rfl, h0, r0⟩ := trodAll_cons hA
  obtain ⟨v1, vs1, d1, ds1, p1, q1, rfl, rfl, rfl, h1, r1⟩ := trodAll_cons r0
  obtain ⟨rfl, rfl, rfl⟩ := trodAll_nil r1
  obtain rfl : args = #[v0, v1] := by cases args; simp_all
  obtain ⟨rfl, rfl⟩ := trodVars_none hV
  obtain ⟨a0, rfl, rfl, rfl, w0⟩ := open_int Try.underlying2 (hval 0 2 v0 rfl rfl) h0
  obtain ⟨a1, len1, cap1, rfl⟩ := okWide_slice Try.underlying23 (hval 1 23 v1 rfl rfl)
  have k1 := h1
  have lt1 : ∀ x ∈ p1, x.block < W.heap.size := by obtain ⟨m, hm⟩ := k1; exact DataW.trod_lt m _ _ _ hm
  obtain ⟨z1, w1⟩ : ∃ zs, IsRow .u8 W a1 len1 cap1 zs := by
    obtain ⟨fuel, hf⟩ := h1
    rcases open_ints Try.underlying23 Try.underlying5 (by kernel_rfl) hf with ⟨hcs, _⟩ | ⟨x, l, c, zs, hcs, _, hl, hm, hz, _, hcell, hwz⟩
    · simp [Value.cells] at hcs
      obtain ⟨rfl, rfl, rfl⟩ := hcs
      exact ⟨[], .inl ⟨rfl, rfl, rfl, rfl⟩⟩
    · simp [Value.cells] at hcs
      obtain ⟨rfl, rfl, rfl⟩ := hcs
      exact ⟨zs, .inr ⟨_, rfl, hl, hm, by simpa using hz, hcell, hwz⟩⟩
  clear hA0 hval0
  refine (walk a0 a1 len1 cap1 z1 W w0 w1).mono fun e W' ⟨he, bel⟩ => ?_
  subst he
  exact ⟨_, rfl, _, _, _, [], _, [], hW', trodAll_mk1 (shut_bool Try.underlying4 _), (trodAll_cons_mk (shut_int Try.underlying2 w0) (trodAll_cons_mk (Below.trod laidOut (by kernel_rfl) (of_decide_eq_true (by kernel_rfl)) k1 bel lt1) trodAll_mk0)), rfl, bel.frame _, fun h => by cases h⟩

theorem over : Rows.fnReadZigZagRow.holds Try.pinned (OpenSpec.ofChange Rows.fnReadZigZagSpec) :=
  OpenClaim.holds_of_wide 4 Try.f4 rfl rfl rfl rfl rfl rfl rfl ⟨rfl, rfl, rfl, rfl, rfl⟩ rfl rfl rfl rfl rfl (by kernel_rfl) Try.func4 (by kernel_rfl)
    (of_decide_eq_true (by kernel_rfl)) (by unfold Func.isWrapper; first | (rw [if_pos (by decide +kernel)]; kernel_rfl) | (rw [if_neg (by decide +kernel)]; exact ⟨rfl, rfl⟩))
    (fun os started H enc _ => lifted os started H enc)

/-- ████ THE STATEMENT ████ -/
theorem proved : Rows.FnReadZigZagSaid := over
#print axioms proved
end Go.Proofs.Ytglebdhobopgbaa.fnReadZigZag
namespace Go.Proofs.Ytglebdhobopgbaa
/-- The row, under a short name, for the claim. -/
theorem fnReadZigZag_holds : Rows.FnReadZigZagSaid := fnReadZigZag.proved
end Go.Proofs.Ytglebdhobopgbaa
