/- The proof of Rows.FnLeavesFirstOnlyAppendAndSnapshotSaid. -/
import Derived.Test.Qxb6613017aRows
import Derived.WalkKit
import Derived.ProofKit
import Derived.OpenShut
import Derived.ShutString
namespace Go.Proofs.Qxb6613017a.fnLeavesFirstOnlyAppendAndSnapshot
open Go.ChangeShapes Go.WideShapes Go.ChangeAt Go.RowKit
open Go.ChangeMaps (open_string shut_string)
set_option linter.unusedVariables false      -- a walk need not use every 'w<i>' (that an integer argument fits its kind)

theorem own : ownKnob Try.prog.godebug = none := by kernel_rfl

theorem wf_bound {a : Int} (h : (Lit.int .u8 a).wf = true) : 0 ≤ a ∧ a ≤ 255 := by
  simp [Lit.wf, IntKind.min, IntKind.max, IntKind.signed, IntKind.bits] at h
  omega

/-- How many of 3 and 9 lie below k. -/
def cnt (k : Nat) : Nat := (if 3 < k then 1 else 0) + (if 9 < k then 1 else 0)
theorem cnt_step (k : Nat) (h3 : k ≠ 3) (h9 : k ≠ 9) : cnt k = cnt (k + 1) := by
  unfold cnt
  have e3 : (3 < k) = (3 < k + 1) := by simp; omega
  have e9 : (9 < k) = (9 < k + 1) := by simp; omega
  simp only [e3, e9]
theorem cnt_last (t : Nat) : cnt (t + 1) = (if 3 ≤ t then 1 else 0) + (if 9 ≤ t then 1 else 0) := by
  unfold cnt
  have e3 : (3 < t + 1) = (3 ≤ t) := by simp; omega
  have e9 : (9 < t + 1) = (9 ≤ t) := by simp; omega
  simp only [e3, e9]

/-! ### STEP 1: THE WALK: the Go text returns true. 'Grown w w'': the world has at most new blocks (Derived/RowKit3.lean). Part the cases AHEAD of 'go_enter' where a test parts the walk; take each callee by a contract of your own. -/
theorem walk (a0 : Int) (w0 : (Lit.int .u8 a0).wf = true) (w : World) :
    Calls Try.prog 3 #[.int .u8 a0] w fun e w' => e = .returned (.bool true) ∧ Grown w w' := by
  have b0 := wf_bound w0
  obtain ⟨t, rfl⟩ : ∃ t : Nat, a0 = t := ⟨a0.toNat, by omega⟩
  have ht : t ≤ 255 := by omega
  clear b0 w0
  go_enter Try.func3, Try.ntmps3
  go_wp2
  go_loop [3, 4] (fun n i => ∃ k c : Nat, k ≤ t + 1 ∧ i = .int .i64 k ∧ n = .int .i64 c ∧ c ≤ 2 ∧ Hid (c = cnt k)) (fun _ i => (t + 1) - (intOf i).toNat)
  case atStart => exact ⟨0, 0, by omega, rfl, rfl, by omega, rfl⟩
  case round =>
    obtain ⟨k, c, hk, rfl, rfl, hc2, HC⟩ := hrel
    by_cases hlt : k ≤ t
    · by_cases h3 : k = 3
      · subst h3
        have hc1 : c ≤ 1 := by have := HC.out; simp [cnt] at this; omega
        go_wp2
        go_round
        case rel => exact ⟨4, c + 1, by omega, by go_num, by go_num, by omega, by rw [HC.out]; rfl⟩
        case measure => simp [intOf]; omega
      · by_cases h9 : k = 9
        · subst h9
          have hc1 : c ≤ 1 := by have := HC.out; simp [cnt] at this; omega
          go_wp2
          go_round
          case rel => exact ⟨10, c + 1, by omega, by go_num, by go_num, by omega, by rw [HC.out]; rfl⟩
          case measure => simp [intOf]; omega
        · have e3 : ((k : Int) == 3) = false := by simp; omega
          have e9 : ((k : Int) == 9) = false := by simp; omega
          go_wp2
          go_round
          case rel => exact ⟨k + 1, c, by omega, by go_num, rfl, hc2, by rw [HC.out]; exact cnt_step k h3 h9⟩
          case measure => simp [intOf]; omega
    · obtain rfl : k = t + 1 := by omega
      have hce := HC.out
      rw [cnt_last] at hce
      have HCE : Hid (c = (if 3 ≤ t then 1 else 0) + (if 9 ≤ t then 1 else 0)) := hce
      clear hce HC
      by_cases h9 : 9 ≤ t
      · have h3 : 3 ≤ t := by omega
        obtain rfl : c = 2 := by rw [HCE.out, if_pos h3, if_pos h9]
        go_wp2
        go_ret
        exact ⟨rfl, Grown.refl _⟩
      · by_cases h3 : 3 ≤ t
        · obtain rfl : c = 1 := by rw [HCE.out, if_pos h3, if_neg h9]
          go_wp2
          go_ret
          exact ⟨rfl, Grown.refl _⟩
        · obtain rfl : c = 0 := by rw [HCE.out, if_neg h3, if_neg h9]
          go_wp2
          go_ret
          exact ⟨rfl, Grown.refl _⟩

/-! ### THE ROW's STEP: WRITTEN OUT: LEAVE IT -/
set_option maxRecDepth 100000 in
theorem lifted (os : Os) (started : os.Started) (H : Type) (enc : TypeId × Value → H) :
    ReturnsInHanded {} Try.checked os 3 .any (Rows.fnLeavesFirstOnlyAppendAndSnapshotSpec.pre6 enc Try.prog Try.f3 Rows.fnLeavesFirstOnlyAppendAndSnapshotRow.domain false) (Rows.fnLeavesFirstOnlyAppendAndSnapshotSpec.post enc Try.prog Try.f3 false true false false) := by
  refine returnsInHanded_of_change (C := Try.checked) own started (by kernel_rfl) Try.func3
    (ChangeSpec.witness6 (enc := enc) (C := Try.checked) false ⟨#[], #[.int .u8 0], []⟩ 8 (by kernel_rfl) (by kernel_rfl) (by kernel_rfl) (by kernel_rfl)) ?_
  intro W base args ds gs before hval0 hW hcnd _
  have hval : ∀ (j : Nat) t v, Try.f3.params[j]? = some t → args[j]? = some v → Value.okWide Try.prog W .any base t v := hval0
  have hW' := hW
  obtain ⟨p, q, hA0, hV, rfl, hfz, hnd⟩ := hW
  have hA : DataW.TrodAll enc Try.prog W 0 (fun _ => true) true Try.f3.params.toList args.toList ds p := hA0
  rw [Try.params3] at hA hval
  obtain ⟨v0, vs0, d0, ds0, p0, q0, hargs, rfl, rfl, h0, r0⟩ := trodAll_cons hA
  obtain ⟨rfl, rfl, rfl⟩ := trodAll_nil r0
  obtain rfl : args = #[v0] := by cases args; simp_all
  obtain ⟨rfl, rfl⟩ := trodVars_none hV
  obtain ⟨a0, rfl, rfl, rfl, w0⟩ := open_int Try.underlying5 (hval 0 5 v0 rfl rfl) h0
  clear hA0 hval0
  simp only [List.append_nil] at hW'
  refine (walk a0 w0 W).mono fun e W' ⟨he, hg⟩ => ?_
  subst he
  exact ⟨_, rfl, post_of_same (pa := []) (pv := []) hW' (fun _ _ _ => (trodAll_cons_mk (shut_bool Try.underlying4 _) trodAll_mk0)) (fun sp _ => (trodAll_cons_mk (shut_int Try.underlying5 w0) trodAll_mk0)) (fun _ _ => rfl) rfl
    (hg.frame _) hg.2.1 (ok_one (by kernel_rfl) rfl (okWide_bool_mk Try.underlying4 _))⟩

theorem over : Rows.fnLeavesFirstOnlyAppendAndSnapshotRow.holds Try.pinned (OpenSpec.ofChange Rows.fnLeavesFirstOnlyAppendAndSnapshotSpec) :=
  OpenClaim.holds_of_wide 3 Try.f3 rfl rfl rfl rfl rfl rfl rfl ⟨rfl, rfl, rfl, rfl, rfl⟩ rfl rfl rfl rfl rfl (by kernel_rfl) Try.func3 (by kernel_rfl)
    (of_decide_eq_true (by kernel_rfl)) (by unfold Func.isWrapper; first | (rw [if_pos (by decide +kernel)]; kernel_rfl) | (rw [if_neg (by decide +kernel)]; exact ⟨rfl, rfl⟩))
    (fun os started H enc _ => lifted os started H enc)

/-- ████ THE STATEMENT ████ -/
theorem proved : Rows.FnLeavesFirstOnlyAppendAndSnapshotSaid :=
  over
end Go.Proofs.Qxb6613017a.fnLeavesFirstOnlyAppendAndSnapshot
