/- Seat b6613002a: the walks of the getters and of zzSameInt32s. -/
import Derived.Test.Qxb6613002aParts
import Derived.WalkLawsBesides
import Derived.Deep.DeepCutAuto
import Derived.Deep.QuietTactic
import Derived.BigQuiet
namespace Go.Proofs.Qxb6613002a
open Go.RowKit

theorem get10 (w : World) (p : Nat) (v : Value) (h : w.cell? ⟨p, 1, none⟩ = some v) : Calls Try.prog 10 #[.pointer (some ⟨p, 0, none⟩)] w fun e w' => e = .returned v ∧ w' = w := by
  go_enter Try.func10, Try.ntmps10
  go_wp2
  go_ret
  exact ⟨rfl, rfl⟩
theorem get11 (w : World) (p : Nat) (v : Value) (h : w.cell? ⟨p, 0, none⟩ = some v) : Calls Try.prog 11 #[.pointer (some ⟨p, 0, none⟩)] w fun e w' => e = .returned v ∧ w' = w := by
  go_enter Try.func11, Try.ntmps11
  go_wp2
  go_ret
  exact ⟨rfl, rfl⟩
theorem get12 (w : World) (p : Nat) (v : Value) (h : w.cell? ⟨p, 2, none⟩ = some v) : Calls Try.prog 12 #[.pointer (some ⟨p, 0, none⟩)] w fun e w' => e = .returned v ∧ w' = w := by
  go_enter Try.func12, Try.ntmps12
  go_wp2
  go_ret
  exact ⟨rfl, rfl⟩
theorem get15 (w : World) (p : Nat) (v : Value) (h : w.cell? ⟨p, 6, none⟩ = some v) : Calls Try.prog 15 #[.pointer (some ⟨p, 0, none⟩)] w fun e w' => e = .returned v ∧ w' = w := by
  go_enter Try.func15, Try.ntmps15
  go_wp2
  go_ret
  exact ⟨rfl, rfl⟩
theorem get17 (w : World) (p : Nat) (v : Value) (h : w.cell? ⟨p, 3, none⟩ = some v) : Calls Try.prog 17 #[.pointer (some ⟨p, 0, none⟩)] w fun e w' => e = .returned v ∧ w' = w := by
  go_enter Try.func17, Try.ntmps17
  go_wp2
  go_ret
  exact ⟨rfl, rfl⟩
theorem get18 (w : World) (p : Nat) (v : Value) (h : w.cell? ⟨p, 4, none⟩ = some v) : Calls Try.prog 18 #[.pointer (some ⟨p, 0, none⟩)] w fun e w' => e = .returned v ∧ w' = w := by
  go_enter Try.func18, Try.ntmps18
  go_wp2
  go_ret
  exact ⟨rfl, rfl⟩
theorem get19 (w : World) (p : Nat) (v : Value) (h : w.cell? ⟨p, 5, none⟩ = some v) : Calls Try.prog 19 #[.pointer (some ⟨p, 0, none⟩)] w fun e w' => e = .returned v ∧ w' = w := by
  go_enter Try.func19, Try.ntmps19
  go_wp2
  go_ret
  exact ⟨rfl, rfl⟩

/-- zzSameInt32s of two rows that hold the same numbers. -/
theorem same_ints (w : World) (ga gb n ca cb : Nat) (z : Nat → Int) (hn : n ≤ 9223372036854775806)
    (hA : ∀ i, i < n → w.cell? ⟨ga, i, none⟩ = some (.int .i32 (z i))) (hB : ∀ i, i < n → w.cell? ⟨gb, i, none⟩ = some (.int .i32 (z i))) :
    Calls Try.prog 16 #[.slice (some ⟨ga, 0, none⟩) n ca, .slice (some ⟨gb, 0, none⟩) n cb] w fun e w' => e = .returned (.bool true) ∧ ∃ m, w' = w.drewN m := by
  have HA : Hid (∀ i, i < n → w.cell? ⟨ga, i, none⟩ = some (.int .i32 (z i))) := hA
  have HB : Hid (∀ i, i < n → w.cell? ⟨gb, i, none⟩ = some (.int .i32 (z i))) := hB
  clear hA hB
  go_enter Try.func16, Try.ntmps16
  go_wp2
  go_loopw [5] (fun i wr => ∃ k m : Nat, k ≤ n ∧ i = .int .i64 k ∧ wr = w.drewN m) (fun i _ => n - (intOf i).toNat)
  case atStart => exact ⟨0, 0, Nat.zero_le _, rfl, rfl⟩
  case round =>
    obtain ⟨k, m, hk, rfl, rfl⟩ := hrel
    by_cases hlt : k < n
    · have a1 := HA.out k hlt
      have b1 := HB.out k hlt
      go_wp2
      go_quiet (fail)
      go_wp2
      go_roundw
      case rel => exact ⟨k + 1, _, by omega, by go_num, rfl⟩
      case measure => simp [intOf]; omega
    · go_wp2
      go_ret
      exact ⟨rfl, _, rfl⟩

/-- .. of two nil slices. -/
theorem same_nil (w : World) : Calls Try.prog 16 #[.slice none 0 0, .slice none 0 0] w fun e w' => e = .returned (.bool true) ∧ w' = w := by
  go_enter Try.func16, Try.ntmps16
  go_wp2
  refine wp_loop_rounds 1 ?_
  rw [rounds_succ]
  go_wp2
  go_ret
  exact ⟨rfl, rfl⟩

end Go.Proofs.Qxb6613002a
