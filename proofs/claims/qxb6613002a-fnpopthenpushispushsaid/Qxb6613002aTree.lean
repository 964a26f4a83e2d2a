/- Seat b6613002a: the walk of zzSameTree. -/
import Derived.Test.Qxb6613002aSame
import Derived.Lib.Builder
import Derived.Deep.RegionWith
import Derived.Lib.SliceRun
namespace Go.Proofs.Qxb6613002a
open Go.RowKit

def ptrAt (l : List Value) (i : Nat) : Option Addr := match l[i]? with | some (.pointer a) => a | _ => none
def strAt (l : List Value) (i : Nat) : ByteArray := match l[i]? with | some (.string s) => s | _ => ⟨#[]⟩
def numAt (l : List Value) (i : Nat) : Int := match l[i]? with | some (.int _ z) => z | _ => 0

/-- The rows are of one length, and hold pointers, strings and numbers. -/
structure Typed (xs : Nat → List Value) (n : Nat) : Prop where
  len : ∀ k, k < 6 → (xs k).length = n
  ptr : ∀ i, i < n → (xs 0)[i]? = some (.pointer (ptrAt (xs 0) i))
  str : ∀ i, i < n → (xs 1)[i]? = some (.string (strAt (xs 1) i))
  num : ∀ k, 2 ≤ k → k < 6 → ∀ i, i < n → (xs k)[i]? = some (.int .i32 (numAt (xs k) i))

theorem Tree.cellN {w : World} {p n : Nat} {g c : Nat → Nat} {xs : Nat → List Value} (h : Tree w p g c xs) (hy : Typed xs n) (k : Nat) (hk : k < 6) : w.cell? ⟨p, k, none⟩ = some (.slice (some ⟨g k, 0, none⟩) n (c k)) := by
  rw [← hy.len k hk]; exact h.cell k hk
theorem Tree.ptrN {w : World} {p n : Nat} {g c : Nat → Nat} {xs : Nat → List Value} (h : Tree w p g c xs) (hy : Typed xs n) (i : Nat) (hi : i < n) : w.cell? ⟨g 0, i, none⟩ = some (.pointer (ptrAt (xs 0) i)) := by
  rw [h.elem 0 i (by omega) (by rw [hy.len 0 (by omega)]; exact hi)]; exact hy.ptr i hi
theorem Tree.strN {w : World} {p n : Nat} {g c : Nat → Nat} {xs : Nat → List Value} (h : Tree w p g c xs) (hy : Typed xs n) (i : Nat) (hi : i < n) : w.cell? ⟨g 1, i, none⟩ = some (.string (strAt (xs 1) i)) := by
  rw [h.elem 1 i (by omega) (by rw [hy.len 1 (by omega)]; exact hi)]; exact hy.str i hi
theorem Tree.numN {w : World} {p n : Nat} {g c : Nat → Nat} {xs : Nat → List Value} (h : Tree w p g c xs) (hy : Typed xs n) (k : Nat) (h2 : 2 ≤ k) (hk : k < 6) (i : Nat) (hi : i < n) : w.cell? ⟨g k, i, none⟩ = some (.int .i32 (numAt (xs k) i)) := by
  rw [h.elem k i hk (by rw [hy.len k hk]; exact hi)]; exact hy.num k h2 hk i hi

theorem info29 : ((Try.prog.info? 29).map (·.size)) = some 2 := by kernel_rfl
theorem neq_ptr (w : World) (a : Option Addr) : (binOp .neq 27 (.pointer a) (.pointer a)).run Try.prog w = .ok (.bool false) w := by
  cases a with
  | none => exact run_neq_pointer_nil w 27 none Try.underlying27
  | some a =>
    obtain ⟨j, hj, _⟩ := Option.map_eq_some_iff.1 info29
    exact Lib.run_neq_ptr_same w a Try.underlying27 hj
theorem eql_ptr (w : World) (a : Option Addr) : (binOp .eql 27 (.pointer a) (.pointer a)).run Try.prog w = .ok (.bool true) w := by
  cases a with
  | none => exact run_eql_pointer_nil w 27 none Try.underlying27
  | some a =>
    obtain ⟨j, hj, _⟩ := Option.map_eq_some_iff.1 info29
    exact run_eql_ptr_same w a Try.underlying27 hj

theorem same_row {w : World} {pa pb n : Nat} {ga ca gb cb : Nat → Nat} {xs : Nat → List Value} (hTa : Tree w pa ga ca xs) (hTb : Tree w pb gb cb xs) (hy : Typed xs n) (hn : n ≤ 9223372036854775806) (k : Nat) (h2 : 2 ≤ k) (hk : k < 6) (m : Nat) :
    Calls Try.prog 16 #[.slice (some ⟨ga k, 0, none⟩) n (ca k), .slice (some ⟨gb k, 0, none⟩) n (cb k)] (w.drewN m) fun e w' => e = .returned (.bool true) ∧ ∃ m', w' = w.drewN m' :=
  (same_ints (w.drewN m) (ga k) (gb k) n _ _ (numAt (xs k)) hn (fun i hi => hTa.numN hy k h2 hk i hi) (fun i hi => hTb.numN hy k h2 hk i hi)).mono (by
    rintro e w' ⟨rfl, q, rfl⟩
    exact ⟨rfl, _, World.drewN_drewN _ _ _⟩)

set_option maxRecDepth 20000 in
set_option maxHeartbeats 400000 in
theorem same_tree (w : World) (pa pb n : Nat) (ga ca gb cb : Nat → Nat) (xs : Nat → List Value) (hTa : Tree w pa ga ca xs) (hTb : Tree w pb gb cb xs) (hy : Typed xs n) (hn : n ≤ 9223372036854775806) :
    Calls Try.prog 9 #[.pointer (some ⟨pa, 0, none⟩), .pointer (some ⟨pb, 0, none⟩)] w fun e w' => e = .returned (.bool true) ∧ ∃ m, w' = w.drewN m := by
  have a0 := hTa.cellN hy 0 (by omega)
  have a1 := hTa.cellN hy 1 (by omega)
  have b0 := hTb.cellN hy 0 (by omega)
  have b1 := hTb.cellN hy 1 (by omega)
  have HA : Hid (Tree w pa ga ca xs) := hTa
  have HB : Hid (Tree w pb gb cb xs) := hTb
  have HY : Hid (Typed xs n) := hy
  have hptr := neq_ptr
  clear hTa hTb hy
  go_enter Try.func9, Try.ntmps9
  go_wp2
  go_loopw [9] (fun i wr => ∃ k m : Nat, k ≤ n ∧ i = .int .i64 k ∧ wr = w.drewN m) (fun i _ => n - (intOf i).toNat)
  case atStart => exact ⟨0, 0, Nat.zero_le _, rfl, rfl⟩
  case round =>
    obtain ⟨k, m, hk, rfl, rfl⟩ := hrel
    by_cases hlt : k < n
    · have a1 := HA.out.ptrN HY.out k hlt
      have b1 := HB.out.ptrN HY.out k hlt
      go_wp2
      go_quiet (fail)
      go_wp2
      go_roundw
      case rel => exact ⟨k + 1, _, by omega, by go_num, rfl⟩
      case measure => simp [intOf]; omega
    · go_wp2
      go_loopw [10] (fun i wr => ∃ k m : Nat, k ≤ n ∧ i = .int .i64 k ∧ wr = w.drewN m) (fun i _ => n - (intOf i).toNat)
      case atStart => exact ⟨0, _, Nat.zero_le _, rfl, rfl⟩
      case round =>
        clear hlt hk
        obtain ⟨k, m, hk, rfl, rfl⟩ := hrel
        by_cases hlt : k < n
        · have a1 := HA.out.strN HY.out k hlt
          have b1 := HB.out.strN HY.out k hlt
          go_wp2
          go_quiet (fail)
          go_wp2
          go_roundw
          case rel => exact ⟨k + 1, _, by omega, by go_num, rfl⟩
          case measure => simp [intOf]; omega
        · clear a0 a1 b0 b1
          have hnil : ∀ (w : World) (a : Option Addr) (x y x' y' : Nat), (binOp .eql 23 (.slice a x y) (.slice none x' y')).run Try.prog w = .ok (.bool a.isNone) w := fun w a x y x' y' => Lib.run_eql_slice_nil w _ _ a x y x' y' Try.underlying23
          have a2 := HA.out.cellN HY.out 2 (by omega)
          have b2 := HB.out.cellN HY.out 2 (by omega)
          have a3 := HA.out.cellN HY.out 3 (by omega)
          have b3 := HB.out.cellN HY.out 3 (by omega)
          have a4 := HA.out.cellN HY.out 4 (by omega)
          have b4 := HB.out.cellN HY.out 4 (by omega)
          have a5 := HA.out.cellN HY.out 5 (by omega)
          have b5 := HB.out.cellN HY.out 5 (by omega)
          have a6 := HA.out.cell6
          have b6 := HB.out.cell6
          go_wp2_with (first
            | (go_at_call_of 16 (Value.slice (some ⟨ga 2, 0, none⟩) n (ca 2)); go_must (refine (same_row HA.out HB.out HY.out hn 2 (by omega) (by omega) _).mono ?_); rintro e w' ⟨rfl, m2, rfl⟩)
            | (go_at_call_of 16 (Value.slice (some ⟨ga 3, 0, none⟩) n (ca 3)); go_must (refine (same_row HA.out HB.out HY.out hn 3 (by omega) (by omega) _).mono ?_); rintro e w' ⟨rfl, m3, rfl⟩)
            | (go_at_call_of 16 (Value.slice (some ⟨ga 4, 0, none⟩) n (ca 4)); go_must (refine (same_row HA.out HB.out HY.out hn 4 (by omega) (by omega) _).mono ?_); rintro e w' ⟨rfl, m4, rfl⟩)
            | (go_at_call_of 16 (Value.slice (some ⟨ga 5, 0, none⟩) n (ca 5)); go_must (refine (same_row HA.out HB.out HY.out hn 5 (by omega) (by omega) _).mono ?_); rintro e w' ⟨rfl, m5, rfl⟩)
            | (go_at_call 16; go_must (refine (same_nil _).mono ?_); rintro e w' ⟨rfl, rfl⟩)
            | go_in)
          go_ret
          exact ⟨rfl, _, rfl⟩

end Go.Proofs.Qxb6613002a
