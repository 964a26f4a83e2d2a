/- Seat b6613002a: the walks of the two functions that add up lengths: they answer, and turn nothing. -/
import Derived.Test.Qxb6613002aRows
import Derived.WalkKit
import Derived.WalkSpells
import Derived.WalkLawsBesides
namespace Go.Proofs.Qxb6613002a
open Go.RowKit

def IsBool (e : Ending) : Prop := ∃ b, e = .returned (.bool b)
def IsNum (e : Ending) : Prop := ∃ q, e = .returned (.int .i64 q)

set_option maxRecDepth 20000 in
set_option maxHeartbeats 400000 in
theorem bytes_any (w : World) (sz : Int) (av ap : Option Addr) (bv ov nv cv np cp : Nat) (S : Nat → ByteArray) (x y : ByteArray) (xp yp : Int)
    (hnv : nv ≤ 9223372036854775807) (hav : 0 < nv → av = some ⟨bv, ov, none⟩) (hS : ∀ i, i < nv → w.cell? ⟨bv, ov + i, none⟩ = some (.string (S i))) :
    Calls Try.prog 4 #[.int .i64 sz, .slice av nv cv, .slice ap np cp, .string x, .int .i32 xp, .string y, .int .i32 yp] w fun e w' => IsBool e ∧ w' = w := by
  have HS : Hid (∀ i, i < nv → w.cell? ⟨bv, ov + i, none⟩ = some (.string (S i))) := hS
  have HV : Hid (0 < nv → av = some ⟨bv, ov, none⟩) := hav
  clear hS hav
  go_enter Try.func4, Try.ntmps4
  go_wp2
  · go_ret
    exact ⟨⟨_, rfl⟩, rfl⟩
  · go_loop [15, 16] (fun t i => ∃ (k : Nat) (q : Int), k ≤ nv ∧ i = .int .i64 k ∧ t = .int .i64 q) (fun _ i => nv - (intOf i).toNat)
    case atStart => exact ⟨0, _, Nat.zero_le _, rfl, rfl⟩
    case round =>
      obtain ⟨k, q, hk, rfl, rfl⟩ := hrel
      by_cases hlt : k < nv
      · have c1 := HS.out k hlt
        obtain rfl := HV.out (by omega)
        go_wp2
        · go_ret
          exact ⟨⟨_, rfl⟩, rfl⟩
        · go_ret
          exact ⟨⟨_, rfl⟩, rfl⟩
        · go_round
          case rel => exact ⟨k + 1, _, by omega, by go_num, rfl⟩
          case measure => simp [intOf]; omega
      · go_wp2
        all_goals
          go_ret
          exact ⟨⟨_, rfl⟩, rfl⟩

set_option maxRecDepth 20000 in
set_option maxHeartbeats 400000 in
theorem add_any (w : World) (av : Option Addr) (bv ov nv cv : Nat) (S : Nat → ByteArray) (t : Int)
    (hnv : nv ≤ 65536) (ht : 0 ≤ t) (ht2 : t ≤ 1048576) (hav : 0 < nv → av = some ⟨bv, ov, none⟩) (hS : ∀ i, i < nv → w.cell? ⟨bv, ov + i, none⟩ = some (.string (S i))) :
    Calls Try.prog 5 #[.slice av nv cv, .int .i64 t] w fun e w' => IsNum e ∧ w' = w := by
  have HS : Hid (∀ i, i < nv → w.cell? ⟨bv, ov + i, none⟩ = some (.string (S i))) := hS
  have HV : Hid (0 < nv → av = some ⟨bv, ov, none⟩) := hav
  clear hS hav
  go_enter Try.func5, Try.ntmps5
  go_wp2
  go_loop [1, 5] (fun t i => ∃ (k : Nat) (q : Int), k ≤ nv ∧ i = .int .i64 k ∧ t = .int .i64 q) (fun _ i => nv - (intOf i).toNat)
  case atStart => exact ⟨0, _, Nat.zero_le _, rfl, rfl⟩
  case round =>
    obtain ⟨k, q, hk, rfl, rfl⟩ := hrel
    by_cases hlt : k < nv
    · have c1 := HS.out k hlt
      obtain rfl := HV.out (by omega)
      go_wp2
      · go_ret
        exact ⟨⟨_, rfl⟩, rfl⟩
      · go_round
        case rel => exact ⟨k + 1, _, by omega, by go_num, rfl⟩
        case measure => simp [intOf]; omega
    · go_wp2
      go_ret
      exact ⟨⟨_, rfl⟩, rfl⟩

end Go.Proofs.Qxb6613002a
