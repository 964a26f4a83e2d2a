/- Seat b6613005aD: the walks of wordOf, endsIn, bits.TrailingZeros64, bits.ReverseBytes64. -/
import Derived.Test.Qxb6613005aDoorRows
import Derived.Test.Qxb6613005aDoorPlain
import Derived.WalkKit
import Derived.WalkSpells
import Derived.WalkLawsBesides
import Derived.Laws.Bits64b
import Derived.Lib.EndianBits
import Derived.Stop.LaidErr
import Derived.Deep.QuietTactic
import Derived.BigQuiet
namespace Go.Proofs.Qxb6613005aDoor
open Go.RowKit
open Plain

theorem wordOf_any (e : Nat) (he : e < 256) (w : World) : Calls Tryd.prog 32 #[.int .u8 e] w fun r w' => r = .returned (.int .u64 ↑(72340172838076673 * e)) ∧ w' = w := by
  go_enter Tryd.func32, Tryd.ntmps32
  go_wp2
  go_ret
  exact ⟨rfl, rfl⟩

theorem bits_andNot_u64_nat (a b : Nat) (ha : a < 18446744073709551616) (hb : b < 18446744073709551616) :
    bits .andNot .u64 (a : Int) (b : Int) = ((a &&& (18446744073709551615 - b) : Nat) : Int) := by
  have hx : a &&& (18446744073709551615 - b) < 2 ^ 64 := Nat.lt_of_le_of_lt Nat.and_le_left (by omega)
  have h1 : (BitVec.ofInt 64 (a : Int)).toNat = a := by
    rw [BitVec.ofInt_natCast, BitVec.toNat_ofNat]; exact Nat.mod_eq_of_lt (by omega)
  have h2 : (BitVec.ofInt 64 (b : Int)).toNat = b := by
    rw [BitVec.ofInt_natCast, BitVec.toNat_ofNat]; exact Nat.mod_eq_of_lt (by omega)
  show IntKind.u64.wrap ((BitVec.ofInt 64 (a : Int) &&& ~~~ BitVec.ofInt 64 (b : Int)).toNat : Int) = _
  rw [BitVec.toNat_and, BitVec.toNat_not, h1, h2, IntKind.wrap_u64]
  have e : 2 ^ 64 - 1 - b = 18446744073709551615 - b := rfl
  rw [e]
  omega

theorem ret_int {k : IntKind} {a b : Int} (h : a = b) : Ending.returned (.int k a) = .returned (.int k b) := by rw [h]

theorem ends_key (x e : Nat) (hx : x < 18446744073709551616) (he : e < 18446744073709551616) :
    bits .and .u64 (bits .andNot .u64 (IntKind.u64.wrap (bits .xor .u64 (x : Int) (e : Int) - 72340172838076673)) (bits .xor .u64 (x : Int) (e : Int))) 9259542123273814144 = ((endsN x e : Nat) : Int) := by
  have ht : x ^^^ e < 18446744073709551616 := Nat.xor_lt_two_pow (n := 64) hx he
  rw [bits_xor_u64_nat x e hx he]
  rw [show (72340172838076673 : Int) = ((72340172838076673 : Nat) : Int) from rfl, wrap_sub_u64_nat (x ^^^ e) 72340172838076673 18374403900871474943 rfl]
  rw [bits_andNot_u64_nat _ _ (Nat.mod_lt _ (by decide)) ht]
  rw [show (9259542123273814144 : Int) = ((9259542123273814144 : Nat) : Int) from rfl, bits_and_u64_nat _ _ (Nat.lt_of_le_of_lt Nat.and_le_left (Nat.mod_lt _ (by decide))) (by decide)]
  rfl

theorem endsIn_any (x e : Nat) (hx : x < 18446744073709551616) (he : e < 18446744073709551616) (w : World) :
    Calls Tryd.prog 31 #[.int .u64 x, .int .u64 e] w fun r w' => r = .returned (.int .u64 ↑(endsN x e)) ∧ w' = w := by
  go_enter Tryd.func31, Tryd.ntmps31
  go_wp2
  go_ret
  exact ⟨ret_int (ends_key x e hx he), rfl⟩

/-- The library's table in its variable. -/
def TabAt (w : World) : Prop := ∀ j, j < 64 → w.cell? ⟨1, j, none⟩ = some (.int .u8 (Lib.deBruijn64tab.getD j 0))

theorem tz_key (x a : Nat) (hx : x < 18446744073709551616) (hx0 : x ≠ 0) (hlow : x &&& (18446744073709551616 - x) = a) :
    IntKind.u64.wrap (bits BinOp.and IntKind.u64 (x : Int) (IntKind.u64.wrap (-(x : Int))) * 285870213051353865) / 288230376151711744 = ((a * 285870213051353865 % 18446744073709551616 / 288230376151711744 : Nat) : Int) := by
  have e1 : IntKind.u64.wrap (-(x : Int)) = ((18446744073709551616 - x : Nat) : Int) := by rw [IntKind.wrap_u64]; omega
  rw [e1, bits_and_u64_nat x _ hx (by omega), hlow, IntKind.wrap_u64]
  omega

theorem tz_core (x k idx : Nat) (w : World) (hx0 : ((x : Int) == 0) = false)
    (key : IntKind.u64.wrap (bits BinOp.and IntKind.u64 (x : Int) (IntKind.u64.wrap (-(x : Int))) * 285870213051353865) / 288230376151711744 = (idx : Int))
    (hi : idx < 64) (hk : k < 64) (hcell : w.cell? ⟨1, idx, none⟩ = some (.int .u8 k)) :
    Calls Tryd.prog 30 #[.int .u64 x] w fun r w' => r = .returned (.int .i64 k) ∧ w' = w := by
  go_enter Tryd.func30, Tryd.ntmps30
  go_wp2_with (simp only [key])
  go_ret
  exact ⟨rfl, rfl⟩
theorem tz_zero (w : World) : Calls Tryd.prog 30 #[.int .u64 0] w fun r w' => r = .returned (.int .i64 64) ∧ w' = w := by
  go_enter Tryd.func30, Tryd.ntmps30
  go_wp2
  go_ret
  exact ⟨rfl, rfl⟩
theorem tz_any (x : Nat) (hx : x < 18446744073709551616) (w : World) (hT : TabAt w) :
    Calls Tryd.prog 30 #[.int .u64 x] w fun r w' => r = .returned (.int .i64 (Lib.ctz 64 x)) ∧ w' = w := by
  by_cases hx0 : x = 0
  · subst hx0
    exact tz_zero w
  · obtain ⟨hlow, hk⟩ := Lib.lowest_bit 64 x hx0 hx
    obtain ⟨hi, htab⟩ := Lib.deBruijn64_at _ hk
    have hcell := hT _ hi
    rw [htab] at hcell
    exact tz_core x _ _ w (by simp; omega) (tz_key x _ hx hx0 hlow) hi hk hcell

theorem rv1_lt (y : Nat) (hy : y < 18446744073709551616) : rv1 y < 18446744073709551616 :=
  Nat.or_lt_two_pow (n := 64) (Nat.lt_of_le_of_lt Nat.and_le_left (by omega)) (Nat.mod_lt _ (by decide))
theorem rv2_lt (y : Nat) (hy : y < 18446744073709551616) : rv2 y < 18446744073709551616 :=
  Nat.or_lt_two_pow (n := 64) (Nat.lt_of_le_of_lt Nat.and_le_left (by omega)) (Nat.mod_lt _ (by decide))
theorem wrap_mul (a c : Nat) : IntKind.u64.wrap ((a : Int) * (c : Int)) = ((a * c % 18446744073709551616 : Nat) : Int) := by
  rw [IntKind.wrap_u64, ← Int.natCast_mul]
  omega
theorem rv1_key (y : Nat) (hy : y < 18446744073709551616) :
    bits .or .u64 (bits .and .u64 ((y : Int) / 256) 71777214294589695) (IntKind.u64.wrap (bits .and .u64 (y : Int) 71777214294589695 * 256)) = ((rv1 y : Nat) : Int) := by
  have e1 : (y : Int) / 256 = ((y / 256 : Nat) : Int) := by omega
  rw [e1, show (71777214294589695 : Int) = ((71777214294589695 : Nat) : Int) from rfl, bits_and_u64_nat _ _ (by omega) (by decide), bits_and_u64_nat _ _ hy (by decide),
    show (256 : Int) = ((256 : Nat) : Int) from rfl, wrap_mul, bits_or_u64_nat _ _ (Nat.lt_of_le_of_lt Nat.and_le_left (by omega)) (Nat.mod_lt _ (by decide))]
  rfl
theorem rv2_key (y : Nat) (hy : y < 18446744073709551616) :
    bits .or .u64 (bits .and .u64 ((y : Int) / 65536) 281470681808895) (IntKind.u64.wrap (bits .and .u64 (y : Int) 281470681808895 * 65536)) = ((rv2 y : Nat) : Int) := by
  have e1 : (y : Int) / 65536 = ((y / 65536 : Nat) : Int) := by omega
  rw [e1, show (281470681808895 : Int) = ((281470681808895 : Nat) : Int) from rfl, bits_and_u64_nat _ _ (by omega) (by decide), bits_and_u64_nat _ _ hy (by decide),
    show (65536 : Int) = ((65536 : Nat) : Int) from rfl, wrap_mul, bits_or_u64_nat _ _ (Nat.lt_of_le_of_lt Nat.and_le_left (by omega)) (Nat.mod_lt _ (by decide))]
  rfl
theorem rv3_key (y : Nat) (hy : y < 18446744073709551616) :
    bits .or .u64 ((y : Int) / 4294967296) (IntKind.u64.wrap ((y : Int) * 4294967296)) = ((rv3 y : Nat) : Int) := by
  have e1 : (y : Int) / 4294967296 = ((y / 4294967296 : Nat) : Int) := by omega
  rw [e1, show (4294967296 : Int) = ((4294967296 : Nat) : Int) from rfl, wrap_mul, bits_or_u64_nat _ _ (by omega) (Nat.mod_lt _ (by decide))]
  rfl

theorem rev_any (x : Nat) (hx : x < 18446744073709551616) (w : World) :
    Calls Tryd.prog 33 #[.int .u64 x] w fun r w' => r = .returned (.int .u64 ↑(rv3 (rv2 (rv1 x)))) ∧ w' = w := by
  go_enter Tryd.func33, Tryd.ntmps33
  go_wp2
  go_ret
  refine ⟨ret_int ?_, rfl⟩
  rw [rv1_key x hx, rv2_key _ (rv1_lt x hx), rv3_key _ (rv2_lt _ (rv1_lt x hx))]

set_option maxHeartbeats 1600000 in
set_option maxRecDepth 100000 in
/-- binary.LittleEndian.Uint64: the word of the first eight bytes. -/
theorem le_any (g o n c : Nat) (B : Nat → Nat) (w : World) (hn : 8 ≤ n) (hB : ∀ i, i < 8 → B i < 256)
    (hc : ∀ i, i < 8 → w.cell? ⟨g, o + i, none⟩ = some (.int .u8 (B i))) :
    Calls Tryd.prog 29 #[.agg #[], .slice (some ⟨g, o, none⟩) n c] w fun r w' => r = .returned (.int .u64 ↑(le B 8)) ∧ Below w.heap.size w w' := by
  have c0 := hc 0 (by omega); have c1 := hc 1 (by omega); have c2 := hc 2 (by omega); have c3 := hc 3 (by omega)
  have c4 := hc 4 (by omega); have c5 := hc 5 (by omega); have c6 := hc 6 (by omega); have c7 := hc 7 (by omega)
  simp only [Nat.add_zero] at c0
  have h0 := hB 0 (by omega); have h1 := hB 1 (by omega); have h2 := hB 2 (by omega); have h3 := hB 3 (by omega)
  have h4 := hB 4 (by omega); have h5 := hB 5 (by omega); have h6 := hB 6 (by omega); have h7 := hB 7 (by omega)
  have hv : ((le B 8 : Nat) : Int) = (B 0 : Int) + (B 1 : Int) * 256 + (B 2 : Int) * 65536 + (B 3 : Int) * 16777216 + (B 4 : Int) * 4294967296 + (B 5 : Int) * 1099511627776 + (B 6 : Int) * 281474976710656 + (B 7 : Int) * 72057594037927936 := by
    rw [le_w8]; unfold w8; omega
  have HV : Hid (((le B 8 : Nat) : Int) = (B 0 : Int) + (B 1 : Int) * 256 + (B 2 : Int) * 65536 + (B 3 : Int) * 16777216 + (B 4 : Int) * 4294967296 + (B 5 : Int) * 1099511627776 + (B 6 : Int) * 281474976710656 + (B 7 : Int) * 72057594037927936) := hv
  clear hv hc hB
  have d0 := cell?_alloc_old (.cells #[] 65) c0
  have d1 := cell?_alloc_old (.cells #[] 65) c1
  have d2 := cell?_alloc_old (.cells #[] 65) c2
  have d3 := cell?_alloc_old (.cells #[] 65) c3
  have d4 := cell?_alloc_old (.cells #[] 65) c4
  have d5 := cell?_alloc_old (.cells #[] 65) c5
  have d6 := cell?_alloc_old (.cells #[] 65) c6
  have d7 := cell?_alloc_old (.cells #[] 65) c7
  have q0 : 0 < n := by omega
  have q1 : (1 : Int) < (n : Int) := by omega
  have q2 : (2 : Int) < (n : Int) := by omega
  have q3 : (3 : Int) < (n : Int) := by omega
  have q4 : (4 : Int) < (n : Int) := by omega
  have q5 : (5 : Int) < (n : Int) := by omega
  have q6 : (6 : Int) < (n : Int) := by omega
  have q7 : (7 : Int) < (n : Int) := by omega
  go_enter Tryd.func29, Tryd.ntmps29
  go_wp2
  go_quiet (fail)
  go_wp2
  go_ret
  refine ⟨ret_int ?_, ((Below.refl _ w).alloc (Nat.le_refl _) _).trans ⟨rfl, rfl, rfl, Nat.le_refl _, fun _ _ => rfl⟩⟩
  simp (disch := omega) only [u64_or8, u64_or16, u64_or24, u64_or32, u64_or40, u64_or48, u64_or56]
  rw [HV.out]

end Go.Proofs.Qxb6613005aDoor
