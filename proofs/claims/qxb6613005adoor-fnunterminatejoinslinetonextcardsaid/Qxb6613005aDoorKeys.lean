/- Seat b6613005aD: the walks of the makers, Unterminate, Next, wordIs and the sum of lengths. -/
import Derived.Test.Qxb6613005aDoorLine
namespace Go.Proofs.Qxb6613005aDoor
open Go.RowKit
open Plain

/-- A format's block. -/
def fmtObj (e : Int) : Obj := .cells #[.int .i8 1, .int .u8 0, .int .u8 e, .bool false, .int .i64 0, .int .i64 0, .int .i64 0, .int .i64 0, .bool false, .int .u8 0, .int .u64 0, .pointer none, .pointer none] 55

/-- The keys' block. -/
def keyObj (e : Int) (m : Value) : Obj := .cells #[.int .i8 1, .int .u8 0, .int .u8 e, .bool false, .int .i64 0, .int .i64 0, .int .i64 0, .int .i64 0, .bool false, .int .u8 0, .int .u64 0, .pointer none, .pointer none, m] 57

theorem newFormat_any (e : Int) (w : World) : Calls Tryd.prog 16 #[.int .u8 e] w fun r w' => r = .returned (.pointer (some ⟨w.heap.size, 0, none⟩)) ∧ w' = w.alloc (fmtObj e) := by
  go_enter Tryd.func16, Tryd.ntmps16
  go_wp2
  go_ret
  exact ⟨rfl, rfl⟩
theorem newKeys_any (e : Int) (a : Option Addr) (n c : Nat) (w : World) : Calls Tryd.prog 10 #[.int .u8 e, .slice a n c] w fun r w' => r = .returned (.pointer (some ⟨w.heap.size, 0, none⟩)) ∧ w' = w.alloc (keyObj e (.slice a n c)) := by
  go_enter Tryd.func10, Tryd.ntmps10
  go_wp2
  go_ret
  exact ⟨rfl, rfl⟩

theorem not_u8 (e : Nat) (he : e < 256) : bits .xor .u8 IntKind.u8.max (e : Int) = ((255 - e : Nat) : Int) := by
  have h : ∀ e, e < 256 → bits .xor .u8 IntKind.u8.max ((e : Nat) : Int) = ((255 - e : Nat) : Int) := by decide +kernel
  exact h e he

theorem unterm_any (w : World) (q g n c : Nat) (e : Nat) (he : e < 256) (v : Value) (hn : n ≤ 1048576) (hq : w.cell? ⟨q, 2, none⟩ = some (.int .u8 e)) (hc : w.cell? ⟨g, n, none⟩ = some v) (hf : w.frozen? ⟨g, n, none⟩ = false) :
    Calls Tryd.prog 17 #[.pointer (some ⟨q, 0, none⟩), .slice (some ⟨g, 0, none⟩) (n + 1) c] w fun r w' => r = .returned (.tuple #[]) ∧ w' = w.setCell ⟨g, n, none⟩ (.int .u8 ↑(255 - e)) := by
  have hx := not_u8 e he
  go_enter Tryd.func17, Tryd.ntmps17
  go_wp2
  go_end0
  exact ⟨rfl, rfl⟩

def IsBool (e : Ending) : Prop := ∃ b, e = .returned (.bool b)

theorem bytes_any (w : World) (a1 a2 : Option Addr) (n1 c1 n2 c2 : Nat) (e : Int) :
    Calls Tryd.prog 15 #[.slice a1 n1 c1, .slice a2 n2 c2, .int .u8 e] w fun r w' => IsBool r ∧ w' = w := by
  go_enter Tryd.func15, Tryd.ntmps15
  go_wp2
  all_goals
    go_ret
    exact ⟨⟨_, rfl⟩, rfl⟩

theorem byte_eq (R m b : Nat) (h : R / 2 ^ (56 - 8 * m) % 256 = b) (hb : b < 256) : ((R : Int) / 2 ^ (56 - 8 * m) % 256 != bits .xor .u8 (b : Int) 0) = false := by
  have hx : ∀ b, b < 256 → bits .xor .u8 ((b : Nat) : Int) 0 = (b : Int) := by decide +kernel
  rw [hx b hb, ← h]
  simp

/-- wordIs of the word and count that belong to the bytes of rest. -/
theorem wordIs_any (w : World) (g o n c k R : Nat) (B : Nat → Nat) (hk : k = min n 8) (hn : n ≤ 9223372036854775807) (hc : ∀ i, i < k → w.cell? ⟨g, o + i, none⟩ = some (.int .u8 (B i)))
    (hR : ∀ m, m < 8 → R / 2 ^ (56 - 8 * m) % 256 = if m < k then B m else 0) (hB : ∀ i, i < 8 → B i < 256) (ao : Option Addr) (hao : 0 < n → ao = some ⟨g, o, none⟩) :
    Calls Tryd.prog 12 #[.int .u64 R, .int .i64 k, .slice ao n c, .int .u8 0] w fun r w' => r = .returned (.bool true) ∧ w' = w := by
  have HC : Hid (∀ i, i < k → w.cell? ⟨g, o + i, none⟩ = some (.int .u8 (B i))) := hc
  have HR : Hid (∀ m, m < 8 → R / 2 ^ (56 - 8 * m) % 256 = if m < k then B m else 0) := hR
  have HB : Hid (∀ i, i < 8 → B i < 256) := hB
  have HA : Hid (0 < n → ao = some ⟨g, o, none⟩) := hao
  have HK : Hid (k = min n 8) := hk
  have hk8 : k ≤ 8 := by omega
  have hkn : k ≤ n := by omega
  have h1 : (8 : Int) < (n : Int) → k = 8 := fun _ => by omega
  have h2 : (n : Int) ≤ 8 → k = n := fun _ => by omega
  clear hc hR hB hao hk
  by_cases hbig : 8 < n
  · obtain rfl : k = 8 := by omega
    clear h1 h2
    go_enter Tryd.func12, Tryd.ntmps12
    go_wp2
    go_loop [10] (fun i => ∃ m : Nat, m ≤ 8 ∧ i = .int .i64 m) (fun i => 8 - (intOf i).toNat)
    case atStart => exact ⟨0, by omega, rfl⟩
    case round =>
      obtain ⟨m, hm, rfl⟩ := hrel
      by_cases hlt : m < 8
      · have c1 := HC.out m hlt
        have r0 := HR.out m hlt
        rw [if_pos hlt] at r0
        have r1 := byte_eq R m (B m) r0 (HB.out m hlt)
        clear r0
        obtain rfl := HA.out (by omega)
        go_wp2
        go_round
        case rel => exact ⟨m + 1, by omega, by go_num⟩
        case measure => simp [intOf]; omega
      · go_wp2
        go_ret
        exact ⟨rfl, rfl⟩
  · obtain rfl : k = n := by omega
    clear h1 h2
    go_enter Tryd.func12, Tryd.ntmps12
    go_wp2
    go_loop [10] (fun i => ∃ m : Nat, m ≤ 8 ∧ i = .int .i64 m) (fun i => 8 - (intOf i).toNat)
    case atStart => exact ⟨0, by omega, rfl⟩
    case round =>
      obtain ⟨m, hm, rfl⟩ := hrel
      by_cases hlt : m < 8
      · have r0 := HR.out m hlt
        by_cases hmk : m < k
        · have c1 := HC.out m hmk
          rw [if_pos hmk] at r0
          have r1 := byte_eq R m (B m) r0 (HB.out m hlt)
          clear r0
          obtain rfl := HA.out (by omega)
          go_wp2
          go_round
          case rel => exact ⟨m + 1, by omega, by go_num⟩
          case measure => simp [intOf]; omega
        · rw [if_neg hmk] at r0
          have r1 := byte_eq R m 0 r0 (by omega)
          simp only [Int.cast_ofNat_Int] at r1
          clear r0
          go_wp2
          go_round
          case rel => exact ⟨m + 1, by omega, by go_num⟩
          case measure => simp [intOf]; omega
      · go_wp2
        go_ret
        exact ⟨rfl, rfl⟩

set_option maxRecDepth 20000 in
set_option maxHeartbeats 400000 in
theorem next_core (w : World) (q g N d e k R : Nat) (hN : N ≤ 1048578) (hd : d < N) (h0 : w.cell? ⟨q, 0, none⟩ = some (.int .i8 1)) (h2 : w.cell? ⟨q, 2, none⟩ = some (.int .u8 e)) (h13 : w.cell? ⟨q, 13, none⟩ = some (.slice (some ⟨g, 0, none⟩) N N))
    (hl : Calls Tryd.prog 24 #[.slice (some ⟨g, d, none⟩) (N - d) (N - d), .int .u8 e] w.drew fun r w' => r = .returned (.tuple #[.int .u64 R, .int .i64 k]) ∧ Below w.heap.size w w') :
    Calls Tryd.prog 11 #[.pointer (some ⟨q, 0, none⟩), .int .i64 0, .int .i64 d] w fun r w' => r = .returned (.tuple #[.int .u64 R, .int .i64 k]) ∧ Below w.heap.size w w' := by
  have HL : Hid (Calls Tryd.prog 24 #[.slice (some ⟨g, d, none⟩) (N - d) (N - d), .int .u8 e] w.drew fun r w' => r = .returned (.tuple #[.int .u64 R, .int .i64 k]) ∧ Below w.heap.size w w') := hl
  have hq : q < w.heap.size := World.block_lt_of_cell? _ _ h0
  have HS : Hid (∀ w', Below w.heap.size w w' → w'.cell? ⟨q, 13, none⟩ = some (.slice (some ⟨g, 0, none⟩) N N) ∧ w'.cell? ⟨q, 2, none⟩ = some (.int .u8 e)) :=
    fun w' hb => ⟨(hb.cell (p := ⟨q, 13, none⟩) hq).trans h13, (hb.cell (p := ⟨q, 2, none⟩) hq).trans h2⟩
  have hne : ¬ N = d := by omega
  have l1 : (d : Int) ≤ (N : Int) := by omega
  have l0 : (0 : Int) ≤ (d : Int) := by omega
  have wr : IntKind.i64.wrap (d : Int) = (d : Int) := by rw [IntKind.wrap_i64]; omega
  clear hl
  go_enter Tryd.func11, Tryd.ntmps11
  go_upto_region 2 with go_in
  go_region_held3 (fun w' => w'.cell? ⟨q, 13, none⟩ = some (.slice (some ⟨g, 0, none⟩) N N) ∧ w'.cell? ⟨q, 2, none⟩ = some (.int .u8 e)) (first | go_keep | (exact HS.out _ ‹_›))
    (first | (go_at_call 24; refine HL.out.mono ?_; rintro r w1 ⟨rfl, hb1⟩))
  have HB : Hid (Below w.heap.size w w1) := hb1
  clear hb1
  go_wp2
  go_ret2
  exact ⟨rfl, HB.out⟩

/-- Next at depth d of the line at 0, in a memory M of N bytes whose line ends at L. -/
theorem next_any (w : World) (q g N d e L : Nat) (M : Nat → Nat) (hT : TabAt w) (hN : N ≤ 1048578) (hL : L < N) (hd : d ≤ L) (he : e < 256) (hM : ∀ i, i < N → M i < 256)
    (hlt : ∀ i, i < L → M i ≠ e) (hat : M L = e) (h0 : w.cell? ⟨q, 0, none⟩ = some (.int .i8 1)) (h2 : w.cell? ⟨q, 2, none⟩ = some (.int .u8 e)) (h13 : w.cell? ⟨q, 13, none⟩ = some (.slice (some ⟨g, 0, none⟩) N N))
    (hc : ∀ i, i < N → w.cell? ⟨g, i, none⟩ = some (.int .u8 (M i))) :
    Calls Tryd.prog 11 #[.pointer (some ⟨q, 0, none⟩), .int .i64 0, .int .i64 d] w fun r w' =>
      r = .returned (.tuple #[.int .u64 ↑(le (fun i => if 7 - i < min (L - d) 8 then M (d + (7 - i)) else 0) 8), .int .i64 (min (L - d) 8 : Nat)]) ∧ Below w.heap.size w w' := by
  refine next_core w q g N d e (min (L - d) 8) _ hN (by omega) h0 h2 h13 ?_
  have hB : ∀ i, i < 8 → (if i < N - d then M (d + i) else 0) < 256 := fun i hi => by
    split
    · exact hM _ (by omega)
    · decide
  have h := line_any g d (N - d) (N - d) (fun i => if i < N - d then M (d + i) else 0) e (min (L - d) 8) w.drew hT (by omega) hB he (fun i h1 h2 => by
      simp only [if_pos h1]
      exact hc (d + i) (by omega)) (fun i h1 h2 => by simp only [if_neg (show ¬ i < N - d by omega)]) (by omega)
    (fun i hi => by simp only [if_pos (show i < N - d by omega)]; exact hlt _ (by omega))
    (fun hk => by
      have e1 : min (L - d) 8 = L - d := by omega
      simp only [e1, if_pos (show L - d < N - d by omega)]
      rw [show d + (L - d) = L by omega]
      exact hat)
  refine h.mono ?_
  rintro r w' ⟨rfl, hb⟩
  refine ⟨?_, ⟨hb.os, hb.tape, hb.output, hb.size, hb.block⟩⟩
  have e : le (fun i => if 7 - i < min (L - d) 8 then (if 7 - i < N - d then M (d + (7 - i)) else 0) else 0) 8 = le (fun i => if 7 - i < min (L - d) 8 then M (d + (7 - i)) else 0) 8 := by
    refine le_congr 8 _ _ (fun i hi => ?_)
    by_cases h1 : 7 - i < min (L - d) 8
    · rw [if_pos h1, if_pos h1, if_pos (by omega)]
    · rw [if_neg h1, if_neg h1]
  rw [e]

/-- The word's bytes, from the high end. -/
theorem word_bytes (C : Nat → Nat) (hC : ∀ i, i < 8 → C i < 256) (m : Nat) (hm : m < 8) : le (fun i => C (7 - i)) 8 / 2 ^ (56 - 8 * m) % 256 = C m := by
  have e : (2 : Nat) ^ (56 - 8 * m) = 256 ^ (7 - m) := by
    rw [show (256 : Nat) = 2 ^ 8 by decide, ← Nat.pow_mul]
    congr 1
    omega
  rw [e, le_byte 8 (fun i => C (7 - i)) (7 - m) (fun i hi => hC _ (by omega)) (by omega)]
  show C (7 - (7 - m)) = C m
  rw [show 7 - (7 - m) = m by omega]

end Go.Proofs.Qxb6613005aDoor
