/- Seat b6613005aD: the walk of lineWord. -/
import Derived.Test.Qxb6613005aDoorBits
import Derived.Laws.CopyOwn
import Derived.Deep.DeepCutAuto
import Derived.Deep.RegionHeld3
namespace Go.Proofs.Qxb6613005aDoor
open Go.RowKit
open Plain

theorem TabAt.below {w w' : World} {B : Nat} (h : TabAt w) (hb : Below B w w') (hB : 1 < B) : TabAt w' := fun j hj => (hb.cell (p := ⟨1, j, none⟩) hB).trans (h j hj)
theorem TabAt.lt {w : World} (h : TabAt w) : 1 < w.heap.size := World.block_lt_of_cell? _ _ (h 0 (by omega))

theorem info5 : (Tryd.prog.info? 5).map (·.size) = some 1 := by kernel_rfl

/-- The eight bytes that are filled from a shorter slice. -/
def wordRow (cs : List Value) (n : Nat) : List Value := cs ++ List.replicate (8 - n) (Value.int .u8 0)
theorem wordRow_heap {w : World} {cs : List Value} {n : Nat} (hl : cs.length = n) :
    ((w.alloc (.cells #[.int .u8 0, .int .u8 0, .int .u8 0, .int .u8 0, .int .u8 0, .int .u8 0, .int .u8 0, .int .u8 0] 67)).setRow w.heap.size
      ((#[Value.int .u8 0, .int .u8 0, .int .u8 0, .int .u8 0, .int .u8 0, .int .u8 0, .int .u8 0, .int .u8 0] : Array Value).toList.take 0 ++ (cs ++ (#[Value.int .u8 0, .int .u8 0, .int .u8 0, .int .u8 0, .int .u8 0, .int .u8 0, .int .u8 0, .int .u8 0] : Array Value).toList.drop (0 + cs.length))).toArray).heap[w.heap.size]? =
      some (.cells (wordRow cs n).toArray 67 (0, 0)) := by
  rw [setRow_heap _ _ _ _ 67 _ (heap_alloc_new w _)]
  have e : ([Value.int .u8 0, .int .u8 0, .int .u8 0, .int .u8 0, .int .u8 0, .int .u8 0, .int .u8 0, .int .u8 0] : List Value) = List.replicate 8 (Value.int .u8 0) := rfl
  simp only [e, List.take_zero, List.nil_append, List.drop_replicate, Nat.zero_add, hl, wordRow]

theorem below_after {w wc w1 : World} (h : Below w.heap.size w wc) (h1 : Below wc.drew.heap.size wc.drew w1) : Below w.heap.size w w1 :=
  h.trans ⟨h1.os, h1.tape, h1.output, h1.size, fun k hk => h1.block k (Nat.lt_of_lt_of_le hk h.size)⟩

/-- What a callee that only reckons answers. -/
def Ans (f : Nat) (args : Array Value) (v : Value) (w : World) : Prop := Calls Tryd.prog f args w fun r w' => r = .returned v ∧ w' = w

set_option maxRecDepth 20000 in
set_option maxHeartbeats 400000 in
theorem line_core (g o n c e k X E V t R : Nat) (w : World) (hn : n ≤ 9223372036854775807) (hk : k ≤ 8) (ht : (t : Int) / 8 = (k : Int))
    (hlong : 8 ≤ n → ∀ w0, Below w.heap.size w w0 → Calls Tryd.prog 29 #[.agg #[], .slice (some ⟨g, o, none⟩) n c] w0 fun r w' => r = .returned (.int .u64 X) ∧ Below w0.heap.size w0 w')
    (h32 : ∀ w, Ans 32 #[.int .u8 e] (.int .u64 E) w) (h31 : ∀ w, Ans 31 #[.int .u64 X, .int .u64 E] (.int .u64 V) w)
    (h30 : ∀ w', Below w.heap.size w w' → Ans 30 #[.int .u64 V] (.int .i64 t) w') (h33 : ∀ w, Ans 33 #[.int .u64 (bits .and .u64 (X : Int) (IntKind.u64.wrap (IntKind.u64.wrap (2 ^ (8 * k)) - 1)))] (.int .u64 R) w)
    (cs : List Value) (hcs : n < 8 → cs.length = n) (hsrc : n < 8 → ∀ j v, cs[j]? = some v → w.cell? ((⟨g, o, none⟩ : Addr).add j) = some v) (hone : ∀ v ∈ cs, v.oneCell' = true)
    (hshort : n < 8 → ∀ w0, w0.heap[w.heap.size]? = some (.cells (wordRow cs n).toArray 67 (0, 0)) → Calls Tryd.prog 29 #[.agg #[], .slice (some ⟨w.heap.size, 0, none⟩) 8 8] w0 fun r w' => r = .returned (.int .u64 X) ∧ Below w0.heap.size w0 w') :
    Calls Tryd.prog 24 #[.slice (some ⟨g, o, none⟩) n c, .int .u8 e] w fun r w' => r = .returned (.tuple #[.int .u64 R, .int .i64 k]) ∧ Below w.heap.size w w' := by
  have HL : Hid (8 ≤ n → ∀ w0, Below w.heap.size w w0 → Calls Tryd.prog 29 #[.agg #[], .slice (some ⟨g, o, none⟩) n c] w0 fun r w' => r = .returned (.int .u64 X) ∧ Below w0.heap.size w0 w') := hlong
  have H32 : Hid (∀ w, Ans 32 #[.int .u8 e] (.int .u64 E) w) := h32
  have H31 : Hid (∀ w, Ans 31 #[.int .u64 X, .int .u64 E] (.int .u64 V) w) := h31
  have H30 : Hid (∀ w', Below w.heap.size w w' → Ans 30 #[.int .u64 V] (.int .i64 t) w') := h30
  have H33 : Hid (∀ w, Ans 33 #[.int .u64 (bits .and .u64 (X : Int) (IntKind.u64.wrap (IntKind.u64.wrap (2 ^ (8 * k)) - 1)))] (.int .u64 R) w) := h33
  have HS : Hid (n < 8 → ∀ w0, w0.heap[w.heap.size]? = some (.cells (wordRow cs n).toArray 67 (0, 0)) → Calls Tryd.prog 29 #[.agg #[], .slice (some ⟨w.heap.size, 0, none⟩) 8 8] w0 fun r w' => r = .returned (.int .u64 X) ∧ Below w0.heap.size w0 w') := hshort
  have HSrc : Hid (n < 8 → ∀ j v, cs[j]? = some v → w.cell? ((⟨g, o, none⟩ : Addr).add j) = some v) := hsrc
  have HO : Hid (∀ v ∈ cs, v.oneCell' = true) := hone
  have HLen : Hid (n < 8 → cs.length = n) := hcs
  clear hlong h32 h31 h30 h33 hshort hsrc hone hcs
  go_enter Tryd.func24, Tryd.ntmps24
  go_upto_if 11 with fail
  go_cut [6] (fun s wx => s = .int .u64 X ∧ Below w.heap.size w wx)
  case first =>
    by_cases h8 : 8 ≤ n
    · go_wp2_with (go_at_call 29; go_must (refine (HL.out h8 _ (Below.refl _ _)).mono ?_))
      rintro r w1 ⟨rfl, hb⟩
      have HB : Hid (Below w.heap.size w w1) := hb
      clear hb
      go_wp2_with fail
      go_meet
      case rel => exact ⟨rfl, HB.out⟩
    · go_upto_region 5 with fail
      go_cut [] (fun wx => wx.heap[w.heap.size]? = some (.cells (wordRow cs n).toArray 67 (0, 0)) ∧ Below w.heap.size w wx)
      case first =>
        have hl := HLen.out (by omega)
        have hmin : Nat.min n 8 = n := Nat.min_eq_left (by omega)
        go_wp2_with (refine wpList_copy_own rfl (.tmp 15) (.tmp 16) 22 22 rfl 5 Tryd.underlying22 info5 w.heap.size 0 8 8 ⟨g, o, none⟩ n c rfl rfl #[.int .u8 0, .int .u8 0, .int .u8 0, .int .u8 0, .int .u8 0, .int .u8 0, .int .u8 0, .int .u8 0] 67 (heap_alloc_new w _) cs (by rw [hmin]; exact hl) (fun j v hj => cell?_alloc_old _ (HSrc.out (by omega) j v hj)) (by rw [hl]; simp; omega) HO.out ?_)
        have RB : Hid (∀ xs : Array Value, Below w.heap.size w ((w.alloc (.cells #[.int .u8 0, .int .u8 0, .int .u8 0, .int .u8 0, .int .u8 0, .int .u8 0, .int .u8 0, .int .u8 0] 67)).setRow w.heap.size xs)) := fun xs => below_setRow ((Below.refl _ _).alloc (Nat.le_refl _) _) (Nat.le_refl _) xs
        go_meet
        case rel => exact ⟨wordRow_heap hl, RB.out _⟩
      case rest =>
        obtain ⟨hrow, hb⟩ := hcut
        have HRow : Hid (wc.heap[w.heap.size]? = some (.cells (wordRow cs n).toArray 67 (0, 0))) := hrow
        have HBc : Hid (Below w.heap.size w wc) := hb
        clear hrow hb
        go_upto_region 6 with fail
        go_region_held3 (fun _ => True) (trivial)
          (first | (go_at_call 29; refine (HS.out (by omega) wc.drew HRow.out).mono ?_; rintro e w1 ⟨rfl, hb1⟩))
        have RB : Hid (Below w.heap.size w w1) := below_after HBc.out hb1
        go_wp2_with fail
        go_meet
        case rel => exact ⟨rfl, RB.out⟩
  case rest =>
    obtain ⟨rfl, hb⟩ := hcut
    have HBc : Hid (Below w.heap.size w wc) := hb
    clear hb HL
    go_wp2_with (go_at_call 32; go_must (refine (H32.out _).mono ?_))
    rintro r w1 ⟨rfl, hw⟩
    obtain rfl := hw.symm
    go_wp2_with (go_at_call 31; go_must (refine (H31.out _).mono ?_))
    rintro r w1 ⟨rfl, hw⟩
    obtain rfl := hw.symm
    go_wp2_with (go_at_call 30; go_must (refine (H30.out _ HBc.out).mono ?_))
    rintro r w1 ⟨rfl, hw⟩
    obtain rfl := hw.symm
    clear H30 H31 H32
    go_wp2_with (go_at_call 33; go_must (refine (H33.out _).mono ?_))
    rintro r w1 ⟨rfl, hw⟩
    obtain rfl := hw.symm
    go_wp2
    go_ret2
    exact ⟨rfl, HBc.out⟩

theorem mask_key (X k : Nat) (hX : X < 18446744073709551616) (hk : k ≤ 8) :
    bits .and .u64 (X : Int) (IntKind.u64.wrap (IntKind.u64.wrap (2 ^ (8 * k)) - 1)) = ((X % 256 ^ k : Nat) : Int) := by
  have e : IntKind.u64.wrap (IntKind.u64.wrap ((2 : Int) ^ (8 * k)) - 1) = ((2 ^ (8 * k) - 1 : Nat) : Int) := by
    rw [IntKind.wrap_u64, IntKind.wrap_u64]
    have h : k = 0 ∨ k = 1 ∨ k = 2 ∨ k = 3 ∨ k = 4 ∨ k = 5 ∨ k = 6 ∨ k = 7 ∨ k = 8 := by omega
    rcases h with rfl | rfl | rfl | rfl | rfl | rfl | rfl | rfl | rfl <;> decide
  have hlt : 2 ^ (8 * k) - 1 < 18446744073709551616 := by
    have : 2 ^ (8 * k) ≤ 2 ^ 64 := Nat.pow_le_pow_right (by decide) (by omega)
    omega
  rw [e, bits_and_u64_nat X _ hX hlt, Nat.and_two_pow_sub_one_eq_mod]
  rw [show (256 : Nat) = 2 ^ 8 by decide, ← Nat.pow_mul]

theorem getElem?_map_range (n j : Nat) (f : Nat → Value) (v : Value) (h : ((List.range n).map f)[j]? = some v) : j < n ∧ v = f j := by
  have hj : j < n := by
    have := (List.getElem?_eq_some_iff.1 h).1
    simpa using this
  simp [hj] at h
  exact ⟨hj, h.symm⟩

theorem line_any (g o n c : Nat) (B : Nat → Nat) (e k : Nat) (w : World) (hT : TabAt w) (hn : n ≤ 9223372036854775807) (hB : ∀ i, i < 8 → B i < 256) (he : e < 256)
    (hc : ∀ i, i < n → i < 8 → w.cell? ⟨g, o + i, none⟩ = some (.int .u8 (B i))) (hz : ∀ i, n ≤ i → i < 8 → B i = 0)
    (hk : k ≤ 8) (hlt : ∀ i, i < k → B i ≠ e) (hat : k < 8 → B k = e) :
    Calls Tryd.prog 24 #[.slice (some ⟨g, o, none⟩) n c, .int .u8 e] w fun r w' =>
      r = .returned (.tuple #[.int .u64 ↑(le (fun i => if 7 - i < k then B (7 - i) else 0) 8), .int .i64 k]) ∧ Below w.heap.size w w' := by
  have hX : le B 8 < 18446744073709551616 := le_lt 8 B hB
  have hF := first_end B e k hB he hk hlt hat
  have hV : endsN (le B 8) (72340172838076673 * e) < 18446744073709551616 := Nat.lt_of_le_of_lt Nat.and_le_right (by decide)
  have hM : le B 8 % 256 ^ k = le (fun i => if i < k then B i else 0) 8 := by rw [le_mod 8 B k hB hk, le_zeros 8 B k hk]
  refine line_core g o n c e k (le B 8) (72340172838076673 * e) (endsN (le B 8) (72340172838076673 * e)) (Lib.ctz 64 (endsN (le B 8) (72340172838076673 * e))) _ w hn hk (by omega) ?_ (fun w => wordOf_any e he w)
    (fun w => endsIn_any _ _ hX (by omega) w) (fun w' hb => tz_any _ hV w' (hT.below hb hT.lt)) ?_ ((List.range n).map fun i => .int .u8 (B i)) (fun _ => by simp) ?_ ?_ ?_
  · intro h8 w0 hb
    exact le_any g o n c B w0 h8 hB (fun i hi => (hb.cell (p := ⟨g, o + i, none⟩) (World.block_lt_of_cell? _ _ (hc i (by omega) hi))).trans (hc i (by omega) hi))
  · intro w0
    rw [mask_key _ _ hX hk, hM]
    have := rev_any (le (fun i => if i < k then B i else 0) 8) (le_lt 8 _ (fun i hi => by split; exact hB i hi; decide)) w0
    rw [rv_le _ (fun i hi => by split; exact hB i hi; decide)] at this
    exact this
  · intro h8 j v hj
    obtain ⟨hjn, rfl⟩ := getElem?_map_range n j _ v hj
    rw [Addr.add_lit]
    exact hc j hjn (by omega)
  · intro v hv
    obtain ⟨i, _, rfl⟩ := List.mem_map.1 hv
    rfl
  · intro h8 w0 hrow
    refine le_any w.heap.size 0 8 8 B w0 (by omega) hB (fun i hi => ?_)
    rw [cell_of_row w0 w.heap.size (0 + i) _ _ _ hrow]
    simp only [Nat.zero_add, wordRow, List.getElem?_toArray]
    by_cases hin : i < n
    · rw [List.getElem?_append_left (by simpa using hin)]
      simp [hin]
    · rw [List.getElem?_append_right (by simp; omega)]
      simp only [List.length_map, List.length_range, List.getElem?_replicate]
      rw [if_pos (by omega), hz i (by omega) hi]
      rfl

end Go.Proofs.Qxb6613005aDoor
