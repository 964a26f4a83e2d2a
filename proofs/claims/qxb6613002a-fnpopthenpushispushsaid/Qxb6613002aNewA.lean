/- Seat b6613002a: six makes in whatever order. -/
import Derived.Test.Qxb6613002aParts
import Derived.RegionTactic
namespace Go.Proofs.Qxb6613002a
open Go.RowKit

/-- Which operations of the region have come up: the six moves; of the six makes those that b says; none behind them. -/
def Lx (b : Nat → Bool) : Array Bool := #[true, b 0, true, b 1, true, b 2, true, b 3, true, b 4, true, b 5, false, false, false]
def cnt (b : Nat → Bool) : Nat := (if b 0 then 0 else 1) + (if b 1 then 0 else 1) + (if b 2 then 0 else 1) + (if b 3 then 0 else 1) + (if b 4 then 0 else 1) + (if b 5 then 0 else 1)
/-- Which may come up. -/
def rd (b : Nat → Bool) : List Nat :=
  if b 0 && b 1 && b 2 && b 3 && b 4 && b 5 then [12]
  else (if b 0 then [] else [1]) ++ (if b 1 then [] else [3]) ++ (if b 2 then [] else [5]) ++ (if b 3 then [] else [7]) ++ (if b 4 then [] else [9]) ++ (if b 5 then [] else [11])

theorem cnt_zero (b : Nat → Bool) (h : cnt b = 0) : ∀ j, j < 6 → b j = true := by
  unfold cnt at h
  intro j hj
  rcases lt_six hj with rfl | rfl | rfl | rfl | rfl | rfl <;> (cases h' : b _ <;> simp_all)
theorem Lx_congr (b b' : Nat → Bool) (h : ∀ j, j < 6 → b j = b' j) : Lx b = Lx b' := by
  simp [Lx, h 0 (by omega), h 1 (by omega), h 2 (by omega), h 3 (by omega), h 4 (by omega), h 5 (by omega)]
theorem Lx_set (b : Nat → Bool) (j : Nat) (h : j < 6) : (Lx b).setIfInBounds (2 * j + 1) true = Lx (upd b j true) := by
  rcases lt_six h with rfl | rfl | rfl | rfl | rfl | rfl <;> simp [Lx, upd]
theorem cnt_set (b : Nat → Bool) (j : Nat) (h : j < 6) (hb : b j = false) : cnt b = cnt (upd b j true) + 1 := by
  rcases lt_six h with rfl | rfl | rfl | rfl | rfl | rfl <;> simp [cnt, upd, hb] <;> omega
theorem rd_mem (b : Nat → Bool) (h : cnt b ≠ 0) (i : Nat) (hi : i ∈ rd b) : ∃ j, j < 6 ∧ i = 2 * j + 1 ∧ b j = false := by
  unfold rd at hi
  split at hi
  · rename_i hall
    simp only [Bool.and_eq_true] at hall
    exact absurd (by simp [cnt, hall]) h
  · simp only [List.mem_append] at hi
    rcases hi with ((((hi | hi) | hi) | hi) | hi) | hi
    · exact ⟨0, by omega, by cases h0 : b 0 <;> simp_all, by cases h0 : b 0 <;> simp_all⟩
    · exact ⟨1, by omega, by cases h0 : b 1 <;> simp_all, by cases h0 : b 1 <;> simp_all⟩
    · exact ⟨2, by omega, by cases h0 : b 2 <;> simp_all, by cases h0 : b 2 <;> simp_all⟩
    · exact ⟨3, by omega, by cases h0 : b 3 <;> simp_all, by cases h0 : b 3 <;> simp_all⟩
    · exact ⟨4, by omega, by cases h0 : b 4 <;> simp_all, by cases h0 : b 4 <;> simp_all⟩
    · exact ⟨5, by omega, by cases h0 : b 5 <;> simp_all, by cases h0 : b 5 <;> simp_all⟩
theorem rd_ne (b : Nat → Bool) : rd b ≠ [] := by
  unfold rd
  split
  · simp
  · rename_i hall
    intro h0
    simp only [List.append_eq_nil_iff] at h0
    obtain ⟨⟨⟨⟨⟨h0, h1⟩, h2⟩, h3⟩, h4⟩, h5⟩ := h0
    apply hall
    cases q0 : b 0 <;> cases q1 : b 1 <;> cases q2 : b 2 <;> cases q3 : b 3 <;> cases q4 : b 4 <;> cases q5 : b 5 <;> simp_all

theorem makes6 {P : Program} {ops : Array Oper} {Q : Exit → Act → World → Prop} (Fx : (Nat → Value) → Act) (n : Nat) (blk : Nat → Obj)
    (hFx : ∀ x y : Nat → Value, (∀ j, j < 6 → x j = y j) → Fx x = Fx y)
    (hready : ∀ b : Nat → Bool, Region.ready .any ops (Lx b) = rd b)
    (st : ∀ j, j < 6 → ∀ (x : Nat → Value) (w : World) (K : Act → World → Prop), K (Fx (upd x j (.slice (some ⟨w.heap.size, 0, none⟩) 0 n))) (w.alloc (blk j)) → wpOp P ops Q (2 * j + 1) K (Fx x) w)
    (w0 : World)
    (fin : ∀ (g : Nat → Nat) (w : World), (∀ j, j < 6 → w.heap[g j]? = some (blk j) ∧ w0.heap.size ≤ g j) → (∀ i j, i < 6 → j < 6 → g i = g j → i = j) → Below w0.heap.size w0 w →
      wpAny P .any ops Q 3 (Lx fun _ => true) (Fx fun j => .slice (some ⟨g j, 0, none⟩) 0 n) w) :
    ∀ (m : Nat) (b : Nat → Bool) (x : Nat → Value) (g : Nat → Nat) (w : World), cnt b = m →
      (∀ j, j < 6 → b j = true → x j = .slice (some ⟨g j, 0, none⟩) 0 n ∧ w.heap[g j]? = some (blk j) ∧ w0.heap.size ≤ g j) →
      (∀ i j, i < 6 → j < 6 → b i = true → b j = true → g i = g j → i = j) → Below w0.heap.size w0 w → wpAny P .any ops Q (m + 3) (Lx b) (Fx x) w := by
  intro m
  induction m with
  | zero =>
    intro b x g w hc hx hg hB
    have hall := cnt_zero b hc
    rw [Lx_congr b (fun _ => true) hall, hFx x (fun j => .slice (some ⟨g j, 0, none⟩) 0 n) (fun j hj => (hx j hj (hall j hj)).1)]
    exact fin g w (fun j hj => (hx j hj (hall j hj)).2) (fun i j hi hj => hg i j hi hj (hall i hi) (hall j hj)) hB
  | succ m ih =>
    intro b x g w hc hx hg hB
    have hne : cnt b ≠ 0 := by omega
    refine wpAny_all (rs := rd b) (hready b) (rd_ne b) (fun i him => ?_)
    obtain ⟨j, hj, rfl, hbj⟩ := rd_mem b hne i him
    refine st j hj x w _ ?_
    rw [Lx_set b j hj]
    have hs : w0.heap.size ≤ w.heap.size := hB.size
    refine ih (upd b j true) _ (upd g j w.heap.size) _ (by have := cnt_set b j hj hbj; omega) ?_ ?_ (hB.alloc hs _)
    · intro i hi hbi
      by_cases hij : i = j
      · subst hij
        rw [upd_same, upd_same]
        exact ⟨rfl, heap_alloc_new w _, hs⟩
      · rw [upd_other _ _ _ _ hij] at hbi
        rw [upd_other _ _ _ _ hij, upd_other _ _ _ _ hij]
        obtain ⟨h1, h2, h3⟩ := hx i hi hbi
        exact ⟨h1, by rw [Below.heap_alloc _ _ _ (lt_of_block h2)]; exact h2, h3⟩
    · intro i k hi hk hbi hbk he
      by_cases hij : i = j
      · by_cases hkj : k = j
        · omega
        · subst hij
          rw [upd_other _ _ _ _ hkj] at hbk
          rw [upd_same, upd_other _ _ _ _ hkj] at he
          have := lt_of_block (hx k hk hbk).2.1
          omega
      · by_cases hkj : k = j
        · subst hkj
          rw [upd_other _ _ _ _ hij] at hbi
          rw [upd_same, upd_other _ _ _ _ hij] at he
          have := lt_of_block (hx i hi hbi).2.1
          omega
        · rw [upd_other _ _ _ _ hij] at hbi
          rw [upd_other _ _ _ _ hkj] at hbk
          rw [upd_other _ _ _ _ hij, upd_other _ _ _ _ hkj] at he
          exact hg i k hi hk hbi hbk he

end Go.Proofs.Qxb6613002a
