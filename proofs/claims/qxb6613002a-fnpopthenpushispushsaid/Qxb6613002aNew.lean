/- Seat b6613002a: the walk of NewTree. -/
import Derived.Test.Qxb6613002aNewA
import Derived.Test.Qxb6613002aPush
import Derived.Deep.DeepCutAuto
import Derived.Deep.OwnRows
namespace Go.Proofs.Qxb6613002a
open Go.RowKit

/-- The frame while the makes come up. -/
def FX (n : Nat) (x : Nat → Value) : Act :=
  ⟨#[.int .i64 (↑n + 2), undef, .pointer none, undef, .int .i64 ↑n, .int .i64 (↑n + 2), .int .i64 (↑n + 2), x 0, .int .i64 (↑n + 2), x 1, .int .i64 (↑n + 2), x 2, .int .i64 (↑n + 2), x 3, .int .i64 (↑n + 2), x 4, .int .i64 (↑n + 2), x 5, undef, undef, undef, undef, undef], []⟩
def zof : Nat → Value | 0 => .pointer none | 1 => .string ⟨#[]⟩ | _ => .int .i32 0
def blkOf (n : Nat) (j : Nat) : Obj := .cells (madeCells #[zof j] (n + 2)) (ety j)

theorem tree_made {n : Nat} (hb : n ≤ 65536) {w0 w1 : World} (g : Nat → Nat) (hg : ∀ j, j < 6 → w1.heap[g j]? = some (blkOf n j) ∧ w0.drew.heap.size ≤ g j) (hinj : ∀ i j, i < 6 → j < 6 → g i = g j → i = j) (hB : Below w0.drew.heap.size w0.drew w1) :
    Tree (w1.alloc (.cells (hdr g (fun _ => n + 2) (fun _ => 0)) 40)) w1.heap.size g (fun _ => n + 2) (fun _ => []) ∧ Below w0.heap.size w0 (w1.alloc (.cells (hdr g (fun _ => n + 2) (fun _ => 0)) 40)) ∧ ∀ b, foot w1.heap.size g b → w0.heap.size ≤ b := by
  have hB' : Below w0.heap.size w0 w1 := ⟨hB.os, hB.tape, hB.output, hB.size, hB.block⟩
  refine ⟨⟨heap_alloc_new w1 _, fun k hk => ⟨by simp, .inr ⟨g k, n + 2, madeCells #[zof k] (n + 2), rfl, Nat.zero_le _, ?_, Nat.zero_le _, by unfold maxLen; omega, ?_, by simp⟩⟩, hinj, fun k hk => ?_⟩, hB'.alloc hB'.size _, ?_⟩
  · rw [Below.heap_alloc _ _ _ (lt_of_block (hg k hk).1)]; exact (hg k hk).1
  · rw [size_madeCells]; omega
  · have := lt_of_block (hg k hk).1; omega
  · rintro b (rfl | ⟨k, hk, rfl⟩)
    · exact hB'.size
    · exact (hg k hk).2

theorem mk_any (t e : TypeId) (z : Value) (bytes : Nat) (ht : Try.prog.underlying t = some (.slice e)) (hinfo : (Try.prog.info? e).map (fun i => (i.zero, i.size, i.bytes)) = some (some z, 1, bytes)) (hz1 : z.cells = #[z])
    (n : Nat) (hb : n ≤ 65536) (hby : bytes ≤ 16) (w : World) :
    (Instr.makeSlice t (.int .i64 0) (.int .i64 (↑n + 2))).run Try.prog w = .ok (.slice (some ⟨w.heap.size, 0, none⟩) 0 (n + 2)) (w.alloc (.cells (madeCells #[z] (n + 2)) e)) := by
  obtain ⟨i, hi, hz, hs, hbb⟩ := info_parts hinfo
  have h1 : (i.bytes : Int) * ((n : Int) + 2) ≤ 281474976710656 := by
    have : (i.bytes : Int) * ((n : Int) + 2) ≤ 16 * ((n : Int) + 2) := Int.mul_le_mul_of_nonneg_right (by omega) (by omega)
    omega
  have h := run_make (P := Try.prog) w t e i z ht hi hz .i64 .i64 0 ((n : Int) + 2) (by omega) (by omega) h1 (by omega)
  have e1 : ((n : Int) + 2).toNat = n + 2 := by omega
  rw [e1, hs, hz1, Nat.mul_one] at h
  exact h

set_option maxRecDepth 20000 in
set_option maxHeartbeats 400000 in
theorem new_any (w : World) (n : Nat) (hb : n ≤ 65536) :
    Calls Try.prog 6 #[.int .i64 n] w fun e w' => ∃ p g c, e = .returned (.pointer (some ⟨p, 0, none⟩)) ∧ Tree w' p g c (fun k => [nws none ⟨#[]⟩ (-1) k]) ∧ Below w.heap.size w w' ∧ ∀ b, foot p g b → w.heap.size ≤ b := by
  have hm0 := mk_any 26 27 _ _ Try.underlying26 info27 rfl n hb (by omega)
  have hm1 := mk_any 22 9 _ _ Try.underlying22 info9 rfl n hb (by omega)
  have hm2 := mk_any 23 21 _ _ Try.underlying23 info21 rfl n hb (by omega)
  go_enter Try.func6, Try.ntmps6
  go_upto_region 2 with fail
  go_cut [3] (fun s3 wx => ∃ p g, s3 = .pointer (some ⟨p, 0, none⟩) ∧ Tree wx p g (fun _ => n + 2) (fun _ => []) ∧ Below w.heap.size w wx ∧ ∀ b, foot p g b → w.heap.size ≤ b)
  case first =>
    refine wp_region_any (by kernel_rfl) ?_
    change wpAny _ _ _ _ _ _ _ (World.drew _)
    refine wpAny_take (i := 0) (v := .int .i64 (↑n + 2)) rfl (by kernel_rfl) (by kernel_rfl) (by kernel_rfl) (fun _ _ _ h => h) (Or.inl ⟨by rfl, ?_⟩) ?_
    · intro w; go_simp
    refine wpAny_take (i := 2) (v := .int .i64 (↑n + 2)) rfl (by kernel_rfl) (by kernel_rfl) (by kernel_rfl) (fun _ _ _ h => h) (Or.inl ⟨by rfl, ?_⟩) ?_
    · intro w; go_simp
    refine wpAny_take (i := 4) (v := .int .i64 (↑n + 2)) rfl (by kernel_rfl) (by kernel_rfl) (by kernel_rfl) (fun _ _ _ h => h) (Or.inl ⟨by rfl, ?_⟩) ?_
    · intro w; go_simp
    refine wpAny_take (i := 6) (v := .int .i64 (↑n + 2)) rfl (by kernel_rfl) (by kernel_rfl) (by kernel_rfl) (fun _ _ _ h => h) (Or.inl ⟨by rfl, ?_⟩) ?_
    · intro w; go_simp
    refine wpAny_take (i := 8) (v := .int .i64 (↑n + 2)) rfl (by kernel_rfl) (by kernel_rfl) (by kernel_rfl) (fun _ _ _ h => h) (Or.inl ⟨by rfl, ?_⟩) ?_
    · intro w; go_simp
    refine wpAny_take (i := 10) (v := .int .i64 (↑n + 2)) rfl (by kernel_rfl) (by kernel_rfl) (by kernel_rfl) (fun _ _ _ h => h) (Or.inl ⟨by rfl, ?_⟩) ?_
    · intro w; go_simp
    refine makes6 (FX n) (n + 2) (blkOf n) ?_ ?_ ?_ w.drew ?_ 6 (fun _ => false) (fun _ => undef) (fun _ => 0) w.drew rfl (fun j _ h => by cases h) (fun i j _ _ h => by cases h) (Below.refl _ _)
    · intro x y h
      simp only [FX, h 0 (by omega), h 1 (by omega), h 2 (by omega), h 3 (by omega), h 4 (by omega), h 5 (by omega)]
    · intro b
      unfold Lx rd
      generalize b 0 = b0
      generalize b 1 = b1
      generalize b 2 = b2
      generalize b 3 = b3
      generalize b 4 = b4
      generalize b 5 = b5
      cases b0 <;> cases b1 <;> cases b2 <;> cases b3 <;> cases b4 <;> cases b5 <;> kernel_rfl
    · intro j hj x w K hK
      rcases lt_six hj with rfl | rfl | rfl | rfl | rfl | rfl
      · refine wpOp_step rfl (fun K' hK' => ?_)
        unfold FX
        go_simp
        exact hK' _ _ hK
      · refine wpOp_step rfl (fun K' hK' => ?_)
        unfold FX
        go_simp
        exact hK' _ _ hK
      · refine wpOp_step rfl (fun K' hK' => ?_)
        unfold FX
        go_simp
        exact hK' _ _ hK
      · refine wpOp_step rfl (fun K' hK' => ?_)
        unfold FX
        go_simp
        exact hK' _ _ hK
      · refine wpOp_step rfl (fun K' hK' => ?_)
        unfold FX
        go_simp
        exact hK' _ _ hK
      · refine wpOp_step rfl (fun K' hK' => ?_)
        unfold FX
        go_simp
        exact hK' _ _ hK
    · intro g w1 hg hinj hB
      have R := tree_made hb g hg hinj hB
      refine wpAny_ready (rs := [12]) (by kernel_rfl) (by simp) ?_
      refine AllReady.cons rfl (fun K hK => ?_) AllReady.nil
      unfold FX
      go_simp
      refine hK _ _ ?_
      clear hK K
      refine wpAny_ready (rs := [13]) (by kernel_rfl) (by simp) ?_
      refine AllReady.cons rfl (fun K hK => ?_) AllReady.nil
      go_simp
      refine hK _ _ ?_
      clear hK K
      refine wpAny_ready (rs := [14]) (by kernel_rfl) (by simp) ?_
      refine AllReady.cons rfl (fun K hK => ?_) AllReady.nil
      go_simp
      refine hK _ _ ?_
      clear hK K
      refine wpAny_done (by kernel_rfl) ?_ _
      go_wp2_with fail
      go_meet
      case rel => exact ⟨_, g, rfl, R.1, R.2.1, R.2.2⟩
  case rest =>
    obtain ⟨p, g, rfl, hT, hB, hF⟩ := hcut
    go_wp2_with (go_at_call 13; go_must (refine (push_any _ p g _ _ 0 none ⟨#[]⟩ (-1) hT (fun _ _ => rfl) (by omega)).mono ?_))
    rintro e w1 ⟨rfl, R⟩
    have R' : Hid (Rel wc p g (fun _ => []) (nws none ⟨#[]⟩ (-1)) 6 w1) := R
    clear R
    go_wp2
    go_ret
    obtain ⟨g', c', hT', hO, hN⟩ := R'.out
    have hsz := hB.size
    refine ⟨p, g', c', rfl, hT'.congr (fun k hk => by simp [XS, hk]), hB.trans (hO.below hsz hF), ?_⟩
    rintro b (rfl | ⟨k, hk, rfl⟩)
    · exact hF _ (.inl rfl)
    · rcases hN k hk with h | h
      · rw [h]; exact hF _ (.inr ⟨k, hk, rfl⟩)
      · omega

end Go.Proofs.Qxb6613002a
