/- Seat b6613017aF: the walk of cloneBytes. -/
import Derived.Test.Qxb6613017aFmtNew
import Derived.Deep.OwnRows
namespace Go.Proofs.Qxb6613017aFmt
open Go.RowKit Plain

theorem info5z : (Tryf.prog.info? 5).map (fun i => (i.zero, i.size, i.bytes)) = some (some (.int .u8 0), 1, 1) := by kernel_rfl
theorem mk_bytes (n : Nat) (hn : n ≤ 1048576) (w : World) :
    (Instr.makeSlice 28 (.int .i64 (n : Int)) (.int .i64 (n : Int))).run Tryf.prog w = .ok (.slice (some ⟨w.heap.size, 0, none⟩) n n) (w.alloc (.cells (madeCells #[.int .u8 0] n) 5)) :=
  run_make_row' 28 5 (.int .u8 0) 1 Tryf.underlying28 info5z rfl .i64 .i64 n (by omega) (by omega) w

theorem eq28 (w : World) (a : Option Addr) (n c : Nat) : (binOp .eql 28 (.slice a n c) (.slice none 0 0)).run Tryf.prog w = .ok (.bool a.isNone) w := Lib.run_eql_slice_nil (P := Tryf.prog) w 28 5 a n c 0 0 Tryf.underlying28

def BRow (w : World) (g n k : Nat) (D : List Int) : Prop := w.rowIs g 5 n (fun j => .int .u8 (if j < k then D.getD j 0 else 0))

theorem clone_nil (w : World) : Calls Tryf.prog 14 #[.slice none 0 0] w fun e w' => e = .returned (.slice none 0 0) ∧ w' = w := by
  have heq := eq28
  go_enter Tryf.func14, Tryf.ntmps14
  go_wp2
  go_ret
  exact ⟨rfl, rfl⟩

def BOut (w : World) (n : Nat) (D : List Int) (e : Ending) (w' : World) : Prop := e = .returned (.slice (some ⟨w.heap.size, 0, none⟩) n n) ∧ Below w.heap.size w w' ∧ w.heap.size < w'.heap.size ∧ ByteCells w' w.heap.size 0 D

set_option maxRecDepth 20000 in
set_option maxHeartbeats 1000000 in
theorem clone_some (x : Addr) (b off n c : Nat) (D : List Int) (w : World) (hn : D.length = n) (hm : n ≤ 1048576) (hx : 0 < n → x = ⟨b, off, none⟩ ∧ b < w.heap.size ∧ ByteCells w b off D) :
    Calls Tryf.prog 14 #[.slice (some x) n c] w fun e w' => BOut w n D e w' := by
  have HX : Hid (0 < n → x = ⟨b, off, none⟩ ∧ b < w.heap.size ∧ ByteCells w b off D) := hx
  have hmk := mk_bytes n hm
  clear hx
  have heq := eq28
  go_enter Tryf.func14, Tryf.ntmps14
  go_wp2_with fail
  clear hmk
  go_loopw [4] (fun i wr => ∃ k : Nat, k ≤ n ∧ i = .int .i64 k ∧ BRow wr w.heap.size n k D ∧ Below w.heap.size w wr) (fun i _ => n - (intOf i).toNat)
  case atStart => exact ⟨0, Nat.zero_le _, rfl, World.rowIs.congr (World.rowIs_made w (.int .u8 0) n 5) (fun i _ => by simp), (Below.refl _ _).alloc (Nat.le_refl _) _⟩
  case round =>
    obtain ⟨k, hk, rfl, hR, hb⟩ := hrel
    have hlt0 : w.heap.size < wr.heap.size := World.rowIs.lt hR
    by_cases hlt : k < n
    · obtain ⟨rfl, hbl, hcs⟩ := HX.out (by omega)
      have c1 : wr.cell? ⟨b, off + k, none⟩ = some (.int .u8 (D.getD k 0)) := (hb.cell (p := ⟨b, off + k, none⟩) hbl).trans (hcs k (by omega))
      obtain ⟨y, hy⟩ : ∃ y, D.getD k 0 = y := ⟨_, rfl⟩
      rw [hy] at c1
      have c2 := World.rowIs.cell hR hlt
      have f2 := World.rowIs.frozen hR k
      have R : Hid (BRow (wr.setCell ⟨w.heap.size, k, none⟩ (.int .u8 y)) w.heap.size n (k + 1) D) := (World.rowIs.set hR k (.int .u8 y)).congr (fun j _ => by
        by_cases h1 : j = k
        · subst h1; simp [← hy]
        · by_cases h2 : j < k
          · simp [h1, h2, show j < k + 1 by omega]
          · simp [h1, h2, show ¬ j < k + 1 by omega])
      have RB : Hid (Below w.heap.size w (wr.setCell ⟨w.heap.size, k, none⟩ (.int .u8 y))) := hb.setCell (p := ⟨w.heap.size, k, none⟩) (Nat.le_refl _) _
      clear hR hb hcs hy
      go_wp2
      go_roundw
      case rel => exact ⟨k + 1, by omega, by go_num, R.out, RB.out⟩
      case measure => simp [intOf]; omega
    · obtain rfl : k = n := by omega
      have HC : Hid (ByteCells wr w.heap.size 0 D) := fun i hi => by
        have := World.rowIs.cell hR (i := i) (by omega)
        rw [Nat.zero_add, this, if_pos (by omega)]
      have RB : Hid (Below w.heap.size w wr) := hb
      clear hR hb
      go_wp2
      go_ret
      exact ⟨rfl, RB.out, hlt0, HC.out⟩

end Go.Proofs.Qxb6613017aFmt
