/- Seat b6613002a: what the law's walk asks of the names' row and of the two trees. -/
import Derived.Test.Qxb6613002aInv
namespace Go.Proofs.Qxb6613002a
open Go.RowKit

theorem Names.made {w w1 : World} {nv : Nat} (hown : w1.ownsRow 0 27 1 (.slice (some ⟨w.heap.size, 0, none⟩) nv nv) nv (madeCells #[Value.pointer none] nv).toList) : Names w.heap.size nv (List.replicate nv none) w1 := by
  have e : (madeCells #[Value.pointer none] nv).toList = (List.replicate nv (none : Option Addr)).map Value.pointer := by
    rw [List.map_replicate]
    exact toList_madeCells_one _ _
  rw [e] at hown
  exact hown
theorem Names.len {B nv : Nat} {NM : List (Option Addr)} {wx : World} (h : Names B nv NM wx) : NM.length = nv := by
  have := h.1
  simpa using this
theorem Names.cell {B nv : Nat} {NM : List (Option Addr)} {wx : World} (h : Names B nv NM wx) (k : Nat) (hk : k < nv) : wx.cell? ⟨B, k, none⟩ = some (.pointer (NM.getD k none)) := by
  have hl := h.len
  have h' : wx.ownsRow 0 27 1 (.slice (some ⟨B, 0, none⟩) nv nv) nv (NM.map Value.pointer) := h
  rw [h'.cellAt k (by omega)]
  simp [hl, hk]
theorem Names.free {B nv : Nat} {NM : List (Option Addr)} {wx : World} (h : Names B nv NM wx) (k : Nat) : wx.frozen? ⟨B, k, none⟩ = false :=
  World.ownsRow.frozenAt (xs := NM.map Value.pointer) h k
theorem Names.store {B nv : Nat} {NM : List (Option Addr)} {wx : World} (h : Names B nv NM wx) (k : Nat) (o : Obj) (v : Option Addr) : Names B nv (NM.set k v) ((wx.setCell ⟨B, k, none⟩ (.pointer v)).alloc o) := by
  have h' : wx.ownsRow 0 27 1 (.slice (some ⟨B, 0, none⟩) nv nv) nv (NM.map Value.pointer) := h
  have h2 := ((h'.stored k (.pointer v)).1).alloc o
  unfold Names
  rw [List.map_set]
  exact h2
theorem Names.below {B nv b : Nat} {NM : List (Option Addr)} {wx w' : World} (h : Names B nv NM wx) (hb : Below b wx w') (hB : B < b) : Names B nv NM w' := by
  have ho : Off (fun k => b ≤ k) wx w' := ⟨hb.os, hb.tape, hb.output, hb.size, fun k _ hs => hb.block k (by omega)⟩
  exact h.off ho (by omega)

theorem Tree.below {wx w' : World} {p b : Nat} {g c : Nat → Nat} {xs : Nat → List Value} (h : Tree wx p g c xs) (hb : Below b wx w') (hB : ∀ i, foot p g i → i < b) : Tree w' p g c xs := by
  have ho : Off (fun k => b ≤ k) wx w' := ⟨hb.os, hb.tape, hb.output, hb.size, fun k _ hs => hb.block k (by omega)⟩
  exact h.off ho (fun i hi => by have := hB i hi; omega)

theorem Inv.made {w wr w0 w1 w2 : World} {nv pa pb : Nat} {NM : List (Option Addr)} {ga ca gb cb : Nat → Nat} {xs : Nat → List Value} (hN : Names w.heap.size nv NM wr) (hB : Below w.heap.size w wr) (h0 : Below wr.heap.size wr w0)
    (hTa : Tree w1 pa ga ca xs) (hBa : Below w0.heap.size w0 w1) (hFa : ∀ b, foot pa ga b → w0.heap.size ≤ b)
    (hTb : Tree w2 pb gb cb xs) (hBb : Below w1.heap.size w1 w2) (hFb : ∀ b, foot pb gb b → w1.heap.size ≤ b) : Inv w w.heap.size nv NM pa pb xs xs w2 := by
  have s0 := h0.size
  have s1 := hBa.size
  have s2 := hBb.size
  have hlt := hN.lt
  refine ⟨ga, ca, gb, cb, hTa.below hBb hTa.foot_lt, hTb, ((hN.below h0 hlt).below hBa (by omega)).below hBb (by omega), ?_, fun b hb => ?_, fun b hb => ?_, fun b hb h2 => ?_⟩
  · exact ((hB.trans (h0.mono (by omega))).trans (hBa.mono (by omega))).trans (hBb.mono (by omega))
  · have := hFa b hb; omega
  · have := hFb b hb; omega
  · have := hFb b h2; have := hTa.foot_lt b hb; omega

theorem Inv.drew {w wx : World} {B nv pa pb : Nat} {NM : List (Option Addr)} {xa xb : Nat → List Value} (h : Inv w B nv NM pa pb xa xb wx) : Inv w B nv NM pa pb xa xb wx.drew := h.drewN 1
theorem Inv.belowOf {w wx : World} {B nv pa pb : Nat} {NM : List (Option Addr)} {xa xb : Nat → List Value} (h : Inv w B nv NM pa pb xa xb wx) : Below B w wx := by
  obtain ⟨_, _, _, _, h⟩ := h; exact h.below
theorem Inv.namesOf {w wx : World} {B nv pa pb : Nat} {NM : List (Option Addr)} {xa xb : Nat → List Value} (h : Inv w B nv NM pa pb xa xb wx) : Names B nv NM wx := by
  obtain ⟨_, _, _, _, h⟩ := h; exact h.names

/-- The three cells that a round of the second loop reads. -/
def Cells3 (B k : Nat) (nm : Option Addr) (bv ov : Nat) (s : ByteArray) (bp op : Nat) (z : Int) (wx : World) : Prop :=
  wx.cell? ⟨B, k, none⟩ = some (.pointer nm) ∧ wx.cell? ⟨bv, ov + k, none⟩ = some (.string s) ∧ wx.cell? ⟨bp, op + k, none⟩ = some (.int .i32 z)
theorem Inv.cells3 {w : World} {nv pa pb k bv ov bp op : Nat} {NM : List (Option Addr)} {s : ByteArray} {z : Int} (hk : k < nv) (hbv : bv < w.heap.size) (hbp : bp < w.heap.size)
    (hs : w.cell? ⟨bv, ov + k, none⟩ = some (.string s)) (hz : w.cell? ⟨bp, op + k, none⟩ = some (.int .i32 z)) :
    ∃ nm, ∀ xa xb wx, Inv w w.heap.size nv NM pa pb xa xb wx → Cells3 w.heap.size k nm bv ov s bp op z wx :=
  ⟨NM.getD k none, fun _ _ _ h => ⟨h.namesOf.cell k hk, (h.belowOf.cell (p := ⟨bv, ov + k, none⟩) hbv).trans hs, (h.belowOf.cell (p := ⟨bp, op + k, none⟩) hbp).trans hz⟩⟩

/-- The first tree's fields and last elements, behind a push. -/
theorem Inv.lasts {w wx : World} {B nv pa pb n : Nat} {NM : List (Option Addr)} {xs xb : Nat → List Value} {nm : Option Addr} {s : ByteArray} {par : Int} (h : Inv w B nv NM pa pb (fun k => xs k ++ [nws nm s par k]) xb wx) (hy : Typed xs n) :
    ∃ g c : Nat → Nat, wx.cell? ⟨pa, 0, none⟩ = some (.slice (some ⟨g 0, 0, none⟩) (n + 1) (c 0)) ∧ wx.cell? ⟨pa, 1, none⟩ = some (.slice (some ⟨g 1, 0, none⟩) (n + 1) (c 1)) ∧ wx.cell? ⟨pa, 2, none⟩ = some (.slice (some ⟨g 2, 0, none⟩) (n + 1) (c 2)) ∧
      wx.cell? ⟨g 0, n, none⟩ = some (.pointer nm) ∧ wx.cell? ⟨g 1, n, none⟩ = some (.string s) ∧ wx.cell? ⟨g 2, n, none⟩ = some (.int .i32 par) := by
  obtain ⟨ga, ca, gb, cb, h⟩ := h
  have hy' := hy.push nm s par
  have key : ∀ k, k < 6 → wx.cell? ⟨ga k, n, none⟩ = some (nws nm s par k) := fun k hk => by
    rw [h.ta.elem k n hk (by simp [hy.len k hk])]
    show (xs k ++ [nws nm s par k])[n]? = _
    rw [getElem?_snoc, if_neg (by rw [hy.len k hk]; omega), if_pos (hy.len k hk).symm]
  exact ⟨ga, ca, h.ta.cellN hy' 0 (by omega), h.ta.cellN hy' 1 (by omega), h.ta.cellN hy' 2 (by omega), key 0 (by omega), key 1 (by omega), key 2 (by omega)⟩

end Go.Proofs.Qxb6613002a
