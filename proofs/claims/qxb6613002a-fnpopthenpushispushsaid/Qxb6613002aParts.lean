/- Seat b6613002a: the words for the trees' memory: a frame by a set of blocks, a tree of six rows behind one struct block, and what an append, a store and a pop do to it. No walk here. -/
import Derived.Test.Qxb6613002aRows
import Derived.WalkKit
import Derived.WalkSpells
import Derived.WalkSmall
import Derived.Deep.AppendLies
namespace Go.Proofs.Qxb6613002a
open Go.RowKit

/-! ### A frame: outside the blocks of S nothing that was there has turned -/
structure Off (S : Nat → Prop) (w w' : World) : Prop where
  os : w'.os = w.os
  tape : w'.tape = w.tape
  output : w'.output = w.output
  size : w.heap.size ≤ w'.heap.size
  block : ∀ k, k < w.heap.size → ¬ S k → w'.heap[k]? = w.heap[k]?

theorem Off.refl (S : Nat → Prop) (w : World) : Off S w w := ⟨rfl, rfl, rfl, Nat.le_refl _, fun _ _ _ => rfl⟩
theorem Off.trans {S T : Nat → Prop} {a b c : World} (h : Off S a b) (k : Off T b c) (hT : ∀ i, T i → S i ∨ a.heap.size ≤ i) : Off S a c :=
  ⟨k.os.trans h.os, k.tape.trans h.tape, k.output.trans h.output, Nat.le_trans h.size k.size, fun i hi hs =>
    (k.block i (Nat.lt_of_lt_of_le hi h.size) (fun ht => by rcases hT i ht with h1 | h1; exact hs h1; omega)).trans (h.block i hi hs)⟩
theorem Off.mono {S T : Nat → Prop} {a b : World} (h : Off S a b) (hST : ∀ i, S i → T i) : Off T a b :=
  ⟨h.os, h.tape, h.output, h.size, fun i hi ht => h.block i hi (fun hs => ht (hST i hs))⟩
theorem Off.alloc (S : Nat → Prop) (w : World) (o : Obj) : Off S w (w.alloc o) :=
  ⟨rfl, rfl, rfl, by simp, fun k hk _ => Below.heap_alloc w o k hk⟩
theorem Off.drewN (S : Nat → Prop) (w : World) (n : Nat) : Off S w (w.drewN n) := ⟨rfl, rfl, rfl, Nat.le_refl _, fun _ _ _ => rfl⟩
theorem Off.drew (S : Nat → Prop) (w : World) : Off S w w.drew := ⟨rfl, rfl, rfl, Nat.le_refl _, fun _ _ _ => rfl⟩
theorem Off.setCell {S : Nat → Prop} (w : World) (a : Addr) (v : Value) (h : S a.block) : Off S w (w.setCell a v) :=
  ⟨rfl, rfl, rfl, by simp [World.setCell], fun k _ hk => Below.heap_setCell _ _ _ _ (fun e => hk (e ▸ h))⟩
theorem Off.grown {S : Nat → Prop} {w w' : World} {row : Option Nat} (h : w.grownBy w' row) (hr : ∀ k, row = some k → S k) : Off S w w' :=
  ⟨h.os, h.tape, h.output, h.size, fun k hk hs => h.block k hk (fun e => hs (hr k e.symm))⟩
theorem Off.below {S : Nat → Prop} {w w' : World} (h : Off S w w') {B : Nat} (hB : B ≤ w.heap.size) (hS : ∀ k, S k → B ≤ k) : Below B w w' :=
  ⟨h.os, h.tape, h.output, h.size, fun k hk => h.block k (by omega) (fun hs => by have := hS k hs; omega)⟩
theorem Off.cell {S : Nat → Prop} {w w' : World} (h : Off S w w') {a : Addr} (ha : a.block < w.heap.size) (hs : ¬ S a.block) : w'.cell? a = w.cell? a :=
  World.cell?_of_block (h.block _ ha hs)
theorem Off.owns {S : Nat → Prop} {w w' : World} (h : Off S w w') {base : Nat} {e : TypeId} {size g n cap : Nat} {xs : List Value}
    (ho : w.ownsRow base e size (.slice (some ⟨g, 0, none⟩) n cap) n xs) (hs : ¬ S g) : w'.ownsRow base e size (.slice (some ⟨g, 0, none⟩) n cap) n xs := by
  refine ⟨ho.1, ?_⟩
  rcases ho.2 with ⟨h0, _⟩ | ⟨g', cap', cur, hv, hb, hg, rest⟩
  · cases h0
  · cases hv
    exact .inr ⟨g, cap, cur, rfl, hb, by rw [h.block g (lt_of_block hg) hs]; exact hg, rest⟩

theorem heap_setCell_at {w : World} {b k : Nat} {cs : Array Value} {t : TypeId} {fr : Nat × Nat} (h : w.heap[b]? = some (.cells cs t fr)) (v : Value) :
    (w.setCell ⟨b, k, none⟩ v).heap[b]? = some (.cells (cs.setIfInBounds k v) t fr) := by
  have hlt := lt_of_block h
  have h' : w.heap[b] = .cells cs t fr := by simpa [Array.getElem?_eq_getElem hlt] using h
  show (w.heap.modify b _)[b]? = _
  rw [Array.getElem?_eq_getElem (by simpa using hlt), Array.getElem_modify_self, h']
  rfl

/-! ### A tree -/
/-- The rows' element types. -/
def ety : Nat → TypeId | 0 => 27 | 1 => 9 | _ => 21
/-- The struct's eight cells. -/
def hdr (g c n : Nat → Nat) : Array Value :=
  #[.slice (some ⟨g 0, 0, none⟩) (n 0) (c 0), .slice (some ⟨g 1, 0, none⟩) (n 1) (c 1), .slice (some ⟨g 2, 0, none⟩) (n 2) (c 2), .slice (some ⟨g 3, 0, none⟩) (n 3) (c 3),
    .slice (some ⟨g 4, 0, none⟩) (n 4) (c 4), .slice (some ⟨g 5, 0, none⟩) (n 5) (c 5), .slice none 0 0, .nilFunc]
def upd {α : Type} (f : Nat → α) (k : Nat) (x : α) : Nat → α := fun j => if j = k then x else f j
theorem upd_same {α : Type} (f : Nat → α) (k : Nat) (x : α) : upd f k x k = x := by simp [upd]
theorem upd_other {α : Type} (f : Nat → α) (k j : Nat) (x : α) (h : j ≠ k) : upd f k x j = f j := by simp [upd, h]

theorem lt_six {k : Nat} (h : k < 6) : k = 0 ∨ k = 1 ∨ k = 2 ∨ k = 3 ∨ k = 4 ∨ k = 5 := by omega

theorem hdr_get (g c n : Nat → Nat) (k : Nat) (h : k < 6) : (hdr g c n)[k]? = some (.slice (some ⟨g k, 0, none⟩) (n k) (c k)) := by
  rcases lt_six h with rfl | rfl | rfl | rfl | rfl | rfl <;> rfl
theorem hdr_set (g c n : Nat → Nat) (k g' n' c' : Nat) (h : k < 6) : (hdr g c n).setIfInBounds k (.slice (some ⟨g', 0, none⟩) n' c') = hdr (upd g k g') (upd c k c') (upd n k n') := by
  rcases lt_six h with rfl | rfl | rfl | rfl | rfl | rfl <;> simp [hdr, upd]

structure Tree (w : World) (p : Nat) (g c : Nat → Nat) (xs : Nat → List Value) : Prop where
  blk : w.heap[p]? = some (.cells (hdr g c (fun k => (xs k).length)) 40 (0, 0))
  own : ∀ k, k < 6 → w.ownsRow 0 (ety k) 1 (.slice (some ⟨g k, 0, none⟩) (xs k).length (c k)) (xs k).length (xs k)
  inj : ∀ j k, j < 6 → k < 6 → g j = g k → j = k
  out : ∀ k, k < 6 → g k ≠ p

/-- The blocks of a tree. -/
def foot (p : Nat) (g : Nat → Nat) : Nat → Prop := fun b => b = p ∨ ∃ k, k < 6 ∧ b = g k

section
variable {w : World} {p : Nat} {g c : Nat → Nat} {xs : Nat → List Value}

theorem Tree.lt (h : Tree w p g c xs) : p < w.heap.size := lt_of_block h.blk
theorem Tree.row_lt (h : Tree w p g c xs) (k : Nat) (hk : k < 6) : g k < w.heap.size := ((h.own k hk).lt (g k) rfl).2
theorem Tree.foot_lt (h : Tree w p g c xs) : ∀ b, foot p g b → b < w.heap.size := by
  rintro b (rfl | ⟨k, hk, rfl⟩)
  · exact h.lt
  · exact h.row_lt k hk
theorem Tree.cell (h : Tree w p g c xs) (k : Nat) (hk : k < 6) : w.cell? ⟨p, k, none⟩ = some (.slice (some ⟨g k, 0, none⟩) (xs k).length (c k)) := by
  rw [cell_of_row w p k _ _ _ h.blk, hdr_get _ _ _ k hk]
theorem Tree.cell6 (h : Tree w p g c xs) : w.cell? ⟨p, 6, none⟩ = some (.slice none 0 0) := by
  rw [cell_of_row w p 6 _ _ _ h.blk]; rfl
theorem Tree.free (h : Tree w p g c xs) (k : Nat) : w.frozen? ⟨p, k, none⟩ = false := by simp [World.frozen?, h.blk]
theorem Tree.elem (h : Tree w p g c xs) (k i : Nat) (hk : k < 6) (hi : i < (xs k).length) : w.cell? ⟨g k, i, none⟩ = (xs k)[i]? := (h.own k hk).cellAt i (by omega)
theorem Tree.efree (h : Tree w p g c xs) (k i : Nat) (hk : k < 6) : w.frozen? ⟨g k, i, none⟩ = false := (h.own k hk).frozenAt i

theorem Tree.off {S : Nat → Prop} {w' : World} (h : Tree w p g c xs) (ho : Off S w w') (hS : ∀ b, foot p g b → ¬ S b) : Tree w' p g c xs :=
  ⟨by rw [ho.block p h.lt (hS p (.inl rfl))]; exact h.blk, fun k hk => ho.owns (h.own k hk) (hS _ (.inr ⟨k, hk, rfl⟩)), h.inj, h.out⟩
theorem Tree.congr {ys : Nat → List Value} (h : Tree w p g c xs) (he : ∀ k, k < 6 → xs k = ys k) : Tree w p g c ys := by
  refine ⟨?_, fun k hk => by rw [← he k hk]; exact h.own k hk, h.inj, h.out⟩
  rw [h.blk]
  simp only [hdr, he 0 (by omega), he 1 (by omega), he 2 (by omega), he 3 (by omega), he 4 (by omega), he 5 (by omega)]
end

/-! ### push: six appends, one behind the other -/
/-- The rows while fields below k have been pushed to. -/
def XS (xs : Nat → List Value) (nw : Nat → Value) (k : Nat) : Nat → List Value := fun j => if j < k then xs j ++ [nw j] else xs j
theorem XS_at (xs : Nat → List Value) (nw : Nat → Value) (k : Nat) : XS xs nw k k = xs k := by simp [XS]
theorem XS_step (xs : Nat → List Value) (nw : Nat → Value) (k : Nat) : upd (XS xs nw k) k (xs k ++ [nw k]) = XS xs nw (k + 1) := by
  funext j
  by_cases h : j = k
  · subst h; simp [upd, XS]
  · by_cases h2 : j < k
    · rw [upd_other _ _ _ _ h]; simp [XS, h2, show j < k + 1 by omega]
    · rw [upd_other _ _ _ _ h]; simp [XS, h2, show ¬ j < k + 1 by omega]

def Rel (w : World) (p : Nat) (g : Nat → Nat) (xs : Nat → List Value) (nw : Nat → Value) (k : Nat) (wx : World) : Prop :=
  ∃ g' c', Tree wx p g' c' (XS xs nw k) ∧ Off (foot p g) w wx ∧ ∀ j, j < 6 → g' j = g j ∨ w.heap.size ≤ g' j

theorem Rel.start {w : World} {p : Nat} {g c : Nat → Nat} {xs : Nat → List Value} (nw : Nat → Value) (h : Tree w p g c xs) : Rel w p g xs nw 0 w :=
  ⟨g, c, h.congr (fun k _ => by simp [XS]), Off.refl _ _, fun _ _ => .inl rfl⟩

theorem Rel.next {w wx w1 : World} {p : Nat} {g g1 c1 : Nat → Nat} {xs : Nat → List Value} {nw : Nat → Value} {k : Nat} (hk : k < 6) (hT : Tree wx p g1 c1 (XS xs nw k))
    (hO : Off (foot p g) w wx) (hN : ∀ j, j < 6 → g1 j = g j ∨ w.heap.size ≤ g1 j) {o : Obj} {g' c' : Nat}
    (hown : w1.ownsRow 0 (ety k) 1 (.slice (some ⟨g', 0, none⟩) ((xs k).length + 1) c') ((xs k).length + 1) (xs k ++ [nw k]))
    (hgrow : (wx.alloc o).grownBy w1 (some (g1 k))) (hat : some (g1 k) = some g' ∨ g' = wx.heap.size + 1) :
    Rel w p g xs nw (k + 1) (w1.setCell ⟨p, k, none⟩ (.slice (some ⟨g', 0, none⟩) ((xs k).length + 1) c')) := by
  have hsz : wx.heap.size + 1 ≤ w1.heap.size := by simpa using hgrow.size
  have hpb : w1.heap[p]? = wx.heap[p]? := by
    rw [hgrow.block p (by have := hT.lt; simp; omega) (fun e => hT.out k hk (Option.some.inj e).symm)]
    exact Below.heap_alloc wx o p hT.lt
  have hrow : ∀ j, j < 6 → j ≠ k → w1.heap[g1 j]? = wx.heap[g1 j]? := fun j hj hjk => by
    rw [hgrow.block (g1 j) (by have := hT.row_lt j hj; simp; omega) (fun e => hjk (hT.inj j k hj hk (Option.some.inj e)))]
    exact Below.heap_alloc wx o _ (hT.row_lt j hj)
  have hg'p : g' ≠ p := by
    rcases hat with h | h
    · intro e; exact hT.out k hk ((Option.some.inj h).trans e)
    · have := hT.lt; omega
  have hg'j : ∀ j, j < 6 → j ≠ k → g1 j ≠ g' := fun j hj hjk e => by
    rcases hat with h | h
    · exact hjk (hT.inj j k hj hk (e.trans (Option.some.inj h).symm))
    · have := hT.row_lt j hj; omega
  refine ⟨upd g1 k g', upd c1 k c', ⟨?_, ?_, ?_, ?_⟩, ?_, ?_⟩
  · have h1 : w1.heap[p]? = some (.cells (hdr g1 c1 (fun j => (XS xs nw k j).length)) 40 (0, 0)) := hpb.trans hT.blk
    rw [heap_setCell_at h1, hdr_set _ _ _ _ _ _ _ hk]
    have e : upd (fun j => (XS xs nw k j).length) k ((xs k).length + 1) = fun j => (XS xs nw (k + 1) j).length := by
      rw [← XS_step]
      funext j
      by_cases h : j = k
      · subst h; simp [upd]
      · simp [upd, h]
    rw [e]
  · intro j hj
    by_cases hjk : j = k
    · subst hjk
      rw [← XS_step, upd_same, upd_same, upd_same, List.length_append]
      exact ownsRow_setCell_other hown (by simpa [Value.ownBlock] using hg'p) _
    · rw [← XS_step, upd_other _ _ _ _ hjk, upd_other _ _ _ _ hjk, upd_other _ _ _ _ hjk]
      refine ownsRow_setCell_other ?_ (by simpa [Value.ownBlock] using hT.out j hj) _
      have h0 := hT.own j hj
      refine ⟨h0.1, ?_⟩
      rcases h0.2 with ⟨h0, _⟩ | ⟨g0, cap0, cur, hv, hb, hg, rest⟩
      · cases h0
      · cases hv
        exact .inr ⟨_, _, cur, rfl, hb, by rw [hrow j hj hjk]; exact hg, rest⟩
  · intro i j hi hj he
    by_cases hik : i = k
    · subst hik
      by_cases hjk : j = i
      · exact hjk.symm
      · rw [upd_same, upd_other _ _ _ _ hjk] at he
        exact absurd he.symm (hg'j j hj hjk)
    · by_cases hjk : j = k
      · subst hjk
        rw [upd_same, upd_other _ _ _ _ hik] at he
        exact absurd he (hg'j i hi hik)
      · rw [upd_other _ _ _ _ hik, upd_other _ _ _ _ hjk] at he
        exact hT.inj i j hi hj he
  · intro j hj
    by_cases hjk : j = k
    · subst hjk; rw [upd_same]; exact hg'p
    · rw [upd_other _ _ _ _ hjk]; exact hT.out j hj
  · have hin : ∀ j, j < 6 → foot p g (g1 j) ∨ w.heap.size ≤ g1 j := fun j hj => by
      rcases hN j hj with e | e
      · exact .inl (.inr ⟨j, hj, e⟩)
      · exact .inr e
    refine hO.trans (S := foot p g) (T := fun b => foot p g b ∨ b = g1 k) ?_ (fun b hb => by
      rcases hb with hb | rfl
      · exact .inl hb
      · exact hin k hk)
    exact ((Off.alloc _ wx o).trans (Off.grown hgrow (fun b hb => .inr (Option.some.inj hb).symm)) (fun b hb => .inl hb)).trans (Off.setCell _ _ _ (.inl (.inl rfl))) (fun b hb => .inl hb)
  · intro j hj
    by_cases hjk : j = k
    · subst hjk
      rw [upd_same]
      rcases hat with h | h
      · rw [← Option.some.inj h]; exact hN j hj
      · right; have := hO.size; omega
    · rw [upd_other _ _ _ _ hjk]; exact hN j hj

theorem Tree.at_k {wx : World} {p : Nat} {g1 c1 : Nat → Nat} {xs : Nat → List Value} {nw : Nat → Value} {k n : Nat} (hT : Tree wx p g1 c1 (XS xs nw k)) (hk : k < 6) (hn : (xs k).length = n) :
    wx.cell? ⟨p, k, none⟩ = some (.slice (some ⟨g1 k, 0, none⟩) n (c1 k)) ∧ wx.ownsRow 0 (ety k) 1 (.slice (some ⟨g1 k, 0, none⟩) n (c1 k)) n (xs k) := by
  have h1 := hT.cell k hk
  have h2 := hT.own k hk
  rw [XS_at, hn] at h1 h2
  exact ⟨h1, h2⟩
/-- What the struct's cells are behind an append, ahead of the store. -/
theorem Tree.hdr_kept {wx w1 : World} {p : Nat} {g1 c1 : Nat → Nat} {ys : Nat → List Value} {k : Nat} (hT : Tree wx p g1 c1 ys) (hk : k < 6) {o : Obj} (hgrow : (wx.alloc o).grownBy w1 (some (g1 k))) :
    (∀ j, w1.cell? ⟨p, j, none⟩ = wx.cell? ⟨p, j, none⟩) ∧ ∀ j, w1.frozen? ⟨p, j, none⟩ = false := by
  have hpb : w1.heap[p]? = wx.heap[p]? := by
    rw [hgrow.block p (by have := hT.lt; simp; omega) (fun e => hT.out k hk (Option.some.inj e).symm)]
    exact Below.heap_alloc wx o p hT.lt
  refine ⟨fun j => World.cell?_of_block hpb, fun j => ?_⟩
  rw [World.frozen?_of_block (w := wx) (a := ⟨p, j, none⟩) hpb]
  exact hT.free j

theorem Rel.next' {w wx w1 : World} {p n : Nat} {g g1 c1 : Nat → Nat} {xs : Nat → List Value} {nw : Nat → Value} {k : Nat} (hk : k < 6) (hn : (xs k).length = n) (hT : Tree wx p g1 c1 (XS xs nw k))
    (hO : Off (foot p g) w wx) (hN : ∀ j, j < 6 → g1 j = g j ∨ w.heap.size ≤ g1 j) {o : Obj} {g' c' : Nat}
    (hown : w1.ownsRow 0 (ety k) 1 (.slice (some ⟨g', 0, none⟩) (n + 1) c') (n + 1) (xs k ++ [nw k]))
    (hgrow : (wx.alloc o).grownBy w1 (some (g1 k))) (hat : some (g1 k) = some g' ∨ g' = wx.heap.size + 1) :
    Rel w p g xs nw (k + 1) (w1.setCell ⟨p, k, none⟩ (.slice (some ⟨g', 0, none⟩) (n + 1) c')) := by
  subst hn
  exact Rel.next hk hT hO hN hown hgrow hat

end Go.Proofs.Qxb6613002a
