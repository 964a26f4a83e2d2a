/- Seat b6613017aF: the walk of toEntries. -/
import Derived.Test.Qxb6613017aFmtClone
import Derived.Deep.LoopGhost
namespace Go.Proofs.Qxb6613017aFmt
open Go.RowKit Plain

/-- One entry as the law takes it: cells from ⟨b, p⟩ on. -/
def ArgEnt (w : World) (b p : Nat) (e : En) (A : Option Addr) (C gb go : Nat) : Prop :=
  w.cell? ⟨b, p, none⟩ = some (.int .u64 e.ix) ∧ w.cell? ⟨b, p + 1, none⟩ = some (.int .u64 e.tm) ∧ w.cell? ⟨b, p + 2, none⟩ = some (.int .u8 e.ty) ∧ w.cell? ⟨b, p + 3, none⟩ = some (.slice A e.dat.length C) ∧
  (e.nd = true ∧ A = none ∧ e.dat = [] ∧ C = 0 ∨ e.nd = false ∧ ∃ x, A = some x ∧ (0 < e.dat.length → x = ⟨gb, go, none⟩ ∧ gb < w.heap.size ∧ ByteCells w gb go e.dat))
def ArgEnts (w : World) (b off : Nat) (es : List En) : Prop := ∀ i, i < es.length → ∃ A C gb go, ArgEnt w b (off + i * 4) (es.getD i en0) A C gb go
theorem ArgEnt.below {w w' : World} {b p C gb go : Nat} {e : En} {A : Option Addr} (h : ArgEnt w b p e A C gb go) (hb : Below w.heap.size w w') : ArgEnt w' b p e A C gb go := by
  obtain ⟨h0, h1, h2, h3, h4⟩ := h
  have hB : b < w.heap.size := World.block_lt_of_cell? _ _ h0
  refine ⟨(hb.cell (p := ⟨b, p, none⟩) hB).trans h0, (hb.cell (p := ⟨b, p + 1, none⟩) hB).trans h1, (hb.cell (p := ⟨b, p + 2, none⟩) hB).trans h2, (hb.cell (p := ⟨b, p + 3, none⟩) hB).trans h3, ?_⟩
  rcases h4 with h4 | ⟨h5, x, h6, h7⟩
  · exact Or.inl h4
  · exact Or.inr ⟨h5, x, h6, fun h0 => ⟨(h7 h0).1, Nat.lt_of_lt_of_le (h7 h0).2.1 hb.size, (h7 h0).2.2.below hb (h7 h0).2.1⟩⟩
theorem ArgEnts.below {w w' : World} {b off : Nat} {es : List En} (h : ArgEnts w b off es) (hb : Below w.heap.size w w') : ArgEnts w' b off es := fun i hi => by
  obtain ⟨A, C, gb, go, hA⟩ := h i hi
  exact ⟨A, C, gb, go, hA.below hb⟩

theorem hi56 : Tryf.prog.info? 56 = some Tryf.t56 := by kernel_rfl
theorem eq24 (w : World) (a : Option Addr) (n c : Nat) : (binOp .eql 24 (.slice a n c) (.slice none 0 0)).run Tryf.prog w = .ok (.bool a.isNone) w := Lib.run_eql_slice_nil (P := Tryf.prog) w 24 30 a n c 0 0 Tryf.underlying24

abbrev z56 : Array Value := #[.int .u64 0, .int .u64 0, .int .u8 0, .slice none 0 0]
theorem mk_ents (n : Nat) (hn : n ≤ 1048576) (w : World) :
    (Instr.makeSlice 33 (.int .i64 (n : Int)) (.int .i64 (n : Int))).run Tryf.prog w = .ok (.slice (some ⟨w.heap.size, 0, none⟩) n n) (w.alloc (.cells (madeCells z56 (n * 4)) 56)) := by
  have h := run_make (P := Tryf.prog) w 33 56 Tryf.t56 (.agg z56) Tryf.underlying33 hi56 rfl .i64 .i64 n n (by omega) (Int.le_refl _) (by show (48 : Int) * (n : Int) ≤ _; omega) (by omega)
  simp only [Int.toNat_natCast] at h
  exact h

/-- The row while k entries have been laid. -/
def TInv (wr : World) (B n k : Nat) (es : List En) : Prop :=
  ∃ f, wr.rowIs B 56 (n * 4) f ∧ ∀ i, i < k → ∃ A G, f (i * 4) = .int .u64 (es.getD i en0).ix ∧ f (i * 4 + 1) = .int .u64 (es.getD i en0).tm ∧ f (i * 4 + 2) = .int .u8 (es.getD i en0).ty ∧ f (i * 4 + 3) = .slice A (es.getD i en0).dat.length (es.getD i en0).dat.length ∧
    ((es.getD i en0).nd = true ∧ A = none ∧ (es.getD i en0).dat = [] ∨ (es.getD i en0).nd = false ∧ A = some ⟨G, 0, none⟩) ∧ (G < wr.heap.size ∧ B ≤ G) ∧ ((es.getD i en0).dat = [] ∨ G ≠ B) ∧ ByteCells wr G 0 (es.getD i en0).dat

abbrev set4c (w : World) (B p : Nat) (v0 v1 v2 v3 : Value) : World := (((w.setCell ⟨B, p, none⟩ v0).setCell ⟨B, p + 1, none⟩ v1).setCell ⟨B, p + 2, none⟩ v2).setCell ⟨B, p + 3, none⟩ v3

theorem set4c_far (w : World) {B b : Nat} (h : b ≠ B) (p o : Nat) (v0 v1 v2 v3 : Value) : (set4c w B p v0 v1 v2 v3).cell? ⟨b, o, none⟩ = w.cell? ⟨b, o, none⟩ := by
  refine World.cell?_of_block (w := w) ?_
  show (set4c w B p v0 v1 v2 v3).heap[b]? = w.heap[b]?
  unfold set4c
  rw [Below.heap_setCell _ _ _ _ h, Below.heap_setCell _ _ _ _ h, Below.heap_setCell _ _ _ _ h, Below.heap_setCell _ _ _ _ h]

theorem TInv.step {wr w1 : World} {B n k : Nat} {es : List En} (h : TInv wr B n k es) (hB : B < wr.heap.size) (hb : Below wr.heap.size wr w1) (A : Option Addr) (G : Nat)
    (hA : (es.getD k en0).nd = true ∧ A = none ∧ (es.getD k en0).dat = [] ∨ (es.getD k en0).nd = false ∧ A = some ⟨G, 0, none⟩) (hG : G < w1.heap.size ∧ B ≤ G) (hne : (es.getD k en0).dat = [] ∨ G ≠ B) (hD : ByteCells w1 G 0 (es.getD k en0).dat) :
    TInv (set4c w1 B (k * 4) (.int .u64 (es.getD k en0).ix) (.int .u64 (es.getD k en0).tm) (.int .u8 (es.getD k en0).ty) (.slice A (es.getD k en0).dat.length (es.getD k en0).dat.length)) B n (k + 1) es := by
  obtain ⟨f, hf, hi⟩ := h
  have hf1 : w1.rowIs B 56 (n * 4) f := hf.of_block (hb.block B hB)
  have far : ∀ (D : List Int) (G : Nat), (D = [] ∨ G ≠ B) → ∀ (w' : World), ByteCells w' G 0 D → ∀ (a : Nat) (v : Value), ByteCells (w'.setCell ⟨B, a, none⟩ v) G 0 D := by
    intro D G hg w' hD a v i hi
    rcases hg with hg | hg
    · rw [hg] at hi; cases hi
    · exact (World.cell?_of_block (w := w') (Below.heap_setCell w' ⟨B, a, none⟩ v G hg)).trans (hD i hi)
  refine ⟨_, (((hf1.set (k * 4) _).set (k * 4 + 1) _).set (k * 4 + 2) _).set (k * 4 + 3) _, fun i hik => ?_⟩
  by_cases hk : i = k
  · subst hk
    refine ⟨A, G, ?_, ?_, ?_, ?_, hA, ⟨by simpa using hG.1, hG.2⟩, hne, far _ _ hne _ (far _ _ hne _ (far _ _ hne _ (far _ _ hne _ hD _ _) _ _) _ _) _ _⟩ <;> simp
  · obtain ⟨A', G', e0, e1, e2, e3, e4, e5, e6, e7⟩ := hi i (by omega)
    refine ⟨A', G', ?_, ?_, ?_, ?_, e4, ⟨by have := hb.size; simp; omega, e5.2⟩, e6, ?_⟩
    · simp only [show ¬ i * 4 = k * 4 + 3 by omega, show ¬ i * 4 = k * 4 + 2 by omega, show ¬ i * 4 = k * 4 + 1 by omega, show ¬ i * 4 = k * 4 by omega, if_false]
      exact e0
    · simp only [show ¬ i * 4 + 1 = k * 4 + 3 by omega, show ¬ i * 4 + 1 = k * 4 + 2 by omega, show ¬ i * 4 + 1 = k * 4 + 1 by omega, show ¬ i * 4 + 1 = k * 4 by omega, if_false]
      exact e1
    · simp only [show ¬ i * 4 + 2 = k * 4 + 3 by omega, show ¬ i * 4 + 2 = k * 4 + 2 by omega, show ¬ i * 4 + 2 = k * 4 + 1 by omega, show ¬ i * 4 + 2 = k * 4 by omega, if_false]
      exact e2
    · simp only [show ¬ i * 4 + 3 = k * 4 + 3 by omega, show ¬ i * 4 + 3 = k * 4 + 2 by omega, show ¬ i * 4 + 3 = k * 4 + 1 by omega, show ¬ i * 4 + 3 = k * 4 by omega, if_false]
      exact e3
    · have h7 : ByteCells w1 G' 0 (es.getD i en0).dat := e7.below hb e5.1
      exact far _ _ e6 _ (far _ _ e6 _ (far _ _ e6 _ (far _ _ e6 _ h7 _ _) _ _) _ _) _ _

/-- .. in blocks from B on. -/
def RaftIn (w : World) (B : Nat) (es : List En) : Prop := ∀ i, i < es.length → ∃ A G, EntAt w B (i * 4) (es.getD i en0) A G ∧ B ≤ G
theorem RaftIn.ents {w : World} {B : Nat} {es : List En} (h : RaftIn w B es) : RaftEnts w B es := fun i hi => by
  obtain ⟨A, G, h1, _⟩ := h i hi
  exact ⟨A, G, h1⟩

theorem TInv.done {wr : World} {B n : Nat} {es : List En} (h : TInv wr B n n es) (hn : es.length = n) : RaftIn wr B es := by
  obtain ⟨f, hf, hi⟩ := h
  intro i hil
  obtain ⟨A, G, e0, e1, e2, e3, e4, e5, e6, e7⟩ := hi i (by omega)
  exact ⟨A, G, ⟨e0 ▸ hf.cell (by omega), e1 ▸ hf.cell (by omega), e2 ▸ hf.cell (by omega), e3 ▸ hf.cell (by omega), e4, e5.1, e7⟩, e5.2⟩

theorem TInv.start (w : World) (n : Nat) (es : List En) : TInv (w.alloc (.cells (madeCells z56 (n * 4)) 56)) w.heap.size n 0 es := by
  refine ⟨fun j => (madeCells z56 (n * 4))[j]?.getD undef, ⟨madeCells z56 (n * 4), (MapKept.heap_alloc w _).1, size_madeCells _ _, fun i hi => ?_⟩, fun i hi => by omega⟩
  have : i < (madeCells z56 (n * 4)).size := by rw [size_madeCells]; exact hi
  simp [Array.getElem?_eq_getElem this]

def TRel (w : World) (n : Nat) (es : List En) (i : Value) (wr : World) : Prop := ∃ k : Nat, k ≤ n ∧ i = .int .i64 k ∧ TInv wr w.heap.size n k es ∧ Below w.heap.size w wr
/-- What cloneBytes hands to the row. -/
def KOut (wr : World) (B : Nat) (en : En) (e : Ending) (w1 : World) : Prop :=
  ∃ A G, e = .returned (.slice A en.dat.length en.dat.length) ∧ Below wr.heap.size wr w1 ∧ (en.nd = true ∧ A = none ∧ en.dat = [] ∨ en.nd = false ∧ A = some ⟨G, 0, none⟩) ∧ (G < w1.heap.size ∧ B ≤ G) ∧ (en.dat = [] ∨ G ≠ B) ∧ ByteCells w1 G 0 en.dat

def TOut (w : World) (n : Nat) (es : List En) (e : Ending) (w' : World) : Prop := e = .returned (.slice (some ⟨w.heap.size, 0, none⟩) n n) ∧ Below w.heap.size w w' ∧ RaftIn w' w.heap.size es

theorem to_nil (w : World) : Calls Tryf.prog 7 #[.slice none 0 0] w fun e w' => e = .returned (.slice none 0 0) ∧ w' = w := by
  have heq := eq24
  go_enter Tryf.func7, Tryf.ntmps7
  go_wp2
  go_ret
  exact ⟨rfl, rfl⟩

set_option maxRecDepth 20000 in
set_option maxHeartbeats 4000000 in
theorem to_some (x : Addr) (b off n c : Nat) (es : List En) (w : World) (hn : es.length = n) (hm : n ≤ 1048576) (hd : ∀ e ∈ es, e.dat.length ≤ 1048576) (hx : 0 < n → x = ⟨b, off, none⟩) (hE : ArgEnts w b off es) :
    Calls Tryf.prog 7 #[.slice (some x) n c] w fun e w' => TOut w n es e w' := by
  have HX : Hid (0 < n → x = ⟨b, off, none⟩) := hx
  have HE : Hid (ArgEnts w b off es) := hE
  have HD : Hid (∀ e ∈ es, e.dat.length ≤ 1048576) := hd
  have heq := eq24
  have hmk := mk_ents n hm
  clear hx hE hd
  go_enter Tryf.func7, Tryf.ntmps7
  go_wp2_with fail
  clear hmk heq
  go_loopw [4] (fun i wr => TRel w n es i wr) (fun i _ => n - (intOf i).toNat)
  case atStart => exact ⟨0, Nat.zero_le _, rfl, TInv.start w n es, (Below.refl _ _).alloc (Nat.le_refl _) _⟩
  case round =>
    obtain ⟨k, hk, rfl, hR, hb⟩ := hrel
    have hlt0 : w.heap.size < wr.heap.size := by obtain ⟨f, hf, _⟩ := hR; exact hf.lt
    have HR : Hid (TInv wr w.heap.size n k es) := hR
    have HB : Hid (Below w.heap.size w wr) := hb
    by_cases hlt : k < n
    · obtain rfl := HX.out (by omega)
      obtain ⟨A, C, gb, go, hent⟩ := HE.out k (by omega)
      have hbl : b < w.heap.size := World.block_lt_of_cell? _ _ hent.1
      have hent2 := hent.below hb
      have hdl : (es.getD k en0).dat.length ≤ 1048576 := by
        have e : es.getD k en0 = es[k]'(by omega) := by simp [List.getD, List.getElem?_eq_getElem (show k < es.length by omega)]
        rw [e]
        exact HD.out _ (List.getElem_mem _)
      obtain ⟨en, hen⟩ : ∃ en, es.getD k en0 = en := ⟨_, rfl⟩
      have HStep : Hid (∀ w1, Below wr.heap.size wr w1 → ∀ A G, (en.nd = true ∧ A = none ∧ en.dat = [] ∨ en.nd = false ∧ A = some ⟨G, 0, none⟩) → (G < w1.heap.size ∧ w.heap.size ≤ G) → (en.dat = [] ∨ G ≠ w.heap.size) → ByteCells w1 G 0 en.dat →
          TRel w n es (.int .i64 ((k : Int) + 1)) (set4c w1 w.heap.size (k * 4) (.int .u64 en.ix) (.int .u64 en.tm) (.int .u8 en.ty) (.slice A en.dat.length en.dat.length))) := by
        intro w1 hb1 A G h1 h2 h3 h4
        subst hen
        refine ⟨k + 1, by omega, by simp, TInv.step HR.out hlt0 hb1 A G h1 h2 h3 h4, ?_⟩
        exact (((((HB.out.trans (hb1.mono (Nat.le_of_lt hlt0))).setCell (p := ⟨w.heap.size, k * 4, none⟩) (Nat.le_refl _) _).setCell (p := ⟨w.heap.size, k * 4 + 1, none⟩) (Nat.le_refl _) _).setCell (p := ⟨w.heap.size, k * 4 + 2, none⟩) (Nat.le_refl _) _).setCell (p := ⟨w.heap.size, k * 4 + 3, none⟩) (Nat.le_refl _) _)
      have HCells : Hid (∀ w1, Below wr.heap.size wr w1 → ∀ j, j < 4 → (∃ v, w1.cell? ⟨w.heap.size, k * 4 + j, none⟩ = some v) ∧ w1.frozen? ⟨w.heap.size, k * 4 + j, none⟩ = false) := by
        intro w1 hb1 j hj
        obtain ⟨f, hf, _⟩ := HR.out
        have hf1 := hf.of_block (hb1.block w.heap.size hlt0)
        exact ⟨⟨_, hf1.cell (by omega)⟩, hf1.frozen _⟩
      rw [hen] at hent2 hdl
      have hKK : ∀ w', Below wr.heap.size wr w' → w'.cell? ⟨b, off + k * 4, none⟩ = some (.int .u64 en.ix) ∧ w'.cell? ⟨b, off + k * 4 + 1, none⟩ = some (.int .u64 en.tm) ∧ w'.cell? ⟨b, off + k * 4 + 2, none⟩ = some (.int .u8 en.ty) ∧ w'.cell? ⟨b, off + k * 4 + 3, none⟩ = some (.slice A en.dat.length C) := by
        intro w' hb'
        have h := hent2.below hb'
        exact ⟨h.1, h.2.1, h.2.2.1, h.2.2.2.1⟩
      have HCl : Hid (Calls Tryf.prog 14 #[.slice A en.dat.length C] wr.drew fun e w1 => KOut wr w.heap.size en e w1) := by
        rcases hent2.2.2.2.2 with ⟨h1, h2, h3, h4⟩ | ⟨h1, x, h2, h3⟩
        · rw [h2, h3, h4]
          refine (clone_nil wr.drew).mono ?_
          rintro e w1 ⟨rfl, rfl⟩
          exact ⟨none, w.heap.size, by rw [h3]; rfl, (Below.refl _ _).drew, Or.inl ⟨h1, rfl, h3⟩, ⟨hlt0, Nat.le_refl _⟩, Or.inl h3, fun i hi => by rw [h3] at hi; cases hi⟩
        · rw [h2]
          refine (clone_some x gb go en.dat.length C en.dat wr.drew rfl hdl h3).mono ?_
          rintro e w1 ⟨rfl, q1, q2, q3⟩
          exact ⟨some ⟨wr.heap.size, 0, none⟩, wr.heap.size, rfl, (Below.refl _ wr).drew.trans q1, Or.inr ⟨h1, rfl⟩, ⟨q2, by omega⟩, Or.inr (by omega), q3⟩
      clear hent hent2 hR hb HR hdl hen
      obtain ⟨ix, tm, ty, nd, dat⟩ := en
      simp only at hKK
      have hne : b ≠ w.heap.size := by omega
      have KK : Hid (∀ w', Below wr.heap.size wr w' → w'.cell? ⟨b, off + k * 4, none⟩ = some (.int .u64 ix) ∧ w'.cell? ⟨b, off + k * 4 + 1, none⟩ = some (.int .u64 tm) ∧ w'.cell? ⟨b, off + k * 4 + 2, none⟩ = some (.int .u8 ty) ∧ w'.cell? ⟨b, off + k * 4 + 3, none⟩ = some (.slice A dat.length C)) := hKK
      have KS : Hid (∀ w1 v0 v1 v2 v3, Below wr.heap.size wr w1 → (set4c w1 w.heap.size (k * 4) v0 v1 v2 v3).cell? ⟨b, off + k * 4, none⟩ = some (.int .u64 ix) ∧ (set4c w1 w.heap.size (k * 4) v0 v1 v2 v3).cell? ⟨b, off + k * 4 + 1, none⟩ = some (.int .u64 tm) ∧ (set4c w1 w.heap.size (k * 4) v0 v1 v2 v3).cell? ⟨b, off + k * 4 + 2, none⟩ = some (.int .u8 ty) ∧ (set4c w1 w.heap.size (k * 4) v0 v1 v2 v3).cell? ⟨b, off + k * 4 + 3, none⟩ = some (.slice A dat.length C)) := by
        intro w1 v0 v1 v2 v3 hb1
        have h := hKK w1 hb1
        have c : ∀ o, (set4c w1 w.heap.size (k * 4) v0 v1 v2 v3).cell? ⟨b, o, none⟩ = w1.cell? ⟨b, o, none⟩ := fun o => set4c_far w1 hne _ _ _ _ _ _
        exact ⟨(c _).trans h.1, (c _).trans h.2.1, (c _).trans h.2.2.1, (c _).trans h.2.2.2⟩
      obtain ⟨k0, k1, k2, k3⟩ := hKK wr (Below.refl _ _)
      clear hKK
      go_upto_region 7 with fail
      go_region_held3 (fun w' => w'.cell? ⟨b, off + k * 4, none⟩ = some (.int .u64 ix) ∧ w'.cell? ⟨b, off + k * 4 + 1, none⟩ = some (.int .u64 tm) ∧ w'.cell? ⟨b, off + k * 4 + 2, none⟩ = some (.int .u8 ty) ∧ w'.cell? ⟨b, off + k * 4 + 3, none⟩ = some (.slice A dat.length C)) (first | assumption | go_keep)
        (first | (go_at_call 14; refine HCl.out.mono ?_; rintro e w1 ⟨A', G, rfl, hb1, hA1, hG1, hn1, hD1⟩
                  obtain ⟨⟨v0, c0⟩, f0⟩ := HCells.out w1 hb1 0 (by omega)
                  obtain ⟨⟨v1, c1⟩, f1⟩ := HCells.out w1 hb1 1 (by omega)
                  obtain ⟨⟨v2, c2⟩, f2⟩ := HCells.out w1 hb1 2 (by omega)
                  obtain ⟨⟨v3, c3⟩, f3⟩ := HCells.out w1 hb1 3 (by omega)
                  simp only [Nat.add_zero] at c0 f0
                  have R := HStep.out w1 hb1 A' G hA1 hG1 hn1 hD1
                  have R' : Hid _ := R
                  have S1 := KK.out w1 hb1
                  have S2 := KS.out w1 (.int .u64 ix) (.int .u64 tm) (.int .u8 ty) (.slice A' dat.length dat.length) hb1
                  simp only [set4c] at S2
                  clear R hA1 hG1 hn1 hD1))
      go_wp2_with fail
      go_roundw
      case rel => exact Hid.out (by assumption)
      case measure => simp [intOf]; omega
    · obtain rfl : k = n := by omega
      have HT : Hid (RaftIn wr w.heap.size es) := TInv.done hR hn
      clear hR hb HR
      go_wp2
      go_ret
      exact ⟨rfl, HB.out, HT.out⟩

end Go.Proofs.Qxb6613017aFmt
