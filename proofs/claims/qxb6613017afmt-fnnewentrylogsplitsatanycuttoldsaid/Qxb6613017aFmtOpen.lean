/- Seat b6613017aF: the argument []Ent opened: what the walks lean on. -/
import Derived.Test.Qxb6613017aFmtTo
import Derived.Deep.Slices
namespace Go.Proofs.Qxb6613017aFmt
open Go.RowKit Plain Go.ChangeShapes Go.WideShapes

section
variable {H : Type} {enc : TypeId × Value → H} {w : World} {base : Nat} {held : Bool}

/-- One byte slice. -/
theorem open_dat {fuel : Nat} {v : Value} {x : DataW H × List MemPlace} (h : DataW.trod enc Tryf.prog w base (fun _ => true) held fuel 28 [v] = some x) :
    ∃ (A : Option Addr) (C gb go : Nat) (nd : Bool) (D : List Int), v = .slice A D.length C ∧ D.length ≤ maxLen ∧ Byte D ∧
      (nd = true ∧ A = none ∧ D = [] ∧ C = 0 ∨ nd = false ∧ ∃ x, A = some x ∧ (0 < D.length → x = ⟨gb, go, none⟩ ∧ gb < w.heap.size ∧ ByteCells w gb go D)) := by
  rcases open_ints Tryf.underlying28 Tryf.underlying5 (by kernel_rfl) h with ⟨hcs, _⟩ | ⟨⟨gb, go, spot⟩, l, c, zs, hcs, _, hl, hm, hz, _, hcell, hwf⟩
  · cases hcs
    exact ⟨none, 0, 0, 0, true, [], rfl, Nat.zero_le _, (fun x hx => by cases hx), Or.inl ⟨rfl, rfl, rfl, rfl⟩⟩
  · cases hcs
    simp only [if_true] at hz
    have hlen : (zs.take l).length = l := by simp; omega
    refine ⟨some ⟨gb, go, spot⟩, c, gb, go, false, zs.take l, by rw [hlen], by omega, ?_, Or.inr ⟨rfl, _, rfl, ?_⟩⟩
    · intro z hmem
      have hb := hwf z (List.mem_of_mem_take hmem)
      simp [Lit.wf, IntKind.min, IntKind.max, IntKind.signed, IntKind.bits] at hb
      omega
    · intro h0
      have hc := hcell 0 (by omega)
      have hspot : spot = none := by simpa [Addr.add] using World.cell?_spot hc
      subst hspot
      refine ⟨rfl, ?_, fun i hi => ?_⟩
      · have := World.block_lt_of_cell? _ _ hc
        simpa [Addr.add] using this
      · have hc := hcell i (by omega)
        rw [Addr.add_lit] at hc
        rw [hc]
        have hil : i < l := by omega
        simp [List.getD, hil]

theorem u64_of {fuel : Nat} {v : Value} {y : Option (DataW H × List MemPlace)} {z : DataW H × List MemPlace} (h : DataW.trod enc Tryf.prog w base (fun _ => true) held fuel 22 [v] = y) (hy : y = some z) : ∃ n, v = .int .u64 n := by
  obtain ⟨n, hn, _⟩ := DataW.trod_int Tryf.underlying22 (h.trans hy)
  exact ⟨n, by cases hn; rfl⟩
theorem u8_of {fuel : Nat} {v : Value} {y : Option (DataW H × List MemPlace)} {z : DataW H × List MemPlace} (h : DataW.trod enc Tryf.prog w base (fun _ => true) held fuel 5 [v] = y) (hy : y = some z) : ∃ n, v = .int .u8 n := by
  obtain ⟨n, hn, _⟩ := DataW.trod_int Tryf.underlying5 (h.trans hy)
  exact ⟨n, by cases hn; rfl⟩

theorem cells30 : Tryf.prog.cellsOf 30 = 4 := by kernel_rfl
theorem cells22 : Tryf.prog.cellsOf 22 = 1 := by kernel_rfl
theorem cells5 : Tryf.prog.cellsOf 5 = 1 := by kernel_rfl
theorem cells28 : Tryf.prog.cellsOf 28 = 1 := by kernel_rfl

/-- One entry, from its four cells. -/
theorem open_ent {fuel : Nat} {b p : Nat} {cs : List Value} {y : DataW H × List MemPlace} (hc : ∀ j, j < 4 → w.cell? ⟨b, p + j, none⟩ = some (cs.getD j undef)) (hl : cs.length = 4) (h : DataW.trod enc Tryf.prog w base (fun _ => true) held fuel 30 cs = some y) :
    ∃ (e : En) (A : Option Addr) (C gb go : Nat), ArgEnt w b p e A C gb go ∧ e.dat.length ≤ maxLen ∧ Byte e.dat := by
  obtain ⟨xs, k, _, _, _, hxl, hf⟩ := DataW.trod_struct Tryf.underlying30 h
  match xs, hxl, cs, hl with
  | [y0, y1, y2, y3], _, [v0, v1, v2, v3], _ =>
    have g0 := hf 0 _ rfl
    have g1 := hf 1 _ rfl
    have g2 := hf 2 _ rfl
    have g3 := hf 3 _ rfl
    simp [cells22, cells5, cells28] at g0 g1 g2 g3
    obtain ⟨n0, rfl⟩ := u64_of g0 rfl
    obtain ⟨n1, rfl⟩ := u64_of g1 rfl
    obtain ⟨n2, rfl⟩ := u8_of g2 rfl
    obtain ⟨A, C, gb, go, nd, D, rfl, hD, hB, hx⟩ := open_dat g3
    exact ⟨⟨n0, n1, n2, nd, D⟩, A, C, gb, go, ⟨hc 0 (by omega), hc 1 (by omega), hc 2 (by omega), hc 3 (by omega), hx⟩, hD, hB⟩

/-- A slice of entries. -/
theorem open_ents {a : Option Addr} {n c fuel : Nat} {x : DataW H × List MemPlace} (h : DataW.trod enc Tryf.prog w base (fun _ => true) held fuel 24 [.slice a n c] = some x) :
    ∃ (es : List En) (b off : Nat), es.length = n ∧ n ≤ c ∧ c ≤ 9223372036854775807 ∧ (a = none → n = 0 ∧ c = 0) ∧ (0 < n → a = some ⟨b, off, none⟩) ∧ ArgEnts w b off es ∧ (∀ i, i < n → (es.getD i en0).dat.length ≤ 9223372036854775807) ∧ ∀ e ∈ es, Byte e.dat := by
  rcases Go.Deep.open_slice Tryf.underlying24 h with ⟨hcs, _⟩ | ⟨⟨b, off, spot⟩, len, cap, m, k, D, Pl, hcs, _, hl, hm, hmm, _, hx⟩
  · cases hcs
    exact ⟨[], 0, 0, rfl, Nat.le_refl _, by omega, fun _ => ⟨rfl, rfl⟩, fun h => by omega, (fun i hi => by cases hi), (fun i hi => by omega), fun e he => by cases he⟩
  · cases hcs
    unfold maxLen at hm
    simp only [if_true] at hmm
    subst hmm
    have hspot : 0 < n → spot = none := fun h0 => by
      obtain ⟨cs', h1, _⟩ := hx 0 (by omega)
      rw [cells30] at h1
      obtain ⟨_, hlen, hcell⟩ := World.cells?_some h1
      have hc := hcell 0 (by omega)
      rw [List.getElem?_eq_getElem (show 0 < cs'.length by omega)] at hc
      simpa [Addr.add] using World.cell?_spot hc
    have each : ∀ i, i < n → ∃ e : En, (∃ (A : Option Addr) (C gb go : Nat), ArgEnt w b (off + i * 4) e A C gb go) ∧ e.dat.length ≤ maxLen ∧ Byte e.dat := fun i hi => by
      obtain rfl := hspot (by omega)
      obtain ⟨cs', h1, h2⟩ := hx i (by omega)
      rw [cells30] at h1
      obtain ⟨_, hlen, hcell⟩ := World.cells?_some h1
      obtain ⟨e, A, C, gb, go, h3, h4, h5⟩ := open_ent (b := b) (p := off + i * 4) (cs := cs') (fun j hj => by
        have := hcell j hj
        rw [Go.Deep.add_add, Addr.add_lit] at this
        rw [← Nat.add_assoc] at this
        rw [this]
        simp [List.getD, List.getElem?_eq_getElem (show j < cs'.length by omega)]) hlen h2
      exact ⟨e, ⟨A, C, gb, go, h3⟩, h4, h5⟩
    have : Inhabited En := ⟨en0⟩
    obtain ⟨f, hf⟩ := Go.Deep.choose_lt each
    have hget : ∀ i, i < n → ((List.range n).map f).getD i en0 = f i := fun i hi => by simp [List.getD, List.getElem?_map, List.getElem?_range hi]
    refine ⟨(List.range n).map f, b, off, by simp, hl, by omega, (fun h => by cases h), fun h0 => by rw [hspot h0], fun i hi => ?_, fun i hi => ?_, fun e he => ?_⟩
    · have hi' : i < n := by simpa using hi
      rw [hget i hi']
      exact (hf i hi').1
    · rw [hget i hi]
      have := (hf i hi).2.1
      unfold maxLen at this
      omega
    · obtain ⟨i, hi, rfl⟩ := List.mem_map.1 he
      exact (hf i (List.mem_range.1 hi)).2.2
end
end Go.Proofs.Qxb6613017aFmt
