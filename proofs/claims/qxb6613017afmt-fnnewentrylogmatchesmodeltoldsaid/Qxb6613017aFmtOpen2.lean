/- Seat b6613017aF: the argument []Mem opened; the spare room of the entries' data. -/
import Derived.Test.Qxb6613017aFmtOpen
import Derived.Test.Qxb6613017aFmtMems
namespace Go.Proofs.Qxb6613017aFmt
open Go.RowKit Plain Go.ChangeShapes Go.WideShapes

section
variable {H : Type} {enc : TypeId × Value → H} {w : World} {base : Nat} {held : Bool}

theorem cap_dat {fuel : Nat} {A : Option Addr} {N C : Nat} {x : DataW H × List MemPlace} (h : DataW.trod enc Tryf.prog w base (fun _ => true) held fuel 28 [.slice A N C] = some x) : N ≤ C := by
  rcases open_ints Tryf.underlying28 Tryf.underlying5 (by kernel_rfl) h with ⟨hcs, _⟩ | ⟨_, l, c, zs, hcs, _, hl, _⟩
  · cases hcs
    exact Nat.le_refl _
  · cases hcs
    exact hl

/-- Each entry's data: no longer than its room. -/
theorem open_caps {a : Option Addr} {n c fuel : Nat} {x : DataW H × List MemPlace} (h : DataW.trod enc Tryf.prog w base (fun _ => true) held fuel 24 [.slice a n c] = some x) (b off : Nat) (hx : 0 < n → a = some ⟨b, off, none⟩) :
    ∀ i, i < n → ∀ A N C, w.cell? ⟨b, off + i * 4 + 3, none⟩ = some (.slice A N C) → N ≤ C := by
  intro i hi A N C hcell
  obtain rfl := hx (by omega)
  rcases Go.Deep.open_slice Tryf.underlying24 h with ⟨hcs, _⟩ | ⟨⟨b', off', spot⟩, len, cap, m, k, D, Pl, hcs, _, hl, hm, hmm, _, hall⟩
  · cases hcs
  · cases hcs
    simp only [if_true] at hmm
    subst hmm
    obtain ⟨cs', h1, h2⟩ := hall i (by omega)
    rw [cells30] at h1
    obtain ⟨_, hlen, hcl⟩ := World.cells?_some h1
    have h3 := hcl 3 (by omega)
    rw [Go.Deep.add_add, Addr.add_lit, ← Nat.add_assoc, hcell] at h3
    obtain ⟨xs, k', _, _, _, hxl, hf⟩ := DataW.trod_struct Tryf.underlying30 h2
    match xs, hxl, cs', hlen with
    | [y0, y1, y2, y3], _, [v0, v1, v2, v3], _ =>
      have g3 := hf 3 _ rfl
      simp [cells28] at g3
      simp at h3
      subst h3
      exact cap_dat g3

theorem cells27 : Tryf.prog.cellsOf 27 = 3 := by kernel_rfl
theorem cells9 : Tryf.prog.cellsOf 9 = 1 := by kernel_rfl
theorem cells4 : Tryf.prog.cellsOf 4 = 1 := by kernel_rfl

theorem str_of {fuel : Nat} {v : Value} {y : Option (DataW H × List MemPlace)} {z : DataW H × List MemPlace} (h : DataW.trod enc Tryf.prog w base (fun _ => true) held fuel 9 [v] = y) (hy : y = some z) : ∃ s : ByteArray, v = .string s ∧ s.size ≤ maxLen := by
  obtain ⟨n, hn, _, hm⟩ := DataW.trod_string Tryf.underlying9 (h.trans hy)
  exact ⟨n, by cases hn; rfl, hm⟩
theorem bool_of {fuel : Nat} {v : Value} {y : Option (DataW H × List MemPlace)} {z : DataW H × List MemPlace} (h : DataW.trod enc Tryf.prog w base (fun _ => true) held fuel 4 [v] = y) (hy : y = some z) : ∃ b, v = .bool b := by
  obtain ⟨n, hn, _⟩ := DataW.trod_bool Tryf.underlying4 (h.trans hy)
  exact ⟨n, by cases hn; rfl⟩

/-- A slice of members. -/
theorem open_mems {a : Option Addr} {n c fuel : Nat} {x : DataW H × List MemPlace} (h : DataW.trod enc Tryf.prog w base (fun _ => true) held fuel 23 [.slice a n c] = some x) :
    ∃ (ms : List Mb) (b off : Nat), ms.length = n ∧ n ≤ 9223372036854775807 ∧ (a = none → n = 0 ∧ c = 0) ∧ (0 < n → a = some ⟨b, off, none⟩) ∧ MemsAt w b off ms ∧ ∀ i, i < n → (ms.getD i mb0).id.size ≤ 9223372036854775807 ∧ (ms.getD i mb0).addr.size ≤ 9223372036854775807 := by
  rcases Go.Deep.open_slice Tryf.underlying23 h with ⟨hcs, _⟩ | ⟨⟨b, off, spot⟩, len, cap, m, k, D, Pl, hcs, _, hl, hm, hmm, _, hx⟩
  · cases hcs
    exact ⟨[], 0, 0, rfl, by omega, fun _ => ⟨rfl, rfl⟩, fun h => by omega, (fun i hi => by cases hi), fun i hi => by omega⟩
  · cases hcs
    unfold maxLen at hm
    simp only [if_true] at hmm
    subst hmm
    have hspot : 0 < n → spot = none := fun h0 => by
      obtain ⟨cs', h1, _⟩ := hx 0 (by omega)
      rw [cells27] at h1
      obtain ⟨_, hlen, hcell⟩ := World.cells?_some h1
      have hc := hcell 0 (by omega)
      rw [List.getElem?_eq_getElem (show 0 < cs'.length by omega)] at hc
      simpa [Addr.add] using World.cell?_spot hc
    have each : ∀ i, i < n → ∃ e : Mb, (w.cell? ⟨b, off + i * 3, none⟩ = some (.string e.id) ∧ w.cell? ⟨b, off + i * 3 + 1, none⟩ = some (.string e.addr) ∧ w.cell? ⟨b, off + i * 3 + 2, none⟩ = some (.bool e.voter)) ∧ e.id.size ≤ maxLen ∧ e.addr.size ≤ maxLen := fun i hi => by
      obtain rfl := hspot (by omega)
      obtain ⟨cs', h1, h2⟩ := hx i (by omega)
      rw [cells27] at h1
      obtain ⟨_, hlen, hcell⟩ := World.cells?_some h1
      have e0 := hcell 0 (by omega)
      have e1 := hcell 1 (by omega)
      have e2 := hcell 2 (by omega)
      rw [Go.Deep.add_add, Addr.add_lit, ← Nat.add_assoc] at e0 e1 e2
      obtain ⟨xs, k', _, _, _, hxl, hf⟩ := DataW.trod_struct Tryf.underlying27 h2
      match xs, hxl, cs', hlen with
      | [y0, y1, y2], _, [v0, v1, v2], _ =>
        have g0 := hf 0 _ rfl
        have g1 := hf 1 _ rfl
        have g2 := hf 2 _ rfl
        simp [cells9, cells4] at g0 g1 g2
        obtain ⟨s0, rfl, m0⟩ := str_of g0 rfl
        obtain ⟨s1, rfl, m1⟩ := str_of g1 rfl
        obtain ⟨vb, rfl⟩ := bool_of g2 rfl
        exact ⟨⟨s0, s1, vb⟩, ⟨by simpa using e0, by simpa using e1, by simpa using e2⟩, m0, m1⟩
    have : Inhabited Mb := ⟨mb0⟩
    obtain ⟨f, hf⟩ := Go.Deep.choose_lt each
    have hget : ∀ i, i < n → ((List.range n).map f).getD i mb0 = f i := fun i hi => by simp [List.getD, List.getElem?_map, List.getElem?_range hi]
    refine ⟨(List.range n).map f, b, off, by simp, by omega, (fun h => by cases h), fun h0 => by rw [hspot h0], fun i hi => ?_, fun i hi => ?_⟩
    · have hi' : i < n := by simpa using hi
      rw [hget i hi']
      exact (hf i hi').1
    · rw [hget i hi]
      have := (hf i hi).2
      unfold maxLen at this
      omega
end
end Go.Proofs.Qxb6613017aFmt
