/- Seat b6613017aF: the walk of modelMembers: the second parser, by positions. -/
import Derived.Test.Qxb6613017aFmtConf
import Derived.BigQuiet
import Derived.Deep.RegionLaw
namespace Go.Proofs.Qxb6613017aFmt
open Go.RowKit Plain

namespace Plain
theorem num_one (D : List Int) (q : Nat) : num (D.drop q) 1 = (D.getD q 0).toNat := by
  simp [num, List.getD, List.getElem?_drop]
theorem num_two (D : List Int) (q : Nat) : num (D.drop q) 2 = (D.getD q 0).toNat * 256 + (D.getD (q + 1) 0).toNat := by
  simp [num, List.getD, List.getElem?_drop]
theorem cutL_none {D : List Int} {s q n : Nat} (hq : q ≤ D.length) (hn : num (D.drop q) s = n) (h : D.length < q + s + n) : cutL s (D.drop q) = none := by
  unfold cutL
  by_cases h1 : (D.drop q).length < s
  · rw [if_pos h1]
  · rw [if_neg h1, if_pos]
    rw [hn, List.length_drop, List.length_drop] at *
    omega
theorem cutL_some {D : List Int} {s q n : Nat} (hn : num (D.drop q) s = n) (h : q + s + n ≤ D.length) : cutL s (D.drop q) = some ((D.drop (q + s)).take n, D.drop (q + s + n)) := by
  unfold cutL
  have h1 : (D.drop q).length = D.length - q := List.length_drop
  have h2 : ((D.drop q).drop s).length = D.length - q - s := by rw [List.length_drop, h1]
  rw [if_neg (by omega), if_neg (by omega), hn, List.drop_drop, List.drop_drop]
theorem cutM_drop {D : List Int} {p : Nat} (hp : p < D.length) : cutM (D.drop p) = cutM (D.getD p 0 :: D.drop (p + 1)) := by
  rw [List.drop_eq_getElem_cons hp]
  simp [List.getD, List.getElem?_eq_getElem hp]
theorem cutM_kind {D : List Int} {p : Nat} (hp : p < D.length) (h1 : D.getD p 0 ≠ 1) (h2 : D.getD p 0 ≠ 2) : cutM (D.drop p) = none := by
  rw [cutM_drop hp, cutM, if_pos ⟨h1, h2⟩]
/-- too short for the id, or for the address's length -/
theorem cutM_short {D : List Int} {p i : Nat} (hp : p < D.length) (hi : D.getD (p + 1) 0 = (i : Int)) (h : D.length < p + 2 + i + 2) : cutM (D.drop p) = none := by
  rw [cutM_drop hp, cutM]
  split
  · rfl
  · have e1 : num (D.drop (p + 1)) 1 = i := by rw [num_one, hi]; simp
    by_cases h1 : D.length < p + 1 + 1 + i
    · rw [cutL_none (by omega) e1 h1]
    · rw [cutL_some e1 (by omega)]
      simp only
      rw [show cutL 2 (D.drop (p + 1 + 1 + i)) = none from by
        unfold cutL
        rw [if_pos (by rw [List.length_drop]; omega)]]
theorem cutM_short1 {D : List Int} {p : Nat} (hp : p < D.length) (h : D.length < p + 2) : cutM (D.drop p) = none := by
  rw [cutM_drop hp, cutM]
  split
  · rfl
  · rw [show cutL 1 (D.drop (p + 1)) = none from by
      unfold cutL
      rw [if_pos (by rw [List.length_drop]; omega)]]
theorem cutM_long {D : List Int} {p i x y : Nat} (hp : p < D.length) (hi : D.getD (p + 1) 0 = (i : Int)) (hx : D.getD (p + 2 + i) 0 = (x : Int)) (hy : D.getD (p + 2 + i + 1) 0 = (y : Int)) (h0 : p + 2 + i + 2 ≤ D.length) (h : D.length < p + 2 + i + 2 + (x * 256 + y)) : cutM (D.drop p) = none := by
  rw [cutM_drop hp, cutM]
  split
  · rfl
  · have e1 : num (D.drop (p + 1)) 1 = i := by rw [num_one, hi]; simp
    rw [cutL_some e1 (by omega)]
    simp only
    have e2 : num (D.drop (p + 1 + 1 + i)) 2 = x * 256 + y := by rw [num_two, show p + 1 + 1 + i = p + 2 + i by omega, hx, hy]; simp
    rw [cutL_none (by omega) e2 (by omega)]
theorem cutM_ok {D : List Int} {p i x y : Nat} (hp : p < D.length) (hk : D.getD p 0 = 1 ∨ D.getD p 0 = 2) (hi : D.getD (p + 1) 0 = (i : Int)) (hx : D.getD (p + 2 + i) 0 = (x : Int)) (hy : D.getD (p + 2 + i + 1) 0 = (y : Int)) (h : p + 2 + i + 2 + (x * 256 + y) ≤ D.length) :
    cutM (D.drop p) = some (⟨strOfNums ((D.drop (p + 2)).take i), strOfNums ((D.drop (p + 2 + i + 2)).take (x * 256 + y)), D.getD p 0 == 1⟩, D.drop (p + 2 + i + 2 + (x * 256 + y))) := by
  rw [cutM_drop hp, cutM, if_neg (by omega)]
  have e1 : num (D.drop (p + 1)) 1 = i := by rw [num_one, hi]; simp
  rw [cutL_some e1 (by omega)]
  simp only
  have e2 : num (D.drop (p + 1 + 1 + i)) 2 = x * 256 + y := by rw [num_two, show p + 1 + 1 + i = p + 2 + i by omega, hx, hy]; simp
  rw [cutL_some e2 (by omega)]
end Plain

theorem hi27 : Tryf.prog.info? 27 = some Tryf.t27 := by kernel_rfl
theorem mems_cells27 {w : World} {base : Nat} {a : Option Addr} {ms : List Mb} {c : Nat} (h : w.ownsRow base 27 3 (.slice a ms.length c) ms.length (mcells ms)) (h0 : 0 < ms.length) :
    ∃ g, a = some ⟨g, 0, none⟩ ∧ base ≤ g ∧ g < w.heap.size ∧ MemCells w g ms := by
  obtain ⟨g, cap, hv, hl1, hl2⟩ := h.form h0
  cases hv
  refine ⟨g, rfl, hl1, hl2, fun i hi => ?_⟩
  have hg := mcells_get ms i hi
  have hc := h.cells (g := g) rfl
  have e : ∀ j, (⟨g, 0, none⟩ : Addr).add j = ⟨g, j, none⟩ := fun j => by rw [Addr.add_lit]; simp
  exact ⟨(e _) ▸ hc _ _ hg.1, (e _) ▸ hc _ _ hg.2.1, (e _) ▸ hc _ _ hg.2.2⟩

/-- What modelMembers answers. -/
def MMPost (lo : Nat) (w' : World) (o : Option (List Mb)) (e : Ending) : Prop :=
  match o with
  | none => e = .returned (.tuple #[.slice none 0 0, .bool false])
  | some ms => ∃ g c, e = .returned (.tuple #[.slice (some ⟨g, 0, none⟩) ms.length c, .bool true]) ∧ lo ≤ g ∧ g < w'.heap.size ∧ MemCells w' g ms

/-- The reading loop's relation. -/
def MMRel (w : World) (D : List Int) (s4 s5 : Value) (wr : World) : Prop :=
  ∃ (p : Nat) (ms : List Mb) (am : Option Addr) (cm : Nat), p ≤ D.length ∧ s5 = .int .i64 p ∧ s4 = .slice am ms.length cm ∧ wr.ownsRow w.heap.size 27 3 (.slice am ms.length cm) ms.length (mcells ms) ∧ 4 * ms.length ≤ p ∧ (∀ m ∈ ms, Small m) ∧ Below w.heap.size w wr ∧ parse D = (parse (D.drop p)).map (ms ++ ·)

/-- The set's look-up, guarded. -/
theorem wpList_set_lookup_g (w : World) {ops : Array Oper} {rest : List Oper} {o : Oper} {a : Act} {Q : Exit → Act → World → Prop}
    (hg : Region.wanted o (yielded ops a.tmps) = true) (m x : Operand) (hop : o.op = Op.lookup 61 m x false) (b n : Nat) (seen : List (List UInt8))
    (hm : a.eval m = .map (some b)) (hown : SetMap w b n seen) (s : ByteArray) (hx : a.eval x = .string s) (hs : s.size ≤ maxLen) (r : Bool) (hr : decide (s.data.toList ∈ seen) = r)
    (hK : wpList Tryf.prog ops Q rest (a.put o.dst (.bool r)) w) :
    wpList Tryf.prog ops Q (o :: rest) a w := by
  subst hr
  refine BigFrame.wpList_want hg fun K' hK' => ?_
  obtain ⟨D, _, h2, h3⟩ := hown
  obtain ⟨v, ps, hrun, hv⟩ := h2.lookup law9 Tryf.underlying61 (zero4 w) (plainElem_bool Tryf.underlying4 false) (Go.WideMaps.keyOf_string_mk Tryf.underlying9 hs)
  rw [h3] at hv
  obtain ⟨c, rfl, hc⟩ := plainElem_bool_inv hv
  simp only [Prod.mk.injEq, DataW.lit.injEq, Lit.bool.injEq] at hc
  unfold Oper.wp
  have hc1 : c = decide (s.data.toList ∈ seen) := hc.1.symm
  subst hc1
  simp [execOp, hop, hm, hx, hrun, Result.andThen]
  exact hK' _ _ (by simpa using hK)

theorem parse_cut_none {D : List Int} {p : Nat} {ms : List Mb} (hpar : parse D = (parse (D.drop p)).map (ms ++ ·)) (hp : p < D.length) (h : cutM (D.drop p) = none) : members D = none := by
  unfold members
  rw [hpar, parse_none (by intro e; have := congrArg List.length e; simp at this; omega) h]
  rfl
theorem parse_cut_some {D r : List Int} {p : Nat} {ms : List Mb} {m : Mb} (hpar : parse D = (parse (D.drop p)).map (ms ++ ·)) (h : cutM (D.drop p) = some (m, r)) : parse D = (parse r).map ((ms ++ [m]) ++ ·) := by
  rw [hpar, parse_some h]
  cases parse r <;> simp

/-- The slice of c behind q. -/
theorem where_ (b off c q : Nat) : ∃ o1 : Nat, (if c = q then some (⟨b, off, none⟩ : Addr) else some ⟨b, off + q, none⟩) = some ⟨b, o1, none⟩ ∧ (c ≠ q → o1 = off + q) := by
  by_cases e : c = q
  · exact ⟨off, by rw [if_pos e], fun h => absurd e h⟩
  · exact ⟨off + q, by rw [if_neg e], fun _ => rfl⟩
theorem ByteCells.cut {w : World} {b off : Nat} {D : List Int} (h : ByteCells w b off D) {c q n o1 : Nat} (hc : D.length ≤ c) (hq : q + n ≤ D.length) (ho : c ≠ q → o1 = off + q) : ByteCells w b o1 ((D.drop q).take n) := fun i hi => by
  have hi2 : i < n := by rw [List.length_take] at hi; omega
  have hne : c ≠ q := by omega
  rw [ho hne]
  have := h (q + i) (by omega)
  rw [Nat.add_assoc, this]
  simp [List.getD, hi2, List.getElem?_drop]

end Go.Proofs.Qxb6613017aFmt
