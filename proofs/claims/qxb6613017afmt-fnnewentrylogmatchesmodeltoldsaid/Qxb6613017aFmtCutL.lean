/- Seat b6613017aF: the walk of cutLengthed. -/
import Derived.Test.Qxb6613017aFmtStops
import Derived.Test.Qxb6613017aFmtPlain
import Derived.Deep.DeepCutAuto
import Derived.Deep.QuietTactic
import Derived.BigQuiet
import Derived.Laws.Bits64b
import Derived.WalkLawsBesides
namespace Go.Proofs.Qxb6613017aFmt
open Go.RowKit Plain

/-- The bytes D lie in w from ⟨b, off⟩ on. -/
def ByteCells (w : World) (b off : Nat) (D : List Int) : Prop := ∀ i, i < D.length → w.cell? ⟨b, off + i, none⟩ = some (.int .u8 (D.getD i 0))

theorem ByteCells.sub {w : World} {b off : Nat} {D : List Int} (h : ByteCells w b off D) (s n : Nat) : ByteCells w b (off + s) ((D.drop s).take n) := by
  intro i hi
  have h1 : s + i < D.length := by rw [List.length_take, List.length_drop] at hi; omega
  have h2 : i < n := by rw [List.length_take] at hi; omega
  have := h (s + i) h1
  rw [← Nat.add_assoc] at this
  rw [this]
  congr 2
  simp [List.getD, h2]
theorem ByteCells.drop {w : World} {b off : Nat} {D : List Int} (h : ByteCells w b off D) (s : Nat) : ByteCells w b (off + s) (D.drop s) := by
  have := h.sub s (D.drop s).length
  rwa [List.take_length] at this

theorem or_byte (a b : Nat) (ha : a < 65536) (hb : b < 256) : bits .or .i64 ((a : Int) * 256) (b : Int) = ((a * 256 + b : Nat) : Int) := by
  have h1 : (BitVec.ofInt 64 ((a : Int) * 256)).toNat = a * 256 := by
    rw [show (a : Int) * 256 = ((a * 256 : Nat) : Int) by omega, BitVec.ofInt_natCast, BitVec.toNat_ofNat]; exact Nat.mod_eq_of_lt (by omega)
  have h2 : (BitVec.ofInt 64 (b : Int)).toNat = b := by
    rw [BitVec.ofInt_natCast, BitVec.toNat_ofNat]; exact Nat.mod_eq_of_lt (by omega)
  show IntKind.i64.wrap ((BitVec.ofInt 64 ((a : Int) * 256) ||| BitVec.ofInt 64 (b : Int)).toNat : Int) = _
  rw [BitVec.toNat_or, h1, h2, show a * 256 = a <<< 8 by rw [Nat.shiftLeft_eq], ← Nat.shiftLeft_add_eq_or_of_lt (by omega : b < 2 ^ 8), Nat.shiftLeft_eq]
  rw [IntKind.wrap_i64]
  omega

/-- What cutLengthed answers. -/
def LPost (w : World) (b c : Nat) (o : Option (List Int × List Int)) (e : Ending) : Prop :=
  match o with
  | none => e = .returned (.tuple #[.slice none 0 0, .slice none 0 0, .bool false])
  | some (f, r) => ∃ o1 c1 o2 c2, e = .returned (.tuple #[.slice (some ⟨b, o1, none⟩) f.length c1, .slice (some ⟨b, o2, none⟩) r.length c2, .bool true]) ∧ ByteCells w b o1 f ∧ ByteCells w b o2 r ∧ r.length ≤ c2 ∧ c2 ≤ c

set_option maxRecDepth 20000 in
set_option maxHeartbeats 1000000 in
theorem cutLengthed_any (b off n c s : Nat) (D : List Int) (w : World) (hn : D.length = n) (hc : n ≤ c) (hs : s ≤ 2) (hD : Byte D) (hcell : ByteCells w b off D) :
    Calls Tryf.prog 24 #[.slice (some ⟨b, off, none⟩) n c, .int .i64 s] w fun e w' =>
      (∃ m, w' = w.drewN m) ∧ LPost w b c (cutL s D) e := by
  have HC : Hid (ByteCells w b off D) := hcell
  have HD : Hid (Byte D) := hD
  clear hcell hD
  go_enter Tryf.func24, Tryf.ntmps24
  by_cases hlt : n < s
  · go_wp2
    go_ret3
    refine ⟨⟨0, rfl⟩, ?_⟩
    rw [show cutL s D = none by unfold cutL; rw [if_pos (by omega)]]
    rfl
  go_wp2_with fail
  go_loopw [7, 9, 18] (fun n7 _ i wr => ∃ k : Nat, k ≤ s ∧ n7 = .int .i64 (num D k) ∧ i = .int .i64 k ∧ wr = w) (fun _ _ i _ => s - (intOf i).toNat)
  case atStart => exact ⟨0, Nat.zero_le _, rfl, rfl, rfl⟩
  case round =>
    obtain ⟨k, hk, rfl, rfl, rfl⟩ := hrel
    by_cases hks : k < s
    · have cell := HC.out k (by omega)
      obtain ⟨x, hx⟩ : ∃ x : Nat, D.getD k 0 = (x : Int) := ⟨(D.getD k 0).toNat, by have := HD.out.getD k; omega⟩
      have hx256 : x < 256 := by have := HD.out.getD k; omega
      have hnum : num D k < 65536 := Nat.lt_of_lt_of_le (num_lt HD.out k) (Nat.le_trans (Nat.pow_le_pow_right (by omega) (by omega : k ≤ 2)) (by omega))
      rw [hx] at cell
      have hor := or_byte (num D k) x hnum hx256
      have hstep : num D (k + 1) = num D k * 256 + x := by rw [num, hx]; rfl
      have HStep : Hid (num D (k + 1) = num D k * 256 + x) := hstep
      have HX : Hid (D.getD k 0 = (x : Int)) := hx
      clear hstep hx
      go_wp2
      go_roundw
      case rel => exact ⟨k + 1, by omega, by rw [HStep.out]; go_num, by go_num, by trivial⟩
      case measure => simp [intOf]; omega
    · obtain rfl : k = s := by omega
      have hdl : (D.drop k).length = n - k := by rw [List.length_drop, hn]
      go_upto_region 10 with fail
      obtain ⟨p, hp, hpos⟩ : ∃ p : Nat, (if c = k then some (⟨b, off, none⟩ : Addr) else some ⟨b, off + k, none⟩) = some ⟨b, p, none⟩ ∧ (c ≠ k → p = off + k) := by
        by_cases e : c = k
        · exact ⟨off, by rw [if_pos e], fun h => absurd e h⟩
        · exact ⟨off + k, by rw [if_neg e], fun _ => rfl⟩
      simp only [hp]
      have cells : ByteCells wr b p (D.drop k) := by
        by_cases e : c = k
        · intro i hi
          omega
        · rw [hpos e]
          exact HC.out.drop k
      have HR : Hid (ByteCells wr b p (D.drop k)) := cells
      clear cells hp hpos
      by_cases hbig : n - k < num D k
      · go_wp2
        go_ret3
        refine ⟨⟨0, rfl⟩, ?_⟩
        rw [show cutL k D = none by unfold cutL; rw [if_neg (by omega), if_pos (by omega)]]
        rfl
      · have hcut : cutL k D = some ((D.drop k).take (num D k), (D.drop k).drop (num D k)) := by unfold cutL; rw [if_neg (by omega), if_neg (by omega)]
        have HCut : Hid (cutL k D = some ((D.drop k).take (num D k), (D.drop k).drop (num D k))) := hcut
        have HDL : Hid ((D.drop k).length = n - k) := hdl
        clear hcut hdl
        go_wp2_with fail
        go_quiet (fail)
        obtain ⟨q, hq, hqpos⟩ : ∃ q : Nat, (if c - k = num D k then some (⟨b, p, none⟩ : Addr) else some ⟨b, p + num D k, none⟩) = some ⟨b, q, none⟩ ∧ (c - k ≠ num D k → q = p + num D k) := by
          by_cases e : c - k = num D k
          · exact ⟨p, by rw [if_pos e], fun h => absurd e h⟩
          · exact ⟨p + num D k, by rw [if_neg e], fun _ => rfl⟩
        simp only [hq]
        have HQ : Hid (c - k ≠ num D k → q = p + num D k) := hqpos
        clear hq hqpos
        go_wp2
        go_ret3
        refine ⟨⟨_, rfl⟩, ?_⟩
        have e1 : ((D.drop k).take (num D k)).length = num D k := by rw [List.length_take, HDL.out]; omega
        have e2 : ((D.drop k).drop (num D k)).length = n - k - num D k := by rw [List.length_drop, HDL.out]
        rw [HCut.out]
        refine ⟨p, c - k, q, c - k - num D k, ?_, ?_, ?_, by omega, by omega⟩
        · rw [e1, e2]; rfl
        · have := HR.out.sub 0 (num D k)
          simpa using this
        · by_cases e : c - k = num D k
          · intro i hi
            omega
          · rw [HQ.out e]
            exact HR.out.drop _

end Go.Proofs.Qxb6613017aFmt
