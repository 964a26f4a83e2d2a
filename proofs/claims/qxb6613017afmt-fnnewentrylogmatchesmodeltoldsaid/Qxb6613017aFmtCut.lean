/- Seat b6613017aF: the walk of CutMember. -/
import Derived.Test.Qxb6613017aFmtCutL
import Derived.Deep.DeepMust
import Derived.Deep.RegionHeld3
import Derived.Laws.CopyOwn
namespace Go.Proofs.Qxb6613017aFmt
open Go.RowKit Plain

/-- What CutMember answers: a member and the rest, or an error that lies in a new block. -/
def MPost (w w' : World) (b c : Nat) (o : Option (Mb × List Int)) (e : Ending) : Prop :=
  match o with
  | none => ∃ g s, e = .returned (.tuple #[.agg #[.string ⟨#[]⟩, .string ⟨#[]⟩, .bool false], .slice none 0 0, .iface 77 (.pointer (some ⟨g, 0, none⟩))]) ∧ w.heap.size ≤ g ∧ g < w'.heap.size ∧ w'.cell? ⟨g, 0, none⟩ = some (.string s)
  | some (m, r) => ∃ o2 c2, e = .returned (.tuple #[.agg #[.string m.id, .string m.addr, .bool m.voter], .slice (some ⟨b, o2, none⟩) r.length c2, .nilIface]) ∧ ByteCells w b o2 r ∧ r.length ≤ c2 ∧ c2 ≤ c

abbrev Z52 : Obj := .cells #[.string ⟨#[]⟩, .string ⟨#[]⟩, .bool false] 52
def R1 (w : World) (b c : Nat) (o : Option (List Int × List Int)) (s6 s7 s8 : Value) (wx : World) : Prop :=
  (∃ m, wx = (w.alloc Z52).drewN m) ∧ match o with
  | none => s6 = .slice none 0 0 ∧ s7 = .slice none 0 0 ∧ s8 = .bool false
  | some (f, r) => ∃ o1 c1 o2 c2, s6 = .slice (some ⟨b, o1, none⟩) f.length c1 ∧ s7 = .slice (some ⟨b, o2, none⟩) r.length c2 ∧ s8 = .bool true ∧ ByteCells w b o1 f ∧ ByteCells w b o2 r ∧ r.length ≤ c2 ∧ c2 ≤ c

theorem ByteCells.below {w w' : World} {B b off : Nat} {D : List Int} (h : ByteCells w b off D) (hb : Below B w w') (hB : b < B) : ByteCells w' b off D := fun i hi => (hb.cell (p := ⟨b, off + i, none⟩) hB).trans (h i hi)
theorem ByteCells.back {w w' : World} {B b off : Nat} {D : List Int} (h : ByteCells w' b off D) (hb : Below B w w') (hB : b < B) : ByteCells w b off D := fun i hi => ((hb.cell (p := ⟨b, off + i, none⟩) hB).symm).trans (h i hi)

theorem below_ret (w : World) (m : Nat) (v0 v1 v2 : Value) :
    Below w.heap.size w (((((w.alloc Z52).drewN m).setCell ⟨w.heap.size, 0, none⟩ v0).setCell ⟨w.heap.size, 1, none⟩ v1).setCell ⟨w.heap.size, 2, none⟩ v2) :=
  (((below_drewN ((Below.refl _ w).alloc (Nat.le_refl _) Z52) m).setCell (Nat.le_refl _) v0).setCell (Nat.le_refl _) v1).setCell (Nat.le_refl _) v2

set_option maxRecDepth 20000 in
set_option maxHeartbeats 1000000 in
theorem cutMember_any (b off n c : Nat) (k : Int) (D : List Int) (w : World) (hb : b < w.heap.size) (hn : D.length + 1 = n) (hc : n ≤ c) (hm : c ≤ 4611686018427387904) (hD : Byte (k :: D)) (hcell : ByteCells w b off (k :: D)) :
    Calls Tryf.prog 20 #[.slice (some ⟨b, off, none⟩) n c] w fun e w' => Below w.heap.size w w' ∧ MPost w w' b c (cutM (k :: D)) e := by
  have HC : Hid (ByteCells w b off (k :: D)) := hcell
  have HD : Hid (Byte D) := fun x hx => hD x (List.mem_cons_of_mem _ hx)
  have hk := hD k List.mem_cons_self
  have hk0 : w.cell? ⟨b, off, none⟩ = some (.int .u8 k) := by simpa using hcell 0 (by simp)
  have htail : ByteCells w b (off + 1) D := by simpa using hcell.drop 1
  have HTail : Hid (ByteCells w b (off + 1) D) := htail
  clear htail
  clear hcell hD
  go_enter Tryf.func20, Tryf.ntmps20
  by_cases hkind : k ≠ 1 ∧ k ≠ 2
  · have hcut : cutM (k :: D) = none := by simp [cutM, hkind]
    have HCut : Hid (cutM (k :: D) = none) := hcut
    clear hcut
    have hk1 : (k != 1) = true := by simpa using hkind.1
    have hk2 : (k != 2) = true := by simpa using hkind.2
    clear hkind
    go_wp2_with (go_at_call 19; go_must (refine (errorfKind k _ _ (by go_simp)).mono ?_))
    rintro e w1 ⟨rfl, s, rfl⟩
    go_wp2
    refine bodyPost_ret (v := .tuple #[.agg #[.string ⟨#[]⟩, .string ⟨#[]⟩, .bool false], .slice none 0 0, .iface 77 (.pointer (some ⟨w.heap.size + 1 + 1, 0, none⟩))]) (by simp [results, Tryf.results20, go_sem]) rfl ?_
    rw [HCut.out]
    exact ⟨((((Below.refl _ w).alloc (Nat.le_refl _) _).alloc (by simp) _).alloc (by simp; omega) _).drew, w.heap.size + 1 + 1, s, rfl, by omega, by simp, by go_simp⟩
  · have hk12 : k = 1 ∨ k = 2 := by
      simp only [ne_eq, Classical.not_and_iff_not_or_not, Classical.not_not] at hkind
      exact hkind
    have HKind : Hid (¬ (k ≠ 1 ∧ k ≠ 2)) := hkind
    clear hkind
    go_upto_region 4 with fail
    go_cut [23] (fun s wx => s = .bool false ∧ wx = w.alloc Z52)
    case first =>
      rcases hk12 with rfl | rfl
      · go_wp2_with fail
        go_meet
        case rel => exact ⟨rfl, rfl⟩
      · go_wp2_with fail
        go_meet
        case rel => exact ⟨rfl, rfl⟩
    case rest =>
    obtain ⟨rfl, rfl⟩ := hcut
    go_upto_region 6 with fail
    go_cut [6, 7, 8] (fun s6 s7 s8 wx => R1 w b c (cutL 1 D) s6 s7 s8 wx)
    case first =>
      by_cases hc1 : c = 1
      · obtain rfl : D = [] := List.eq_nil_of_length_eq_zero (by omega)
        subst hc1
        obtain rfl : n = 1 := by simpa using hn.symm
        go_wp2_with (go_at_call 24; go_must (refine (cutLengthed_any b off 0 0 1 [] _ rfl (Nat.le_refl _) (by omega) (by intro x hx; cases hx) (by intro i hi; cases hi)).mono ?_))
        rintro e w1 ⟨⟨m, rfl⟩, hp⟩
        obtain rfl : e = _ := hp
        go_wp2_with fail
        go_meet
        case rel => exact ⟨⟨m, rfl⟩, rfl, rfl, rfl⟩
      · go_wp2_with (go_at_call 24; go_must (refine (cutLengthed_any b (off + 1) (n - 1) (c - 1) 1 D _ (by omega) (by omega) (by omega) HD.out (HTail.out.below ((Below.refl _ w).alloc (Nat.le_refl _) Z52) hb)).mono ?_))
        rintro e w1 ⟨⟨m, rfl⟩, hp⟩
        have HP : Hid (LPost (w.alloc Z52) b (c - 1) (cutL 1 D) e) := hp
        clear hp
        cases h1 : cutL 1 D with
        | none =>
          have hp := HP.out
          rw [h1] at hp
          obtain rfl : e = _ := hp
          clear HP
          go_wp2_with fail
          go_meet
          case rel => exact ⟨⟨m, rfl⟩, by rw [h1]; exact ⟨rfl, rfl, rfl⟩⟩
        | some fr =>
          obtain ⟨f, r⟩ := fr
          have hp := HP.out
          rw [h1] at hp
          obtain ⟨o1, c1, o2, c2, rfl, hf, hr, h2, h3⟩ := hp
          have HF : Hid (ByteCells w b o1 f) := hf.back ((Below.refl _ w).alloc (Nat.le_refl _) Z52) hb
          have HR : Hid (ByteCells w b o2 r) := hr.back ((Below.refl _ w).alloc (Nat.le_refl _) Z52) hb
          clear HP hf hr
          go_wp2_with fail
          go_meet
          case rel => exact ⟨⟨m, rfl⟩, by rw [h1]; exact ⟨o1, c1, o2, c2, rfl, rfl, rfl, HF.out, HR.out, h2, by omega⟩⟩
    case rest =>
      obtain ⟨⟨m, rfl⟩, hr⟩ := hcut
      have HW : Hid (Below w.heap.size w ((w.alloc Z52).drewN m)) := below_drewN ((Below.refl _ w).alloc (Nat.le_refl _) Z52) m
      cases h1 : cutL 1 D with
      | none =>
        rw [h1] at hr
        obtain ⟨rfl, rfl, rfl⟩ := hr
        have HCut : Hid (cutM (k :: D) = none) := by
          show cutM (k :: D) = none
          simp only [cutM, if_neg HKind.out, h1]
        go_wp2_with (go_at_call 23; go_must (refine (errorsNew _ _).mono ?_))
        rintro e w1 ⟨rfl, rfl⟩
        go_wp2
        refine bodyPost_ret (v := .tuple #[.agg #[.string ⟨#[]⟩, .string ⟨#[]⟩, .bool false], .slice none 0 0, .iface 77 (.pointer (some ⟨w.heap.size + 1, 0, none⟩))]) (by simp [results, Tryf.results20, go_sem]) rfl ?_
        rw [HCut.out]
        exact ⟨(below_ret w m _ _ _).alloc (by simp) _, w.heap.size + 1, ⟨#[99, 117, 116, 32, 115, 104, 111, 114, 116]⟩, rfl, by omega, by simp, by go_simp⟩
      | some fr =>
        obtain ⟨f, r⟩ := fr
        rw [h1] at hr
        obtain ⟨o1, c1, o2, c2, rfl, rfl, rfl, hf, hr, h2, h3⟩ := hr
        have HF : Hid (ByteCells w b o1 f) := hf
        have HR : Hid (ByteCells w b o2 r) := hr
        have HBy : Hid (Byte r) := (cutL_byte HD.out h1).2.1
        clear hf hr
        go_wp2_with (go_at_call 24; go_must (refine (cutLengthed_any b o2 r.length c2 2 r _ rfl h2 (by omega) HBy.out (HR.out.below HW.out hb)).mono ?_))
        rintro e w1 ⟨⟨m2, rfl⟩, hp⟩
        have HP : Hid (LPost ((w.alloc Z52).drewN m) b c2 (cutL 2 r) e) := hp
        have HW2 : Hid (Below w.heap.size w ((w.alloc Z52).drewN (m + m2))) := below_drewN ((Below.refl _ w).alloc (Nat.le_refl _) Z52) (m + m2)
        clear hp
        cases h4 : cutL 2 r with
        | none =>
          have hp := HP.out
          rw [h4] at hp
          obtain rfl : e = _ := hp
          clear HP
          have HCut : Hid (cutM (k :: D) = none) := by
            show cutM (k :: D) = none
            simp only [cutM, if_neg HKind.out, h1, h4]
          go_wp2_with (go_at_call 23; go_must (refine (errorsNew _ _).mono ?_))
          rintro e w1 ⟨rfl, rfl⟩
          go_wp2
          refine bodyPost_ret (v := .tuple #[.agg #[.string ⟨#[]⟩, .string ⟨#[]⟩, .bool false], .slice none 0 0, .iface 77 (.pointer (some ⟨w.heap.size + 1, 0, none⟩))]) (by simp [results, Tryf.results20, go_sem]) rfl ?_
          rw [HCut.out]
          exact ⟨(below_ret w (m + m2) _ _ _).alloc (by simp) _, w.heap.size + 1, ⟨#[99, 117, 116, 32, 115, 104, 111, 114, 116]⟩, rfl, by omega, by simp, by go_simp⟩
        | some fr =>
          obtain ⟨f2, r2⟩ := fr
          have hp := HP.out
          rw [h4] at hp
          obtain ⟨p1, d1, p2, d2, rfl, hf2, hr2, h5, h6⟩ := hp
          have HF2 : Hid (ByteCells w b p1 f2) := hf2.back HW.out hb
          have HR2 : Hid (ByteCells w b p2 r2) := hr2.back HW.out hb
          clear HP hf2 hr2
          have HCut : Hid (cutM (k :: D) = some (⟨strOfNums f, strOfNums f2, k == 1⟩, r2)) := by
            show cutM (k :: D) = _
            simp only [cutM, if_neg HKind.out, h1, h4]
          have kc1 := run_convert_bytes_arg (P := Tryf.prog) ((w.alloc Z52).drewN (m + m2)) 28 5 Tryf.underlying28 Tryf.underlying5 b o1 f.length c1 f rfl (HF.out.below HW2.out hb) 9 Tryf.underlying9
          have kc2 := run_convert_bytes_arg (P := Tryf.prog) ((w.alloc Z52).drewN (m + m2)) 28 5 Tryf.underlying28 Tryf.underlying5 b p1 f2.length d1 f2 rfl (HF2.out.below HW2.out hb) 9 Tryf.underlying9
          go_wp2
          refine bodyPost_ret (v := .tuple #[.agg #[.string (strOfNums f), .string (strOfNums f2), .bool (k == 1)], .slice (some ⟨b, p2, none⟩) r2.length d2, .nilIface]) (by simp [results, Tryf.results20, go_sem]) rfl ?_
          rw [HCut.out]
          exact ⟨below_ret w (m + m2) _ _ _, p2, d2, rfl, HR2.out, h5, by omega⟩

end Go.Proofs.Qxb6613017aFmt
