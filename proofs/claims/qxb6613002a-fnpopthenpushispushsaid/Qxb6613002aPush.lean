/- Seat b6613002a: the walk of (*Tree).push. -/
import Derived.Test.Qxb6613002aParts
import Derived.WalkLawsBesides
import Derived.Deep.DeepCutAuto
namespace Go.Proofs.Qxb6613002a
open Go.RowKit

theorem info27 : (Try.prog.info? 27).map (fun i => (i.zero, i.size, i.bytes)) = some (some (.pointer none), 1, 8) := by kernel_rfl
theorem info9 : (Try.prog.info? 9).map (fun i => (i.zero, i.size, i.bytes)) = some (some (.string ⟨#[]⟩), 1, 16) := by kernel_rfl
theorem info21 : (Try.prog.info? 21).map (fun i => (i.zero, i.size, i.bytes)) = some (some (.int .i32 0), 1, 4) := by kernel_rfl

/-- What push adds to the six rows. -/
def nws (nm : Option Addr) (s : ByteArray) (par : Int) : Nat → Value
  | 0 => .pointer nm | 1 => .string s | 2 => .int .i32 par | 3 => .int .i32 (-1) | 4 => .int .i32 (-1) | _ => .int .i32 0

set_option maxRecDepth 20000 in
set_option maxHeartbeats 400000 in
theorem push_any (w : World) (p : Nat) (g c : Nat → Nat) (xs : Nat → List Value) (n : Nat) (nm : Option Addr) (s : ByteArray) (par : Int) (hT : Tree w p g c xs)
    (hn : ∀ k, k < 6 → (xs k).length = n) (hb : n ≤ 1048576) :
    Calls Try.prog 13 #[.pointer (some ⟨p, 0, none⟩), .pointer nm, .string s, .int .i32 par] w fun e w' =>
      e = .returned (.int .i32 n) ∧ Rel w p g xs (nws nm s par) 6 w' := by
  obtain ⟨i27, hi27, hz27, hs27, hb27⟩ := info_parts info27
  obtain ⟨i9, hi9, hz9, hs9, hb9⟩ := info_parts info9
  obtain ⟨i21, hi21, hz21, hs21, hb21⟩ := info_parts info21
  have hnil : ∀ (w : World) (a : Option Addr) (x y x' y' : Nat), (binOp .neq 23 (.slice a x y) (.slice none x' y')).run Try.prog w = .ok (.bool !a.isNone) w := fun w a x y x' y' => run_neq_slice_nil_any w _ _ a x y x' y' Try.underlying23
  have h0 : Rel w p g xs (nws nm s par) 0 w := Rel.start _ hT
  have HN : Hid (∀ k, k < 6 → (xs k).length = n) := hn
  clear hT hn
  go_enter Try.func13, Try.ntmps13
  go_upto_region 1 with fail
  go_cut [] (fun wx => Rel w p g xs (nws nm s par) 1 wx)
  case first =>
    obtain ⟨g1, c1, hT, hO, hN⟩ := h0
    have hnk := HN.out 0 (by omega)
    obtain ⟨hc, hown⟩ := hT.at_k (by omega) hnk
    go_wp2_with (at_builtin; go_must (refine wpList_append_lies _ rfl _ _ 26 rfl 0 27 i27 (.pointer none) 1 8 Try.underlying26 hi27 hz27 hs27 hb27 rfl (by decide) _ n _ rfl (hown.alloc _) _ 1 1 [.pointer nm] rfl rfl (cell_one_new _ _ _) (by simp [Value.oneCell']) (by decide) (by unfold maxLen; omega) (by omega) (Nat.zero_le _) (w.heap.size + 1) (by simp) ?_))
    intro g' cap' w1 hown1 hgrow hat hlt
    obtain ⟨hk1, hf1⟩ := hT.hdr_kept (k := 0) (by omega) hgrow
    have hc1 := (hk1 0).trans hc
    have hfr := hf1 0
    have R : Hid (Rel w p g xs (nws nm s par) (0 + 1) (w1.setCell ⟨p, 0, none⟩ (.slice (some ⟨g', 0, none⟩) (n + 1) cap'))) := Rel.next' (by omega) hnk hT hO hN hown1 hgrow hat
    clear hk1 hf1 hown1 hgrow hat hlt hT hO hN hown hc hnk
    go_wp2
    go_meet
    case rel => exact R.out
  case rest =>
    go_upto_region 2 with fail
    go_cut [] (fun wx => Rel w p g xs (nws nm s par) 2 wx)
    case first =>
      obtain ⟨g1, c1, hT, hO, hN⟩ := hcut
      have hnk := HN.out 1 (by omega)
      obtain ⟨hc, hown⟩ := hT.at_k (by omega) hnk
      go_wp2_with (at_builtin; go_must (refine wpList_append_lies _ rfl _ _ 22 rfl 0 9 i9 (.string ⟨#[]⟩) 1 16 Try.underlying22 hi9 hz9 hs9 hb9 rfl (by decide) _ n _ rfl (hown.alloc _) _ 1 1 [.string s] rfl rfl (cell_one_new _ _ _) (by simp [Value.oneCell']) (by decide) (by unfold maxLen; omega) (by omega) (Nat.zero_le _) (wc.heap.size + 1) (by simp) ?_))
      intro g' cap' w1 hown1 hgrow hat hlt
      obtain ⟨hk1, hf1⟩ := hT.hdr_kept (k := 1) (by omega) hgrow
      have hc1 := (hk1 1).trans hc
      have hfr := hf1 1
      have R : Hid (Rel w p g xs (nws nm s par) (1 + 1) (w1.setCell ⟨p, 1, none⟩ (.slice (some ⟨g', 0, none⟩) (n + 1) cap'))) := Rel.next' (by omega) hnk hT hO hN hown1 hgrow hat
      clear hk1 hf1 hown1 hgrow hat hlt hT hO hN hown hc hnk
      go_wp2
      go_meet
      case rel => exact R.out
    case rest =>
      go_upto_region 3 with fail
      go_cut [] (fun wx => Rel w p g xs (nws nm s par) 3 wx)
      case first =>
        obtain ⟨g1, c1, hT, hO, hN⟩ := hcut
        have hnk := HN.out 2 (by omega)
        obtain ⟨hc, hown⟩ := hT.at_k (by omega) hnk
        go_wp2_with (at_builtin; go_must (refine wpList_append_lies _ rfl _ _ 23 rfl 0 21 i21 (.int .i32 0) 1 4 Try.underlying23 hi21 hz21 hs21 hb21 rfl (by decide) _ n _ rfl (hown.alloc _) _ 1 1 [.int .i32 par] rfl rfl (cell_one_new _ _ _) (by simp [Value.oneCell']) (by decide) (by unfold maxLen; omega) (by omega) (Nat.zero_le _) (wc.heap.size + 1) (by simp) ?_))
        intro g' cap' w1 hown1 hgrow hat hlt
        obtain ⟨hk1, hf1⟩ := hT.hdr_kept (k := 2) (by omega) hgrow
        have hc1 := (hk1 2).trans hc
        have hfr := hf1 2
        have R : Hid (Rel w p g xs (nws nm s par) (2 + 1) (w1.setCell ⟨p, 2, none⟩ (.slice (some ⟨g', 0, none⟩) (n + 1) cap'))) := Rel.next' (by omega) hnk hT hO hN hown1 hgrow hat
        clear hk1 hf1 hown1 hgrow hat hlt hT hO hN hown hc hnk
        go_wp2
        go_meet
        case rel => exact R.out
      case rest =>
        go_upto_region 4 with fail
        go_cut [] (fun wx => Rel w p g xs (nws nm s par) 4 wx)
        case first =>
          obtain ⟨g1, c1, hT, hO, hN⟩ := hcut
          have hnk := HN.out 3 (by omega)
          obtain ⟨hc, hown⟩ := hT.at_k (by omega) hnk
          go_wp2_with (at_builtin; go_must (refine wpList_append_lies _ rfl _ _ 23 rfl 0 21 i21 (.int .i32 0) 1 4 Try.underlying23 hi21 hz21 hs21 hb21 rfl (by decide) _ n _ rfl (hown.alloc _) _ 1 1 [.int .i32 (-1)] rfl rfl (cell_one_new _ _ _) (by simp [Value.oneCell']) (by decide) (by unfold maxLen; omega) (by omega) (Nat.zero_le _) (wc.heap.size + 1) (by simp) ?_))
          intro g' cap' w1 hown1 hgrow hat hlt
          obtain ⟨hk1, hf1⟩ := hT.hdr_kept (k := 3) (by omega) hgrow
          have hc1 := (hk1 3).trans hc
          have hfr := hf1 3
          have R : Hid (Rel w p g xs (nws nm s par) (3 + 1) (w1.setCell ⟨p, 3, none⟩ (.slice (some ⟨g', 0, none⟩) (n + 1) cap'))) := Rel.next' (by omega) hnk hT hO hN hown1 hgrow hat
          clear hk1 hf1 hown1 hgrow hat hlt hT hO hN hown hc hnk
          go_wp2
          go_meet
          case rel => exact R.out
        case rest =>
          go_upto_region 5 with fail
          go_cut [] (fun wx => Rel w p g xs (nws nm s par) 5 wx)
          case first =>
            obtain ⟨g1, c1, hT, hO, hN⟩ := hcut
            have hnk := HN.out 4 (by omega)
            obtain ⟨hc, hown⟩ := hT.at_k (by omega) hnk
            go_wp2_with (at_builtin; go_must (refine wpList_append_lies _ rfl _ _ 23 rfl 0 21 i21 (.int .i32 0) 1 4 Try.underlying23 hi21 hz21 hs21 hb21 rfl (by decide) _ n _ rfl (hown.alloc _) _ 1 1 [.int .i32 (-1)] rfl rfl (cell_one_new _ _ _) (by simp [Value.oneCell']) (by decide) (by unfold maxLen; omega) (by omega) (Nat.zero_le _) (wc.heap.size + 1) (by simp) ?_))
            intro g' cap' w1 hown1 hgrow hat hlt
            obtain ⟨hk1, hf1⟩ := hT.hdr_kept (k := 4) (by omega) hgrow
            have hc1 := (hk1 4).trans hc
            have hfr := hf1 4
            have R : Hid (Rel w p g xs (nws nm s par) (4 + 1) (w1.setCell ⟨p, 4, none⟩ (.slice (some ⟨g', 0, none⟩) (n + 1) cap'))) := Rel.next' (by omega) hnk hT hO hN hown1 hgrow hat
            clear hk1 hf1 hown1 hgrow hat hlt hT hO hN hown hc hnk
            go_wp2
            go_meet
            case rel => exact R.out
          case rest =>
            go_upto_region 6 with fail
            go_cut [] (fun wx => Rel w p g xs (nws nm s par) 6 wx)
            case first =>
              obtain ⟨g1, c1, hT, hO, hN⟩ := hcut
              have hnk := HN.out 5 (by omega)
              obtain ⟨hc, hown⟩ := hT.at_k (by omega) hnk
              go_wp2_with (at_builtin; go_must (refine wpList_append_lies _ rfl _ _ 23 rfl 0 21 i21 (.int .i32 0) 1 4 Try.underlying23 hi21 hz21 hs21 hb21 rfl (by decide) _ n _ rfl (hown.alloc _) _ 1 1 [.int .i32 0] rfl rfl (cell_one_new _ _ _) (by simp [Value.oneCell']) (by decide) (by unfold maxLen; omega) (by omega) (Nat.zero_le _) (wc.heap.size + 1) (by simp) ?_))
              intro g' cap' w1 hown1 hgrow hat hlt
              obtain ⟨hk1, hf1⟩ := hT.hdr_kept (k := 5) (by omega) hgrow
              have hc1 := (hk1 5).trans hc
              have hfr := hf1 5
              have R : Hid (Rel w p g xs (nws nm s par) (5 + 1) (w1.setCell ⟨p, 5, none⟩ (.slice (some ⟨g', 0, none⟩) (n + 1) cap'))) := Rel.next' (by omega) hnk hT hO hN hown1 hgrow hat
              clear hk1 hf1 hown1 hgrow hat hlt hT hO hN hown hc hnk
              go_wp2
              go_meet
              case rel => exact R.out
            case rest =>
              obtain ⟨g1, c1, hT, hO, hN⟩ := hcut
              have R : Hid (Rel w p g xs (nws nm s par) 6 wc) := ⟨g1, c1, hT, hO, hN⟩
              have hc6 := hT.cell6
              have hc0 := hT.cell 0 (by omega)
              have hl : (XS xs (nws nm s par) 6 0).length = n + 1 := by simp [XS, HN.out 0 (by omega)]
              rw [hl] at hc0
              clear hT hO hN hl
              go_wp2
              go_ret
              exact ⟨by simp, R.out⟩

end Go.Proofs.Qxb6613002a
