/- Seat b6613002a: the law's own walk. -/
import Derived.Test.Qxb6613002aInv2
import Derived.Test.Qxb6613002aBytes
import Derived.Deep.RegionHeld3
import Derived.Deep.LoopGhost
namespace Go.Proofs.Qxb6613002a
open Go.RowKit

set_option maxRecDepth 20000 in
set_option maxHeartbeats 1600000 in
theorem main_walk (w : World) (sz : Int) (av ap : Option Addr) (bv ov nv cv bp op np cp : Nat) (S : Nat → ByteArray) (Z : Nat → Int) (x y : ByteArray) (xp yp : Int)
    (hsz : -9223372036854775808 ≤ sz ∧ sz ≤ 9223372036854775807)
    (hnv : nv ≤ 9223372036854775807) (hnp : np ≤ 9223372036854775807) (hx : x.size ≤ 9223372036854775807) (hy : y.size ≤ 9223372036854775807)
    (hav : 0 < nv → av = some ⟨bv, ov, none⟩ ∧ bv < w.heap.size) (hS : ∀ i, i < nv → w.cell? ⟨bv, ov + i, none⟩ = some (.string (S i)))
    (hap : 0 < np → ap = some ⟨bp, op, none⟩ ∧ bp < w.heap.size) (hZ : ∀ i, i < np → w.cell? ⟨bp, op + i, none⟩ = some (.int .i32 (Z i))) :
    Calls Try.prog 3 #[.int .i64 sz, .slice av nv cv, .slice ap np cp, .string x, .int .i32 xp, .string y, .int .i32 yp] w fun e w' => e = .returned (.bool true) ∧ Below w.heap.size w w' := by
  have HS : Hid (∀ i, i < nv → w.cell? ⟨bv, ov + i, none⟩ = some (.string (S i))) := hS
  have HZ : Hid (∀ i, i < np → w.cell? ⟨bp, op + i, none⟩ = some (.int .i32 (Z i))) := hZ
  have HV : Hid (0 < nv → av = some ⟨bv, ov, none⟩ ∧ bv < w.heap.size) := hav
  have HP : Hid (0 < np → ap = some ⟨bp, op, none⟩ ∧ bp < w.heap.size) := hap
  have C4 : Hid (Calls Try.prog 4 #[.int .i64 sz, .slice av nv cv, .slice ap np cp, .string x, .int .i32 xp, .string y, .int .i32 yp] w fun e w' => IsBool e ∧ w' = w) := bytes_any w sz av ap bv ov nv cv np cp S x y xp yp hnv (fun h => (hav h).1) hS
  clear hav hap hS hZ
  go_enter Try.func3, Try.ntmps3
  go_upto_region 14 with (first
    | (go_at_call 4; go_must (refine C4.out.mono ?_); rintro e w' ⟨⟨b, rfl⟩, hw⟩; obtain rfl := hw.symm)
    | (go_at_call 5; go_must (refine (add_any _ av bv ov nv cv S _ (by omega) (by omega) (by omega) (fun h => (HV.out h).1) HS.out).mono ?_); rintro e w' ⟨⟨q, rfl⟩, hw⟩; obtain rfl := hw.symm))
  any_goals (go_ret; exact ⟨rfl, Below.refl _ _⟩)
  have hpn : nv = np := by
    have h : ((np : Int) != (nv : Int)) = false := by assumption
    simp at h
    omega
  obtain ⟨n, hn⟩ : ∃ n : Nat, sz = n := ⟨sz.toNat, by omega⟩
  have hn2 : n ≤ 65536 := by omega
  have hv2 : nv ≤ 65536 := by omega
  clear C4
  subst hn
  subst hpn
  go_cut [16] (fun s wx => s = .slice (some ⟨w.heap.size, 0, none⟩) nv nv ∧ Names w.heap.size nv (List.replicate nv none) wx ∧ Below w.heap.size w wx)
  case first =>
    obtain ⟨i27, hi27, hz27, hs27, hb27⟩ := info_parts info27
    go_wp2_with (at_make; go_must (refine wpList_make_full _ rfl _ _ 26 rfl 0 27 i27 (.pointer none) 1 Try.underlying26 hi27 hz27 hs27 .i64 .i64 _ _ nv rfl rfl rfl rfl (by rw [hb27]; omega) (by unfold maxLen; omega) (Nat.zero_le _) ?_))
    intro w1 hown hgrow
    have R : Hid (Names w.heap.size nv (List.replicate nv none) w1) := Names.made hown
    have RB : Hid (Below w.heap.size w w1) := (Below.refl _ _).grown hgrow (Nat.le_refl _) (fun _ h => by cases h)
    clear hown hgrow
    go_wp2
    go_meet
    case rel => exact ⟨rfl, R.out, RB.out⟩
  case rest =>
    obtain ⟨rfl, hN0, hB0⟩ := hcut
    go_wp2
    go_loopw [17] (fun i wr => ∃ (k : Nat) (NM : List (Option Addr)), k ≤ nv ∧ i = .int .i64 k ∧ Names w.heap.size nv NM wr ∧ Below w.heap.size w wr) (fun i _ => nv - (intOf i).toNat)
    case atStart => exact ⟨0, _, Nat.zero_le _, rfl, hN0, hB0⟩
    case round =>
      clear hN0 hB0
      obtain ⟨k, NM, hk, rfl, hN, hB⟩ := hrel
      by_cases hlt : k < nv
      · obtain ⟨hav, hbv⟩ := HV.out (by omega)
        subst hav
        have c1 : wr.cell? ⟨bv, ov + k, none⟩ = some (.string (S k)) := (hB.cell (p := ⟨bv, ov + k, none⟩) hbv).trans (HS.out k hlt)
        have c2 := hN.cell k hlt
        have f2 := hN.free k
        have hlt2 := hN.lt
        have R : Hid (∀ o v, Names w.heap.size nv (NM.set k v) ((wr.setCell ⟨w.heap.size, k, none⟩ (.pointer v)).alloc o)) := fun o v => hN.store k o v
        have RB : Hid (∀ o v, Below w.heap.size w ((wr.setCell ⟨w.heap.size, k, none⟩ v).alloc o)) := fun o v => (hB.setCell (p := ⟨w.heap.size, k, none⟩) (Nat.le_refl _) v).alloc (by simp [World.setCell]; omega) o
        clear hN hB
        go_wp2
        go_roundw
        case rel => exact ⟨k + 1, _, by omega, by go_num, R.out _ _, RB.out _ _⟩
        case measure => simp [intOf]; omega
      · have HN : Hid (Names w.heap.size nv NM wr) := hN
        have HB : Hid (Below w.heap.size w wr) := hB
        clear hN hB
        go_wp2_with (go_at_call 6; go_must (refine (new_any _ n hn2).mono ?_))
        rintro e w1 ⟨pa, ga, ca, rfl, hTa, hBa, hFa⟩
        go_wp2_with (go_at_call 6; go_must (refine (new_any _ n hn2).mono ?_))
        rintro e w2 ⟨pb, gb, cb, rfl, hTb, hBb, hFb⟩
        have I0 : Hid (Inv w w.heap.size nv NM pa pb (fun k => [nws none ⟨#[]⟩ (-1) k]) (fun k => [nws none ⟨#[]⟩ (-1) k]) w2) :=
          Inv.made HN.out HB.out (((Below.refl _ _).alloc (Nat.le_refl _) _).alloc (by simp) _) hTa hBa hFa hTb hBb hFb
        clear hTa hBa hFa hTb hBb hFb HN HB hlt hk
        go_wp2
        go_loopg [22] nv (fun gk i wr => ∃ (k : Nat) (xs : Nat → List Value), k + gk = nv ∧ i = .int .i64 k ∧ Typed xs (k + 1) ∧ Inv w w.heap.size nv NM pa pb xs xs wr)
        case atStart => exact ⟨0, _, Nat.zero_add _, rfl, Typed.root, I0.out⟩
        case round =>
          clear I0
          obtain ⟨k, xs, hk0, rfl, hT, hI⟩ := hrel
          have hk : k ≤ nv := by omega
          have HK : Hid (k + gk = nv) := hk0
          clear hk0
          by_cases hlt : k < nv
          · obtain ⟨hav, hbv⟩ := HV.out (by omega)
            obtain ⟨hap, hbp⟩ := HP.out (by omega)
            subst hav
            subst hap
            obtain ⟨nm, K3⟩ := Inv.cells3 (NM := NM) (pa := pa) (pb := pb) hlt hbv hbp (HS.out k hlt) (HZ.out k hlt)
            have KK : Hid (∀ xa xb wx, Inv w w.heap.size nv NM pa pb xa xb wx → Cells3 w.heap.size k nm bv ov (S k) bp op (Z k) wx) := K3
            clear K3
            have l1 : (k : Int) < (nv : Int) := by omega
            have l0 : (0 : Int) ≤ (k : Int) := by omega
            go_upto_region 28 with fail
            go_cut [] (fun wx => Inv w w.heap.size nv NM pa pb (fun j => xs j ++ [nws nm (S k) (Z k) j]) xs wx)
            case first =>
              obtain ⟨q1, q2, q3⟩ := KK.out _ _ _ hI
              have HI : Hid (Inv w w.heap.size nv NM pa pb xs xs wr.drew) := hI.drew
              have HT : Hid (Typed xs (k + 1)) := hT
              clear hI hT
              go_region_held3 (fun w' => w'.cell? ⟨w.heap.size, k, none⟩ = some (.pointer nm) ∧ w'.cell? ⟨bv, ov + k, none⟩ = some (.string (S k)) ∧ w'.cell? ⟨bp, op + k, none⟩ = some (.int .i32 (Z k))) (first | go_keep | (exact KK.out _ _ _ ‹_›))
                (first | (go_at_call 7; refine (pushA HI.out HT.out.len (by omega) nm (S k) (Z k)).mono ?_; rintro e w1 ⟨rfl, hI1⟩))
              go_wp2_with fail
              go_meet
              case rel => assumption
            case rest =>
              clear hI
              go_upto_region 29 with fail
              obtain ⟨q1, q2, q3⟩ := KK.out _ _ _ hcut
              have HI : Hid (Inv w w.heap.size nv NM pa pb (fun j => xs j ++ [nws nm (S k) (Z k) j]) xs wc.drew) := hcut.drew
              have HT : Hid (Typed xs (k + 1)) := hT
              clear hcut hT
              go_region_held3 (fun w' => w'.cell? ⟨w.heap.size, k, none⟩ = some (.pointer nm) ∧ w'.cell? ⟨bv, ov + k, none⟩ = some (.string (S k)) ∧ w'.cell? ⟨bp, op + k, none⟩ = some (.int .i32 (Z k))) (first | go_keep | (exact KK.out _ _ _ ‹_›))
                (first | (go_at_call 7; refine (pushB HI.out HT.out.len (by omega) nm (S k) (Z k)).mono ?_; rintro e w1 ⟨rfl, hI1⟩))
              go_wp2
              go_roundg (gk - 1)
              case measure => have := HK.out; omega
              case rel => exact ⟨k + 1, _, by have := HK.out; omega, by go_num, HT.out.push nm (S k) (Z k), by assumption⟩
          · have hkn : k = nv := by omega
            subst hkn
            have hlen := hT.len
            have HT : Hid (Typed xs (k + 1)) := hT
            have HLn : Hid (∀ j, j < 6 → (xs j).length = k + 1) := hlen
            clear hT hlen HK
            go_wp2_with (go_at_call 7; go_must (refine (pushA hI HLn.out (by omega) _ _ _).mono ?_))
            rintro e w3 ⟨rfl, hI3⟩
            clear hI
            go_wp2_with (go_at_call 8; go_must (refine (popA hI3 HLn.out (by omega)).mono ?_))
            rintro e w4 ⟨rfl, hI4⟩
            clear hI3
            go_wp2_with (go_at_call 9; go_must (refine (sameAB hI4 HT.out (by omega)).mono ?_))
            rintro e w5 ⟨rfl, hI5⟩
            clear hI4
            go_wp2_with (go_at_call 7; go_must (refine (pushA hI5 HLn.out (by omega) _ _ _).mono ?_))
            rintro e w6 ⟨rfl, hI6⟩
            clear hI5
            go_wp2_with (go_at_call 7; go_must (refine (pushB hI6 HLn.out (by omega) _ _ _).mono ?_))
            rintro e w7 ⟨rfl, hI7⟩
            clear hI6
            go_wp2_with (go_at_call 9; go_must (refine (sameAB hI7 (HT.out.push _ _ _) (by omega)).mono ?_))
            rintro e w8 ⟨rfl, hI8⟩
            clear hI7
            obtain ⟨g8, c8, m0, m1, m2, z0, z1, z2⟩ := hI8.lasts HT.out
            have RB : Hid (Below w.heap.size w w8) := hI8.belowOf
            have hep := eql_ptr
            clear hI8
            go_wp2
            go_ret
            exact ⟨rfl, RB.out⟩

end Go.Proofs.Qxb6613002a
