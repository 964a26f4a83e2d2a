/- Seat b6613002a: the walk of (*Tree).pop. -/
import Derived.Test.Qxb6613002aParts
import Derived.WalkLawsBesides
import Derived.Deep.DeepCutAuto
import Derived.BigRegion
namespace Go.Proofs.Qxb6613002a
open Go.RowKit

/-- A store into a row's cell. -/
theorem Tree.store {w : World} {p : Nat} {g c : Nat → Nat} {xs : Nat → List Value} (hT : Tree w p g c xs) (k i : Nat) (hk : k < 6) (v : Value) :
    Tree (w.setCell ⟨g k, i, none⟩ v) p g c (upd xs k ((xs k).set i v)) := by
  refine ⟨?_, fun j hj => ?_, hT.inj, hT.out⟩
  · rw [Below.heap_setCell _ _ _ _ (fun e => hT.out k hk e.symm), hT.blk]
    have e : (fun j => (xs j).length) = fun j => (upd xs k ((xs k).set i v) j).length := by
      funext j
      by_cases h : j = k
      · subst h; simp [upd]
      · simp [upd, h]
    rw [e]
  · by_cases hjk : j = k
    · subst hjk
      rw [upd_same, List.length_set]
      exact ((hT.own j hj).stored i v).1
    · rw [upd_other _ _ _ _ hjk]
      exact ownsRow_setCell_other (hT.own j hj) (by simpa [Value.ownBlock] using fun e => hjk (hT.inj j k hj hk e)) _

/-- A field resliced to one element less. -/
theorem Tree.short {w : World} {p : Nat} {g c : Nat → Nat} {xs : Nat → List Value} (hT : Tree w p g c xs) (k : Nat) (hk : k < 6) {y : List Value} {u : Value} {n : Nat} (he : xs k = y ++ [u]) (hn : y.length = n) :
    Tree (w.setCell ⟨p, k, none⟩ (.slice (some ⟨g k, 0, none⟩) n (c k))) p g c (upd xs k y) := by
  subst hn
  refine ⟨?_, fun j hj => ?_, hT.inj, hT.out⟩
  · rw [heap_setCell_at hT.blk, hdr_set _ _ _ _ _ _ _ hk]
    have e1 : upd g k (g k) = g := by funext j; by_cases h : j = k <;> simp [upd, h]
    have e2 : upd c k (c k) = c := by funext j; by_cases h : j = k <;> simp [upd, h]
    have e3 : upd (fun j => (xs j).length) k y.length = fun j => (upd xs k y j).length := by
      funext j
      by_cases h : j = k <;> simp [upd, h]
    rw [e1, e2, e3]
  · have hne : (⟨p, k, none⟩ : Addr).block ≠ g j := fun e => hT.out j hj e.symm
    refine ownsRow_setCell_other ?_ (by simpa [Value.ownBlock] using hT.out j hj) _
    by_cases hjk : j = k
    · subst hjk
      rw [upd_same]
      have h0 := hT.own j hj
      rw [he, List.length_append] at h0
      exact ownsRow_pop (by simp) h0
    · rw [upd_other _ _ _ _ hjk]
      exact hT.own j hj

theorem Tree.drew {w : World} {p : Nat} {g c : Nat → Nat} {xs : Nat → List Value} (hT : Tree w p g c xs) : Tree w.drew p g c xs := ⟨hT.blk, hT.own, hT.inj, hT.out⟩
theorem Tree.cap {w : World} {p : Nat} {g c : Nat → Nat} {xs : Nat → List Value} (hT : Tree w p g c xs) (k : Nat) (hk : k < 6) : (xs k).length ≤ c k ∧ c k ≤ 9223372036854775807 := by
  rcases (hT.own k hk).2 with ⟨h0, _⟩ | ⟨g0, cap0, cur, hv, _, _, h1, h2, _⟩
  · cases h0
  · cases hv; unfold maxLen at h2; omega

/-- The rows while fields below k have been shortened. -/
def ZS (ys : Nat → List Value) (u : Nat → Value) (k : Nat) : Nat → List Value := fun j => if j < k then ys j else ys j ++ [u j]
theorem ZS_at (ys : Nat → List Value) (u : Nat → Value) (k j : Nat) (h : k ≤ j) : ZS ys u k j = ys j ++ [u j] := by simp [ZS, show ¬ j < k by omega]
theorem ZS_step (ys : Nat → List Value) (u : Nat → Value) (k : Nat) : upd (ZS ys u k) k (ys k) = ZS ys u (k + 1) := by
  funext j
  by_cases h : j = k
  · subst h; simp [upd, ZS]
  · by_cases h2 : j < k
    · rw [upd_other _ _ _ _ h]; simp [ZS, h2, show j < k + 1 by omega]
    · rw [upd_other _ _ _ _ h]; simp [ZS, h2, show ¬ j < k + 1 by omega]

def Pel (w : World) (p : Nat) (g c : Nat → Nat) (ys : Nat → List Value) (k : Nat) (wx : World) : Prop :=
  ∃ u, Tree wx p g c (ZS ys u k) ∧ Off (foot p g) w wx

theorem Pel.start {w : World} {p : Nat} {g c : Nat → Nat} {ys : Nat → List Value} {u : Nat → Value} (h : Tree w p g c (fun k => ys k ++ [u k])) : Pel w p g c ys 0 w :=
  ⟨u, h.congr (fun k _ => by simp [ZS]), Off.refl _ _⟩
theorem Pel.drew {w wx : World} {p : Nat} {g c : Nat → Nat} {ys : Nat → List Value} {k : Nat} (h : Pel w p g c ys k wx) : Pel w p g c ys k wx.drew := by
  obtain ⟨u, hT, hO⟩ := h
  exact ⟨u, hT.drew, hO.trans (Off.drew (fun _ => False) wx) (fun _ h => h.elim)⟩
theorem Pel.store {w wx : World} {p n : Nat} {g c : Nat → Nat} {ys : Nat → List Value} (h : Pel w p g c ys 0 wx) (k : Nat) (hk : k < 6) (hn : (ys k).length = n) (v : Value) : Pel w p g c ys 0 (wx.setCell ⟨g k, n, none⟩ v) := by
  subst hn
  obtain ⟨u, hT, hO⟩ := h
  refine ⟨upd u k v, (hT.store k (ys k).length hk v).congr (fun j _ => ?_), hO.trans (Off.setCell (S := foot p g) _ _ _ (.inr ⟨k, hk, rfl⟩)) (fun _ h => .inl h)⟩
  by_cases h : j = k
  · subst h; rw [upd_same, ZS_at _ _ _ _ (Nat.zero_le _), ZS_at _ _ _ _ (Nat.zero_le _), upd_same]; simp
  · rw [upd_other _ _ _ _ h, ZS_at _ _ _ _ (Nat.zero_le _), ZS_at _ _ _ _ (Nat.zero_le _), upd_other _ _ _ _ h]
theorem Pel.short {w wx : World} {p n : Nat} {g c : Nat → Nat} {ys : Nat → List Value} {k : Nat} (h : Pel w p g c ys k wx) (hk : k < 6) (hn : (ys k).length = n) :
    Pel w p g c ys (k + 1) (wx.setCell ⟨p, k, none⟩ (.slice (some ⟨g k, 0, none⟩) n (c k))) := by
  obtain ⟨u, hT, hO⟩ := h
  refine ⟨u, ?_, hO.trans (Off.setCell (S := foot p g) _ _ _ (.inl rfl)) (fun _ h => .inl h)⟩
  rw [← ZS_step]
  exact hT.short k hk (ZS_at _ _ _ _ (Nat.le_refl _)) hn
theorem Pel.cells {w wx : World} {p n : Nat} {g c : Nat → Nat} {ys : Nat → List Value} {k : Nat} (h : Pel w p g c ys k wx) (hn : ∀ j, j < 6 → (ys j).length = n) :
    (∀ j, k ≤ j → j < 6 → wx.cell? ⟨p, j, none⟩ = some (.slice (some ⟨g j, 0, none⟩) (n + 1) (c j)) ∧ n + 1 ≤ c j ∧ c j ≤ 9223372036854775807) ∧ wx.cell? ⟨p, 6, none⟩ = some (.slice none 0 0) ∧ ∀ j, wx.frozen? ⟨p, j, none⟩ = false := by
  obtain ⟨u, hT, hO⟩ := h
  refine ⟨fun j h1 h2 => ?_, hT.cell6, fun j => hT.free j⟩
  have h3 := hT.cell j h2
  have h4 := hT.cap j h2
  rw [ZS_at _ _ _ _ h1, List.length_append, hn j h2] at h3 h4
  exact ⟨h3, h4⟩

set_option maxRecDepth 20000 in
set_option maxHeartbeats 400000 in
theorem pop_any (w : World) (p : Nat) (g c : Nat → Nat) (ys : Nat → List Value) (u : Nat → Value) (n : Nat) (hT : Tree w p g c (fun k => ys k ++ [u k]))
    (hn : ∀ k, k < 6 → (ys k).length = n) (hb : n ≤ 1048576) :
    Calls Try.prog 14 #[.pointer (some ⟨p, 0, none⟩)] w fun e w' => e = .returned (.tuple #[]) ∧ Pel w p g c ys 6 w' := by
  have hnil : ∀ (w : World) (a : Option Addr) (x y x' y' : Nat), (binOp .neq 23 (.slice a x y) (.slice none x' y')).run Try.prog w = .ok (.bool !a.isNone) w := fun w a x y x' y' => run_neq_slice_nil_any w _ _ a x y x' y' Try.underlying23
  have HN : Hid (∀ k, k < 6 → (ys k).length = n) := hn
  have h0 : Pel w p g c ys 0 w := Pel.start hT
  obtain ⟨hc, hc6, hf⟩ := h0.cells hn
  obtain ⟨c0, c0a, c0b⟩ := hc 0 (by omega) (by omega)
  obtain ⟨c1, c1a, c1b⟩ := hc 1 (by omega) (by omega)
  have e0 : w.cell? ⟨g 0, n, none⟩ = some (u 0) := by
    rw [hT.elem 0 n (by omega) (by simp [hn 0 (by omega)])]; simp [← hn 0 (by omega)]
  have e1 : w.cell? ⟨g 1, n, none⟩ = some (u 1) := by
    rw [hT.elem 1 n (by omega) (by simp [hn 1 (by omega)])]; simp [← hn 1 (by omega)]
  have f0 := hT.efree 0 n (by omega)
  have f1 := hT.efree 1 n (by omega)
  have hne : g 0 ≠ g 1 := fun e => by have := hT.inj 0 1 (by omega) (by omega) e; omega
  have o0 := hT.out 0 (by omega)
  have o1 := hT.out 1 (by omega)
  have R : Hid (Pel w p g c ys 0 ((w.setCell ⟨g 0, n, none⟩ (.pointer none)).setCell ⟨g 1, n, none⟩ (.string ⟨#[]⟩))) := ((h0.store 0 (by omega) (hn 0 (by omega)) _).store 1 (by omega) (hn 1 (by omega)) _)
  clear hT hn h0 hc c1a c1b c0a c0b
  go_enter Try.func14, Try.ntmps14
  go_upto_region 2 with fail
  go_cut [] (fun wx => Pel w p g c ys 0 wx)
  case first =>
    go_wp2
    go_meet
    case rel => exact R.out
  case rest =>
    clear c0 c1 e0 e1 f0 f1 hne o0 o1 hf hc6 R
    go_upto_region 3 with fail
    go_cut [] (fun wx => Pel w p g c ys 2 wx)
    case first =>
      obtain ⟨hc, hc6, hf⟩ := hcut.cells HN.out
      obtain ⟨c0, c0a, c0b⟩ := hc 0 (by omega) (by omega)
      obtain ⟨c1, c1a, c1b⟩ := hc 1 (by omega) (by omega)
      have k0 : (n : Int) ≤ (c 0 : Int) := by omega
      have k1 : (n : Int) ≤ (c 1 : Int) := by omega
      have f0 := hf 0
      have f1 := hf 1
      have R : Hid (Pel w p g c ys (0 + 1 + 1) ((wc.drew.setCell ⟨p, 0, none⟩ (.slice (some ⟨g 0, 0, none⟩) n (c 0))).setCell ⟨p, 1, none⟩ (.slice (some ⟨g 1, 0, none⟩) n (c 1)))) :=
        ((hcut.drew).short (by omega) (HN.out 0 (by omega))).short (by omega) (HN.out 1 (by omega))
      clear hcut hc hc6 hf
      go_big_region
      go_wp2_with fail
      go_meet
      case rel => exact R.out
    case rest =>
      go_upto_region 4 with fail
      go_cut [] (fun wx => Pel w p g c ys 6 wx)
      case first =>
        obtain ⟨hc, hc6, hf⟩ := hcut.cells HN.out
        obtain ⟨c2, c2a, c2b⟩ := hc 2 (by omega) (by omega)
        obtain ⟨c3, c3a, c3b⟩ := hc 3 (by omega) (by omega)
        obtain ⟨c4, c4a, c4b⟩ := hc 4 (by omega) (by omega)
        obtain ⟨c5, c5a, c5b⟩ := hc 5 (by omega) (by omega)
        have k2 : (n : Int) ≤ (c 2 : Int) := by omega
        have k3 : (n : Int) ≤ (c 3 : Int) := by omega
        have k4 : (n : Int) ≤ (c 4 : Int) := by omega
        have k5 : (n : Int) ≤ (c 5 : Int) := by omega
        have f2 := hf 2
        have f3 := hf 3
        have f4 := hf 4
        have f5 := hf 5
        have R : Hid (Pel w p g c ys (2 + 1 + 1 + 1 + 1) ((((wc.drew.setCell ⟨p, 2, none⟩ (.slice (some ⟨g 2, 0, none⟩) n (c 2))).setCell ⟨p, 3, none⟩ (.slice (some ⟨g 3, 0, none⟩) n (c 3))).setCell ⟨p, 4, none⟩ (.slice (some ⟨g 4, 0, none⟩) n (c 4))).setCell ⟨p, 5, none⟩ (.slice (some ⟨g 5, 0, none⟩) n (c 5)))) :=
          ((((hcut.drew).short (by omega) (HN.out 2 (by omega))).short (by omega) (HN.out 3 (by omega))).short (by omega) (HN.out 4 (by omega))).short (by omega) (HN.out 5 (by omega))
        clear hcut hc hc6 hf
        go_big_region
        go_wp2_with fail
        go_meet
        case rel => exact R.out
      case rest =>
        obtain ⟨hc, hc6, hf⟩ := hcut.cells HN.out
        have R : Hid (Pel w p g c ys 6 wc) := hcut
        clear hc hf hcut
        go_wp2
        go_end0
        exact ⟨rfl, R.out⟩

end Go.Proofs.Qxb6613002a
