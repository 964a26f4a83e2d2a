/- Seat b6613017aF: the walks of toMembers, sameMembers and of the bound's function of FnNewEntryLogMatchesModel. -/
import Derived.Test.Qxb6613017aFmtSame
import Derived.BigRegion
namespace Go.Proofs.Qxb6613017aFmt
open Go.RowKit Plain

/-- The members as the law takes them: cells from ⟨b, off⟩ on. -/
def MemsAt (w : World) (b off : Nat) (ms : List Mb) : Prop := ∀ i, i < ms.length → w.cell? ⟨b, off + i * 3, none⟩ = some (.string (ms.getD i mb0).id) ∧ w.cell? ⟨b, off + i * 3 + 1, none⟩ = some (.string (ms.getD i mb0).addr) ∧ w.cell? ⟨b, off + i * 3 + 2, none⟩ = some (.bool (ms.getD i mb0).voter)
theorem MemsAt.below {w w' : World} {b off : Nat} {ms : List Mb} (h : MemsAt w b off ms) (hb : Below w.heap.size w w') : MemsAt w' b off ms := fun i hi => by
  obtain ⟨h0, h1, h2⟩ := h i hi
  have hB : b < w.heap.size := World.block_lt_of_cell? _ _ h0
  exact ⟨(hb.cell (p := ⟨b, off + i * 3, none⟩) hB).trans h0, (hb.cell (p := ⟨b, off + i * 3 + 1, none⟩) hB).trans h1, (hb.cell (p := ⟨b, off + i * 3 + 2, none⟩) hB).trans h2⟩
theorem MemCells.at {w : World} {g : Nat} {ms : List Mb} (h : MemCells w g ms) : MemsAt w g 0 ms := fun i hi => by simpa using h i hi

theorem eq23 (w : World) (a : Option Addr) (n c : Nat) : (binOp .eql 23 (.slice a n c) (.slice none 0 0)).run Tryf.prog w = .ok (.bool a.isNone) w := Lib.run_eql_slice_nil (P := Tryf.prog) w 23 27 a n c 0 0 Tryf.underlying23
theorem eq31 (w : World) (a : Option Addr) (n c : Nat) : (binOp .eql 31 (.slice a n c) (.slice none 0 0)).run Tryf.prog w = .ok (.bool a.isNone) w := Lib.run_eql_slice_nil (P := Tryf.prog) w 31 52 a n c 0 0 Tryf.underlying31

abbrev z52 : Array Value := #[.string ⟨#[]⟩, .string ⟨#[]⟩, .bool false]
theorem mk_mems (n : Nat) (hn : n ≤ 1048576) (w : World) :
    (Instr.makeSlice 31 (.int .i64 (n : Int)) (.int .i64 (n : Int))).run Tryf.prog w = .ok (.slice (some ⟨w.heap.size, 0, none⟩) n n) (w.alloc (.cells (madeCells z52 (n * 3)) 52)) := by
  have h := run_make (P := Tryf.prog) w 31 52 Tryf.t52 (.agg z52) Tryf.underlying31 hi52 rfl .i64 .i64 n n (by omega) (Int.le_refl _) (by show (40 : Int) * (n : Int) ≤ _; omega) (by omega)
  simp only [Int.toNat_natCast] at h
  exact h

/-- The row while k members have been laid. -/
def UInv (wr : World) (B n k : Nat) (ms : List Mb) : Prop :=
  ∃ f, wr.rowIs B 52 (n * 3) f ∧ ∀ i, i < k → f (i * 3) = .string (ms.getD i mb0).id ∧ f (i * 3 + 1) = .string (ms.getD i mb0).addr ∧ f (i * 3 + 2) = .bool (ms.getD i mb0).voter

abbrev set3c (w : World) (B p : Nat) (v0 v1 v2 : Value) : World := ((w.setCell ⟨B, p, none⟩ v0).setCell ⟨B, p + 1, none⟩ v1).setCell ⟨B, p + 2, none⟩ v2

theorem UInv.step {wr : World} {B n k : Nat} {ms : List Mb} (h : UInv wr B n k ms) : UInv (set3c wr B (k * 3) (.string (ms.getD k mb0).id) (.string (ms.getD k mb0).addr) (.bool (ms.getD k mb0).voter)) B n (k + 1) ms := by
  obtain ⟨f, hf, hi⟩ := h
  refine ⟨_, ((hf.set (k * 3) _).set (k * 3 + 1) _).set (k * 3 + 2) _, fun i hik => ?_⟩
  by_cases hk : i = k
  · subst hk
    refine ⟨?_, ?_, ?_⟩ <;> simp
  · obtain ⟨e0, e1, e2⟩ := hi i (by omega)
    refine ⟨?_, ?_, ?_⟩
    · simp only [show ¬ i * 3 = k * 3 + 2 by omega, show ¬ i * 3 = k * 3 + 1 by omega, show ¬ i * 3 = k * 3 by omega, if_false]
      exact e0
    · simp only [show ¬ i * 3 + 1 = k * 3 + 2 by omega, show ¬ i * 3 + 1 = k * 3 + 1 by omega, show ¬ i * 3 + 1 = k * 3 by omega, if_false]
      exact e1
    · simp only [show ¬ i * 3 + 2 = k * 3 + 2 by omega, show ¬ i * 3 + 2 = k * 3 + 1 by omega, show ¬ i * 3 + 2 = k * 3 by omega, if_false]
      exact e2
theorem UInv.drew {wr : World} {B n k : Nat} {ms : List Mb} (h : UInv wr B n k ms) : UInv wr.drew B n k ms := by
  obtain ⟨f, hf, hi⟩ := h
  exact ⟨f, hf.of_block rfl, hi⟩
theorem UInv.done {wr : World} {B n : Nat} {ms : List Mb} (h : UInv wr B n n ms) (hn : ms.length = n) : MemCells wr B ms := by
  obtain ⟨f, hf, hi⟩ := h
  intro i hil
  obtain ⟨e0, e1, e2⟩ := hi i (by omega)
  exact ⟨e0 ▸ hf.cell (by omega), e1 ▸ hf.cell (by omega), e2 ▸ hf.cell (by omega)⟩
theorem UInv.start (w : World) (n : Nat) (ms : List Mb) : UInv (w.alloc (.cells (madeCells z52 (n * 3)) 52)) w.heap.size n 0 ms := by
  refine ⟨fun j => (madeCells z52 (n * 3))[j]?.getD undef, ⟨madeCells z52 (n * 3), (MapKept.heap_alloc w _).1, size_madeCells _ _, fun i hi => ?_⟩, fun i hi => by omega⟩
  have : i < (madeCells z52 (n * 3)).size := by rw [size_madeCells]; exact hi
  simp [Array.getElem?_eq_getElem this]

def URel (w : World) (n : Nat) (ms : List Mb) (i : Value) (wr : World) : Prop := ∃ k : Nat, k ≤ n ∧ i = .int .i64 k ∧ UInv wr w.heap.size n k ms ∧ Below w.heap.size w wr
/-- What toMembers answers. -/
def UOut (w : World) (a : Option Addr) (n : Nat) (ms : List Mb) (e : Ending) (w' : World) : Prop :=
  ∃ a1, e = .returned (.slice a1 n n) ∧ a1.isNone = a.isNone ∧ (0 < n → a1 = some ⟨w.heap.size, 0, none⟩) ∧ Below w.heap.size w w' ∧ MemCells w' w.heap.size ms

theorem toMems_nil (w : World) : Calls Tryf.prog 6 #[.slice none 0 0] w fun e w' => e = .returned (.slice none 0 0) ∧ w' = w := by
  have heq := eq23
  go_enter Tryf.func6, Tryf.ntmps6
  go_wp2
  go_ret
  exact ⟨rfl, rfl⟩

set_option maxRecDepth 20000 in
set_option maxHeartbeats 4000000 in
theorem toMems_some (x : Addr) (b off n c : Nat) (ms : List Mb) (w : World) (hn : ms.length = n) (hm : n ≤ 1048576) (hx : 0 < n → x = ⟨b, off, none⟩) (hE : MemsAt w b off ms) :
    Calls Tryf.prog 6 #[.slice (some x) n c] w fun e w' => e = .returned (.slice (some ⟨w.heap.size, 0, none⟩) n n) ∧ Below w.heap.size w w' ∧ MemCells w' w.heap.size ms := by
  have HX : Hid (0 < n → x = ⟨b, off, none⟩) := hx
  have HE : Hid (MemsAt w b off ms) := hE
  have heq := eq23
  have hmk := mk_mems n hm
  clear hx hE
  go_enter Tryf.func6, Tryf.ntmps6
  go_wp2_with fail
  clear hmk heq
  go_loopw [4] (fun i wr => URel w n ms i wr) (fun i _ => n - (intOf i).toNat)
  case atStart => exact ⟨0, Nat.zero_le _, rfl, UInv.start w n ms, (Below.refl _ _).alloc (Nat.le_refl _) _⟩
  case round =>
    obtain ⟨k, hk, rfl, hR, hb⟩ := hrel
    have HR : Hid (UInv wr w.heap.size n k ms) := hR
    have HB : Hid (Below w.heap.size w wr) := hb
    by_cases hlt : k < n
    · obtain rfl := HX.out (by omega)
      obtain ⟨c0, c1, c2⟩ := HE.out.below hb k (by omega)
      have hbl : b < w.heap.size := by
        have := (HE.out k (by omega)).1
        exact World.block_lt_of_cell? _ _ this
      have hne : ¬ b = w.heap.size := by omega
      have hne2 : ¬ w.heap.size = b := by omega
      obtain ⟨f, hf, _⟩ := hR
      have d0 := hf.cell (i := k * 3) (by omega)
      have d1 := hf.cell (i := k * 3 + 1) (by omega)
      have d2 := hf.cell (i := k * 3 + 2) (by omega)
      have f0 := hf.frozen (k * 3)
      have f1 := hf.frozen (k * 3 + 1)
      have f2 := hf.frozen (k * 3 + 2)
      obtain ⟨m, hme⟩ : ∃ m, ms.getD k mb0 = m := ⟨_, rfl⟩
      have HStep : Hid (URel w n ms (.int .i64 ((k : Int) + 1)) (set3c wr w.heap.size (k * 3) (.string m.id) (.string m.addr) (.bool m.voter)).drew) := by
        subst hme
        exact ⟨k + 1, by omega, by simp, HR.out.step.drew, (((HB.out.setCell (p := ⟨w.heap.size, k * 3, none⟩) (Nat.le_refl _) _).setCell (p := ⟨w.heap.size, k * 3 + 1, none⟩) (Nat.le_refl _) _).setCell (p := ⟨w.heap.size, k * 3 + 2, none⟩) (Nat.le_refl _) _).drew⟩
      rw [hme] at c0 c1 c2
      obtain ⟨id, addr, vt⟩ := m
      simp only at c0 c1 c2
      clear hme hb hf
      go_wp2_with fail
      go_region
      go_wp2_with fail
      go_roundw
      case rel => exact HStep.out
      case measure => simp [intOf]; omega
    · obtain rfl : k = n := by omega
      go_wp2_with fail
      go_ret
      exact ⟨rfl, HB.out, HR.out.done hn⟩

theorem toMems_any (a : Option Addr) (b off n c : Nat) (ms : List Mb) (w : World) (hn : ms.length = n) (hm : n ≤ 1048576) (h0 : a = none → n = 0 ∧ c = 0) (hx : 0 < n → a = some ⟨b, off, none⟩) (hE : MemsAt w b off ms) :
    Calls Tryf.prog 6 #[.slice a n c] w fun e w' => UOut w a n ms e w' := by
  cases a with
  | none =>
    obtain ⟨rfl, rfl⟩ := h0 rfl
    refine (toMems_nil w).mono ?_
    rintro e w' ⟨rfl, rfl⟩
    exact ⟨none, rfl, rfl, (fun h => by omega), Below.refl _ _, fun i hi => by omega⟩
  | some x =>
    refine (toMems_some x b off n c ms w hn hm (fun h => by simpa using hx h) hE).mono ?_
    rintro e w' ⟨rfl, h1, h2⟩
    exact ⟨_, rfl, rfl, fun _ => rfl, h1, h2⟩

set_option maxRecDepth 20000 in
set_option maxHeartbeats 4000000 in
theorem sameMembers_any (a1 a2 : Option Addr) (g b off n c1 c2 : Nat) (ms : List Mb) (w : World) (hn : ms.length = n) (hm : n ≤ 9223372036854775806) (hx : 0 < n → a1 = some ⟨g, 0, none⟩ ∧ a2 = some ⟨b, off, none⟩) (h1 : MemCells w g ms) (h2 : MemsAt w b off ms) :
    Calls Tryf.prog 10 #[.slice a1 n c1, .slice a2 n c2] w fun e w' => Quiet w e w' := by
  have HX : Hid (0 < n → a1 = some ⟨g, 0, none⟩ ∧ a2 = some ⟨b, off, none⟩) := hx
  have H1 : Hid (MemCells w g ms) := h1
  have H2 : Hid (MemsAt w b off ms) := h2
  clear h1 h2 hx
  go_enter Tryf.func10, Tryf.ntmps10
  go_wp2_with fail
  go_loopw [5] (fun i wr => ∃ k m : Nat, k ≤ n ∧ i = .int .i64 k ∧ wr = w.drewN m) (fun i _ => n - (intOf i).toNat)
  case atStart => exact ⟨0, 0, Nat.zero_le _, rfl, rfl⟩
  case round =>
    obtain ⟨k, m, hk, rfl, rfl⟩ := hrel
    by_cases hlt : k < n
    · obtain ⟨rfl, rfl⟩ := HX.out (by omega)
      obtain ⟨x0, x1, x2⟩ := H1.out k (by omega)
      obtain ⟨y0, y1, y2⟩ := H2.out k (by omega)
      obtain ⟨mm, hmm⟩ : ∃ mm, ms.getD k mb0 = mm := ⟨_, rfl⟩
      rw [hmm] at x0 x1 x2 y0 y1 y2
      obtain ⟨id, addr, vt⟩ := mm
      simp only at x0 x1 x2 y0 y1 y2
      clear hmm
      go_wp2
      go_quiet (fail)
      go_wp2
      go_roundw
      case rel => exact ⟨k + 1, _, by omega, by go_num, rfl⟩
      case measure => simp [intOf]; omega
    · go_wp2
      go_ret
      exact ⟨rfl, _, rfl⟩

/-- What the bound's function answers. -/
def ZB5 (w : World) (nm n : Nat) (ms : List Mb) (es : List En) (e : Ending) (w' : World) : Prop :=
  ∃ r : Bool, e = .returned (.bool r) ∧ w' = w ∧ (r = true → nm ≤ 1048576 ∧ n ≤ 1048576 ∧ (∀ i, i < nm → (ms.getD i mb0).id.size ≤ 1048576 ∧ (ms.getD i mb0).addr.size ≤ 1048576) ∧ ∀ i, i < n → (es.getD i en0).dat.length ≤ 1048576)

set_option maxRecDepth 20000 in
set_option maxHeartbeats 2000000 in
theorem zzBytes5_any (si st ci : Int) (am : Option Addr) (bm om nm cm : Nat) (ms : List Mb) (a : Option Addr) (b off n c : Nat) (es : List En) (w : World) (hnm : ms.length = nm) (hlm : nm ≤ 9223372036854775807) (hn : es.length = n) (hl : n ≤ 9223372036854775807)
    (hxm : 0 < nm → am = some ⟨bm, om, none⟩) (hM : MemsAt w bm om ms) (hsz : ∀ i, i < nm → (ms.getD i mb0).id.size ≤ 9223372036854775807 ∧ (ms.getD i mb0).addr.size ≤ 9223372036854775807)
    (hx : 0 < n → a = some ⟨b, off, none⟩) (hA : ArgEnts w b off es) (hlen : ∀ i, i < n → (es.getD i en0).dat.length ≤ 9223372036854775807) :
    Calls Tryf.prog 5 #[.int .u64 si, .int .u64 st, .int .u64 ci, .slice am nm cm, .slice a n c] w fun e w' => ZB5 w nm n ms es e w' := by
  have HXm : Hid (0 < nm → am = some ⟨bm, om, none⟩) := hxm
  have HM : Hid (MemsAt w bm om ms) := hM
  have HSz : Hid (∀ i, i < nm → (ms.getD i mb0).id.size ≤ 9223372036854775807 ∧ (ms.getD i mb0).addr.size ≤ 9223372036854775807) := hsz
  have HX : Hid (0 < n → a = some ⟨b, off, none⟩) := hx
  have HA : Hid (ArgEnts w b off es) := hA
  have HL : Hid (∀ i, i < n → (es.getD i en0).dat.length ≤ 9223372036854775807) := hlen
  clear hx hA hlen hxm hM hsz
  by_cases hbigm : nm ≤ 1048576
  · go_enter Tryf.func5, Tryf.ntmps5
    go_wp2_with fail
    go_loopw [11, 12] (fun s i wr => ∃ k q : Nat, k ≤ nm ∧ q ≤ 1048576 ∧ s = .int .i64 q ∧ i = .int .i64 k ∧ wr = w ∧ ∀ j, j < k → (ms.getD j mb0).id.size ≤ 1048576 ∧ (ms.getD j mb0).addr.size ≤ 1048576) (fun _ i _ => nm - (intOf i).toNat)
    case atStart => exact ⟨0, nm, Nat.zero_le _, hbigm, by simp, rfl, rfl, fun j hj => by omega⟩
    case round =>
      obtain ⟨k, q, hk, hq, rfl, rfl, rfl, hall⟩ := hrel
      have HAll : Hid (∀ j, j < k → (ms.getD j mb0).id.size ≤ 1048576 ∧ (ms.getD j mb0).addr.size ≤ 1048576) := hall
      clear hall
      by_cases hlt : k < nm
      · obtain rfl := HXm.out (by omega)
        obtain ⟨c0, c1, _⟩ := HM.out k (by omega)
        obtain ⟨hs0, hs1⟩ := HSz.out k hlt
        obtain ⟨mm, hmm⟩ : ∃ mm, ms.getD k mb0 = mm := ⟨_, rfl⟩
        have HMm : Hid (ms.getD k mb0 = mm) := hmm
        rw [hmm] at c0 c1 hs0 hs1
        obtain ⟨id, addr, vt⟩ := mm
        simp only at c0 c1 hs0 hs1
        clear hmm
        by_cases h1 : id.size ≤ 1048576
        · by_cases h2 : q + id.size ≤ 1048576
          · by_cases h3 : addr.size ≤ 1048576
            · by_cases h4 : q + id.size + addr.size ≤ 1048576
              · have HNx : Hid (∀ j, j < k + 1 → (ms.getD j mb0).id.size ≤ 1048576 ∧ (ms.getD j mb0).addr.size ≤ 1048576) := fun j hj => by
                  by_cases hjk : j = k
                  · subst hjk; rw [HMm.out]; exact ⟨h1, h3⟩
                  · exact HAll.out j (by omega)
                go_wp2
                go_roundw
                case rel => exact ⟨k + 1, q + id.size + addr.size, by omega, h4, by go_num, by go_num, by trivial, HNx.out⟩
                case measure => simp [intOf]; omega
              · go_wp2
                go_ret
                exact ⟨false, rfl, rfl, fun h => by cases h⟩
            · go_wp2
              go_ret
              exact ⟨false, rfl, rfl, fun h => by cases h⟩
          · go_wp2
            go_ret
            exact ⟨false, rfl, rfl, fun h => by cases h⟩
        · go_wp2
          go_ret
          exact ⟨false, rfl, rfl, fun h => by cases h⟩
      · by_cases hbig : n ≤ 1048576
        · by_cases hqn : q + n ≤ 1048576
          · go_wp2_with fail
            go_loopw [11, 13] (fun s i wx => ∃ k2 q2 : Nat, k2 ≤ n ∧ q2 ≤ 1048576 ∧ s = .int .i64 q2 ∧ i = .int .i64 k2 ∧ wx = wr ∧ ∀ j, j < k2 → (es.getD j en0).dat.length ≤ 1048576) (fun _ i _ => n - (intOf i).toNat)
            case atStart => exact ⟨0, q + n, Nat.zero_le _, hqn, by simp, rfl, rfl, fun j hj => by omega⟩
            case round =>
              obtain ⟨k2, q2, hk2, hq2, rfl, rfl, rfl, hall2⟩ := hrel
              have HAll2 : Hid (∀ j, j < k2 → (es.getD j en0).dat.length ≤ 1048576) := hall2
              clear hall2
              by_cases hlt2 : k2 < n
              · obtain rfl := HX.out (by omega)
                obtain ⟨A, C, gb, go, e0, e1, e2, e3, e4⟩ := HA.out k2 (by omega)
                have hle := HL.out k2 hlt2
                obtain ⟨d, hd⟩ : ∃ d, (es.getD k2 en0).dat.length = d := ⟨_, rfl⟩
                rw [hd] at e3 hle
                have HDe : Hid ((es.getD k2 en0).dat.length = d) := hd
                clear e0 e1 e2 e4 hd
                by_cases h1 : d ≤ 1048576
                · by_cases h2 : q2 + d ≤ 1048576
                  · have HNx : Hid (∀ j, j < k2 + 1 → (es.getD j en0).dat.length ≤ 1048576) := fun j hj => by
                      by_cases hjk : j = k2
                      · subst hjk; rw [HDe.out]; exact h1
                      · exact HAll2.out j (by omega)
                    go_wp2
                    go_roundw
                    case rel => exact ⟨k2 + 1, q2 + d, by omega, h2, by go_num, by go_num, by trivial, HNx.out⟩
                    case measure => simp [intOf]; omega
                  · go_wp2
                    go_ret
                    exact ⟨false, rfl, rfl, fun h => by cases h⟩
                · go_wp2
                  go_ret
                  exact ⟨false, rfl, rfl, fun h => by cases h⟩
              · go_wp2
                go_ret
                exact ⟨true, rfl, rfl, fun _ => ⟨hbigm, hbig, fun i hi => HAll.out i (by omega), fun i hi => HAll2.out i (by omega)⟩⟩
          · go_wp2
            go_ret
            exact ⟨false, rfl, rfl, fun h => by cases h⟩
        · go_wp2
          go_ret
          exact ⟨false, rfl, rfl, fun h => by cases h⟩
  · go_enter Tryf.func5, Tryf.ntmps5
    go_wp2
    go_ret
    exact ⟨false, rfl, rfl, fun h => by cases h⟩

end Go.Proofs.Qxb6613017aFmt
