/- Seat b6613017aF: the walks of voters and CheckMembers. -/
import Derived.Test.Qxb6613017aFmtCut
import Derived.Maps.OwnOps
import Derived.Maps.Views
import Derived.StringKeys
namespace Go.Proofs.Qxb6613017aFmt
open Go.RowKit Plain

/-- The members ms lie in block g of w. -/
def MemCells (w : World) (g : Nat) (ms : List Mb) : Prop := ∀ i, i < ms.length → w.cell? ⟨g, i * 3, none⟩ = some (.string (ms.getD i mb0).id) ∧ w.cell? ⟨g, i * 3 + 1, none⟩ = some (.string (ms.getD i mb0).addr) ∧ w.cell? ⟨g, i * 3 + 2, none⟩ = some (.bool (ms.getD i mb0).voter)
theorem MemCells.below {w w' : World} {B g : Nat} {ms : List Mb} (h : MemCells w g ms) (hb : Below B w w') (hB : g < B) : MemCells w' g ms := fun i hi =>
  ⟨(hb.cell (p := ⟨g, i * 3, none⟩) hB).trans (h i hi).1, (hb.cell (p := ⟨g, i * 3 + 1, none⟩) hB).trans (h i hi).2.1, (hb.cell (p := ⟨g, i * 3 + 2, none⟩) hB).trans (h i hi).2.2⟩

def cnt (ms : List Mb) : Nat → Nat
  | 0 => 0
  | k + 1 => cnt ms k + if (ms.getD k mb0).voter then 1 else 0
theorem cnt_le (ms : List Mb) (k : Nat) : cnt ms k ≤ k := by
  induction k with
  | zero => exact Nat.le_refl _
  | succ k ih => rw [cnt]; split <;> omega
theorem cnt_zero (ms : List Mb) : cnt ms ms.length = 0 ↔ ms.any (·.voter) = false := by
  have h : ∀ k, k ≤ ms.length → (cnt ms k = 0 ↔ (ms.take k).any (·.voter) = false) := by
    intro k
    induction k with
    | zero => intro _; simp [cnt]
    | succ k ih =>
      intro hk
      have hlt : k < ms.length := by omega
      have e : ms.getD k mb0 = ms[k] := by simp [List.getD, List.getElem?_eq_getElem hlt]
      rw [cnt, List.take_add_one, List.getElem?_eq_getElem hlt, e, List.any_append]
      have := ih (by omega)
      cases hv : ms[k].voter <;> simp [hv] at * <;> first | exact this | omega
  simpa using h ms.length (Nat.le_refl _)

set_option maxRecDepth 20000 in
set_option maxHeartbeats 1000000 in
theorem voters_any (g n c : Nat) (ms : List Mb) (w : World) (hn : ms.length = n) (hm : n ≤ 1048576) (hg : g < w.heap.size) (hcell : MemCells w g ms) :
    Calls Tryf.prog 25 #[.slice (some ⟨g, 0, none⟩) n c] w fun e w' => e = .returned (.int .i64 (cnt ms n)) ∧ Below w.heap.size w w' := by
  have HC : Hid (MemCells w g ms) := hcell
  clear hcell
  go_enter Tryf.func25, Tryf.ntmps25
  go_wp2_with fail
  go_loopw [3, 5, 8] (fun s3 _ s8 wr => ∃ k : Nat, k ≤ n ∧ s3 = .int .i64 (cnt ms k) ∧ s8 = .int .i64 k ∧ Below w.heap.size w wr) (fun _ _ i _ => n - (intOf i).toNat)
  case atStart => exact ⟨0, Nat.zero_le _, rfl, rfl, Below.refl _ _⟩
  case round =>
    obtain ⟨k, hk, rfl, rfl, hb⟩ := hrel
    have HB : Hid (Below w.heap.size w wr) := hb
    clear hb
    by_cases hks : k < n
    · have hcs := HC.out.below HB.out hg k (by omega)
      obtain ⟨m, hme⟩ : ∃ m, ms.getD k mb0 = m := ⟨_, rfl⟩
      rw [hme] at hcs
      obtain ⟨h0, h1, h2⟩ := hcs
      have hle := cnt_le ms k
      have HStep : Hid (cnt ms (k + 1) = cnt ms k + if m.voter then 1 else 0) := by
        show cnt ms (k + 1) = _
        rw [cnt, hme]
      clear hme
      obtain ⟨id, addr, vt⟩ := m
      simp only at h0 h1 h2
      obtain ⟨q, hq⟩ : ∃ q, cnt ms k = q := ⟨_, rfl⟩
      cases vt with
      | true =>
        go_wp2
        go_roundw
        case rel => exact ⟨k + 1, by omega, by rw [HStep.out]; go_num, by go_num, HB.out.alloc HB.out.size _⟩
        case measure => simp [intOf]; omega
      | false =>
        go_wp2
        go_roundw
        case rel => exact ⟨k + 1, by omega, by rw [HStep.out]; rfl, by go_num, HB.out.alloc HB.out.size _⟩
        case measure => simp [intOf]; omega
    · obtain rfl : k = n := by omega
      go_wp2
      go_ret
      exact ⟨rfl, HB.out⟩

/-! ### the set 'seen' -/
open Go.Maps in
/-- Block b is a map[string]bool of at most n entries; it answers true at just the keys 'seen'. -/
def SetMap (w : World) (b n : Nat) (seen : List (List UInt8)) : Prop :=
  ∃ D : DataW Unit, IsMap D ∧ w.ownsMap Tryf.prog 9 (plainElem Tryf.prog 4) b n D ∧ ∀ k : List UInt8, D.atKey (.string k) (.lit (.bool false)) = .lit (.bool (decide (k ∈ seen)))

theorem law9 : Go.Maps.Keyed Tryf.prog 9 := Go.Maps.string_keyed Tryf.underlying9
theorem zero4 (w : World) : (zeroValue 4).run Tryf.prog w = .ok (.bool false) w := by kernel_rfl

theorem SetMap.made (w : World) : SetMap (w.alloc (.map #[] 0)) w.heap.size 0 [] :=
  ⟨.map [], Go.Maps.isMap_empty, World.ownsMap_made _ _ _ _, fun k => by simp [DataW.atKey]⟩
theorem SetMap.alloc {w : World} {b n : Nat} {seen : List (List UInt8)} (h : SetMap w b n seen) (o : Obj) : SetMap (w.alloc o) b n seen := by
  obtain ⟨D, h1, h2, h3⟩ := h
  exact ⟨D, h1, h2.alloc o, h3⟩
theorem plainElem_bool_inv {v : Value} {z : DataW Unit × List MemPlace} (h : plainElem Tryf.prog 4 v = some z) : ∃ a, v = .bool a ∧ z = (.lit (.bool a), []) := by
  unfold plainElem at h
  rw [Tryf.underlying4] at h
  cases v <;> simp at h
  exact ⟨_, rfl, h.symm⟩

theorem wpList_set_lookup (w : World) {ops : Array Oper} {rest : List Oper} {o : Oper} {a : Act} {Q : Exit → Act → World → Prop}
    (hg : o.guard = none) (m x : Operand) (hop : o.op = Op.lookup 61 m x false) (b n : Nat) (seen : List (List UInt8))
    (hm : a.eval m = .map (some b)) (hown : SetMap w b n seen) (s : ByteArray) (hx : a.eval x = .string s) (hs : s.size ≤ maxLen) (r : Bool) (hr : decide (s.data.toList ∈ seen) = r)
    (hK : wpList Tryf.prog ops Q rest (a.put o.dst (.bool r)) w) :
    wpList Tryf.prog ops Q (o :: rest) a w := by
  subst hr
  refine wpList_plain hg fun K' hK' => ?_
  obtain ⟨D, _, h2, h3⟩ := hown
  obtain ⟨v, ps, hrun, hv⟩ := h2.lookup law9 Tryf.underlying61 (zero4 w) (plainElem_bool Tryf.underlying4 false) (Go.WideMaps.keyOf_string_mk Tryf.underlying9 hs)
  rw [h3] at hv
  obtain ⟨c, rfl, hc⟩ := plainElem_bool_inv hv
  simp only [Prod.mk.injEq, DataW.lit.injEq, Lit.bool.injEq] at hc
  unfold Oper.wp
  have hc1 : c = decide (s.data.toList ∈ seen) := hc.1.symm
  subst hc1
  simp [execOp, hop, hm, hx, hrun, Result.andThen]
  exact hK' _ _ (by simpa using hK)

theorem wpList_set_update (w : World) {ops : Array Oper} {rest : List Oper} {o : Oper} {a : Act} {Q : Exit → Act → World → Prop}
    (hg : o.guard = none) (m x v : Operand) (hop : o.op = Op.mapUpdate 61 m x v) (b n : Nat) (seen : List (List UInt8))
    (hm : a.eval m = .map (some b)) (hown : SetMap w b n seen) (hn : n < maxLen) (s : ByteArray) (hx : a.eval x = .string s) (hv : a.eval v = .bool true) (hs : s.size ≤ maxLen)
    (hK : ∀ w', SetMap w' b (n + 1) (s.data.toList :: seen) → w.grownBy w' (some b) → wpList Tryf.prog ops Q rest (a.put o.dst undef) w') :
    wpList Tryf.prog ops Q (o :: rest) a w := by
  obtain ⟨D, h1, h2, h3⟩ := hown
  refine wpList_mapUpdate_own w hg m x v 61 hop 9 4 law9 Tryf.underlying61 _ b n D hm h2 hn _ _ _ hx hv (Go.WideMaps.keyOf_string_mk Tryf.underlying9 hs) _ [] (plainElem_bool Tryf.underlying4 true) ?_
  intro w1 hown1 hgrow1
  refine hK w1 ⟨_, h1.put _ _, hown1, fun k => ?_⟩ hgrow1
  by_cases hk : k = s.data.toList
  · subst hk
    rw [Go.Maps.atKey_put_same h1 (by trivial)]
    simp
  · rw [Go.Maps.atKey_put_other (by simpa using hk), h3]
    simp [hk]

theorem run_makeMap_hint (w : World) (v : Value) (x : Int) (hv : v = .int .i64 x) : (Instr.makeMap 61 (some v)).run Tryf.prog w = .ok (.map (some w.heap.size)) (w.alloc (.map #[] 0)) := by
  subst hv
  simp [Instr.makeMap, run_underlying Tryf.underlying61, asInt]
  rfl

/-- What CheckMembers answers: nil, or an error that lies in a new block. -/
def CPost (w w' : World) (ok : Bool) (e : Ending) : Prop :=
  match ok with
  | true => e = .returned .nilIface
  | false => ∃ g s, e = .returned (.iface 77 (.pointer (some ⟨g, 0, none⟩))) ∧ w.heap.size ≤ g ∧ g < w'.heap.size ∧ w'.cell? ⟨g, 0, none⟩ = some (.string s)

theorem check_none (a : Option Addr) (c : Nat) (w : World) : Calls Tryf.prog 21 #[.slice a 0 c] w fun e w' => Below w.heap.size w w' ∧ CPost w w' false e := by
  go_enter Tryf.func21, Tryf.ntmps21
  go_wp2_with (go_at_call 23; go_must (refine (errorsNew _ _).mono ?_))
  rintro e w1 ⟨rfl, rfl⟩
  go_wp2
  go_ret
  exact ⟨(Below.refl _ _).alloc (Nat.le_refl _) _, w.heap.size, ⟨#[110, 111, 32, 109, 101, 109, 98, 101, 114, 115]⟩, rfl, Nat.le_refl _, by simp, by go_simp⟩

theorem isEmpty_size (s : ByteArray) : s.toList.isEmpty = true ↔ s.size = 0 := by
  rw [ByteArray.toList_eq]
  obtain ⟨⟨l⟩⟩ := s
  cases l <;> simp [ByteArray.size]

/-- What fmt.Errorf answers without %w. -/
def ErrPost (w w' : World) (e : Ending) : Prop := e = .returned (.iface 77 (.pointer (some ⟨w.heap.size, 0, none⟩))) ∧ ∃ s : ByteArray, w' = (w.alloc (.cells #[.string s] 79)).drew
theorem errTwice (x : ByteArray) (blk : Nat) (w : World) (hc0 : w.cell? ⟨blk, 0, none⟩ = some (.iface 9 (.string x))) :
    Calls Tryf.prog 19 #[.string ⟨#[109, 101, 109, 98, 101, 114, 32, 37, 113, 32, 105, 115, 32, 110, 97, 109, 101, 100, 32, 116, 119, 105, 99, 101]⟩, .slice (some ⟨blk, 0, none⟩) 1 1] w fun e w' => ErrPost w w' e := errorfTwice x blk w hc0
theorem errNoAddr (x : ByteArray) (blk : Nat) (w : World) (hc0 : w.cell? ⟨blk, 0, none⟩ = some (.iface 9 (.string x))) :
    Calls Tryf.prog 19 #[.string ⟨#[109, 101, 109, 98, 101, 114, 32, 37, 113, 32, 104, 97, 115, 32, 110, 111, 32, 97, 100, 100, 114, 101, 115, 115]⟩, .slice (some ⟨blk, 0, none⟩) 1 1] w fun e w' => ErrPost w w' e := errorfNoAddr x blk w hc0

/-- The loop's relation. -/
def CRel (w : World) (B n : Nat) (ms : List Mb) (i : Value) (wr : World) : Prop :=
  ∃ k seen, k ≤ n ∧ i = .int .i64 ((k : Nat) : Int) ∧ SetMap wr B k seen ∧ Below w.heap.size w wr ∧ okFrom (decide (1 < n)) seen (ms.drop k) = okFrom (decide (1 < n)) [] ms

set_option maxRecDepth 20000 in
set_option maxHeartbeats 2000000 in
theorem check_any (g n c : Nat) (ms : List Mb) (w : World) (hn : ms.length = n) (h0 : 0 < n) (hm : n ≤ 1048576) (hg : g < w.heap.size) (hcell : MemCells w g ms) (hsm : ∀ m ∈ ms, Small m) :
    Calls Tryf.prog 21 #[.slice (some ⟨g, 0, none⟩) n c] w fun e w' => Below w.heap.size w w' ∧ CPost w w' (good ms) e := by
  have HC : Hid (MemCells w g ms) := hcell
  have HS : Hid (∀ m ∈ ms, Small m) := hsm
  have hv := voters_any g n c ms w hn hm hg hcell
  have hz := cnt_zero ms
  have hle := cnt_le ms n
  rw [hn] at hz
  obtain ⟨q, hq⟩ : ∃ q, cnt ms n = q := ⟨_, rfl⟩
  rw [hq] at hv hz hle
  have HV : Hid (Calls Tryf.prog 25 #[.slice (some ⟨g, 0, none⟩) n c] w fun e w' => e = .returned (.int .i64 q) ∧ Below w.heap.size w w') := hv
  have HZ : Hid (q = 0 ↔ ms.any (·.voter) = false) := hz
  have hmm := run_makeMap_hint
  clear hcell hsm hv hz hq
  by_cases hq0 : q = 0
  · have HG : Hid (good ms = false) := by
      show good ms = false
      unfold good
      rw [HZ.out.1 hq0]
      simp
    have hqb : ((q : Int) == 0) = true := by simpa using hq0
    clear hq0
    go_enter Tryf.func21, Tryf.ntmps21
    go_wp2_with (go_at_call 25; go_must (refine HV.out.mono ?_))
    rintro e w1 ⟨rfl, hb1⟩
    have HB1 : Hid (Below w.heap.size w w1) := hb1
    clear hb1 HV
    go_wp2_with (go_at_call 23; go_must (refine (errorsNew _ _).mono ?_))
    rintro e w2 ⟨rfl, rfl⟩
    go_wp2
    go_ret
    rw [HG.out]
    exact ⟨HB1.out.alloc HB1.out.size _, w1.heap.size, ⟨#[110, 111, 32, 118, 111, 116, 101, 114, 32, 97, 109, 111, 110, 103, 32, 116, 104, 101, 32, 109, 101, 109, 98, 101, 114, 115]⟩, rfl, HB1.out.size, by simp, by go_simp⟩
  have HG : Hid (good ms = okFrom (decide (1 < n)) [] ms) := by
    show good ms = _
    have h1 : ms.any (·.voter) = true := by
      cases h : ms.any (·.voter) with
      | true => rfl
      | false => exact absurd (HZ.out.2 h) hq0
    have h2 : ms ≠ [] := fun e => by rw [e] at hn; simp at hn; omega
    unfold good
    rw [h1, hn]
    simp [h2]
  have hqb : ((q : Int) == 0) = false := by simpa using hq0
  go_enter Tryf.func21, Tryf.ntmps21
  go_wp2_with (go_at_call 25; go_must (refine HV.out.mono ?_))
  rintro e w1 ⟨rfl, hb1⟩
  have HB1 : Hid (Below w.heap.size w w1) := hb1
  clear hb1 HV
  go_wp2_with fail
  go_loopw [5, 19, 23, 28, 39, 49, 60] (fun _ i _ _ _ _ _ wr => CRel w w1.heap.size n ms i wr) (fun _ i _ _ _ _ _ _ => n - (intOf i).toNat)
  case atStart => exact ⟨0, [], Nat.zero_le _, rfl, SetMap.made w1, HB1.out.alloc HB1.out.size _, by simp⟩
  case round =>
    obtain ⟨k, seen, hk, rfl, hset, hb, hok⟩ := hrel
    have HB : Hid (Below w.heap.size w wr) := hb
    have HSet : Hid (SetMap wr w1.heap.size k seen) := hset
    have HOk : Hid (okFrom (decide (1 < n)) seen (ms.drop k) = okFrom (decide (1 < n)) [] ms) := hok
    clear hb hset hok
    by_cases hks : k < n
    · have hcs := HC.out.below HB.out hg k (by omega)
      have hsm := HS.out (ms[k]'(by omega)) (List.getElem_mem _)
      have hdrop : ms.drop k = ms[k]'(by omega) :: ms.drop (k + 1) := List.drop_eq_getElem_cons (by omega)
      have hok := HOk.out
      obtain ⟨m, hme⟩ : ∃ m, ms[k]'(by omega) = m := ⟨_, rfl⟩
      have hme2 : ms.getD k mb0 = m := by rw [← hme]; simp [List.getD, List.getElem?_eq_getElem (show k < ms.length by omega)]
      rw [hdrop, hme] at hok
      rw [hme] at hsm
      rw [hme2] at hcs
      clear hdrop hme hme2 HOk
      obtain ⟨id, addr, vt⟩ := m
      obtain ⟨c0, c1, c2⟩ := hcs
      obtain ⟨s0, s1⟩ := hsm
      simp only at c0 c1 c2 s0 s1
      have HOk : Hid (okFrom (decide (1 < n)) seen (⟨id, addr, vt⟩ :: ms.drop (k + 1)) = okFrom (decide (1 < n)) [] ms) := hok
      clear hok
      by_cases hid : id.size = 0
      · have HG2 : Hid (good ms = false) := by
          show good ms = false
          rw [HG.out, ← HOk.out, okFrom, if_pos hid]
        have he : id.toList.isEmpty = true := (isEmpty_size id).2 hid
        go_wp2_with (go_at_call 23; go_must (refine (errorsNew _ _).mono ?_))
        rintro e w2 ⟨rfl, rfl⟩
        go_wp2
        go_ret
        rw [HG2.out]
        exact ⟨(HB.out.alloc HB.out.size _).alloc (Nat.le_trans HB.out.size (by simp)) _, wr.heap.size + 1, ⟨#[97, 32, 109, 101, 109, 98, 101, 114, 39, 115, 32, 105, 100, 32, 105, 115, 32, 101, 109, 112, 116, 121]⟩, rfl, by have := HB.out.size; omega, by simp, by go_simp⟩
      have he : id.toList.isEmpty = false := by
        cases h : id.toList.isEmpty with
        | false => rfl
        | true => exact absurd ((isEmpty_size id).1 h) hid
      have s0' : ¬ (255 : Int) < (id.size : Int) := by omega
      have s1' : ¬ (65535 : Int) < (addr.size : Int) := by omega
      have hmax : id.size ≤ maxLen := by unfold maxLen; omega
      by_cases hin : id.data.toList ∈ seen
      · have HG2 : Hid (good ms = false) := by
          show good ms = false
          rw [HG.out, ← HOk.out, okFrom, if_neg hid, if_pos hin]
        have hdec : decide (id.data.toList ∈ seen) = true := by simpa using hin
        have HDec : Hid (decide (id.data.toList ∈ seen) = true) := hdec
        clear hdec hin
        go_wp2_with (first
          | (at_lookup; go_must (refine wpList_set_lookup _ rfl _ _ rfl w1.heap.size k seen rfl (HSet.out.alloc _) id rfl hmax true HDec.out ?_))
          | (go_at_call 19; go_must (refine (errTwice id _ _ (by go_simp)).mono ?_)))
        rintro e w2 ⟨rfl, s, rfl⟩
        go_wp2
        go_ret
        rw [HG2.out]
        exact ⟨(((HB.out.alloc HB.out.size _).alloc (Nat.le_trans HB.out.size (by simp)) _).alloc (Nat.le_trans HB.out.size (by simp; omega)) _).drew, wr.heap.size + 1 + 1, s, rfl, by have := HB.out.size; omega, by simp, by go_simp⟩
      have hdec : decide (id.data.toList ∈ seen) = false := by simpa using hin
      have HDec : Hid (decide (id.data.toList ∈ seen) = false) := hdec
      clear hdec
      by_cases hadr : 1 < n ∧ addr.size = 0
      · have HG2 : Hid (good ms = false) := by
          show good ms = false
          rw [HG.out, ← HOk.out, okFrom, if_neg hid, if_neg hin, if_pos ⟨by simpa using hadr.1, hadr.2⟩]
        have he2 : addr.toList.isEmpty = true := (isEmpty_size addr).2 hadr.2
        have hn1 : (1 : Int) < (n : Int) := by omega
        clear hin
        go_wp2_with (first
          | (at_lookup; go_must (refine wpList_set_lookup _ rfl _ _ rfl w1.heap.size k seen rfl (HSet.out.alloc _) id rfl hmax false HDec.out ?_))
          | (go_at_call 19; go_must (refine (errNoAddr id _ _ (by go_simp)).mono ?_)))
        rintro e w2 ⟨rfl, s, rfl⟩
        go_wp2
        go_ret
        rw [HG2.out]
        exact ⟨(((HB.out.alloc HB.out.size _).alloc (Nat.le_trans HB.out.size (by simp)) _).alloc (Nat.le_trans HB.out.size (by simp; omega)) _).drew, wr.heap.size + 1 + 1, s, rfl, by have := HB.out.size; omega, by simp, by go_simp⟩
      have hok2 : okFrom (decide (1 < n)) (id.data.toList :: seen) (ms.drop (k + 1)) = okFrom (decide (1 < n)) [] ms := by
        rw [← HOk.out, okFrom, if_neg hid, if_neg hin, if_neg (fun h => hadr ⟨by simpa using h.1, h.2⟩)]
      have HOk2 : Hid (okFrom (decide (1 < n)) (id.data.toList :: seen) (ms.drop (k + 1)) = okFrom (decide (1 < n)) [] ms) := hok2
      have hcase : addr.toList.isEmpty = false ∨ (addr.toList.isEmpty = true ∧ ¬ (1 : Int) < (n : Int)) := by
        cases h : addr.toList.isEmpty with
        | false => exact Or.inl rfl
        | true => exact Or.inr ⟨rfl, fun h1 => hadr ⟨by omega, (isEmpty_size addr).1 h⟩⟩
      clear hin hok2 HOk hadr
      rcases hcase with he2 | ⟨he2, hn1⟩
      · go_wp2_with (first
          | (at_lookup; go_must (refine wpList_set_lookup _ rfl _ _ rfl w1.heap.size k seen rfl (HSet.out.alloc _) id rfl hmax false HDec.out ?_))
          | (at_mapUpdate; go_must (refine wpList_set_update _ rfl _ _ _ rfl w1.heap.size k seen rfl (HSet.out.alloc _) (by unfold maxLen; omega) id rfl rfl hmax ?_)))
        intro w2 hset2 hgrow2
        have HSet2 : Hid (SetMap w2 w1.heap.size (k + 1) (id.data.toList :: seen)) := hset2
        have HB2 : Hid (Below w.heap.size w w2) := (HB.out.alloc HB.out.size _).grown hgrow2 (Nat.le_trans HB.out.size (by simp)) (fun j hj => by cases hj; exact HB1.out.size)
        clear hset2 hgrow2
        go_wp2_with fail
        go_roundw
        case rel => exact ⟨k + 1, _, by omega, by go_num, HSet2.out, HB2.out, HOk2.out⟩
        case measure => simp [intOf]; omega
      · go_wp2_with (first
          | (at_lookup; go_must (refine wpList_set_lookup _ rfl _ _ rfl w1.heap.size k seen rfl (HSet.out.alloc _) id rfl hmax false HDec.out ?_))
          | (at_mapUpdate; go_must (refine wpList_set_update _ rfl _ _ _ rfl w1.heap.size k seen rfl (HSet.out.alloc _) (by unfold maxLen; omega) id rfl rfl hmax ?_)))
        intro w2 hset2 hgrow2
        have HSet2 : Hid (SetMap w2 w1.heap.size (k + 1) (id.data.toList :: seen)) := hset2
        have HB2 : Hid (Below w.heap.size w w2) := (HB.out.alloc HB.out.size _).grown hgrow2 (Nat.le_trans HB.out.size (by simp)) (fun j hj => by cases hj; exact HB1.out.size)
        clear hset2 hgrow2
        go_wp2_with fail
        go_roundw
        case rel => exact ⟨k + 1, _, by omega, by go_num, HSet2.out, HB2.out, HOk2.out⟩
        case measure => simp [intOf]; omega
    · obtain rfl : k = n := by omega
      have hok : okFrom (decide (1 < k)) [] ms = true := by
        rw [← HOk.out, List.drop_eq_nil_of_le (by omega)]
        rfl
      have HG2 : Hid (good ms = true) := HG.out.trans hok
      clear hok
      go_wp2
      go_ret
      rw [HG2.out]
      exact ⟨HB.out, rfl⟩

end Go.Proofs.Qxb6613017aFmt
