/- Seat b6613005aD: the law's own walk. -/
import Derived.Test.Qxb6613005aDoorKeys
import Derived.Deep.OwnRows
import Derived.Deep.LoopGhost
import Derived.Deep.CutBlock
import Derived.Deep.AppendLies
namespace Go.Proofs.Qxb6613005aDoor
open Go.RowKit
open Plain

/-- The memory a, ^end, b, end. -/
def MM (na nb e : Nat) (A B : Nat → Nat) : Nat → Nat := fun j => if j < na then A j else if j = na then 255 - e else if j < na + nb + 1 then B (j - na - 1) else e

/-- The memory while k bytes of b have been laid. -/
def F2 (na k e : Nat) (A B : Nat → Nat) : Nat → Nat := fun j => if j < na then A j else if j = na then e else if j < na + 1 + k then B (j - na - 1) else 0
/-- .. and its end. -/
def F3 (na nb e : Nat) (A B : Nat → Nat) : Nat → Nat := fun j => if j < na then A j else if j = na then e else if j < na + nb + 1 then B (j - na - 1) else e
theorem F3_of (na nb e : Nat) (A B : Nat → Nat) (j : Nat) (hj : j < na + nb + 2) : F3 na nb e A B j = if j = na + nb + 1 then e else F2 na nb e A B j := by
  unfold F3 F2
  by_cases h1 : j = na + nb + 1
  · simp [h1, show ¬ na + nb + 1 < na by omega]
  · simp [h1, show j < na + nb + 1 by omega, show j < na + 1 + nb by omega]
theorem MM_of (na nb e : Nat) (A B : Nat → Nat) (j : Nat) : MM na nb e A B j = if j = na then 255 - e else F3 na nb e A B j := by
  unfold MM F3
  by_cases h1 : j = na
  · simp [h1]
  · simp [h1]
theorem MM_lt (na nb e : Nat) (A B : Nat → Nat) (he : e < 256) (hA : ∀ i, i < na → A i < 256) (hB : ∀ i, i < nb → B i < 256) (j : Nat) : MM na nb e A B j < 256 := by
  unfold MM
  split
  · exact hA _ ‹_›
  · split
    · omega
    · split
      · exact hB _ (by omega)
      · exact he
theorem MM_a (na nb e : Nat) (A B : Nat → Nat) (j : Nat) (h : j < na) : MM na nb e A B j = A j := by simp [MM, h]
theorem MM_n (na nb e : Nat) (A B : Nat → Nat) : MM na nb e A B na = 255 - e := by simp [MM]
theorem MM_b (na nb e : Nat) (A B : Nat → Nat) (j : Nat) (h : j < nb) : MM na nb e A B (na + 1 + j) = B j := by
  simp [MM, show ¬ na + 1 + j < na by omega, show ¬ na + 1 + j = na by omega, show na + 1 + j < na + nb + 1 by omega, show na + 1 + j - na - 1 = j by omega]
theorem MM_e (na nb e : Nat) (A B : Nat → Nat) : MM na nb e A B (na + nb + 1) = e := by
  simp [MM, show ¬ na + nb + 1 < na by omega, show ¬ na + nb + 1 = na by omega]

theorem not_u8' (e : Nat) (he : e < 256) : bits .xor .u8 (if IntKind.u8.signed = true then -1 else IntKind.u8.max) (e : Int) = ((255 - e : Nat) : Int) := not_u8 e he

/-- The row of bytes f in block G. -/
def Mem (G N : Nat) (f : Nat → Nat) (wx : World) : Prop := wx.rowIs G 5 N (fun j => .int .u8 (f j))
theorem Mem.cell {G N : Nat} {f : Nat → Nat} {wx : World} (h : Mem G N f wx) (i : Nat) (hi : i < N) : wx.cell? ⟨G, i, none⟩ = some (.int .u8 (f i)) := World.rowIs.cell (f := fun j => .int .u8 (f j)) h hi
theorem Mem.free {G N : Nat} {f : Nat → Nat} {wx : World} (h : Mem G N f wx) (i : Nat) : wx.frozen? ⟨G, i, none⟩ = false := World.rowIs.frozen (f := fun j => .int .u8 (f j)) h i
theorem Mem.lt {G N : Nat} {f : Nat → Nat} {wx : World} (h : Mem G N f wx) : G < wx.heap.size := World.rowIs.lt (f := fun j => .int .u8 (f j)) h
theorem Mem.of_block {G N : Nat} {f : Nat → Nat} {wx w' : World} (h : Mem G N f wx) (e : w'.heap[G]? = wx.heap[G]?) : Mem G N f w' := World.rowIs.of_block (f := fun j => .int .u8 (f j)) h e
theorem Mem.below {G N b : Nat} {f : Nat → Nat} {wx w' : World} (h : Mem G N f wx) (hb : Below b wx w') (hG : G < b) : Mem G N f w' := h.of_block (hb.block G hG)
theorem Mem.set {G N : Nat} {f g : Nat → Nat} {wx : World} (h : Mem G N f wx) (i v : Nat) (hg : ∀ j, j < N → g j = if j = i then v else f j) : Mem G N g (wx.setCell ⟨G, i, none⟩ (.int .u8 v)) := by
  have h' : wx.rowIs G 5 N (fun j => .int .u8 (f j)) := h
  refine (h'.set i (.int .u8 v)).congr (fun j hj => ?_)
  show (if j = i then Value.int .u8 v else .int .u8 (f j)) = .int .u8 (g j)
  rw [hg j hj]
  by_cases hji : j = i
  · rw [if_pos hji, if_pos hji]
  · rw [if_neg hji, if_neg hji]
theorem Mem.made (w : World) (n : Nat) : Mem w.heap.size n (fun _ => 0) (w.alloc (.cells (madeCells #[.int .u8 0] n) 5)) := World.rowIs_made w (.int .u8 0) n 5

/-- The slice of the first k bytes of M, in a row of its own with room for cap. -/
def Exp (G cap k : Nat) (M : Nat → Nat) (wx : World) : Prop := wx.ownsRow 0 5 1 (.slice (some ⟨G, 0, none⟩) k cap) k ((List.range k).map fun j => Value.int .u8 (M j))
theorem Exp.made (w : World) (n : Nat) (M : Nat → Nat) (hn : n ≤ 1048578) : Exp w.heap.size n 0 M (w.alloc (.cells (madeCells #[.int .u8 0] n) 5)) :=
  World.ownsRow_made w _ n (Nat.zero_le _) (by unfold maxLen; omega) (by rw [size_madeCells]; omega)
theorem Exp.kept {G cap k b : Nat} {M : Nat → Nat} {wx w' : World} (h : Exp G cap k M wx) (hb : Below b wx w') (hG : G < b) : Exp G cap k M w' := by
  refine ⟨h.1, ?_⟩
  rcases h.2 with ⟨h0, _⟩ | ⟨g', cap', cur, hv, hbb, hg, rest⟩
  · cases h0
  · cases hv
    exact .inr ⟨G, cap, cur, rfl, hbb, by rw [hb.block G hG]; exact hg, rest⟩
theorem Exp.lt {G cap k : Nat} {M : Nat → Nat} {wx : World} (h : Exp G cap k M wx) : G < wx.heap.size := (World.ownsRow.lt h G rfl).2
theorem Exp.cell {G cap k : Nat} {M : Nat → Nat} {wx : World} (h : Exp G cap k M wx) (i : Nat) (hi : i < k) : wx.cell? ⟨G, i, none⟩ = some (.int .u8 (M i)) := by
  rw [World.ownsRow.cellAt (xs := (List.range k).map fun j => Value.int .u8 (M j)) h i (by omega)]
  simp [hi]
theorem Exp.snoc {G cap k v : Nat} {M : Nat → Nat} {w1 : World} (hv : M k = v) (h : w1.ownsRow 0 5 1 (.slice (some ⟨G, 0, none⟩) (k + 1) cap) (k + 1) (((List.range k).map fun j => Value.int .u8 (M j)) ++ [.int .u8 v])) : Exp G cap (k + 1) M w1 := by
  have e : ((List.range k).map fun j => Value.int .u8 (M j)) ++ [.int .u8 v] = (List.range (k + 1)).map fun j => Value.int .u8 (M j) := by
    rw [List.range_succ, List.map_append, ← hv]
    rfl
  rw [e] at h
  exact h
/-- What an append to the row leaves. -/
theorem after_append {G G2 N cap k v : Nat} {M f : Nat → Nat} {w wr w1 : World} {o : Obj} (hv : M k = v) (hR : Mem G N f wr) (hb : Below G w wr) (hG : G < G2)
    (hown : w1.ownsRow 0 5 1 (.slice (some ⟨G2, 0, none⟩) (k + 1) cap) (k + 1) (((List.range k).map fun j => Value.int .u8 (M j)) ++ [.int .u8 v])) (hgrow : (wr.alloc o).grownBy w1 (some G2)) :
    Exp G2 cap (k + 1) M w1 ∧ Mem G N f w1 ∧ Below G w w1 := by
  have hlt := hR.lt
  refine ⟨Exp.snoc hv hown, hR.of_block ?_, (hb.alloc (by omega) o).grown hgrow (by simp; omega) (fun k hk => by have := Option.some.inj hk; omega)⟩
  rw [hgrow.block G (by simp; omega) (fun e => by have := Option.some.inj e; omega)]
  exact Below.heap_alloc _ _ _ hlt

/-- The keys' block. -/
def KeysAt (q G N e : Nat) (wx : World) : Prop := wx.cell? ⟨q, 0, none⟩ = some (.int .i8 1) ∧ wx.cell? ⟨q, 2, none⟩ = some (.int .u8 e) ∧ wx.cell? ⟨q, 13, none⟩ = some (.slice (some ⟨G, 0, none⟩) N N)
theorem KeysAt.made (w : World) (G N e : Nat) : KeysAt w.heap.size G N e (w.alloc (keyObj e (.slice (some ⟨G, 0, none⟩) N N))) := by
  unfold KeysAt keyObj
  exact ⟨cell_of_row _ _ 0 _ _ _ (heap_alloc_new w _), cell_of_row _ _ 2 _ _ _ (heap_alloc_new w _), cell_of_row _ _ 13 _ _ _ (heap_alloc_new w _)⟩
theorem KeysAt.lt {q G N e : Nat} {wx : World} (h : KeysAt q G N e wx) : q < wx.heap.size := World.block_lt_of_cell? _ _ h.1
theorem KeysAt.below {q G N e b : Nat} {wx w' : World} (h : KeysAt q G N e wx) (hb : Below b wx w') (hq : q < b) : KeysAt q G N e w' :=
  ⟨(hb.cell (p := ⟨q, 0, none⟩) hq).trans h.1, (hb.cell (p := ⟨q, 2, none⟩) hq).trans h.2.1, (hb.cell (p := ⟨q, 13, none⟩) hq).trans h.2.2⟩
/-- All that the last loop keeps. -/
structure Last (w : World) (G G2 q N cap L e : Nat) (M : Nat → Nat) (wx : World) : Prop where
  keys : KeysAt q G N e wx
  exp : Exp G2 cap L M wx
  mem : Mem G N M wx
  below : Below G w wx
  tab : TabAt wx
theorem Last.next {w wx w' : World} {G G2 q N cap L e : Nat} {M : Nat → Nat} (h : Last w G G2 q N cap L e M wx) (hb : Below wx.heap.size wx w') : Last w G G2 q N cap L e M w' :=
  ⟨h.keys.below hb h.keys.lt, h.exp.kept hb h.exp.lt, h.mem.below hb h.mem.lt, h.below.trans (hb.mono (Nat.le_of_lt h.mem.lt)), h.tab.below hb h.tab.lt⟩

/-- Next's word, by its bytes. -/
theorem next_word (w : World) (q g N d e L : Nat) (M : Nat → Nat) (hT : TabAt w) (hN : N ≤ 1048578) (hL : L < N) (hd : d ≤ L) (he : e < 256) (hM : ∀ i, i < N → M i < 256)
    (hlt : ∀ i, i < L → M i ≠ e) (hat : M L = e) (h0 : w.cell? ⟨q, 0, none⟩ = some (.int .i8 1)) (h2 : w.cell? ⟨q, 2, none⟩ = some (.int .u8 e)) (h13 : w.cell? ⟨q, 13, none⟩ = some (.slice (some ⟨g, 0, none⟩) N N))
    (hc : ∀ i, i < N → w.cell? ⟨g, i, none⟩ = some (.int .u8 (M i))) :
    Calls Tryd.prog 11 #[.pointer (some ⟨q, 0, none⟩), .int .i64 0, .int .i64 d] w fun r w' =>
      ∃ R : Nat, r = .returned (.tuple #[.int .u64 R, .int .i64 (min (L - d) 8 : Nat)]) ∧ (∀ m, m < 8 → R / 2 ^ (56 - 8 * m) % 256 = if m < min (L - d) 8 then M (d + m) else 0) ∧ Below w.heap.size w w' := by
  refine (next_any w q g N d e L M hT hN hL hd he hM hlt hat h0 h2 h13 hc).mono ?_
  rintro r w' ⟨rfl, hb⟩
  refine ⟨_, rfl, fun m hm => ?_, hb⟩
  exact word_bytes (fun i => if i < min (L - d) 8 then M (d + i) else 0) (fun i hi => by
    split
    · exact hM _ (by omega)
    · decide) m hm

theorem info5z : (Tryd.prog.info? 5).map (fun i => (i.zero, i.size, i.bytes)) = some (some (.int .u8 0), 1, 1) := by kernel_rfl

theorem mk_full (x y : Int) (n : Nat) (hx : x = (n : Int)) (hy : y = (n : Int)) (hn : n ≤ 1048578) (w : World) :
    (Instr.makeSlice 22 (.int .i64 x) (.int .i64 y)).run Tryd.prog w = .ok (.slice (some ⟨w.heap.size, 0, none⟩) n n) (w.alloc (.cells (madeCells #[.int .u8 0] n) 5)) := by
  subst hx; subst hy
  exact run_make_row' 22 5 (.int .u8 0) 1 Tryd.underlying22 info5z rfl .i64 .i64 n (by omega) (by omega) w
theorem mk_empty (y : Int) (n : Nat) (hy : y = (n : Int)) (hn : n ≤ 1048578) (w : World) :
    (Instr.makeSlice 22 (.int .i64 0) (.int .i64 y)).run Tryd.prog w = .ok (.slice (some ⟨w.heap.size, 0, none⟩) 0 n) (w.alloc (.cells (madeCells #[.int .u8 0] n) 5)) := by
  subst hy
  obtain ⟨i, hi, hz, hs, hbb⟩ := info_parts info5z
  have h := run_make (P := Tryd.prog) w 22 5 i (.int .u8 0) Tryd.underlying22 hi hz .i64 .i64 0 (n : Int) (by omega) (by omega) (by rw [hbb]; omega) (by omega)
  rw [hs, Nat.mul_one] at h
  exact h

set_option maxRecDepth 20000 in
set_option maxHeartbeats 4000000 in
theorem main_walk (w : World) (aa ab : Option Addr) (ba oa na ca bb ob nb cb e : Nat) (A B : Nat → Nat) (hT : TabAt w) (he : e < 256)
    (hA : ∀ i, i < na → A i < 256) (hB : ∀ i, i < nb → B i < 256)
    (haa : 0 < na → aa = some ⟨ba, oa, none⟩ ∧ ba < w.heap.size) (hca : ∀ i, i < na → w.cell? ⟨ba, oa + i, none⟩ = some (.int .u8 (A i)))
    (hab : 0 < nb → ab = some ⟨bb, ob, none⟩ ∧ bb < w.heap.size) (hcb : ∀ i, i < nb → w.cell? ⟨bb, ob + i, none⟩ = some (.int .u8 (B i))) :
    Calls Tryd.prog 5 #[.slice aa na ca, .slice ab nb cb, .int .u8 e] w fun r w' => r = .returned (.bool true) ∧ Below w.heap.size w w' := by
  have HT : Hid (TabAt w) := hT
  have HA : Hid (∀ i, i < na → A i < 256) := hA
  have HB : Hid (∀ i, i < nb → B i < 256) := hB
  have HAA : Hid (0 < na → aa = some ⟨ba, oa, none⟩ ∧ ba < w.heap.size) := haa
  have HCA : Hid (∀ i, i < na → w.cell? ⟨ba, oa + i, none⟩ = some (.int .u8 (A i))) := hca
  have HAB : Hid (0 < nb → ab = some ⟨bb, ob, none⟩ ∧ bb < w.heap.size) := hab
  have HCB : Hid (∀ i, i < nb → w.cell? ⟨bb, ob + i, none⟩ = some (.int .u8 (B i))) := hcb
  have C15 : Hid (Calls Tryd.prog 15 #[.slice aa na ca, .slice ab nb cb, .int .u8 e] w fun r w' => IsBool r ∧ w' = w) := bytes_any w aa ab na ca nb cb e
  clear hT hA hB haa hca hab hcb
  go_enter Tryd.func5, Tryd.ntmps5
  go_upto_region 9 with (go_at_call 15; go_must (refine C15.out.mono ?_); rintro r w' ⟨⟨b, rfl⟩, hw⟩; obtain rfl := hw.symm)
  any_goals (go_ret; exact ⟨rfl, Below.refl _ _⟩)
  have hna : na ≤ 524288 := by omega
  have hnb : nb ≤ 524288 := by omega
  clear C15
  have hmk := mk_full (↑na + ↑nb + 2) (↑na + ↑nb + 2) (na + nb + 2) (by omega) (by omega) (by omega)
  go_cut [9] (fun s wx => s = .slice (some ⟨w.heap.size, 0, none⟩) (na + nb + 2) (na + nb + 2) ∧ Mem w.heap.size (na + nb + 2) (fun _ => 0) wx ∧ Below w.heap.size w wx)
  case first =>
    go_wp2
    go_meet
    case rel => exact ⟨rfl, Mem.made w _, (Below.refl _ _).alloc (Nat.le_refl _) _⟩
  case rest =>
    clear hmk
    obtain ⟨rfl, hR, hb⟩ := hcut
    go_upto_block 0 with fail
    go_cut [10] (fun _ wx => Mem w.heap.size (na + nb + 2) (fun j => if j < na then A j else 0) wx ∧ Below w.heap.size w wx)
    case first =>
      go_wp2_with fail
      go_loopw [10] (fun i wr => ∃ k : Nat, k ≤ na ∧ i = .int .i64 k ∧ Mem w.heap.size (na + nb + 2) (fun j => if j < k then A j else 0) wr ∧ Below w.heap.size w wr) (fun i _ => na - (intOf i).toNat)
      case atStart => exact ⟨0, Nat.zero_le _, rfl, World.rowIs.congr (f := fun _ => .int .u8 (0 : Nat)) hR (fun i _ => by simp), hb⟩
      case round =>
        clear hR hb
        obtain ⟨k, hk, rfl, hR, hb⟩ := hrel
        by_cases hlt : k < na
        · obtain ⟨haa, hba⟩ := HAA.out (by omega)
          subst haa
          have c1 : wr.cell? ⟨ba, oa + k, none⟩ = some (.int .u8 (A k)) := (hb.cell (p := ⟨ba, oa + k, none⟩) hba).trans (HCA.out k hlt)
          have c2 := hR.cell k (by omega)
          have f2 := hR.free k
          have R : Hid (Mem w.heap.size (na + nb + 2) (fun j => if j < k + 1 then A j else 0) (wr.setCell ⟨w.heap.size, k, none⟩ (.int .u8 (A k)))) := hR.set k (A k) (fun j _ => by
            by_cases h1 : j = k
            · subst h1; simp
            · simp only [if_neg h1]
              by_cases h2 : j < k
              · simp [h2, show j < k + 1 by omega]
              · simp [h2, show ¬ j < k + 1 by omega])
          have RB : Hid (Below w.heap.size w (wr.setCell ⟨w.heap.size, k, none⟩ (.int .u8 (A k)))) := hb.setCell (p := ⟨w.heap.size, k, none⟩) (Nat.le_refl _) _
          clear hR hb
          go_wp2
          go_roundw
          case rel => exact ⟨k + 1, by omega, by go_num, R.out, RB.out⟩
          case measure => simp [intOf]; omega
        · obtain rfl : k = na := by omega
          have R : Hid (Mem w.heap.size (k + nb + 2) (fun j => if j < k then A j else 0) wr ∧ Below w.heap.size w wr) := ⟨hR, hb⟩
          clear hR hb
          go_wp2_with fail
          go_meet
          case rel => exact R.out
    case rest =>
      clear hR hb
      obtain ⟨hR, hb⟩ := hcut
      have c1 := hR.cell na (by omega)
      have f1 := hR.free na
      have R : Hid (Mem w.heap.size (na + nb + 2) (F2 na 0 e A B) (wc.setCell ⟨w.heap.size, na, none⟩ (.int .u8 e))) := hR.set na e (fun j _ => by
        unfold F2
        by_cases h1 : j = na
        · subst h1; simp
        · by_cases h2 : j < na
          · simp [h1, h2]
          · simp [h1, h2, show ¬ j < na + 1 + 0 by omega])
      have RB : Hid (Below w.heap.size w (wc.setCell ⟨w.heap.size, na, none⟩ (.int .u8 e))) := hb.setCell (p := ⟨w.heap.size, na, none⟩) (Nat.le_refl _) _
      clear hR hb
      go_upto_block 2 with fail
      go_cut [11] (fun _ wx => Mem w.heap.size (na + nb + 2) (F2 na nb e A B) wx ∧ Below w.heap.size w wx)
      case first =>
        go_wp2_with fail
        go_loopw [11] (fun i wr => ∃ k : Nat, k ≤ nb ∧ i = .int .i64 k ∧ Mem w.heap.size (na + nb + 2) (F2 na k e A B) wr ∧ Below w.heap.size w wr) (fun i _ => nb - (intOf i).toNat)
        case atStart => exact ⟨0, Nat.zero_le _, rfl, R.out, RB.out⟩
        case round =>
          clear R RB c1 f1
          obtain ⟨k, hk, rfl, hR, hb⟩ := hrel
          by_cases hlt : k < nb
          · obtain ⟨hab, hbb⟩ := HAB.out (by omega)
            subst hab
            have c1 : wr.cell? ⟨bb, ob + k, none⟩ = some (.int .u8 (B k)) := (hb.cell (p := ⟨bb, ob + k, none⟩) hbb).trans (HCB.out k hlt)
            have c2 := hR.cell (na + 1 + k) (by omega)
            have f2 := hR.free (na + 1 + k)
            have R : Hid (Mem w.heap.size (na + nb + 2) (F2 na (k + 1) e A B) (wr.setCell ⟨w.heap.size, na + 1 + k, none⟩ (.int .u8 (B k)))) := hR.set (na + 1 + k) (B k) (fun j _ => by
              unfold F2
              by_cases h1 : j = na + 1 + k
              · subst h1
                simp [show ¬ na + 1 + k < na by omega, show ¬ na + 1 + k = na by omega, show na + 1 + k < na + 1 + (k + 1) by omega, show na + 1 + k - na - 1 = k by omega]
              · by_cases h2 : j < na + 1 + k
                · simp [h1, h2, show j < na + 1 + (k + 1) by omega]
                · simp [h1, h2, show ¬ j < na + 1 + (k + 1) by omega])
            have RB : Hid (Below w.heap.size w (wr.setCell ⟨w.heap.size, na + 1 + k, none⟩ (.int .u8 (B k)))) := hb.setCell (p := ⟨w.heap.size, na + 1 + k, none⟩) (Nat.le_refl _) _
            clear hR hb
            go_wp2
            go_roundw
            case rel => exact ⟨k + 1, by omega, by go_num, R.out, RB.out⟩
            case measure => simp [intOf]; omega
          · obtain rfl : k = nb := by omega
            have R : Hid (Mem w.heap.size (na + k + 2) (F2 na k e A B) wr ∧ Below w.heap.size w wr) := ⟨hR, hb⟩
            clear hR hb
            go_wp2_with fail
            go_meet
            case rel => exact R.out
      case rest =>
        clear R RB c1 f1
        obtain ⟨hR, hb⟩ := hcut
        have c1 := hR.cell (na + nb + 1) (by omega)
        have f1 := hR.free (na + nb + 1)
        have R : Hid (Mem w.heap.size (na + nb + 2) (F3 na nb e A B) (wc.setCell ⟨w.heap.size, na + nb + 1, none⟩ (.int .u8 e))) := hR.set (na + nb + 1) e (F3_of na nb e A B)
        have RB : Hid (Below w.heap.size w (wc.setCell ⟨w.heap.size, na + nb + 1, none⟩ (.int .u8 e))) := hb.setCell (p := ⟨w.heap.size, na + nb + 1, none⟩) (Nat.le_refl _) _
        clear hR hb
        go_upto_region 19 with fail
        go_cut [] (fun wx => Mem w.heap.size (na + nb + 2) (F3 na nb e A B) wx ∧ Below w.heap.size w wx)
        case first =>
          go_wp2
          go_meet
          case rel => exact ⟨R.out, RB.out⟩
        case rest =>
          clear R RB c1 f1
          obtain ⟨hR, hb⟩ := hcut
          go_upto_region 20 with fail
          go_cut [12] (fun s wx => ∃ q, s = .pointer (some ⟨q, 0, none⟩) ∧ wx.cell? ⟨q, 2, none⟩ = some (.int .u8 e) ∧ Mem w.heap.size (na + nb + 2) (F3 na nb e A B) wx ∧ Below w.heap.size w wx)
          case first =>
            have hlt := hR.lt
            have R : Hid (Mem w.heap.size (na + nb + 2) (F3 na nb e A B) (wc.alloc (fmtObj e)) ∧ Below w.heap.size w (wc.alloc (fmtObj e))) := ⟨hR.of_block (Below.heap_alloc _ _ _ hlt), hb.alloc (by omega) _⟩
            clear hR hb
            go_wp2_with (go_at_call 16; go_must (refine (newFormat_any e _).mono ?_))
            rintro r w1 ⟨rfl, hw⟩
            obtain rfl := hw.symm
            have RC : Hid ((wc.alloc (fmtObj e)).cell? ⟨wc.heap.size, 2, none⟩ = some (.int .u8 e)) := by
              unfold fmtObj
              exact cell_of_row _ _ 2 _ _ _ (heap_alloc_new wc _)
            go_wp2_with fail
            go_meet
            case rel => exact ⟨_, rfl, RC.out, R.out⟩
          case rest =>
            clear hR hb
            obtain ⟨q, rfl, hq, hR, hb⟩ := hcut
            go_upto_region 21 with fail
            go_cut [] (fun wx => Mem w.heap.size (na + nb + 2) (MM na nb e A B) wx ∧ Below w.heap.size w wx)
            case first =>
              have c1 := hR.cell na (by omega)
              have f1 := hR.free na
              have C17 : Hid (Calls Tryd.prog 17 #[.pointer (some ⟨q, 0, none⟩), .slice (some ⟨w.heap.size, 0, none⟩) (na + 1) (na + nb + 2)] wc fun r w' => r = .returned (.tuple #[]) ∧ w' = wc.setCell ⟨w.heap.size, na, none⟩ (.int .u8 ↑(255 - e))) :=
                unterm_any wc q w.heap.size na _ e he _ (by omega) hq c1 f1
              have R : Hid (Mem w.heap.size (na + nb + 2) (MM na nb e A B) (wc.setCell ⟨w.heap.size, na, none⟩ (.int .u8 ↑(255 - e))) ∧ Below w.heap.size w (wc.setCell ⟨w.heap.size, na, none⟩ (.int .u8 ↑(255 - e)))) :=
                ⟨hR.set na (255 - e) (fun j _ => MM_of na nb e A B j), hb.setCell (p := ⟨w.heap.size, na, none⟩) (Nat.le_refl _) _⟩
              clear hR hb hq c1 f1
              have l1 : (na : Int) + 1 ≤ (na : Int) + nb + 2 := by omega
              go_wp2_with (go_at_call 17; go_must (refine C17.out.mono ?_))
              rintro r w1 ⟨rfl, hw⟩
              obtain rfl := hw.symm
              go_wp2_with fail
              go_meet
              case rel => exact R.out
            case rest =>
              clear hR hb hq
              obtain ⟨hR, hb⟩ := hcut
              go_upto_block 4 with fail
              go_cut [13] (fun _ wx => Mem w.heap.size (na + nb + 2) (MM na nb e A B) wx ∧ Below w.heap.size w wx)
              case first =>
                go_wp2_with fail
                go_loopw [13] (fun i wr => ∃ k : Nat, k ≤ na ∧ i = .int .i64 k ∧ Mem w.heap.size (na + nb + 2) (MM na nb e A B) wr ∧ Below w.heap.size w wr) (fun i _ => na - (intOf i).toNat)
                case atStart => exact ⟨0, Nat.zero_le _, rfl, hR, hb⟩
                case round =>
                  clear hR hb
                  obtain ⟨k, hk, rfl, hR, hb⟩ := hrel
                  by_cases hlt : k < na
                  · obtain ⟨haa, hba⟩ := HAA.out (by omega)
                    subst haa
                    have c1 : wr.cell? ⟨ba, oa + k, none⟩ = some (.int .u8 (A k)) := (hb.cell (p := ⟨ba, oa + k, none⟩) hba).trans (HCA.out k hlt)
                    have c2 := hR.cell k (by omega)
                    rw [MM_a _ _ _ _ _ _ hlt] at c2
                    have l1 : (k : Int) < (na : Int) := by omega
                    have l2 : (k : Int) < (na : Int) + nb + 2 := by omega
                    have R : Hid (∀ m, Mem w.heap.size (na + nb + 2) (MM na nb e A B) (wr.drewN m) ∧ Below w.heap.size w (wr.drewN m)) := fun m => ⟨hR.of_block rfl, hb.trans ⟨rfl, rfl, rfl, Nat.le_refl _, fun _ _ => rfl⟩⟩
                    clear hR hb
                    go_wp2
                    go_quiet (fail)
                    go_wp2
                    go_roundw
                    case rel => exact ⟨k + 1, by omega, by go_num, R.out _⟩
                    case measure => simp [intOf]; omega
                  · have R : Hid (Mem w.heap.size (na + nb + 2) (MM na nb e A B) wr ∧ Below w.heap.size w wr) := ⟨hR, hb⟩
                    clear hR hb
                    go_wp2_with fail
                    go_meet
                    case rel => exact R.out
              case rest =>
                clear hR hb
                obtain ⟨hR, hb⟩ := hcut
                have c1 := hR.cell na (by omega)
                rw [MM_n] at c1
                have hx := not_u8 e he
                have hx2 := not_u8' e he
                go_upto_block 6 with fail
                clear c1
                go_cut [14] (fun _ wx => Mem w.heap.size (na + nb + 2) (MM na nb e A B) wx ∧ Below w.heap.size w wx)
                case first =>
                  go_wp2_with fail
                  go_loopw [14] (fun i wr => ∃ k : Nat, k ≤ nb ∧ i = .int .i64 k ∧ Mem w.heap.size (na + nb + 2) (MM na nb e A B) wr ∧ Below w.heap.size w wr) (fun i _ => nb - (intOf i).toNat)
                  case atStart => exact ⟨0, Nat.zero_le _, rfl, hR, hb⟩
                  case round =>
                    clear hR hb hx hx2
                    obtain ⟨k, hk, rfl, hR, hb⟩ := hrel
                    by_cases hlt : k < nb
                    · obtain ⟨hab, hbb⟩ := HAB.out (by omega)
                      subst hab
                      have c1 : wr.cell? ⟨bb, ob + k, none⟩ = some (.int .u8 (B k)) := (hb.cell (p := ⟨bb, ob + k, none⟩) hbb).trans (HCB.out k hlt)
                      have c2 := hR.cell (na + 1 + k) (by omega)
                      rw [MM_b _ _ _ _ _ _ hlt] at c2
                      have l1 : (k : Int) < (nb : Int) := by omega
                      have l2 : (na : Int) + 1 + k < (na : Int) + nb + 2 := by omega
                      have w1 : IntKind.i64.wrap ((na : Int) + 1) = (na : Int) + 1 := by rw [IntKind.wrap_i64]; omega
                      have w2 : IntKind.i64.wrap ((na : Int) + 1 + k) = (na : Int) + 1 + k := by rw [IntKind.wrap_i64]; omega
                      have R : Hid (∀ m, Mem w.heap.size (na + nb + 2) (MM na nb e A B) (wr.drewN m) ∧ Below w.heap.size w (wr.drewN m)) := fun m => ⟨hR.of_block rfl, hb.trans ⟨rfl, rfl, rfl, Nat.le_refl _, fun _ _ => rfl⟩⟩
                      clear hR hb
                      go_wp2
                      go_quiet (fail)
                      go_wp2
                      go_roundw
                      case rel => exact ⟨k + 1, by omega, by go_num, R.out _⟩
                      case measure => simp [intOf]; omega
                    · have R : Hid (Mem w.heap.size (na + nb + 2) (MM na nb e A B) wr ∧ Below w.heap.size w wr) := ⟨hR, hb⟩
                      clear hR hb
                      go_wp2_with fail
                      go_meet
                      case rel => exact R.out
                case rest =>
                  clear hR hb hx hx2
                  obtain ⟨hR, hb⟩ := hcut
                  have c1 := hR.cell (na + nb + 1) (by omega)
                  rw [MM_e] at c1
                  go_upto_region 36 with fail
                  clear c1
                  have hG0 := hR.lt
                  have hmk := mk_empty (↑na + ↑nb + 1) (na + nb + 1) (by omega) (by omega)
                  go_cut [15] (fun s wx => ∃ G2, w.heap.size < G2 ∧ s = .slice (some ⟨G2, 0, none⟩) 0 (na + nb + 1) ∧ Exp G2 (na + nb + 1) 0 (MM na nb e A B) wx ∧ Mem w.heap.size (na + nb + 2) (MM na nb e A B) wx ∧ Below w.heap.size w wx)
                  case first =>
                    have R : Hid (Exp wc.heap.size (na + nb + 1) 0 (MM na nb e A B) (wc.alloc (.cells (madeCells #[.int .u8 0] (na + nb + 1)) 5)) ∧ Mem w.heap.size (na + nb + 2) (MM na nb e A B) (wc.alloc (.cells (madeCells #[.int .u8 0] (na + nb + 1)) 5)) ∧ Below w.heap.size w (wc.alloc (.cells (madeCells #[.int .u8 0] (na + nb + 1)) 5))) :=
                      ⟨Exp.made wc _ _ (by omega), hR.of_block (Below.heap_alloc _ _ _ hG0), hb.alloc (by omega) _⟩
                    clear hR hb
                    go_wp2
                    go_meet
                    case rel => exact ⟨_, hG0, rfl, R.out⟩
                  case rest =>
                    clear hmk hR hb hG0
                    obtain ⟨G2, hG, rfl, hE, hR, hb⟩ := hcut
                    go_upto_block 8 with fail
                    go_cut [15, 16, 17] (fun s _ _ wx => ∃ L, L ≤ na + nb + 1 ∧ (∀ j, j < L → MM na nb e A B j ≠ e) ∧ MM na nb e A B L = e ∧ s = .slice (some ⟨G2, 0, none⟩) L (na + nb + 1) ∧ Exp G2 (na + nb + 1) L (MM na nb e A B) wx ∧ Mem w.heap.size (na + nb + 2) (MM na nb e A B) wx ∧ Below w.heap.size w wx)
                    case first =>
                      obtain ⟨i5, hi5, hz5, hs5, hb5⟩ := info_parts info5z
                      go_wp2_with fail
                      go_loopw [15, 16] (fun s i wr => ∃ k : Nat, k ≤ na + nb + 1 ∧ i = .int .i64 k ∧ s = .slice (some ⟨G2, 0, none⟩) k (na + nb + 1) ∧ Exp G2 (na + nb + 1) k (MM na nb e A B) wr ∧ Mem w.heap.size (na + nb + 2) (MM na nb e A B) wr ∧ Below w.heap.size w wr ∧ Hid (∀ j, j < k → MM na nb e A B j ≠ e)) (fun _ i _ => (na + nb + 1) - (intOf i).toNat)
                      case atStart => exact ⟨0, Nat.zero_le _, rfl, rfl, hE, hR, hb, fun j hj => by omega⟩
                      case round =>
                        clear hE hR hb
                        obtain ⟨k, hk, rfl, rfl, hE, hR, hb, HNE⟩ := hrel
                        by_cases hlt : k < na + nb + 1
                        · obtain ⟨v, hv⟩ : ∃ v, MM na nb e A B k = v := ⟨_, rfl⟩
                          have HV : Hid (MM na nb e A B k = v) := hv
                          by_cases h1 : k < na
                          · obtain ⟨haa, hba⟩ := HAA.out (by omega)
                            subst haa
                            have c1 : wr.cell? ⟨ba, oa + k, none⟩ = some (.int .u8 v) := by
                              rw [← hv, MM_a _ _ _ _ _ _ h1]
                              exact (hb.cell (p := ⟨ba, oa + k, none⟩) hba).trans (HCA.out k h1)
                            clear hv
                            by_cases hve : v = e
                            · have t1 : ((v : Int) == (e : Int)) = true := by simp [hve]
                              have R : Hid (∃ L, L ≤ na + nb + 1 ∧ (∀ j, j < L → MM na nb e A B j ≠ e) ∧ MM na nb e A B L = e ∧ Value.slice (some ⟨G2, 0, none⟩) k (na + nb + 1) = .slice (some ⟨G2, 0, none⟩) L (na + nb + 1) ∧ Exp G2 (na + nb + 1) L (MM na nb e A B) wr ∧ Mem w.heap.size (na + nb + 2) (MM na nb e A B) wr ∧ Below w.heap.size w wr) := ⟨k, hk, HNE.out, HV.out.trans hve, rfl, hE, hR, hb⟩
                              have HVE : Hid (v = e) := hve
                              clear hE hR hb hve
                              go_wp2_with fail
                              go_meet
                              case rel => exact R.out
                            · have t1 : ((v : Int) == (e : Int)) = false := by simp; omega
                              have hown : wr.ownsRow 0 5 1 (.slice (some ⟨G2, 0, none⟩) k (na + nb + 1)) k ((List.range k).map fun j => Value.int .u8 (MM na nb e A B j)) := hE
                              have HVE : Hid (¬ v = e) := hve
                              clear hve
                              go_wp2_with (at_builtin; go_must (refine wpList_append_fits _ rfl (.tmp 170) (.tmp 172) 22 rfl 0 5 i5 1 Tryd.underlying22 hi5 hs5 G2 k (na + nb + 1) _ rfl (hown.alloc _) ⟨wr.heap.size, 0, none⟩ 1 1 [.int .u8 v] rfl rfl (cell_one_new _ _ _) (by simp [Value.oneCell']) (by omega) ?_))
                              intro w1 hown1 hgrow
                              have R : Hid (Exp G2 (na + nb + 1) (k + 1) (MM na nb e A B) w1 ∧ Mem w.heap.size (na + nb + 2) (MM na nb e A B) w1 ∧ Below w.heap.size w w1) := after_append HV.out hR hb hG hown1 hgrow
                              clear hE hR hb hown hown1 hgrow
                              go_wp2
                              go_roundw
                              case rel => exact ⟨k + 1, by omega, by go_num, rfl, R.out.1, R.out.2.1, R.out.2.2, fun j hj => by
                                by_cases h1 : j = k
                                · subst h1; rw [HV.out]; exact HVE.out
                                · exact HNE.out j (by omega)⟩
                              case measure => simp [intOf]; omega
                          · by_cases h2 : k = na
                            · subst h2
                              rw [MM_n] at hv
                              have hx := not_u8 e he
                              have hx2 := not_u8' e he
                              rw [hv] at hx hx2
                              clear hv
                              by_cases hve : v = e
                              · have t1 : ((v : Int) == (e : Int)) = true := by simp [hve]
                                have R : Hid (∃ L, L ≤ k + nb + 1 ∧ (∀ j, j < L → MM k nb e A B j ≠ e) ∧ MM k nb e A B L = e ∧ Value.slice (some ⟨G2, 0, none⟩) k (k + nb + 1) = .slice (some ⟨G2, 0, none⟩) L (k + nb + 1) ∧ Exp G2 (k + nb + 1) L (MM k nb e A B) wr ∧ Mem w.heap.size (k + nb + 2) (MM k nb e A B) wr ∧ Below w.heap.size w wr) := ⟨k, hk, HNE.out, HV.out.trans hve, rfl, hE, hR, hb⟩
                                have HVE : Hid (v = e) := hve
                                clear hE hR hb hve
                                go_wp2_with fail
                                go_meet
                                case rel => exact R.out
                              · have t1 : ((v : Int) == (e : Int)) = false := by simp; omega
                                have hown : wr.ownsRow 0 5 1 (.slice (some ⟨G2, 0, none⟩) k (k + nb + 1)) k ((List.range k).map fun j => Value.int .u8 (MM k nb e A B j)) := hE
                                have HVE : Hid (¬ v = e) := hve
                                clear hve
                                go_wp2_with (at_builtin; go_must (refine wpList_append_fits _ rfl (.tmp 170) (.tmp 172) 22 rfl 0 5 i5 1 Tryd.underlying22 hi5 hs5 G2 k (k + nb + 1) _ rfl (hown.alloc _) ⟨wr.heap.size, 0, none⟩ 1 1 [.int .u8 v] rfl rfl (cell_one_new _ _ _) (by simp [Value.oneCell']) (by omega) ?_))
                                intro w1 hown1 hgrow
                                have R : Hid (Exp G2 (k + nb + 1) (k + 1) (MM k nb e A B) w1 ∧ Mem w.heap.size (k + nb + 2) (MM k nb e A B) w1 ∧ Below w.heap.size w w1) := after_append HV.out hR hb hG hown1 hgrow
                                clear hE hR hb hown hown1 hgrow
                                go_wp2
                                go_roundw
                                case rel => exact ⟨k + 1, by omega, by go_num, rfl, R.out.1, R.out.2.1, R.out.2.2, fun j hj => by
                                  by_cases h1 : j = k
                                  · subst h1; rw [HV.out]; exact HVE.out
                                  · exact HNE.out j (by omega)⟩
                                case measure => simp [intOf]; omega
                            · obtain ⟨hab, hbb⟩ := HAB.out (by omega)
                              subst hab
                              have c1 : wr.cell? ⟨bb, ob + (k - na - 1), none⟩ = some (.int .u8 v) := by
                                have e1 : na + 1 + (k - na - 1) = k := by omega
                                have := MM_b na nb e A B (k - na - 1) (by omega)
                                rw [e1] at this
                                rw [← hv, this]
                                exact (hb.cell (p := ⟨bb, ob + (k - na - 1), none⟩) hbb).trans (HCB.out (k - na - 1) (by omega))
                              clear hv
                              by_cases hve : v = e
                              · have t1 : ((v : Int) == (e : Int)) = true := by simp [hve]
                                have R : Hid (∃ L, L ≤ na + nb + 1 ∧ (∀ j, j < L → MM na nb e A B j ≠ e) ∧ MM na nb e A B L = e ∧ Value.slice (some ⟨G2, 0, none⟩) k (na + nb + 1) = .slice (some ⟨G2, 0, none⟩) L (na + nb + 1) ∧ Exp G2 (na + nb + 1) L (MM na nb e A B) wr ∧ Mem w.heap.size (na + nb + 2) (MM na nb e A B) wr ∧ Below w.heap.size w wr) := ⟨k, hk, HNE.out, HV.out.trans hve, rfl, hE, hR, hb⟩
                                have HVE : Hid (v = e) := hve
                                clear hE hR hb hve
                                go_wp2_with fail
                                go_meet
                                case rel => exact R.out
                              · have t1 : ((v : Int) == (e : Int)) = false := by simp; omega
                                have hown : wr.ownsRow 0 5 1 (.slice (some ⟨G2, 0, none⟩) k (na + nb + 1)) k ((List.range k).map fun j => Value.int .u8 (MM na nb e A B j)) := hE
                                have HVE : Hid (¬ v = e) := hve
                                clear hve
                                go_wp2_with (at_builtin; go_must (refine wpList_append_fits _ rfl (.tmp 170) (.tmp 172) 22 rfl 0 5 i5 1 Tryd.underlying22 hi5 hs5 G2 k (na + nb + 1) _ rfl (hown.alloc _) ⟨wr.heap.size, 0, none⟩ 1 1 [.int .u8 v] rfl rfl (cell_one_new _ _ _) (by simp [Value.oneCell']) (by omega) ?_))
                                intro w1 hown1 hgrow
                                have R : Hid (Exp G2 (na + nb + 1) (k + 1) (MM na nb e A B) w1 ∧ Mem w.heap.size (na + nb + 2) (MM na nb e A B) w1 ∧ Below w.heap.size w w1) := after_append HV.out hR hb hG hown1 hgrow
                                clear hE hR hb hown hown1 hgrow
                                go_wp2
                                go_roundw
                                case rel => exact ⟨k + 1, by omega, by go_num, rfl, R.out.1, R.out.2.1, R.out.2.2, fun j hj => by
                                  by_cases h1 : j = k
                                  · subst h1; rw [HV.out]; exact HVE.out
                                  · exact HNE.out j (by omega)⟩
                                case measure => simp [intOf]; omega
                        · obtain rfl : k = na + nb + 1 := by omega
                          have R : Hid (∃ L, L ≤ na + nb + 1 ∧ (∀ j, j < L → MM na nb e A B j ≠ e) ∧ MM na nb e A B L = e ∧ Value.slice (some ⟨G2, 0, none⟩) (na + nb + 1) (na + nb + 1) = .slice (some ⟨G2, 0, none⟩) L (na + nb + 1) ∧ Exp G2 (na + nb + 1) L (MM na nb e A B) wr ∧ Mem w.heap.size (na + nb + 2) (MM na nb e A B) wr ∧ Below w.heap.size w wr) := ⟨_, Nat.le_refl _, HNE.out, MM_e _ _ _ _ _, rfl, hE, hR, hb⟩
                          clear hE hR hb
                          go_wp2_with fail
                          go_meet
                          case rel => exact R.out
                    case rest =>
                      clear hE hR hb
                      obtain ⟨L, hL, hNE, hLe, rfl, hE, hR, hb⟩ := hcut
                      have HL : Hid ((∀ j, j < L → MM na nb e A B j ≠ e) ∧ MM na nb e A B L = e) := ⟨hNE, hLe⟩
                      have HM : Hid (∀ j, j < na + nb + 2 → MM na nb e A B j < 256) := fun j _ => MM_lt na nb e A B he HA.out HB.out j
                      clear hNE hLe HA HB HCA HCB HAA HAB
                      go_upto_region 48 with fail
                      go_cut [18] (fun s wx => ∃ q, s = .pointer (some ⟨q, 0, none⟩) ∧ Last w w.heap.size G2 q (na + nb + 2) (na + nb + 1) L e (MM na nb e A B) wx)
                      case first =>
                        have hlt := hR.lt
                        have hlt2 := hE.lt
                        have hba : Below wc.heap.size wc (wc.alloc (keyObj e (.slice (some ⟨w.heap.size, 0, none⟩) (na + nb + 2) (na + nb + 2)))) := (Below.refl _ _).alloc (Nat.le_refl _) _
                        have R : Hid (Last w w.heap.size G2 wc.heap.size (na + nb + 2) (na + nb + 1) L e (MM na nb e A B) (wc.alloc (keyObj e (.slice (some ⟨w.heap.size, 0, none⟩) (na + nb + 2) (na + nb + 2))))) :=
                          ⟨KeysAt.made wc _ _ _, hE.kept hba hlt2, hR.below hba hlt, hb.alloc (by omega) _, HT.out.below (hb.alloc (by omega) _) HT.out.lt⟩
                        clear hE hR hb hba
                        go_wp2_with (go_at_call 10; go_must (refine (newKeys_any e _ _ _ _).mono ?_))
                        rintro r w1 ⟨rfl, hw⟩
                        obtain rfl := hw.symm
                        go_wp2_with fail
                        go_meet
                        case rel => exact ⟨_, rfl, R.out⟩
                      case rest =>
                        clear hE hR hb HT
                        obtain ⟨q, rfl, hI⟩ := hcut
                        go_wp2
                        go_loopw [19] (fun i wr => ∃ d : Nat, d ≤ L + 8 ∧ i = .int .i64 d ∧ Last w w.heap.size G2 q (na + nb + 2) (na + nb + 1) L e (MM na nb e A B) wr) (fun i _ => (L + 9) - (intOf i).toNat)
                        case atStart => exact ⟨0, by omega, rfl, hI⟩
                        case round =>
                          clear hI
                          obtain ⟨d, hd, rfl, hI⟩ := hrel
                          by_cases hdL : d ≤ L
                          · have C11 := next_word wr q w.heap.size (na + nb + 2) d e L (MM na nb e A B) hI.tab (by omega) (by omega) hdL he HM.out HL.out.1 HL.out.2 hI.keys.1 hI.keys.2.1 hI.keys.2.2 (fun i hi => hI.mem.cell i hi)
                            have HC : Hid (Calls Tryd.prog 11 #[.pointer (some ⟨q, 0, none⟩), .int .i64 0, .int .i64 d] wr fun r w' =>
                              ∃ R : Nat, r = .returned (.tuple #[.int .u64 R, .int .i64 (min (L - d) 8 : Nat)]) ∧ (∀ m, m < 8 → R / 2 ^ (56 - 8 * m) % 256 = if m < min (L - d) 8 then MM na nb e A B (d + m) else 0) ∧ Below wr.heap.size wr w') := C11
                            clear C11
                            obtain ⟨k, hkk⟩ : ∃ k, k = min (L - d) 8 := ⟨_, rfl⟩
                            rw [← hkk] at HC
                            have HK : Hid (k = min (L - d) 8) := hkk
                            clear hkk
                            have l1 : (d : Int) ≤ (L : Int) := by omega
                            have l2 : (L : Int) ≤ (na : Int) + nb + 1 := by omega
                            go_wp2_with (go_at_call 11; go_must (refine HC.out.mono ?_))
                            rintro r w1 ⟨R, rfl, hRb, hb1⟩
                            have hI1 := hI.next hb1
                            have C12 : ∀ (ao : Option Addr) (c : Nat), (0 < L - d → ao = some ⟨G2, d, none⟩) → Calls Tryd.prog 12 #[.int .u64 R, .int .i64 k, .slice ao (L - d) c, .int .u8 0] w1 fun r w' => r = .returned (.bool true) ∧ w' = w1 := fun ao c hao =>
                              wordIs_any w1 G2 d (L - d) c k R (fun m => if m < k then MM na nb e A B (d + m) else 0) HK.out (by omega) (fun i hi => by
                                have := HK.out
                                simp only [if_pos hi]
                                exact hI1.exp.cell (d + i) (by omega)) (fun m hm => by
                                  rw [hRb m hm]
                                  by_cases h : m < k
                                  · simp only [if_pos h]
                                  · simp only [if_neg h]) (fun i _ => by
                                  have := HK.out
                                  split
                                  · exact HM.out _ (by omega)
                                  · decide) ao hao
                            have H12 : Hid (∀ (ao : Option Addr) (c : Nat), (0 < L - d → ao = some ⟨G2, d, none⟩) → Calls Tryd.prog 12 #[.int .u64 R, .int .i64 k, .slice ao (L - d) c, .int .u8 0] w1 fun r w' => r = .returned (.bool true) ∧ w' = w1) := C12
                            have HI : Hid (Last w w.heap.size G2 q (na + nb + 2) (na + nb + 1) L e (MM na nb e A B) w1) := hI1
                            clear C12 hI1 hI hRb hb1 HC
                            obtain ⟨ao, hao, hpos⟩ : ∃ ao : Option Addr, (if na + nb + 1 = d then some (⟨G2, 0, none⟩ : Addr) else some ⟨G2, d, none⟩) = ao ∧ (0 < L - d → ao = some ⟨G2, d, none⟩) := ⟨_, rfl, fun h => if_neg (by omega)⟩
                            have HA12 : Hid (∀ c, Calls Tryd.prog 12 #[.int .u64 R, .int .i64 k, .slice ao (L - d) c, .int .u8 0] w1 fun r w' => r = .returned (.bool true) ∧ w' = w1) := fun c => H12.out ao c hpos
                            clear hpos H12
                            go_wp2_with (go_at_call 12; go_must (refine (HA12.out _).mono ?_))
                            rintro r w2 ⟨rfl, hw⟩
                            obtain rfl := hw.symm
                            go_wp2
                            go_roundw
                            case rel => exact ⟨d + 8, by omega, by go_num, HI.out⟩
                            case measure => simp [intOf]; omega
                          · have RB : Hid (Below w.heap.size w wr) := hI.below
                            clear hI
                            go_wp2
                            go_ret
                            exact ⟨rfl, RB.out⟩

end Go.Proofs.Qxb6613005aDoor
