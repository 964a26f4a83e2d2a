/- Seat b6613017aF: the walks of newEntryLog and ZZnewEntryLog. -/
import Derived.Test.Qxb6613017aFmtConf
import Derived.BigRegion
namespace Go.Proofs.Qxb6613017aFmt
open Go.RowKit Plain

/-- What newEntryLog answers: 'ev' the entries as they were handed over. -/
def NPost (lo : Nat) (w' : World) (si st ci : Int) (mv ev : Value) (o : Option (List (Int × List Mb))) (e : Ending) : Prop :=
  match o with
  | none => ∃ v, e = .returned (.tuple #[.agg #[.int .u64 0, .int .u64 0, .int .u64 0, .slice none 0 0, .slice none 0 0, .slice none 0 0], .iface 73 (.pointer (some v))])
  | some l => ∃ cs a c, e = .returned (.tuple #[.agg #[.int .u64 si, .int .u64 st, .int .u64 ci, mv, ev, .slice a cs.length c], .nilIface]) ∧ cs.map Cf.plain = l ∧ CfsAt w' lo a cs
def NOut (w : World) (si st ci : Int) (mv ev : Value) (o : Option (List (Int × List Mb))) (e : Ending) (w' : World) : Prop := Below w.heap.size w w' ∧ NPost w.heap.size w' si st ci mv ev o e
def COut (w : World) (es : List En) (e : Ending) (w' : World) : Prop := Below w.heap.size w w' ∧ COPost w.heap.size w' (configs es) e
/-- The three blocks that newEntryLog lays first. -/
abbrev W3 (w : World) (si st ci : Int) (mv : Value) : World := ((w.alloc (.cells #[.int .u64 si, .int .u64 st] 36)).alloc (.cells #[.int .u64 ci, mv] 38)).alloc (.cells #[.int .u64 0, .int .u64 0, .int .u64 0, .slice none 0 0, .slice none 0 0, .slice none 0 0] 58)
theorem W3.below (w : World) (si st ci : Int) (mv : Value) : Below w.heap.size w (W3 w si st ci mv) := (((Below.refl _ w).alloc (Nat.le_refl _) _).alloc (by simp) _).alloc (by simp; omega) _

theorem CfsAt.low {w : World} {lo lo' : Nat} {a : Option Addr} {cs : List Cf} (h : CfsAt w lo a cs) (hl : lo' ≤ lo) : CfsAt w lo' a cs := fun h0 => by
  obtain ⟨g, ha, ⟨hg, hlo⟩, hi⟩ := h h0
  exact ⟨g, ha, ⟨hg, Nat.le_trans hl hlo⟩, fun i hlt => ⟨(hi i hlt).1, (hi i hlt).2.1, ⟨(hi i hlt).2.2.1.1, Nat.le_trans hl (hi i hlt).2.2.1.2⟩, (hi i hlt).2.2.2⟩⟩

theorem set6 {w w1 : World} {B g : Nat} (h : Below B w w1) (hg : B ≤ g) (v0 v1 v2 v3 v4 v5 : Value) :
    Below B w ((((((w1.setCell ⟨g, 0, none⟩ v0).setCell ⟨g, 1, none⟩ v1).setCell ⟨g, 2, none⟩ v2).setCell ⟨g, 3, none⟩ v3).setCell ⟨g, 4, none⟩ v4).setCell ⟨g, 5, none⟩ v5) :=
  (((((h.setCell hg v0).setCell hg v1).setCell hg v2).setCell hg v3).setCell hg v4).setCell hg v5

theorem set6_far (w1 : World) {g k : Nat} (h : k ≠ g) (v0 v1 v2 v3 v4 v5 : Value) :
    ((((((w1.setCell ⟨g, 0, none⟩ v0).setCell ⟨g, 1, none⟩ v1).setCell ⟨g, 2, none⟩ v2).setCell ⟨g, 3, none⟩ v3).setCell ⟨g, 4, none⟩ v4).setCell ⟨g, 5, none⟩ v5).heap[k]? = w1.heap[k]? := by
  rw [Below.heap_setCell _ _ _ _ h, Below.heap_setCell _ _ _ _ h, Below.heap_setCell _ _ _ _ h, Below.heap_setCell _ _ _ _ h, Below.heap_setCell _ _ _ _ h, Below.heap_setCell _ _ _ _ h]

set_option maxRecDepth 20000 in
set_option maxHeartbeats 2000000 in
theorem new_any (si st ci : Int) (am : Option Addr) (nm cm : Nat) (a : Option Addr) (B n c : Nat) (es : List En) (w : World) (hn : es.length = n) (hm : n ≤ 1048576) (hd : ∀ e ∈ es, Byte e.dat ∧ e.dat.length ≤ 1048576)
    (ha : 0 < n → a = some ⟨B, 0, none⟩) (hE : RaftEnts w B es) :
    Calls Tryf.prog 15 #[.agg #[.int .u64 si, .int .u64 st], .agg #[.int .u64 ci, .slice am nm cm], .slice a n c] w fun e w' => NOut w si st ci (.slice am nm cm) (.slice a n c) (configs es) e w' := by
  have HW3 : Hid (Below w.heap.size w (W3 w si st ci (.slice am nm cm))) := W3.below _ _ _ _ _
  have HC : Hid (Calls Tryf.prog 17 #[.slice a n c] (W3 w si st ci (.slice am nm cm)) fun e w' => COut (W3 w si st ci (.slice am nm cm)) es e w') := configs_any a B n c es _ hn hm hd ha (hE.below HW3.out)
  clear hd ha hE
  go_enter Tryf.func15, Tryf.ntmps15
  go_wp2_with (go_at_call 17; go_must (refine HC.out.mono ?_))
  rintro e w1 ⟨hb, hp⟩
  have HB1 : Hid (Below w.heap.size w w1) := HW3.out.trans (hb.mono HW3.out.size)
  have hz : (W3 w si st ci (.slice am nm cm)).heap.size = w.heap.size + 3 := by simp [W3]
  have c00 : w1.cell? ⟨w.heap.size, 0, none⟩ = some (.int .u64 si) := (hb.cell (p := ⟨w.heap.size, 0, none⟩) (by rw [hz]; show w.heap.size < w.heap.size + 3; omega)).trans (by go_simp)
  have c01 : w1.cell? ⟨w.heap.size, 1, none⟩ = some (.int .u64 st) := (hb.cell (p := ⟨w.heap.size, 1, none⟩) (by rw [hz]; show w.heap.size < w.heap.size + 3; omega)).trans (by go_simp)
  have c10 : w1.cell? ⟨w.heap.size + 1, 0, none⟩ = some (.int .u64 ci) := (hb.cell (p := ⟨w.heap.size + 1, 0, none⟩) (by rw [hz]; show w.heap.size + 1 < w.heap.size + 3; omega)).trans (by go_simp)
  have c11 : w1.cell? ⟨w.heap.size + 1, 1, none⟩ = some (.slice am nm cm) := (hb.cell (p := ⟨w.heap.size + 1, 1, none⟩) (by rw [hz]; show w.heap.size + 1 < w.heap.size + 3; omega)).trans (by go_simp)
  have c20 : w1.cell? ⟨w.heap.size + 1 + 1, 0, none⟩ = some (.int .u64 0) := (hb.cell (p := ⟨w.heap.size + 1 + 1, 0, none⟩) (by rw [hz]; show w.heap.size + 1 + 1 < w.heap.size + 3; omega)).trans (by go_simp)
  have c21 : w1.cell? ⟨w.heap.size + 1 + 1, 1, none⟩ = some (.int .u64 0) := (hb.cell (p := ⟨w.heap.size + 1 + 1, 1, none⟩) (by rw [hz]; show w.heap.size + 1 + 1 < w.heap.size + 3; omega)).trans (by go_simp)
  have c22 : w1.cell? ⟨w.heap.size + 1 + 1, 2, none⟩ = some (.int .u64 0) := (hb.cell (p := ⟨w.heap.size + 1 + 1, 2, none⟩) (by rw [hz]; show w.heap.size + 1 + 1 < w.heap.size + 3; omega)).trans (by go_simp)
  have c23 : w1.cell? ⟨w.heap.size + 1 + 1, 3, none⟩ = some (.slice none 0 0) := (hb.cell (p := ⟨w.heap.size + 1 + 1, 3, none⟩) (by rw [hz]; show w.heap.size + 1 + 1 < w.heap.size + 3; omega)).trans (by go_simp)
  have c24 : w1.cell? ⟨w.heap.size + 1 + 1, 4, none⟩ = some (.slice none 0 0) := (hb.cell (p := ⟨w.heap.size + 1 + 1, 4, none⟩) (by rw [hz]; show w.heap.size + 1 + 1 < w.heap.size + 3; omega)).trans (by go_simp)
  have c25 : w1.cell? ⟨w.heap.size + 1 + 1, 5, none⟩ = some (.slice none 0 0) := (hb.cell (p := ⟨w.heap.size + 1 + 1, 5, none⟩) (by rw [hz]; show w.heap.size + 1 + 1 < w.heap.size + 3; omega)).trans (by go_simp)
  have f20 : w1.frozen? ⟨w.heap.size + 1 + 1, 0, none⟩ = false := (hb.frozen (p := ⟨w.heap.size + 1 + 1, 0, none⟩) (by rw [hz]; show w.heap.size + 1 + 1 < w.heap.size + 3; omega)).trans (by go_simp)
  have f21 : w1.frozen? ⟨w.heap.size + 1 + 1, 1, none⟩ = false := (hb.frozen (p := ⟨w.heap.size + 1 + 1, 1, none⟩) (by rw [hz]; show w.heap.size + 1 + 1 < w.heap.size + 3; omega)).trans (by go_simp)
  have f22 : w1.frozen? ⟨w.heap.size + 1 + 1, 2, none⟩ = false := (hb.frozen (p := ⟨w.heap.size + 1 + 1, 2, none⟩) (by rw [hz]; show w.heap.size + 1 + 1 < w.heap.size + 3; omega)).trans (by go_simp)
  have f23 : w1.frozen? ⟨w.heap.size + 1 + 1, 3, none⟩ = false := (hb.frozen (p := ⟨w.heap.size + 1 + 1, 3, none⟩) (by rw [hz]; show w.heap.size + 1 + 1 < w.heap.size + 3; omega)).trans (by go_simp)
  have f24 : w1.frozen? ⟨w.heap.size + 1 + 1, 4, none⟩ = false := (hb.frozen (p := ⟨w.heap.size + 1 + 1, 4, none⟩) (by rw [hz]; show w.heap.size + 1 + 1 < w.heap.size + 3; omega)).trans (by go_simp)
  have f25 : w1.frozen? ⟨w.heap.size + 1 + 1, 5, none⟩ = false := (hb.frozen (p := ⟨w.heap.size + 1 + 1, 5, none⟩) (by rw [hz]; show w.heap.size + 1 + 1 < w.heap.size + 3; omega)).trans (by go_simp)
  have hz1 : w.heap.size + 3 ≤ w1.heap.size := by have := hb.size; omega
  have HP : Hid (COPost (w.heap.size + 3) w1 (configs es) e) := hz ▸ hp
  clear hb hp HC
  cases hc : configs es with
  | none =>
    have hp := HP.out
    rw [hc] at hp
    obtain ⟨v, rfl⟩ := hp
    clear HP
    go_wp2
    refine bodyPost_ret (v := .tuple #[.agg #[.int .u64 0, .int .u64 0, .int .u64 0, .slice none 0 0, .slice none 0 0, .slice none 0 0], .iface 73 (.pointer (some v))]) (by simp [results, Tryf.results15, go_sem, c20, c21, c22, c23, c24, c25]) rfl ?_
    rw [hc]
    exact ⟨set6 HB1.out (by omega) _ _ _ _ _ _, v, rfl⟩
  | some l =>
    have hp := HP.out
    rw [hc] at hp
    obtain ⟨cs, ac, cc, rfl, hmap, hcfs⟩ := hp
    have HMap : Hid (cs.map Cf.plain = l) := hmap
    have HCf : Hid (CfsAt w1 (w.heap.size + 3) ac cs) := hcfs
    clear HP hmap hcfs
    go_wp2
    refine bodyPost_ret (v := .tuple #[.agg #[.int .u64 si, .int .u64 st, .int .u64 ci, .slice am nm cm, .slice a n c, .slice ac cs.length cc], .nilIface]) (by simp [results, Tryf.results15, go_sem, c20, c21, c22, c23, c24, c25]) rfl ?_
    rw [hc]
    refine ⟨set6 HB1.out (by omega) _ _ _ _ _ _, cs, ac, cc, rfl, HMap.out, ?_⟩
    exact (HCf.out.far (by simp) (fun k h1 _ => set6_far w1 (by omega) _ _ _ _ _ _)).low (by omega)

theorem set4 {w w1 : World} {B g h : Nat} (hb : Below B w w1) (hg : B ≤ g) (hh : B ≤ h) (v0 v1 v2 v3 : Value) :
    Below B w ((((w1.setCell ⟨g, 0, none⟩ v0).setCell ⟨g, 1, none⟩ v1).setCell ⟨h, 0, none⟩ v2).setCell ⟨h, 1, none⟩ v3) :=
  (((hb.setCell hg v0).setCell hg v1).setCell hh v2).setCell hh v3
theorem set4_far (w1 : World) {g h k : Nat} (hg : k ≠ g) (hh : k ≠ h) (v0 v1 v2 v3 : Value) :
    ((((w1.setCell ⟨g, 0, none⟩ v0).setCell ⟨g, 1, none⟩ v1).setCell ⟨h, 0, none⟩ v2).setCell ⟨h, 1, none⟩ v3).drew.heap[k]? = w1.heap[k]? := by
  show ((((w1.setCell ⟨g, 0, none⟩ v0).setCell ⟨g, 1, none⟩ v1).setCell ⟨h, 0, none⟩ v2).setCell ⟨h, 1, none⟩ v3).heap[k]? = w1.heap[k]?
  rw [Below.heap_setCell _ _ _ _ hh, Below.heap_setCell _ _ _ _ hh, Below.heap_setCell _ _ _ _ hg, Below.heap_setCell _ _ _ _ hg]

/-- What ZZnewEntryLog answers. -/
def ZPost (lo : Nat) (w' : World) (si st ci : Int) (mv ev : Value) (o : Option (List (Int × List Mb))) (e : Ending) : Prop :=
  match o with
  | none => ∃ v, e = .returned (.tuple #[.agg #[.int .u64 0, .int .u64 0], .agg #[.int .u64 0, .slice none 0 0], .slice none 0 0, .slice none 0 0, .iface 73 (.pointer (some v))])
  | some l => ∃ cs a c, e = .returned (.tuple #[.agg #[.int .u64 si, .int .u64 st], .agg #[.int .u64 ci, mv], ev, .slice a cs.length c, .nilIface]) ∧ cs.map Cf.plain = l ∧ CfsAt w' lo a cs
def ZOut (w : World) (si st ci : Int) (mv ev : Value) (o : Option (List (Int × List Mb))) (e : Ending) (w' : World) : Prop := Below w.heap.size w w' ∧ ZPost w.heap.size w' si st ci mv ev o e
abbrev W4 (w : World) (si st ci : Int) (mv : Value) : World := (((w.alloc (.cells #[.int .u64 si, .int .u64 st] 36)).alloc (.cells #[.int .u64 ci, mv] 38)).alloc (.cells #[.int .u64 0, .int .u64 0] 36)).alloc (.cells #[.int .u64 0, .slice none 0 0] 38)
theorem W4.below (w : World) (si st ci : Int) (mv : Value) : Below w.heap.size w (W4 w si st ci mv) := ((((Below.refl _ w).alloc (Nat.le_refl _) _).alloc (by simp) _).alloc (by simp; omega) _).alloc (by simp; omega) _

set_option maxRecDepth 20000 in
set_option maxHeartbeats 2000000 in
theorem zz_any (si st ci : Int) (am : Option Addr) (nm cm : Nat) (a : Option Addr) (B n c : Nat) (es : List En) (w : World) (hn : es.length = n) (hm : n ≤ 1048576) (hd : ∀ e ∈ es, Byte e.dat ∧ e.dat.length ≤ 1048576)
    (ha : 0 < n → a = some ⟨B, 0, none⟩) (hE : RaftEnts w B es) :
    Calls Tryf.prog 8 #[.agg #[.int .u64 si, .int .u64 st], .agg #[.int .u64 ci, .slice am nm cm], .slice a n c] w fun e w' => ZOut w si st ci (.slice am nm cm) (.slice a n c) (configs es) e w' := by
  have HW4 : Hid (Below w.heap.size w (W4 w si st ci (.slice am nm cm))) := W4.below _ _ _ _ _
  have HC : Hid (Calls Tryf.prog 15 #[.agg #[.int .u64 si, .int .u64 st], .agg #[.int .u64 ci, .slice am nm cm], .slice a n c] (W4 w si st ci (.slice am nm cm)) fun e w' => NOut (W4 w si st ci (.slice am nm cm)) si st ci (.slice am nm cm) (.slice a n c) (configs es) e w') :=
    new_any si st ci am nm cm a B n c es _ hn hm hd ha (hE.below HW4.out)
  clear hd ha hE
  go_enter Tryf.func8, Tryf.ntmps8
  go_wp2_with (go_at_call 15; go_must (refine HC.out.mono ?_))
  rintro e w1 ⟨hb, hp⟩
  have HB1 : Hid (Below w.heap.size w w1) := HW4.out.trans (hb.mono HW4.out.size)
  have hz : (W4 w si st ci (.slice am nm cm)).heap.size = w.heap.size + 4 := by simp [W4]
  have hz1 : w.heap.size + 4 ≤ w1.heap.size := by have := hb.size; omega
  have c20 : ∀ ob, (w1.alloc ob).cell? ⟨w.heap.size + 1 + 1, 0, none⟩ = some (.int .u64 0) := fun ob => cell_old ((hb.cell (p := ⟨w.heap.size + 1 + 1, 0, none⟩) (by rw [hz]; show w.heap.size + 1 + 1 < w.heap.size + 4; omega)).trans (by go_simp)) ob
  have f20 : ∀ ob, (w1.alloc ob).frozen? ⟨w.heap.size + 1 + 1, 0, none⟩ = false := fun ob => (((Below.refl _ w1).alloc (Nat.le_refl _) ob).frozen (p := ⟨w.heap.size + 1 + 1, 0, none⟩) (by show w.heap.size + 1 + 1 < w1.heap.size; omega)).trans ((hb.frozen (p := ⟨w.heap.size + 1 + 1, 0, none⟩) (by rw [hz]; show w.heap.size + 1 + 1 < w.heap.size + 4; omega)).trans (by go_simp))
  have c21 : ∀ ob, (w1.alloc ob).cell? ⟨w.heap.size + 1 + 1, 1, none⟩ = some (.int .u64 0) := fun ob => cell_old ((hb.cell (p := ⟨w.heap.size + 1 + 1, 1, none⟩) (by rw [hz]; show w.heap.size + 1 + 1 < w.heap.size + 4; omega)).trans (by go_simp)) ob
  have f21 : ∀ ob, (w1.alloc ob).frozen? ⟨w.heap.size + 1 + 1, 1, none⟩ = false := fun ob => (((Below.refl _ w1).alloc (Nat.le_refl _) ob).frozen (p := ⟨w.heap.size + 1 + 1, 1, none⟩) (by show w.heap.size + 1 + 1 < w1.heap.size; omega)).trans ((hb.frozen (p := ⟨w.heap.size + 1 + 1, 1, none⟩) (by rw [hz]; show w.heap.size + 1 + 1 < w.heap.size + 4; omega)).trans (by go_simp))
  have c30 : ∀ ob, (w1.alloc ob).cell? ⟨w.heap.size + 1 + 1 + 1, 0, none⟩ = some (.int .u64 0) := fun ob => cell_old ((hb.cell (p := ⟨w.heap.size + 1 + 1 + 1, 0, none⟩) (by rw [hz]; show w.heap.size + 1 + 1 + 1 < w.heap.size + 4; omega)).trans (by go_simp)) ob
  have f30 : ∀ ob, (w1.alloc ob).frozen? ⟨w.heap.size + 1 + 1 + 1, 0, none⟩ = false := fun ob => (((Below.refl _ w1).alloc (Nat.le_refl _) ob).frozen (p := ⟨w.heap.size + 1 + 1 + 1, 0, none⟩) (by show w.heap.size + 1 + 1 + 1 < w1.heap.size; omega)).trans ((hb.frozen (p := ⟨w.heap.size + 1 + 1 + 1, 0, none⟩) (by rw [hz]; show w.heap.size + 1 + 1 + 1 < w.heap.size + 4; omega)).trans (by go_simp))
  have c31 : ∀ ob, (w1.alloc ob).cell? ⟨w.heap.size + 1 + 1 + 1, 1, none⟩ = some (.slice none 0 0) := fun ob => cell_old ((hb.cell (p := ⟨w.heap.size + 1 + 1 + 1, 1, none⟩) (by rw [hz]; show w.heap.size + 1 + 1 + 1 < w.heap.size + 4; omega)).trans (by go_simp)) ob
  have f31 : ∀ ob, (w1.alloc ob).frozen? ⟨w.heap.size + 1 + 1 + 1, 1, none⟩ = false := fun ob => (((Below.refl _ w1).alloc (Nat.le_refl _) ob).frozen (p := ⟨w.heap.size + 1 + 1 + 1, 1, none⟩) (by show w.heap.size + 1 + 1 + 1 < w1.heap.size; omega)).trans ((hb.frozen (p := ⟨w.heap.size + 1 + 1 + 1, 1, none⟩) (by rw [hz]; show w.heap.size + 1 + 1 + 1 < w.heap.size + 4; omega)).trans (by go_simp))
  have HP : Hid (NPost (w.heap.size + 4) w1 si st ci (.slice am nm cm) (.slice a n c) (configs es) e) := hz ▸ hp
  clear hb hp HC
  cases hc : configs es with
  | none =>
    have hp := HP.out
    rw [hc] at hp
    obtain ⟨v, rfl⟩ := hp
    clear HP
    go_wp2_with fail
    go_big_region
    go_wp2_with fail
    refine bodyPost_ret (v := .tuple #[.agg #[.int .u64 0, .int .u64 0], .agg #[.int .u64 0, .slice none 0 0], .slice none 0 0, .slice none 0 0, .iface 73 (.pointer (some v))]) (by simp [results, Tryf.results8, go_sem, c20, c21, c30, c31]) rfl ?_
    rw [hc]
    exact ⟨(set4 (HB1.out.alloc HB1.out.size _) (by omega) (by omega) _ _ _ _).drew, v, rfl⟩
  | some l =>
    have hp := HP.out
    rw [hc] at hp
    obtain ⟨cs, ac, cc, rfl, hmap, hcfs⟩ := hp
    have HMap : Hid (cs.map Cf.plain = l) := hmap
    have HCf : Hid (CfsAt w1 (w.heap.size + 4) ac cs) := hcfs
    clear HP hmap hcfs
    go_wp2_with fail
    go_big_region
    go_wp2_with fail
    refine bodyPost_ret (v := .tuple #[.agg #[.int .u64 si, .int .u64 st], .agg #[.int .u64 ci, .slice am nm cm], .slice a n c, .slice ac cs.length cc, .nilIface]) (by simp [results, Tryf.results8, go_sem, c20, c21, c30, c31]) rfl ?_
    rw [hc]
    refine ⟨(set4 (HB1.out.alloc HB1.out.size _) (by omega) (by omega) _ _ _ _).drew, cs, ac, cc, rfl, HMap.out, ?_⟩
    exact ((HCf.out.below ((Below.refl _ _).alloc (Nat.le_refl _) _)).far (by simp) (fun k h1 _ => set4_far _ (by omega) (by omega) _ _ _ _)).low (by omega)

end Go.Proofs.Qxb6613017aFmt
