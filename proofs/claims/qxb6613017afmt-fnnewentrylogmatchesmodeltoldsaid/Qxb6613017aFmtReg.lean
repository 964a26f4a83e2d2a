/- Seat b6613017aF: what each of the three regions with the two calls leans on. -/
import Derived.Test.Qxb6613017aFmtPair
namespace Go.Proofs.Qxb6613017aFmt
open Go.RowKit Plain

/-- What ZZnewEntryLog hands back, value by value. -/
def ZVal (lo : Nat) (w' : World) (si st ci : Int) (mv ev : Value) (q : Option (List (Int × List Mb))) (x0 x1 y0 : Int) (y1 v3 v4 v5 : Value) : Prop :=
  match q with
  | none => x0 = 0 ∧ x1 = 0 ∧ y0 = 0 ∧ y1 = .slice none 0 0 ∧ v3 = .slice none 0 0 ∧ v4 = .slice none 0 0 ∧ ∃ v, v5 = .iface 73 (.pointer (some v))
  | some l => x0 = si ∧ x1 = st ∧ y0 = ci ∧ y1 = mv ∧ v3 = ev ∧ v5 = .nilIface ∧ ∃ cs a c, v4 = .slice a cs.length c ∧ cs.map Cf.plain = l ∧ CfsAt w' lo a cs
/-- Her answer as a tuple of named values: one shape in both cases. -/
def ZO (w : World) (si st ci : Int) (mv ev : Value) (q : Option (List (Int × List Mb))) (e : Ending) (w' : World) : Prop :=
  ∃ x0 x1 y0 am nm cm v3 v4 v5, e = .returned (.tuple #[.agg #[.int .u64 x0, .int .u64 x1], .agg #[.int .u64 y0, .slice am nm cm], v3, v4, v5]) ∧ ZVal w.heap.size w' si st ci mv ev q x0 x1 y0 (.slice am nm cm) v3 v4 v5 ∧ Below w.heap.size w w'
theorem ZOut.zo {w w' : World} {si st ci : Int} {am : Option Addr} {nm cm : Nat} {ev : Value} {q : Option (List (Int × List Mb))} {e : Ending} (h : ZOut w si st ci (.slice am nm cm) ev q e w') : ZO w si st ci (.slice am nm cm) ev q e w' := by
  cases q with
  | none =>
    obtain ⟨hb, v, rfl⟩ := h
    exact ⟨_, _, _, _, _, _, _, _, _, rfl, ⟨rfl, rfl, rfl, rfl, rfl, rfl, v, rfl⟩, hb⟩
  | some l =>
    obtain ⟨hb, cs, a, c, rfl, h1, h2⟩ := h
    exact ⟨_, _, _, _, _, _, _, _, _, rfl, ⟨rfl, rfl, rfl, rfl, rfl, rfl, cs, a, c, rfl, h1, h2⟩, hb⟩

theorem ZRel.mk {g : Nat} {W0 W w1 w2 : World} {si st : Int} {a a1 : Option Addr} {n p B lo : Nat} {es : List En} {mv : Value} {x0 x1 y0 : Int} {y1 v3 v4 v5 : Value} (hS : SS g si st W0 W) (hv : ZVal lo w2 si st 0 mv (.slice a1 n n) (configs es) x0 x1 y0 y1 v3 v4 v5)
    (ha : a1.isNone = a.isNone) (h1 : 0 < n → a1 = some ⟨B, 0, none⟩) (hR : RaftIn w1 B es) (k1 : Kept B w1 W) (k2 : Kept lo w2 W) (c0 : W.cell? ⟨p, 0, none⟩ = some (.int .u64 x0)) (c1 : W.cell? ⟨p, 1, none⟩ = some (.int .u64 x1)) :
    ZRel W0 si st a n es (.pointer (some ⟨p, 0, none⟩)) v3 v4 v5 W := by
  cases hcf : configs es with
  | none =>
    rw [hcf] at hv
    obtain ⟨rfl, rfl, rfl, rfl, rfl, rfl, v, rfl⟩ := hv
    exact .none_mk hS hcf c0 c1
  | some l =>
    rw [hcf] at hv
    obtain ⟨rfl, rfl, rfl, rfl, rfl, rfl, cs, ac, cc, rfl, hl, hC⟩ := hv
    exact .some_mk hS hcf ha h1 hR k1 hl hC k2 c0 c1

/-- What a region that holds the two calls leans on: the calls at any world, at a world with one or two blocks more, and what keeps SS. -/
structure Facts (g : Nat) (si st : Int) (W0 : World) (a : Option Addr) (k c : Nat) (es : List En) (q : Option (List (Int × List Mb))) : Prop where
  HT7 : Hid (∀ wX, SS g si st W0 wX → Calls Tryf.prog 7 #[.slice a k c] wX fun e w1 => TO wX a k es e w1 ∧ SS g si st W0 w1 ∧ (wX.heap.size ≤ w1.heap.size ∧ W0.heap.size ≤ w1.heap.size) ∧ (∀ p o, p < wX.heap.size → w1.cell? ⟨p, o, none⟩ = wX.cell? ⟨p, o, none⟩) ∧ (∀ p o, p < wX.heap.size → w1.frozen? ⟨p, o, none⟩ = wX.frozen? ⟨p, o, none⟩) ∧ (∀ p, p < wX.heap.size → ¬ p = w1.heap.size) ∧ (∀ p, p < wX.heap.size → ¬ p = w1.heap.size + 1) ∧ (∀ p, p < wX.heap.size → p < w1.heap.size) ∧ (∀ p, p < wX.heap.size → p < w1.heap.size + 1) ∧ (∀ p, p < wX.heap.size → p < w1.heap.size + 1 + 1))
  HT7A : Hid (∀ ob, SS g si st W0 (W0.alloc ob).drew → Calls Tryf.prog 7 #[.slice a k c] (W0.alloc ob).drew fun e w1 => TO (W0.alloc ob).drew a k es e w1 ∧ SS g si st W0 w1 ∧ ((W0.alloc ob).drew.heap.size ≤ w1.heap.size ∧ W0.heap.size ≤ w1.heap.size) ∧ W0.heap.size < w1.heap.size ∧ (∀ j, w1.cell? ⟨W0.heap.size, j, none⟩ = (W0.alloc ob).drew.cell? ⟨W0.heap.size, j, none⟩) ∧ (∀ j, w1.frozen? ⟨W0.heap.size, j, none⟩ = (W0.alloc ob).drew.frozen? ⟨W0.heap.size, j, none⟩))
  HT7B : Hid (∀ ob oc, SS g si st W0 ((W0.alloc ob).alloc oc).drew → Calls Tryf.prog 7 #[.slice a k c] ((W0.alloc ob).alloc oc).drew fun e w1 => TO ((W0.alloc ob).alloc oc).drew a k es e w1 ∧ SS g si st W0 w1 ∧ (((W0.alloc ob).alloc oc).drew.heap.size ≤ w1.heap.size ∧ W0.heap.size ≤ w1.heap.size) ∧ W0.heap.size < w1.heap.size ∧ (∀ j, w1.cell? ⟨W0.heap.size, j, none⟩ = ((W0.alloc ob).alloc oc).drew.cell? ⟨W0.heap.size, j, none⟩) ∧ (∀ j, w1.frozen? ⟨W0.heap.size, j, none⟩ = ((W0.alloc ob).alloc oc).drew.frozen? ⟨W0.heap.size, j, none⟩) ∧ W0.heap.size + 1 < w1.heap.size ∧ (∀ j, w1.cell? ⟨W0.heap.size + 1, j, none⟩ = ((W0.alloc ob).alloc oc).drew.cell? ⟨W0.heap.size + 1, j, none⟩) ∧ (∀ j, w1.frozen? ⟨W0.heap.size + 1, j, none⟩ = ((W0.alloc ob).alloc oc).drew.frozen? ⟨W0.heap.size + 1, j, none⟩))
  HZ8 : Hid (∀ wY a1 B, SS g si st W0 wY → (0 < k → a1 = some ⟨B, 0, none⟩) → RaftIn wY B es → Calls Tryf.prog 8 #[.agg #[.int .u64 si, .int .u64 st], .agg #[.int .u64 0, .slice none 0 0], .slice a1 k k] wY fun e w2 => ZO wY si st 0 (.slice none 0 0) (.slice a1 k k) q e w2 ∧ SS g si st W0 w2 ∧ (wY.heap.size ≤ w2.heap.size ∧ W0.heap.size ≤ w2.heap.size) ∧ (∀ p o, p < wY.heap.size → w2.cell? ⟨p, o, none⟩ = wY.cell? ⟨p, o, none⟩) ∧ (∀ p o, p < wY.heap.size → w2.frozen? ⟨p, o, none⟩ = wY.frozen? ⟨p, o, none⟩) ∧ (∀ p, p < wY.heap.size → ¬ p = w2.heap.size) ∧ (∀ p, p < wY.heap.size → ¬ p = w2.heap.size + 1) ∧ (∀ p, p < wY.heap.size → p < w2.heap.size) ∧ (∀ p, p < wY.heap.size → p < w2.heap.size + 1) ∧ (∀ p, p < wY.heap.size → p < w2.heap.size + 1 + 1))
  HZ8A : Hid (∀ wY a1 B, W0.heap.size < wY.heap.size → SS g si st W0 wY → (0 < k → a1 = some ⟨B, 0, none⟩) → RaftIn wY B es → Calls Tryf.prog 8 #[.agg #[.int .u64 si, .int .u64 st], .agg #[.int .u64 0, .slice none 0 0], .slice a1 k k] wY fun e w2 => ZO wY si st 0 (.slice none 0 0) (.slice a1 k k) q e w2 ∧ SS g si st W0 w2 ∧ (wY.heap.size ≤ w2.heap.size ∧ W0.heap.size ≤ w2.heap.size) ∧ (∀ p o, p < wY.heap.size → w2.cell? ⟨p, o, none⟩ = wY.cell? ⟨p, o, none⟩) ∧ (∀ p o, p < wY.heap.size → w2.frozen? ⟨p, o, none⟩ = wY.frozen? ⟨p, o, none⟩) ∧ (∀ p, p < wY.heap.size → p < w2.heap.size) ∧ W0.heap.size < w2.heap.size ∧ (∀ j, w2.cell? ⟨W0.heap.size, j, none⟩ = wY.cell? ⟨W0.heap.size, j, none⟩) ∧ (∀ j, w2.frozen? ⟨W0.heap.size, j, none⟩ = wY.frozen? ⟨W0.heap.size, j, none⟩))
  HZ8B : Hid (∀ wY a1 B, W0.heap.size + 1 < wY.heap.size → SS g si st W0 wY → (0 < k → a1 = some ⟨B, 0, none⟩) → RaftIn wY B es → Calls Tryf.prog 8 #[.agg #[.int .u64 si, .int .u64 st], .agg #[.int .u64 0, .slice none 0 0], .slice a1 k k] wY fun e w2 => ZO wY si st 0 (.slice none 0 0) (.slice a1 k k) q e w2 ∧ SS g si st W0 w2 ∧ (wY.heap.size ≤ w2.heap.size ∧ W0.heap.size ≤ w2.heap.size) ∧ (∀ p o, p < wY.heap.size → w2.cell? ⟨p, o, none⟩ = wY.cell? ⟨p, o, none⟩) ∧ (∀ p o, p < wY.heap.size → w2.frozen? ⟨p, o, none⟩ = wY.frozen? ⟨p, o, none⟩) ∧ (∀ p, p < wY.heap.size → p < w2.heap.size) ∧ W0.heap.size < w2.heap.size ∧ (∀ j, w2.cell? ⟨W0.heap.size, j, none⟩ = wY.cell? ⟨W0.heap.size, j, none⟩) ∧ (∀ j, w2.frozen? ⟨W0.heap.size, j, none⟩ = wY.frozen? ⟨W0.heap.size, j, none⟩) ∧ W0.heap.size + 1 < w2.heap.size ∧ (∀ j, w2.cell? ⟨W0.heap.size + 1, j, none⟩ = wY.cell? ⟨W0.heap.size + 1, j, none⟩) ∧ (∀ j, w2.frozen? ⟨W0.heap.size + 1, j, none⟩ = wY.frozen? ⟨W0.heap.size + 1, j, none⟩))
  KA : Hid (∀ w' o, SS g si st W0 w' → SS g si st W0 (w'.alloc o))
  K1 : Hid (∀ w' p o v, SS g si st W0 w' → W0.heap.size ≤ p → SS g si st W0 (w'.setCell ⟨p, o, none⟩ v))
  KD : Hid (∀ w', SS g si st W0 w' → SS g si st W0 w'.drew)
  SWb : SS g si st W0 W0
  SW0 : SS g si st W0 W0.drew

theorem facts (g : Nat) (si st : Int) (W0 : World) (a : Option Addr) (b off k c : Nat) (es : List En) (hc0 : W0.cell? ⟨g, 0, none⟩ = some (.int .u64 si)) (hc1 : W0.cell? ⟨g, 1, none⟩ = some (.int .u64 st)) (hn : es.length = k) (hnb : k ≤ 1048576)
    (hdl : ∀ e ∈ es, Byte e.dat ∧ e.dat.length ≤ 1048576) (h0 : a = none → k = 0 ∧ c = 0) (hx : 0 < k → a = some ⟨b, off, none⟩) (hA : ArgEnts W0 b off es) : Facts g si st W0 a k c es (configs es) := by
  have hz0 : g < W0.heap.size := World.block_lt_of_cell? _ _ hc0
  have HK : ∀ w', Below W0.heap.size W0 w' → SS g si st W0 w' := fun w' hb => ⟨(hb.cell (p := ⟨g, 0, none⟩) hz0).trans hc0, (hb.cell (p := ⟨g, 1, none⟩) hz0).trans hc1, hb⟩
  have HT7 : Hid (∀ wX, SS g si st W0 wX → Calls Tryf.prog 7 #[.slice a k c] wX fun e w1 => TO wX a k es e w1 ∧ SS g si st W0 w1 ∧ (wX.heap.size ≤ w1.heap.size ∧ W0.heap.size ≤ w1.heap.size) ∧ (∀ p o, p < wX.heap.size → w1.cell? ⟨p, o, none⟩ = wX.cell? ⟨p, o, none⟩) ∧ (∀ p o, p < wX.heap.size → w1.frozen? ⟨p, o, none⟩ = wX.frozen? ⟨p, o, none⟩) ∧ (∀ p, p < wX.heap.size → ¬ p = w1.heap.size) ∧ (∀ p, p < wX.heap.size → ¬ p = w1.heap.size + 1) ∧ (∀ p, p < wX.heap.size → p < w1.heap.size) ∧ (∀ p, p < wX.heap.size → p < w1.heap.size + 1) ∧ (∀ p, p < wX.heap.size → p < w1.heap.size + 1 + 1)) := fun wX hb =>
    (to_any a b off k c es wX hn hnb (fun e he => (hdl e he).2) h0 hx (hA.below hb.2.2)).mono (fun e w1 h => ⟨h, by
      obtain ⟨a1, _, _, _, h4, _⟩ := h
      exact ⟨HK _ (hb.2.2.trans (h4.mono hb.2.2.size)), ⟨h4.size, Nat.le_trans hb.2.2.size h4.size⟩, fun p o hp => h4.cell (p := ⟨p, o, none⟩) hp, fun p o hp => h4.frozen (p := ⟨p, o, none⟩) hp, fun p hp => by have := h4.size; omega, fun p hp => by have := h4.size; omega, fun p hp => by have := h4.size; omega, fun p hp => by have := h4.size; omega, fun p hp => by have := h4.size; omega⟩⟩)
  have HZ8 : Hid (∀ wY a1 B, SS g si st W0 wY → (0 < k → a1 = some ⟨B, 0, none⟩) → RaftIn wY B es → Calls Tryf.prog 8 #[.agg #[.int .u64 si, .int .u64 st], .agg #[.int .u64 0, .slice none 0 0], .slice a1 k k] wY fun e w2 => ZO wY si st 0 (.slice none 0 0) (.slice a1 k k) (configs es) e w2 ∧ SS g si st W0 w2 ∧ (wY.heap.size ≤ w2.heap.size ∧ W0.heap.size ≤ w2.heap.size) ∧ (∀ p o, p < wY.heap.size → w2.cell? ⟨p, o, none⟩ = wY.cell? ⟨p, o, none⟩) ∧ (∀ p o, p < wY.heap.size → w2.frozen? ⟨p, o, none⟩ = wY.frozen? ⟨p, o, none⟩) ∧ (∀ p, p < wY.heap.size → ¬ p = w2.heap.size) ∧ (∀ p, p < wY.heap.size → ¬ p = w2.heap.size + 1) ∧ (∀ p, p < wY.heap.size → p < w2.heap.size) ∧ (∀ p, p < wY.heap.size → p < w2.heap.size + 1) ∧ (∀ p, p < wY.heap.size → p < w2.heap.size + 1 + 1)) := fun wY a1 B hb h1 h2 =>
    (zz_any si st 0 none 0 0 a1 B k k es wY hn hnb hdl h1 h2.ents).mono (fun e w1 h => ⟨h.zo, HK _ (hb.2.2.trans (h.1.mono hb.2.2.size)), ⟨h.1.size, Nat.le_trans hb.2.2.size h.1.size⟩, fun p o hp => h.1.cell (p := ⟨p, o, none⟩) hp, fun p o hp => h.1.frozen (p := ⟨p, o, none⟩) hp, fun p hp => by have := h.1.size; omega, fun p hp => by have := h.1.size; omega, fun p hp => by have := h.1.size; omega, fun p hp => by have := h.1.size; omega, fun p hp => by have := h.1.size; omega⟩)
  exact {
    HT7 := HT7
    HT7A := fun ob hb => (HT7.out (W0.alloc ob).drew hb).mono (fun e w1 ⟨h1, h2, h3, h4, h5, _, _, h6, _, _⟩ => ⟨h1, h2, h3, h6 _ (by simp), fun j => h4 _ j (by simp), fun j => h5 _ j (by simp)⟩)
    HT7B := fun ob oc hb => (HT7.out ((W0.alloc ob).alloc oc).drew hb).mono (fun e w1 ⟨h1, h2, h3, h4, h5, _, _, h6, _, _⟩ => ⟨h1, h2, h3, h6 _ (by simp; omega), fun j => h4 _ j (by simp; omega), fun j => h5 _ j (by simp; omega), h6 _ (by simp), fun j => h4 _ j (by simp), fun j => h5 _ j (by simp)⟩)
    HZ8 := HZ8
    HZ8A := fun wY a1 B h0 hb h1 h2 => (HZ8.out wY a1 B hb h1 h2).mono (fun e w2 ⟨g1, g2, g3, g4, g5, _, _, g6, _, _⟩ => ⟨g1, g2, g3, g4, g5, g6, g6 _ h0, fun j => g4 _ j h0, fun j => g5 _ j h0⟩)
    HZ8B := fun wY a1 B h0 hb h1 h2 => (HZ8.out wY a1 B hb h1 h2).mono (fun e w2 ⟨g1, g2, g3, g4, g5, _, _, g6, _, _⟩ => ⟨g1, g2, g3, g4, g5, g6, g6 _ (by omega), fun j => g4 _ j (by omega), fun j => g5 _ j (by omega), g6 _ h0, fun j => g4 _ j h0, fun j => g5 _ j h0⟩)
    KA := fun w' o h => HK _ (h.2.2.alloc h.2.2.size o)
    K1 := fun w' p o v h hp => HK _ (h.2.2.setCell (p := ⟨p, o, none⟩) hp v)
    KD := fun w' h => HK _ h.2.2.drew
    SWb := HK _ (Below.refl _ _)
    SW0 := HK _ (Below.refl _ _).drew }

end Go.Proofs.Qxb6613017aFmt
