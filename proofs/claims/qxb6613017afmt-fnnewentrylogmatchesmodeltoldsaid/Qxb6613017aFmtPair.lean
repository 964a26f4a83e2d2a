/- Seat b6613017aF: what the law's own walk leans on. -/
import Derived.Test.Qxb6613017aFmtSame
import Derived.Deep.CutBlock
namespace Go.Proofs.Qxb6613017aFmt
open Go.RowKit Plain

/-- The blocks of w from 'lo' on stand in W. -/
structure Kept (lo : Nat) (w W : World) : Prop where
  size : w.heap.size ≤ W.heap.size
  blk : ∀ k, lo ≤ k → k < w.heap.size → W.heap[k]? = w.heap[k]?
theorem Kept.refl (lo : Nat) (w : World) : Kept lo w w := ⟨Nat.le_refl _, fun _ _ _ => rfl⟩
theorem Kept.drew {lo : Nat} {w W : World} (h : Kept lo w W) : Kept lo w W.drew := ⟨h.size, h.blk⟩
theorem Kept.below {lo : Nat} {w W W' : World} (h : Kept lo w W) (hb : Below W.heap.size W W') : Kept lo w W' :=
  ⟨Nat.le_trans h.size hb.size, fun k h1 h2 => (hb.block k (Nat.lt_of_lt_of_le h2 h.size)).trans (h.blk k h1 h2)⟩
theorem Kept.alloc {lo : Nat} {w W : World} (h : Kept lo w W) (o : Obj) : Kept lo w (W.alloc o) := h.below ((Below.refl _ W).alloc (Nat.le_refl _) o)
theorem Kept.setCell {lo : Nat} {w W : World} (h : Kept lo w W) (p : Addr) (v : Value) (hp : p.block < lo ∨ w.heap.size ≤ p.block) : Kept lo w (W.setCell p v) :=
  ⟨by simpa using h.size, fun k h1 h2 => (Below.heap_setCell W p v k (by omega)).trans (h.blk k h1 h2)⟩
theorem Kept.cell {lo : Nat} {w W : World} (h : Kept lo w W) {b o : Nat} (h1 : lo ≤ b) (h2 : b < w.heap.size) : W.cell? ⟨b, o, none⟩ = w.cell? ⟨b, o, none⟩ := World.cell?_of_block (w := w) (h.blk b h1 h2)

theorem RaftIn.kept {lo B : Nat} {w W : World} {es : List En} (h : RaftIn w B es) (k : Kept lo w W) (hlo : lo ≤ B) : RaftIn W B es := fun i hi => by
  obtain ⟨A, G, ⟨h0, h1, h2, h3, h4, h5, h6⟩, hG⟩ := h i hi
  have hB : B < w.heap.size := World.block_lt_of_cell? _ _ h0
  exact ⟨A, G, ⟨(k.cell hlo hB).trans h0, (k.cell hlo hB).trans h1, (k.cell hlo hB).trans h2, (k.cell hlo hB).trans h3, h4, Nat.lt_of_lt_of_le h5 k.size, fun j hj => (k.cell (Nat.le_trans hlo hG) h5).trans (h6 j hj)⟩, hG⟩
theorem RaftIn.alloc {B : Nat} {w : World} {es : List En} (h : RaftIn w B es) (o : Obj) : RaftIn (w.alloc o) B es := h.kept ((Kept.refl 0 w).alloc o) (Nat.zero_le _)
theorem CfsAt.kept {lo lo' : Nat} {w W : World} {a : Option Addr} {cs : List Cf} (h : CfsAt w lo a cs) (k : Kept lo' w W) (hlo : lo' ≤ lo) : CfsAt W lo a cs := h.far k.size fun j h1 h2 => k.blk j (Nat.le_trans hlo h1) h2

/-- What toEntries answers. -/
def TO (w : World) (a : Option Addr) (n : Nat) (es : List En) (e : Ending) (w' : World) : Prop :=
  ∃ a1, e = .returned (.slice a1 n n) ∧ a1.isNone = a.isNone ∧ (0 < n → a1 = some ⟨w.heap.size, 0, none⟩) ∧ Below w.heap.size w w' ∧ RaftIn w' w.heap.size es
theorem to_any (a : Option Addr) (b off n c : Nat) (es : List En) (w : World) (hn : es.length = n) (hm : n ≤ 1048576) (hd : ∀ e ∈ es, e.dat.length ≤ 1048576) (h0 : a = none → n = 0 ∧ c = 0) (hx : 0 < n → a = some ⟨b, off, none⟩) (hE : ArgEnts w b off es) :
    Calls Tryf.prog 7 #[.slice a n c] w fun e w' => TO w a n es e w' := by
  cases a with
  | none =>
    obtain ⟨rfl, rfl⟩ := h0 rfl
    refine (to_nil w).mono ?_
    rintro e w' ⟨rfl, rfl⟩
    exact ⟨none, rfl, rfl, (fun h => by omega), Below.refl _ _, fun i hi => by omega⟩
  | some x =>
    refine (to_some x b off n c es w hn hm hd (fun h => by simpa using hx h) hE).mono ?_
    rintro e w' ⟨rfl, h1, h2⟩
    exact ⟨_, rfl, rfl, fun _ => rfl, h1, h2⟩

/-- What one of the three calls leaves: the snapshot's variable in block p, the entries, the configurations, the error. -/
def ZRel (wc : World) (si st : Int) (a : Option Addr) (n : Nat) (es : List En) (s12 s14 s15 s16 : Value) (wx : World) : Prop :=
  Below wc.heap.size wc wx ∧ ∃ p, s12 = .pointer (some ⟨p, 0, none⟩) ∧ p < wx.heap.size ∧
  match configs es with
  | none => (∃ v, s16 = .iface 73 (.pointer (some v))) ∧ s14 = .slice none 0 0 ∧ s15 = .slice none 0 0 ∧ wx.cell? ⟨p, 0, none⟩ = some (.int .u64 0) ∧ wx.cell? ⟨p, 1, none⟩ = some (.int .u64 0)
  | some l => s16 = .nilIface ∧ (∃ a1 B, s14 = .slice a1 n n ∧ a1.isNone = a.isNone ∧ (0 < n → a1 = some ⟨B, 0, none⟩) ∧ RaftEnts wx B es) ∧ (∃ cs ac cc, s15 = .slice ac cs.length cc ∧ cs.map Cf.plain = l ∧ CfsAt wx 0 ac cs) ∧
    wx.cell? ⟨p, 0, none⟩ = some (.int .u64 si) ∧ wx.cell? ⟨p, 1, none⟩ = some (.int .u64 st)

/-- What holds throughout a region that draws: the snapshot's two cells; every block of W0 stands. -/
abbrev SS (g : Nat) (si st : Int) (W0 w' : World) : Prop := w'.cell? ⟨g, 0, none⟩ = some (.int .u64 si) ∧ w'.cell? ⟨g, 1, none⟩ = some (.int .u64 st) ∧ Below W0.heap.size W0 w'

theorem ZRel.none_mk {g : Nat} {W0 W : World} {si st : Int} {a : Option Addr} {n p : Nat} {es : List En} {v : Addr} (hS : SS g si st W0 W) (hcf : configs es = none)
    (h0 : W.cell? ⟨p, 0, none⟩ = some (.int .u64 0)) (h1 : W.cell? ⟨p, 1, none⟩ = some (.int .u64 0)) :
    ZRel W0 si st a n es (.pointer (some ⟨p, 0, none⟩)) (.slice none 0 0) (.slice none 0 0) (.iface 73 (.pointer (some v))) W := by
  refine ⟨hS.2.2, p, rfl, World.block_lt_of_cell? _ _ h0, ?_⟩
  rw [hcf]
  exact ⟨⟨v, rfl⟩, rfl, rfl, h0, h1⟩

theorem ZRel.some_mk {g : Nat} {W0 W w1 w2 : World} {si st : Int} {a a1 ac : Option Addr} {n p B lo cc : Nat} {es : List En} {l : List (Int × List Mb)} {cs : List Cf} (hS : SS g si st W0 W) (hcf : configs es = some l)
    (ha : a1.isNone = a.isNone) (h1 : 0 < n → a1 = some ⟨B, 0, none⟩) (hR : RaftIn w1 B es) (k1 : Kept B w1 W) (hl : cs.map Cf.plain = l) (hC : CfsAt w2 lo ac cs) (k2 : Kept lo w2 W)
    (c0 : W.cell? ⟨p, 0, none⟩ = some (.int .u64 si)) (c1 : W.cell? ⟨p, 1, none⟩ = some (.int .u64 st)) :
    ZRel W0 si st a n es (.pointer (some ⟨p, 0, none⟩)) (.slice a1 n n) (.slice ac cs.length cc) .nilIface W := by
  refine ⟨hS.2.2, p, rfl, World.block_lt_of_cell? _ _ c0, ?_⟩
  rw [hcf]
  exact ⟨rfl, ⟨a1, B, rfl, ha, h1, (hR.kept k1 (Nat.le_refl _)).ents⟩, ⟨cs, ac, cc, rfl, hl, (hC.kept k2 (Nat.le_refl _)).low (Nat.zero_le _)⟩, c0, c1⟩

end Go.Proofs.Qxb6613017aFmt
