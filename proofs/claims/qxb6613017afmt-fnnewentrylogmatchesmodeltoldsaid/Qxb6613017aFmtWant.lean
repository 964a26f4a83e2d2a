/- Seat b6613017aF: the two rows that FnNewEntryLogMatchesModel itself keeps (indices; member lists). -/
import Derived.Test.Qxb6613017aFmtMems
import Derived.Test.Qxb6613017aFmtModelA
import Derived.Test.Qxb6613017aFmtThree
namespace Go.Proofs.Qxb6613017aFmt
open Go.RowKit Plain

def xcells (cs : List Cf) : List Value := cs.map fun x => .int .u64 x.ix
def ycells (cs : List Cf) : List Value := cs.map fun x => .slice (some ⟨x.g, 0, none⟩) x.ms.length x.c

/-- Rows of different element types lie in different blocks. -/
theorem own_ne {w : World} {base base' : Nat} {e e' : TypeId} {s s' : Nat} {v v' : Value} {n n' : Nat} {xs xs' : List Value} (h : w.ownsRow base e s v n xs) (h' : w.ownsRow base' e' s' v' n' xs') (hne : e ≠ e') : v.ownBlock = none ∨ v.ownBlock ≠ v'.ownBlock := by
  rcases h.2 with ⟨rfl, _⟩ | ⟨g, cap, cur, rfl, _, hg, _⟩
  · exact Or.inl rfl
  · right
    intro he
    rcases h'.2 with ⟨rfl, _⟩ | ⟨g', cap', cur', rfl, _, hg', _⟩
    · cases he
    · have hgg : g = g' := by simpa [Value.ownBlock] using he
      subst hgg
      rw [hg] at hg'
      cases hg'
      exact hne rfl

theorem CfOk.grown {w w2 : World} {o : Obj} {base s n lo : Nat} {e : TypeId} {v : Value} {xs : List Value} {x : Cf} (hx : CfOk w lo x) (hown : w.ownsRow base e s v n xs) (h0 : (∃ u, xs[0]? = some u ∧ ∀ z, u ≠ .string z) ∨ v.ownBlock = none) (hg : (w.alloc o).grownBy w2 v.ownBlock) : CfOk w2 lo x := by
  obtain ⟨⟨h1, hlo⟩, h2, h3⟩ := hx
  have hlt : x.g < (w.alloc o).heap.size := by simp; omega
  have hne : some x.g ≠ v.ownBlock := by
    intro he
    rcases h0 with ⟨u, hu, hz⟩ | h0
    · have hc := hown.cells he.symm 0 u hu
      have hm := (h3 0 h2).1
      rw [Addr.add_lit] at hc
      simp only [Nat.zero_mul, Nat.add_zero] at hc hm
      rw [hm] at hc
      exact hz _ (Option.some.inj hc).symm
    · rw [h0] at he
      cases he
  exact ⟨⟨Nat.lt_of_lt_of_le hlt hg.size, hlo⟩, h2, fun i hi => ⟨(hg.cell_far ⟨x.g, i * 3, none⟩ hlt hne).trans (cell_old (h3 i hi).1 o), (hg.cell_far ⟨x.g, i * 3 + 1, none⟩ hlt hne).trans (cell_old (h3 i hi).2.1 o), (hg.cell_far ⟨x.g, i * 3 + 2, none⟩ hlt hne).trans (cell_old (h3 i hi).2.2 o)⟩⟩

theorem xhead {cs : List Cf} {a : Option Addr} {k c : Nat} (hk : cs.length = k) (h : 0 < k ∨ a = none) : (∃ u, (xcells cs)[0]? = some u ∧ ∀ z, u ≠ .string z) ∨ (Value.slice a k c).ownBlock = none := by
  rcases h with h | h
  · left
    refine ⟨.int .u64 (cs[0]'(by omega)).ix, ?_, fun z hz => by cases hz⟩
    simp [xcells, List.getElem?_eq_getElem (show 0 < cs.length by omega)]
  · right
    rw [h]
    rfl
theorem yhead {cs : List Cf} {a : Option Addr} {k c : Nat} (hk : cs.length = k) (h : 0 < k ∨ a = none) : (∃ u, (ycells cs)[0]? = some u ∧ ∀ z, u ≠ .string z) ∨ (Value.slice a k c).ownBlock = none := by
  rcases h with h | h
  · left
    refine ⟨.slice (some ⟨(cs[0]'(by omega)).g, 0, none⟩) (cs[0]'(by omega)).ms.length (cs[0]'(by omega)).c, ?_, fun z hz => by cases hz⟩
    simp [ycells, List.getElem?_eq_getElem (show 0 < cs.length by omega)]
  · right
    rw [h]
    rfl

/-- The model's loop: its relation. -/
def LRel (W1 : World) (n : Nat) (es : List En) (s21 s22 s23 s24 : Value) (wx : World) : Prop :=
  ∃ (t : Nat) (bad : Bool) (cs : List Cf) (a1 a2 : Option Addr) (c1 c2 : Nat), t ≤ n ∧ cs.length ≤ t ∧ s24 = .int .i64 t ∧ s23 = .bool bad ∧ s21 = .slice a1 cs.length c1 ∧ s22 = .slice a2 cs.length c2 ∧
    (0 < cs.length ∨ a1 = none ∧ a2 = none) ∧ wx.ownsRow W1.heap.size 22 1 (.slice a1 cs.length c1) cs.length (xcells cs) ∧ wx.ownsRow W1.heap.size 23 1 (.slice a2 cs.length c2) cs.length (ycells cs) ∧ (∀ x ∈ cs, CfOk wx W1.heap.size x) ∧ Below W1.heap.size W1 wx ∧
    (bad = true → configs es = none) ∧ (bad = false → configs es = (configs (es.drop t)).map (cs.map Cf.plain ++ ·))

theorem hi22 : Tryf.prog.info? 22 = some Tryf.t22 := by kernel_rfl
theorem hi23 : Tryf.prog.info? 23 = some Tryf.t23 := by kernel_rfl

/-- At an index: the two rows. -/
theorem x_at {w : World} {base n c i : Nat} {a : Option Addr} {cs : List Cf} (h : w.ownsRow base 22 1 (.slice a n c) n (xcells cs)) (hn : cs.length = n) (hi : i < n) : ∃ g, a = some ⟨g, 0, none⟩ ∧ g < w.heap.size ∧ w.cell? ⟨g, i, none⟩ = some (.int .u64 (cs.getD i cf0).ix) := by
  obtain ⟨g, cap, hv, _, hl⟩ := h.form (by omega)
  cases hv
  refine ⟨g, rfl, hl, ?_⟩
  have := h.cells (g := g) rfl i (.int .u64 (cs.getD i cf0).ix) (by simp [xcells, List.getD, List.getElem?_eq_getElem (show i < cs.length by omega)])
  rw [Addr.add_lit] at this
  simpa using this
theorem y_at {w : World} {base n c i : Nat} {a : Option Addr} {cs : List Cf} (h : w.ownsRow base 23 1 (.slice a n c) n (ycells cs)) (hn : cs.length = n) (hi : i < n) : ∃ g, a = some ⟨g, 0, none⟩ ∧ g < w.heap.size ∧ w.cell? ⟨g, i, none⟩ = some (.slice (some ⟨(cs.getD i cf0).g, 0, none⟩) (cs.getD i cf0).ms.length (cs.getD i cf0).c) := by
  obtain ⟨g, cap, hv, _, hl⟩ := h.form (by omega)
  cases hv
  refine ⟨g, rfl, hl, ?_⟩
  have := h.cells (g := g) rfl i (.slice (some ⟨(cs.getD i cf0).g, 0, none⟩) (cs.getD i cf0).ms.length (cs.getD i cf0).c) (by simp [ycells, List.getD, List.getElem?_eq_getElem (show i < cs.length by omega)])
  rw [Addr.add_lit] at this
  simpa using this

theorem MemCells.up {w w' : World} {g : Nat} {ms : List Mb} (h : MemCells w g ms) (hb : Below w.heap.size w w') : MemCells w' g ms := fun i hi =>
  h.below hb (World.block_lt_of_cell? _ _ (h i hi).1) i hi

/-- What stands behind ZZnewEntryLog's call: refused. -/
structure Ref7 (W : World) (p q : Nat) (v3 v4 v5 : Value) : Prop where
  e : IsErr v5
  n3 : v3 = .slice none 0 0
  n4 : v4 = .slice none 0 0
  c0 : W.cell? ⟨p, 0, none⟩ = some (.int .u64 0)
  c1 : W.cell? ⟨p, 1, none⟩ = some (.int .u64 0)
  d0 : W.cell? ⟨q, 0, none⟩ = some (.int .u64 0)
  d1 : W.cell? ⟨q, 1, none⟩ = some (.slice none 0 0)
/-- .. answered. -/
structure Held7 (W : World) (p q : Nat) (si st ci : Int) (am : Option Addr) (nm : Nat) (ms : List Mb) (a : Option Addr) (n : Nat) (es : List En) (l : List (Int × List Mb)) (v3 v4 v5 : Value) : Prop where
  e : v5 = .nilIface
  c0 : W.cell? ⟨p, 0, none⟩ = some (.int .u64 si)
  c1 : W.cell? ⟨p, 1, none⟩ = some (.int .u64 st)
  d0 : W.cell? ⟨q, 0, none⟩ = some (.int .u64 ci)
  d1 : ∃ a6 g6, W.cell? ⟨q, 1, none⟩ = some (.slice a6 nm nm) ∧ a6.isNone = am.isNone ∧ (0 < nm → a6 = some ⟨g6, 0, none⟩) ∧ MemCells W g6 ms
  n3 : ∃ a7 B, v3 = .slice a7 n n ∧ a7.isNone = a.isNone ∧ (0 < n → a7 = some ⟨B, 0, none⟩) ∧ RaftEnts W B es
  n4 : ∃ cs ac cc, v4 = .slice ac cs.length cc ∧ cs.map Cf.plain = l ∧ CfsAt W 0 ac cs
def St7 (W : World) (p q : Nat) (si st ci : Int) (am : Option Addr) (nm : Nat) (ms : List Mb) (a : Option Addr) (n : Nat) (es : List En) (v3 v4 v5 : Value) : Prop :=
  match configs es with
  | none => Ref7 W p q v3 v4 v5
  | some l => Held7 W p q si st ci am nm ms a n es l v3 v4 v5

theorem St7.below {W W' : World} {p q : Nat} {si st ci : Int} {am : Option Addr} {nm : Nat} {ms : List Mb} {a : Option Addr} {n : Nat} {es : List En} {v3 v4 v5 : Value} (h : St7 W p q si st ci am nm ms a n es v3 v4 v5) (hb : Below W.heap.size W W') : St7 W' p q si st ci am nm ms a n es v3 v4 v5 := by
  unfold St7 at h ⊢
  cases hc : configs es with
  | none =>
    rw [hc] at h
    obtain ⟨h1, h2, h3, h4, h5, h6, h7⟩ := h
    have hp := World.block_lt_of_cell? _ _ h4
    have hq := World.block_lt_of_cell? _ _ h6
    exact ⟨h1, h2, h3, (hb.cell (p := ⟨p, 0, none⟩) hp).trans h4, (hb.cell (p := ⟨p, 1, none⟩) hp).trans h5, (hb.cell (p := ⟨q, 0, none⟩) hq).trans h6, (hb.cell (p := ⟨q, 1, none⟩) hq).trans h7⟩
  | some l =>
    rw [hc] at h
    obtain ⟨h1, h4, h5, h6, ⟨a6, g6, h7, h8, h9, h10⟩, ⟨a7, B, h11, h12, h13, h14⟩, cs, ac, cc, h15, h16, h17⟩ := h
    have hp := World.block_lt_of_cell? _ _ h4
    have hq := World.block_lt_of_cell? _ _ h6
    exact ⟨h1, (hb.cell (p := ⟨p, 0, none⟩) hp).trans h4, (hb.cell (p := ⟨p, 1, none⟩) hp).trans h5, (hb.cell (p := ⟨q, 0, none⟩) hq).trans h6, ⟨a6, g6, (hb.cell (p := ⟨q, 1, none⟩) hq).trans h7, h8, h9, h10.up hb⟩, ⟨a7, B, h11, h12, h13, h14.below hb⟩, cs, ac, cc, h15, h16, h17.below hb⟩

/-- From the calls' own contracts. -/
theorem St7.mk {w6 w7 w8 W : World} {p q g6 : Nat} {si st ci x0 x1 y0 : Int} {am a6 : Option Addr} {nm : Nat} {ms : List Mb} {a a7 : Option Addr} {n : Nat} {es : List En} {y1 v3 v4 v5 : Value}
    (hv : ZVal w7.heap.size w8 si st ci (.slice a6 nm nm) (.slice a7 n n) (configs es) x0 x1 y0 y1 v3 v4 v5) (hm : MemCells w6 g6 ms) (h6 : a6.isNone = am.isNone) (h6' : 0 < nm → a6 = some ⟨g6, 0, none⟩) (h7 : a7.isNone = a.isNone) (h7' : 0 < n → a7 = some ⟨w6.heap.size, 0, none⟩) (hR : RaftIn w7 w6.heap.size es)
    (b6 : Below w6.heap.size w6 w7) (b7 : Below w7.heap.size w7 w8) (b8 : Below w8.heap.size w8 W) (c0 : W.cell? ⟨p, 0, none⟩ = some (.int .u64 x0)) (c1 : W.cell? ⟨p, 1, none⟩ = some (.int .u64 x1)) (d0 : W.cell? ⟨q, 0, none⟩ = some (.int .u64 y0)) (d1 : W.cell? ⟨q, 1, none⟩ = some y1) :
    St7 W p q si st ci am nm ms a n es v3 v4 v5 := by
  unfold St7
  cases hc : configs es with
  | none =>
    rw [hc] at hv
    obtain ⟨rfl, rfl, rfl, rfl, rfl, rfl, v, rfl⟩ := hv
    exact ⟨⟨v, rfl⟩, rfl, rfl, c0, c1, d0, d1⟩
  | some l =>
    rw [hc] at hv
    obtain ⟨rfl, rfl, rfl, rfl, rfl, rfl, cs, ac, cc, rfl, hl, hC⟩ := hv
    exact ⟨rfl, c0, c1, d0, ⟨a6, g6, d1, h6, h6', ((hm.up b6).up b7).up b8⟩, ⟨a7, _, rfl, h7, h7', (hR.ents.below b7).below b8⟩, cs, ac, cc, rfl, hl, (hC.below b8).low (Nat.zero_le _)⟩

end Go.Proofs.Qxb6613017aFmt
