/- Seat b6613017aF: the walk of configsOf. -/
import Derived.Test.Qxb6613017aFmtParse
namespace Go.Proofs.Qxb6613017aFmt
open Go.RowKit Plain

/-- One raft.Entry as it lies in memory: cells from ⟨B, p⟩ on; its data in block G. -/
def EntAt (w : World) (B p : Nat) (e : En) (A : Option Addr) (G : Nat) : Prop :=
  w.cell? ⟨B, p, none⟩ = some (.int .u64 e.ix) ∧ w.cell? ⟨B, p + 1, none⟩ = some (.int .u64 e.tm) ∧ w.cell? ⟨B, p + 2, none⟩ = some (.int .u8 e.ty) ∧ w.cell? ⟨B, p + 3, none⟩ = some (.slice A e.dat.length e.dat.length) ∧
  (e.nd = true ∧ A = none ∧ e.dat = [] ∨ e.nd = false ∧ A = some ⟨G, 0, none⟩) ∧ G < w.heap.size ∧ ByteCells w G 0 e.dat
def RaftEnts (w : World) (B : Nat) (es : List En) : Prop := ∀ i, i < es.length → ∃ A G, EntAt w B (i * 4) (es.getD i en0) A G
theorem EntAt.below {w w' : World} {B p G : Nat} {e : En} {A : Option Addr} (h : EntAt w B p e A G) (hb : Below w.heap.size w w') : EntAt w' B p e A G := by
  obtain ⟨h0, h1, h2, h3, h4, h5, h6⟩ := h
  have hB : B < w.heap.size := World.block_lt_of_cell? _ _ h0
  exact ⟨(hb.cell (p := ⟨B, p, none⟩) hB).trans h0, (hb.cell (p := ⟨B, p + 1, none⟩) hB).trans h1, (hb.cell (p := ⟨B, p + 2, none⟩) hB).trans h2, (hb.cell (p := ⟨B, p + 3, none⟩) hB).trans h3, h4, Nat.lt_of_lt_of_le h5 hb.size, h6.below hb h5⟩
theorem RaftEnts.below {w w' : World} {B : Nat} {es : List En} (h : RaftEnts w B es) (hb : Below w.heap.size w w') : RaftEnts w' B es := fun i hi => by
  obtain ⟨A, G, hA⟩ := h i hi
  exact ⟨A, G, hA.below hb⟩

/-- A configuration as it lies in memory: its members in block g. -/
structure Cf where
  ix : Int
  ms : List Mb
  g : Nat
  c : Nat
def cf0 : Cf := ⟨0, [], 0, 0⟩
def Cf.plain (x : Cf) : Int × List Mb := (x.ix, x.ms)
def ccells (cs : List Cf) : List Value := cs.flatMap fun x => [.int .u64 x.ix, .slice (some ⟨x.g, 0, none⟩) x.ms.length x.c]
theorem ccells_append (a b : List Cf) : ccells (a ++ b) = ccells a ++ ccells b := List.flatMap_append
theorem ccells_get (cs : List Cf) (i : Nat) (h : i < cs.length) :
    (ccells cs)[i * 2]? = some (.int .u64 (cs.getD i cf0).ix) ∧ (ccells cs)[i * 2 + 1]? = some (.slice (some ⟨(cs.getD i cf0).g, 0, none⟩) (cs.getD i cf0).ms.length (cs.getD i cf0).c) := by
  induction cs generalizing i with
  | nil => simp at h
  | cons m r ih =>
    cases i with
    | zero => simp [ccells]
    | succ i =>
      have := ih i (by simpa using h)
      have e : ccells (m :: r) = .int .u64 m.ix :: .slice (some ⟨m.g, 0, none⟩) m.ms.length m.c :: ccells r := rfl
      rw [e, show (i + 1) * 2 = i * 2 + 1 + 1 by omega, show i * 2 + 1 + 1 + 1 = (i * 2 + 1) + 1 + 1 by omega]
      simpa using this
def CfOk (w : World) (lo : Nat) (x : Cf) : Prop := (x.g < w.heap.size ∧ lo ≤ x.g) ∧ 0 < x.ms.length ∧ MemCells w x.g x.ms
theorem CfOk.below {w w' : World} {lo : Nat} {x : Cf} (h : CfOk w lo x) (hb : Below w.heap.size w w') : CfOk w' lo x := ⟨⟨Nat.lt_of_lt_of_le h.1.1 hb.size, h.1.2⟩, h.2.1, h.2.2.below hb h.1.1⟩
/-- An append to the row of configurations leaves every member list. -/
theorem CfOk.appended {w w2 : World} {o : Obj} {base c : Nat} {a : Option Addr} {cs : List Cf} {x : Cf} {lo : Nat} (hx : CfOk w lo x) (hown : w.ownsRow base 38 2 (.slice a cs.length c) cs.length (ccells cs)) (h0 : 0 < cs.length ∨ a = none)
    (hg : (w.alloc o).grownBy w2 (Value.slice a cs.length c).ownBlock) : CfOk w2 lo x := by
  obtain ⟨⟨h1, hlo⟩, h2, h3⟩ := hx
  have hlt : x.g < (w.alloc o).heap.size := by simp; omega
  have hne : some x.g ≠ (Value.slice a cs.length c).ownBlock := by
    intro he
    rcases h0 with h0 | h0
    · obtain ⟨g, cap, hv, _, _⟩ := hown.form h0
      cases hv
      have hgx : x.g = g := by simpa [Value.ownBlock] using he
      have hc := hown.cells (g := g) rfl 0 _ (by simpa using (ccells_get cs 0 h0).1)
      have hm := (h3 0 h2).1
      rw [hgx] at hm
      rw [Addr.add_lit] at hc
      simp only [Nat.zero_mul, Nat.add_zero] at hc hm
      rw [hc] at hm
      cases hm
    · rw [h0] at he
      cases he
  exact ⟨⟨Nat.lt_of_lt_of_le hlt hg.size, hlo⟩, h2, fun i hi => ⟨(hg.cell_far ⟨x.g, i * 3, none⟩ hlt hne).trans (cell_old (h3 i hi).1 o), (hg.cell_far ⟨x.g, i * 3 + 1, none⟩ hlt hne).trans (cell_old (h3 i hi).2.1 o), (hg.cell_far ⟨x.g, i * 3 + 2, none⟩ hlt hne).trans (cell_old (h3 i hi).2.2 o)⟩⟩
theorem members_pos {D : List Int} {ms : List Mb} (h : members D = some ms) : 0 < ms.length := by
  unfold members at h
  cases hp : parse D with
  | none => rw [hp] at h; cases h
  | some l =>
    rw [hp] at h
    simp only [Option.bind_some] at h
    split at h
    · rename_i hg
      cases h
      unfold good at hg
      simp at hg
      exact List.length_pos_iff.2 hg.1.1
    · cases h
/-- A slice of configurations. -/
def CfsAt (w : World) (lo : Nat) (a : Option Addr) (cs : List Cf) : Prop :=
  0 < cs.length → ∃ g, a = some ⟨g, 0, none⟩ ∧ (g < w.heap.size ∧ lo ≤ g) ∧ ∀ i, i < cs.length → w.cell? ⟨g, i * 2, none⟩ = some (.int .u64 (cs.getD i cf0).ix) ∧
    w.cell? ⟨g, i * 2 + 1, none⟩ = some (.slice (some ⟨(cs.getD i cf0).g, 0, none⟩) (cs.getD i cf0).ms.length (cs.getD i cf0).c) ∧ CfOk w lo (cs.getD i cf0)
theorem CfsAt.below {w w' : World} {lo : Nat} {a : Option Addr} {cs : List Cf} (h : CfsAt w lo a cs) (hb : Below w.heap.size w w') : CfsAt w' lo a cs := fun h0 => by
  obtain ⟨g, ha, ⟨hg, hlo⟩, hi⟩ := h h0
  exact ⟨g, ha, ⟨Nat.lt_of_lt_of_le hg hb.size, hlo⟩, fun i hlt => ⟨(hb.cell (p := ⟨g, i * 2, none⟩) hg).trans (hi i hlt).1, (hb.cell (p := ⟨g, i * 2 + 1, none⟩) hg).trans (hi i hlt).2.1, (hi i hlt).2.2.below hb⟩⟩
/-- .. past writes to blocks below 'lo'. -/
theorem CfsAt.far {w w' : World} {lo : Nat} {a : Option Addr} {cs : List Cf} (h : CfsAt w lo a cs) (hs : w.heap.size ≤ w'.heap.size) (hk : ∀ k, lo ≤ k → k < w.heap.size → w'.heap[k]? = w.heap[k]?) : CfsAt w' lo a cs := fun h0 => by
  obtain ⟨g, ha, ⟨hg, hlo⟩, hi⟩ := h h0
  have cl : ∀ (b o : Nat), lo ≤ b → b < w.heap.size → w'.cell? ⟨b, o, none⟩ = w.cell? ⟨b, o, none⟩ := fun b o h1 h2 => World.cell?_of_block (w := w) (hk b h1 h2)
  refine ⟨g, ha, ⟨Nat.lt_of_lt_of_le hg hs, hlo⟩, fun i hlt => ?_⟩
  obtain ⟨x1, x2, ⟨x3, x4⟩, x5, x6⟩ := hi i hlt
  exact ⟨(cl _ _ hlo hg).trans x1, (cl _ _ hlo hg).trans x2, ⟨Nat.lt_of_lt_of_le x3 hs, x4⟩, x5, fun j hj => ⟨(cl _ _ x4 x3).trans (x6 j hj).1, (cl _ _ x4 x3).trans (x6 j hj).2.1, (cl _ _ x4 x3).trans (x6 j hj).2.2⟩⟩
theorem cfs_cells {w : World} {base : Nat} {a : Option Addr} {cs : List Cf} {c : Nat} (h : w.ownsRow base 38 2 (.slice a cs.length c) cs.length (ccells cs)) (hok : ∀ x ∈ cs, CfOk w base x) : CfsAt w base a cs := by
  intro h0
  obtain ⟨g, cap, hv, hl1, hl2⟩ := h.form h0
  cases hv
  refine ⟨g, rfl, ⟨hl2, hl1⟩, fun i hi => ?_⟩
  have hg := ccells_get cs i hi
  have hc := h.cells (g := g) rfl
  have e : ∀ j, (⟨g, 0, none⟩ : Addr).add j = ⟨g, j, none⟩ := fun j => by rw [Addr.add_lit]; simp
  refine ⟨(e _) ▸ hc _ _ hg.1, (e _) ▸ hc _ _ hg.2, ?_⟩
  have : cs.getD i cf0 = cs[i] := by simp [List.getD, List.getElem?_eq_getElem hi]
  rw [this]
  exact hok _ (List.getElem_mem hi)

theorem news_new1 (w : World) (cs : Array Value) (t : TypeId) (l : List Value) (hl : cs.toList = l) :
    ∀ j u, l[j]? = some u → (w.alloc (.cells cs t)).cell? ((⟨w.heap.size, 0, none⟩ : Addr).add j) = some u := by
  subst hl
  exact World.news_of_block (MapKept.heap_alloc w (.cells cs t)).1

/-- The loop's own copy of an entry. -/
abbrev EO (ix tm ty : Int) (A : Option Addr) (n : Nat) : Obj := .cells #[.int .u64 ix, .int .u64 tm, .int .u8 ty, .slice A n n] 56

def POut (w : World) (dat : List Int) (e : Ending) (w' : World) : Prop := Below w.heap.size w w' ∧ PPost w w' (members dat) e

theorem hi38 : Tryf.prog.info? 38 = some Tryf.t38 := by kernel_rfl

/-- What configsOf answers. -/
def COPost (lo : Nat) (w' : World) (o : Option (List (Int × List Mb))) (e : Ending) : Prop :=
  match o with
  | none => ∃ v, e = .returned (.tuple #[.slice none 0 0, .iface 73 (.pointer (some v))])
  | some l => ∃ cs a c, e = .returned (.tuple #[.slice a cs.length c, .nilIface]) ∧ cs.map Cf.plain = l ∧ CfsAt w' lo a cs

/-- What fmt.Errorf answers with %w. -/
def WrapPost (w w' : World) (a : Addr) (e : Ending) : Prop := e = .returned (.iface 73 (.pointer (some ⟨w.heap.size, 0, none⟩))) ∧ ∃ s : ByteArray, w' = (w.alloc (.cells #[.string s, .iface 77 (.pointer (some a))] 100)).drew
theorem errConfig (x : Int) (a : Addr) (t : ByteArray) (blk : Nat) (w : World) (ha : w.cell? a = some (.string t)) (hc0 : w.cell? ⟨blk, 0, none⟩ = some (.iface 22 (.int .u64 x))) (hc1 : w.cell? ⟨blk, 1, none⟩ = some (.iface 77 (.pointer (some a)))) :
    Calls Tryf.prog 19 #[.string ⟨#[116, 104, 101, 32, 99, 111, 110, 102, 105, 103, 117, 114, 97, 116, 105, 111, 110, 32, 111, 102, 32, 101, 110, 116, 114, 121, 32, 37, 100, 58, 32, 37, 119]⟩, .slice (some ⟨blk, 0, none⟩) 2 2] w fun e w' => WrapPost w w' a e := errorfConfig x a t blk w ha hc0 hc1

/-- The loop's relation. -/
def ORel (w : World) (n : Nat) (es : List En) (s4 s11 : Value) (wr : World) : Prop :=
  ∃ (k : Nat) (cs : List Cf) (a : Option Addr) (c : Nat), k ≤ n ∧ cs.length ≤ k ∧ (0 < cs.length ∨ a = none) ∧ s11 = .int .i64 k ∧ s4 = .slice a cs.length c ∧ wr.ownsRow w.heap.size 38 2 (.slice a cs.length c) cs.length (ccells cs) ∧ (∀ x ∈ cs, CfOk wr w.heap.size x) ∧
    Below w.heap.size w wr ∧ configs es = (configs (es.drop k)).map (cs.map Cf.plain ++ ·)

set_option maxRecDepth 20000 in
set_option maxHeartbeats 2000000 in
theorem configs_any (a : Option Addr) (B n c : Nat) (es : List En) (w : World) (hn : es.length = n) (hm : n ≤ 1048576) (hd : ∀ e ∈ es, Byte e.dat ∧ e.dat.length ≤ 1048576)
    (ha : 0 < n → a = some ⟨B, 0, none⟩) (hE : RaftEnts w B es) :
    Calls Tryf.prog 17 #[.slice a n c] w fun e w' => Below w.heap.size w w' ∧ COPost w.heap.size w' (configs es) e := by
  have HA : Hid (0 < n → a = some ⟨B, 0, none⟩) := ha
  have HE : Hid (RaftEnts w B es) := hE
  have HD : Hid (∀ e ∈ es, Byte e.dat ∧ e.dat.length ≤ 1048576) := hd
  clear ha hE hd
  go_enter Tryf.func17, Tryf.ntmps17
  go_wp2_with fail
  go_loopw [4, 6, 7, 8, 11] (fun s4 _ _ _ s11 wr => ORel w n es s4 s11 wr) (fun _ _ _ _ s11 _ => n - (intOf s11).toNat)
  case atStart =>
    exact ⟨0, [], none, 0, Nat.zero_le _, Nat.zero_le _, Or.inr rfl, rfl, rfl, World.ownsRow_nil _ _ _ _, by simp, Below.refl _ _, by simp⟩
  case round =>
    obtain ⟨k, cs, ac, cc, hk, hck, hnn, rfl, rfl, hown, hok, hbl, hcf⟩ := hrel
    have HOwn : Hid (wr.ownsRow w.heap.size 38 2 (.slice ac cs.length cc) cs.length (ccells cs)) := hown
    have HOk : Hid (∀ x ∈ cs, CfOk wr w.heap.size x) := hok
    have HBl : Hid (Below w.heap.size w wr) := hbl
    have HCf : Hid (configs es = (configs (es.drop k)).map (cs.map Cf.plain ++ ·)) := hcf
    have HNn : Hid (0 < cs.length ∨ ac = none) := hnn
    have hsz := hbl.size
    clear hown hok hbl hcf hnn
    by_cases hks : k < n
    · obtain ⟨A, G, hent⟩ := HE.out.below HBl.out k (by omega)
      have hdrop : es.drop k = es[k]'(by omega) :: es.drop (k + 1) := List.drop_eq_getElem_cons (by omega)
      have hdk := HD.out (es[k]'(by omega)) (List.getElem_mem _)
      obtain ⟨en, hen⟩ : ∃ en, es[k]'(by omega) = en := ⟨_, rfl⟩
      have hen2 : es.getD k en0 = en := by rw [← hen]; simp [List.getD, List.getElem?_eq_getElem (show k < es.length by omega)]
      have hcf := HCf.out
      rw [hdrop, hen] at hcf
      rw [hen] at hdk
      rw [hen2] at hent
      have HCf2 : Hid (configs es = (configs (en :: es.drop (k + 1))).map (cs.map Cf.plain ++ ·)) := hcf
      clear hdrop hen hen2 hcf HCf
      obtain rfl := HA.out (by omega)
      obtain ⟨ix, tm, ty, nd, dat⟩ := en
      obtain ⟨e0, e1, e2, e3, hA, hG, hdat⟩ := hent
      simp only at e0 e1 e2 e3 hA hdat hdk
      obtain ⟨hby, hlen⟩ := hdk
      have HDat : Hid (ByteCells wr G 0 dat) := hdat
      have HBy : Hid (Byte dat) := hby
      have HAo : Hid (nd = true ∧ A = none ∧ dat = [] ∨ nd = false ∧ A = some ⟨G, 0, none⟩) := hA
      clear hdat hby hA
      by_cases hty : ty = 3
      · subst hty
        have hz0 : wr.heap.size < (wr.alloc (EO ix tm 3 A dat.length)).heap.size := by simp
        have HPar : Hid (Calls Tryf.prog 18 #[.slice A dat.length dat.length] (wr.alloc (EO ix tm 3 A dat.length)) fun e w' => POut (wr.alloc (EO ix tm 3 A dat.length)) dat e w') :=
          parse_any A G dat.length dat.length dat _ rfl (Nat.le_refl _) hlen HBy.out (by omega) (fun h => by
            rcases HAo.out with ⟨_, _, h2⟩ | ⟨_, h2⟩
            · rw [h2] at h; exact absurd h (by simp)
            · exact ⟨0, h2, HDat.out.below ((Below.refl _ _).alloc (Nat.le_refl _) _) hG⟩)
        clear HDat HAo HBy hlen
        go_wp2_with (go_at_call 18; go_must (refine HPar.out.mono ?_))
        rintro e w1 ⟨hbl1, hp⟩
        have hB1 : Below wr.heap.size wr w1 := ((Below.refl _ _).alloc (Nat.le_refl _) _).trans (hbl1.mono (Nat.le_of_lt hz0))
        have HB1 : Hid (Below w.heap.size w w1) := HBl.out.trans (hB1.mono hsz)
        have HBw : Hid (Below wr.heap.size wr w1) := hB1
        have hsz1 := hbl1.size
        have hx : w1.cell? ⟨wr.heap.size, 0, none⟩ = some (.int .u64 ix) := (hbl1.cell (p := ⟨wr.heap.size, 0, none⟩) hz0).trans (by go_simp)
        have HP : Hid (PPost (wr.alloc (EO ix tm 3 A dat.length)) w1 (members dat) e) := hp
        clear hbl1 hp hB1 HPar
        cases hmem : members dat with
        | none =>
          have hp := HP.out
          rw [hmem] at hp
          obtain ⟨g', s, rfl, q1, q2, q3⟩ := hp
          have HC : Hid (configs es = none) := by
            show configs es = _
            rw [HCf2.out, configs, if_pos rfl]
            simp [hmem]
          have ha : ∀ o, (w1.alloc o).cell? ⟨g', 0, none⟩ = some (.string s) := fun o => cell_old q3 o
          clear HP hmem HCf2
          go_wp2_with (go_at_call 19; go_must (refine (errConfig ix ⟨g', 0, none⟩ s _ _ (ha _) (by go_simp) (by go_simp)).mono ?_))
          rintro e w2 ⟨rfl, t, rfl⟩
          go_wp2
          go_ret2
          rw [HC.out]
          exact ⟨((HB1.out.alloc HB1.out.size _).alloc (Nat.le_trans HB1.out.size (by simp)) _).drew, _, rfl⟩
        | some ms =>
          have hp := HP.out
          rw [hmem] at hp
          obtain ⟨g', c', rfl, q1, q2, q3⟩ := hp
          have HMs : Hid (MemCells w1 g' ms) := q3
          have HPos : Hid (0 < ms.length) := members_pos hmem
          have HOk1 : Hid (∀ x ∈ cs, CfOk w1 w.heap.size x) := fun x hx => (HOk.out x hx).below HBw.out
          have HOwn1 : Hid (w1.ownsRow w.heap.size 38 2 (.slice ac cs.length cc) cs.length (ccells cs)) := ownsRow_below HOwn.out HBw.out
          have HCf3 : Hid (configs es = (configs (es.drop (k + 1))).map ((cs ++ [(⟨ix, ms, g', c'⟩ : Cf)]).map Cf.plain ++ ·)) := by
            show configs es = _
            rw [HCf2.out, configs, if_pos rfl]
            simp only [hmem, Option.bind_some]
            cases configs (es.drop (k + 1)) <;> simp [Cf.plain]
          clear HP hmem HCf2 HOwn HOk q3
          go_wp2_with (at_builtin; go_must (refine wpList_append_lies _ rfl _ _ 39 rfl w.heap.size 38 Tryf.t38 (.agg #[.int .u64 0, .slice none 0 0]) 2 32 Tryf.underlying39 hi38 rfl rfl rfl rfl (by decide) _ cs.length (ccells cs) rfl (HOwn1.out.alloc _) _ 1 1 [.int .u64 ix, .slice (some ⟨g', 0, none⟩) ms.length c'] rfl rfl (news_new1 w1 _ _ _ rfl) (by simp [Value.oneCell']) (by decide) (by unfold maxLen; omega) (by omega) (Nat.le_trans HB1.out.size (by simp)) (w1.heap.size + 1) (by simp) ?_))
          intro g1 cap1 w2 hown2 hgrow hat hlt
          have HB2 : Hid (Below w.heap.size w w2) := (HB1.out.alloc HB1.out.size _).grown hgrow (Nat.le_trans HB1.out.size (by simp)) (fun j hj => (HOwn1.out.lt j hj).1)
          have HOwn2 : Hid (w2.ownsRow w.heap.size 38 2 (.slice (some ⟨g1, 0, none⟩) (cs.length + 1) cap1) (cs.length + 1) (ccells cs ++ [.int .u64 ix, .slice (some ⟨g', 0, none⟩) ms.length c'])) := hown2
          have HOk2 : Hid (∀ x ∈ cs ++ [(⟨ix, ms, g', c'⟩ : Cf)], CfOk w2 w.heap.size x) := fun x hx => by
            rcases List.mem_append.1 hx with h | h
            · exact (HOk1.out x h).appended HOwn1.out HNn.out hgrow
            · rw [List.mem_singleton.1 h]
              exact CfOk.appended ⟨⟨q2, show w.heap.size ≤ g' by omega⟩, HPos.out, HMs.out⟩ HOwn1.out HNn.out hgrow
          clear hown2 hgrow hat hlt
          go_wp2
          go_roundw
          case rel =>
            have e : (cs ++ [(⟨ix, ms, g', c'⟩ : Cf)]).length = cs.length + 1 := by simp
            refine ⟨k + 1, cs ++ [⟨ix, ms, g', c'⟩], some ⟨g1, 0, none⟩, cap1, by omega, by omega, Or.inl (by omega), by go_num, by rw [e], ?_, HOk2.out, HB2.out, HCf3.out⟩
            rw [e, ccells_append]
            exact HOwn2.out
          case measure => simp [intOf]; omega
      · have ht : (ty != 3) = true := by simpa using hty
        have HCf3 : Hid (configs es = (configs (es.drop (k + 1))).map (cs.map Cf.plain ++ ·)) := by
          show configs es = _
          rw [HCf2.out, configs, if_neg hty]
        clear HCf2
        have HOk1 : ∀ o, Hid (∀ x ∈ cs, CfOk (wr.alloc o) w.heap.size x) := fun o x hx => (HOk.out x hx).below ((Below.refl _ _).alloc (Nat.le_refl _) _)
        go_wp2
        go_roundw
        case rel => exact ⟨k + 1, cs, ac, cc, by omega, by omega, HNn.out, by go_num, rfl, HOwn.out.alloc _, (HOk1 _).out, HBl.out.alloc HBl.out.size _, HCf3.out⟩
        case measure => simp [intOf]; omega
    · obtain rfl : k = n := by omega
      have HC : Hid (configs es = some (cs.map Cf.plain)) := by
        show configs es = _
        rw [HCf.out, List.drop_eq_nil_of_le (by omega), configs]
        simp
      have HAt : Hid (CfsAt wr w.heap.size ac cs) := cfs_cells HOwn.out HOk.out
      go_wp2
      go_ret2
      rw [HC.out]
      exact ⟨HBl.out, cs, ac, cc, rfl, rfl, HAt.out⟩

end Go.Proofs.Qxb6613017aFmt
