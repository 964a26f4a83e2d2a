/- Seat b6613017aF: the walk of ParseMembers. -/
import Derived.Test.Qxb6613017aFmtCheck
import Derived.Deep.AppendLies
namespace Go.Proofs.Qxb6613017aFmt
open Go.RowKit Plain

theorem cell_old {w : World} {a : Addr} {v : Value} (h : w.cell? a = some v) (o : Obj) : (w.alloc o).cell? a = some v :=
  (((Below.refl w.heap.size w).alloc (Nat.le_refl _) o).cell (World.block_lt_of_cell? _ _ h)).trans h

theorem news_new (w : World) (A : Obj) (cs : Array Value) (t : TypeId) (l : List Value) (hl : cs.toList = l) :
    ∀ j u, l[j]? = some u → ((w.alloc A).alloc (.cells cs t)).cell? ((⟨w.heap.size + 1, 0, none⟩ : Addr).add j) = some u := by
  subst hl
  have h := (MapKept.heap_alloc (w.alloc A) (.cells cs t)).1
  rw [show (w.alloc A).heap.size = w.heap.size + 1 by simp] at h
  exact World.news_of_block h
theorem ownsRow_below {w w' : World} {base : Nat} {e : TypeId} {size : Nat} {v : Value} {n : Nat} {xs : List Value} (h : w.ownsRow base e size v n xs) (hb : Below w.heap.size w w') : w'.ownsRow base e size v n xs := by
  refine ⟨h.1, ?_⟩
  rcases h.2 with h0 | ⟨g, cap, cur, hv, h1, h2, h3⟩
  · exact Or.inl h0
  · exact Or.inr ⟨g, cap, cur, hv, h1, (hb.block g (Array.getElem?_eq_some_iff.1 h2).1).trans h2, h3⟩

/-- A slice's length. -/
def lenOf : Value → Nat
  | .slice _ n _ => n
  | _ => 0

def mcells (ms : List Mb) : List Value := ms.flatMap fun m => [.string m.id, .string m.addr, .bool m.voter]
theorem mcells_append (a b : List Mb) : mcells (a ++ b) = mcells a ++ mcells b := List.flatMap_append
theorem mcells_get (ms : List Mb) (i : Nat) (h : i < ms.length) :
    (mcells ms)[i * 3]? = some (.string (ms.getD i mb0).id) ∧ (mcells ms)[i * 3 + 1]? = some (.string (ms.getD i mb0).addr) ∧ (mcells ms)[i * 3 + 2]? = some (.bool (ms.getD i mb0).voter) := by
  induction ms generalizing i with
  | nil => simp at h
  | cons m r ih =>
    cases i with
    | zero => simp [mcells]
    | succ i =>
      have := ih i (by simpa using h)
      have e : mcells (m :: r) = .string m.id :: .string m.addr :: .bool m.voter :: mcells r := rfl
      rw [e, show (i + 1) * 3 = i * 3 + 1 + 1 + 1 by omega, show i * 3 + 1 + 1 + 1 + 1 = (i * 3 + 1) + 1 + 1 + 1 by omega, show i * 3 + 1 + 1 + 1 + 2 = (i * 3 + 2) + 1 + 1 + 1 by omega]
      simpa using this

theorem hi52 : Tryf.prog.info? 52 = some Tryf.t52 := by kernel_rfl

/-- A row of members that the call owns, as cells. -/
theorem mems_cells {w : World} {base : Nat} {a : Option Addr} {ms : List Mb} {c : Nat} (h : w.ownsRow base 52 3 (.slice a ms.length c) ms.length (mcells ms)) (h0 : 0 < ms.length) :
    ∃ g, a = some ⟨g, 0, none⟩ ∧ base ≤ g ∧ g < w.heap.size ∧ MemCells w g ms := by
  obtain ⟨g, cap, hv, hl1, hl2⟩ := h.form h0
  cases hv
  refine ⟨g, rfl, hl1, hl2, fun i hi => ?_⟩
  have hg := mcells_get ms i hi
  have hc := h.cells (g := g) rfl
  have e : ∀ j, (⟨g, 0, none⟩ : Addr).add j = ⟨g, j, none⟩ := fun j => by rw [Addr.add_lit]; simp
  exact ⟨(e _) ▸ hc _ _ hg.1, (e _) ▸ hc _ _ hg.2.1, (e _) ▸ hc _ _ hg.2.2⟩

theorem errMember (x : Int) (a : Addr) (t : ByteArray) (blk : Nat) (w : World) (ha : w.cell? a = some (.string t)) (hc0 : w.cell? ⟨blk, 0, none⟩ = some (.iface 3 (.int .i64 x))) (hc1 : w.cell? ⟨blk, 1, none⟩ = some (.iface 77 (.pointer (some a)))) :
    Calls Tryf.prog 19 #[.string ⟨#[109, 101, 109, 98, 101, 114, 32, 37, 100, 32, 37, 118]⟩, .slice (some ⟨blk, 0, none⟩) 2 2] w fun e w' => ErrPost w w' e := errorfMember x a t blk w ha hc0 hc1

/-- What ParseMembers answers. -/
def PPost (w w' : World) (o : Option (List Mb)) (e : Ending) : Prop :=
  match o with
  | none => ∃ g s, e = .returned (.tuple #[.slice none 0 0, .iface 77 (.pointer (some ⟨g, 0, none⟩))]) ∧ w.heap.size ≤ g ∧ g < w'.heap.size ∧ w'.cell? ⟨g, 0, none⟩ = some (.string s)
  | some ms => ∃ g c, e = .returned (.tuple #[.slice (some ⟨g, 0, none⟩) ms.length c, .nilIface]) ∧ w.heap.size ≤ g ∧ g < w'.heap.size ∧ MemCells w' g ms

/-- The loop's relation. -/
def PRel (w : World) (b n c : Nat) (D : List Int) (s0 s4 : Value) (wr : World) : Prop :=
  ∃ (D' : List Int) (ms : List Mb) (a : Option Addr) (c' : Nat) (am : Option Addr) (cm : Nat),
    s0 = .slice a D'.length c' ∧ (0 < D'.length → ∃ off, a = some ⟨b, off, none⟩ ∧ ByteCells w b off D') ∧ D'.length ≤ c' ∧ c' ≤ c ∧ Byte D' ∧
    s4 = .slice am ms.length cm ∧ wr.ownsRow w.heap.size 52 3 (.slice am ms.length cm) ms.length (mcells ms) ∧ 4 * ms.length + D'.length ≤ n ∧ (∀ m ∈ ms, Small m) ∧
    Below w.heap.size w wr ∧ parse D = (parse D').map (ms ++ ·)

set_option maxRecDepth 20000 in
set_option maxHeartbeats 2000000 in
theorem parse_any (a : Option Addr) (b n c : Nat) (D : List Int) (w : World) (hn : D.length = n) (hc : n ≤ c) (hm : c ≤ 1048576) (hD : Byte D) (hb : b < w.heap.size)
    (ha : 0 < n → ∃ off, a = some ⟨b, off, none⟩ ∧ ByteCells w b off D) :
    Calls Tryf.prog 18 #[.slice a n c] w fun e w' => Below w.heap.size w w' ∧ PPost w w' (members D) e := by
  have HD : Hid (Byte D) := hD
  have HA : Hid (0 < n → ∃ off, a = some ⟨b, off, none⟩ ∧ ByteCells w b off D) := ha
  clear hD ha
  go_enter Tryf.func18, Tryf.ntmps18
  go_wp2_with fail
  go_loopw [0, 4, 5, 6, 7] (fun s0 s4 _ _ _ wr => PRel w b n c D s0 s4 wr) (fun s0 _ _ _ _ _ => lenOf s0)
  case atStart =>
    exact ⟨D, [], a, c, none, 0, by rw [hn], fun h => HA.out (by omega), by omega, Nat.le_refl _, HD.out, rfl, World.ownsRow_nil _ _ _ _, by simp; omega, by simp, Below.refl _ _, by simp⟩
  case round =>
    obtain ⟨D', ms, a', c', am, cm, rfl, hat, h1, h2, hby, rfl, hown, h3, hsm, hbl, hpar⟩ := hrel
    have HAt : Hid (0 < D'.length → ∃ off, a' = some ⟨b, off, none⟩ ∧ ByteCells w b off D') := hat
    have HBy : Hid (Byte D') := hby
    have HOwn : Hid (wr.ownsRow w.heap.size 52 3 (.slice am ms.length cm) ms.length (mcells ms)) := hown
    have HSm : Hid (∀ m ∈ ms, Small m) := hsm
    have HBl : Hid (Below w.heap.size w wr) := hbl
    have HPar : Hid (parse D = (parse D').map (ms ++ ·)) := hpar
    have hsz : w.heap.size ≤ wr.heap.size := hbl.size
    clear hat hby hown hsm hbl hpar
    cases D' with
    | nil =>
      have HMem : Hid (members D = if good ms = true then some ms else none) := by
        show members D = _
        unfold members
        rw [HPar.out, parse_nil]
        simp
      clear HAt HBy HPar
      by_cases hms : ms = []
      · subst hms
        have HChk : Hid (Calls Tryf.prog 21 #[.slice am 0 cm] wr fun e w' => Below wr.heap.size wr w' ∧ CPost wr w' false e) := check_none am cm wr
        go_wp2_with (go_at_call 21; go_must (refine HChk.out.mono ?_))
        rintro e w1 ⟨hbl1, hp⟩
        obtain ⟨g', s, rfl, q1, q2, q3⟩ := hp
        have HB1 : Hid (Below w.heap.size w w1) := HBl.out.trans (hbl1.mono hsz)
        clear hbl1
        go_wp2
        go_ret2
        rw [HMem.out]
        exact ⟨HB1.out, g', s, rfl, by omega, q2, q3⟩
      · have hpos : 0 < ms.length := List.length_pos_iff.2 hms
        obtain ⟨g, rfl, hg1, hg2, hcs⟩ := mems_cells HOwn.out hpos
        have HChk : Hid (Calls Tryf.prog 21 #[.slice (some ⟨g, 0, none⟩) ms.length cm] wr fun e w' => Below wr.heap.size wr w' ∧ CPost wr w' (good ms) e) := check_any g ms.length cm ms wr rfl hpos (by omega) hg2 hcs HSm.out
        have HCs : Hid (MemCells wr g ms) := hcs
        clear hcs
        go_wp2_with (go_at_call 21; go_must (refine HChk.out.mono ?_))
        rintro e w1 ⟨hbl1, hp⟩
        have HB1 : Hid (Below w.heap.size w w1) := HBl.out.trans (hbl1.mono hsz)
        have HCs1 : Hid (MemCells w1 g ms) := HCs.out.below hbl1 hg2
        have hsz1 := hbl1.size
        have HP : Hid (CPost wr w1 (good ms) e) := hp
        clear hbl1 hp
        cases hgood : good ms with
        | true =>
          have hp := HP.out
          rw [hgood] at hp
          obtain rfl : e = _ := hp
          rw [hgood] at HMem
          clear HP hgood
          go_wp2
          go_ret2
          rw [HMem.out]
          exact ⟨HB1.out, g, cm, rfl, hg1, by omega, HCs1.out⟩
        | false =>
          have hp := HP.out
          rw [hgood] at hp
          obtain ⟨g', s, rfl, q1, q2, q3⟩ := hp
          rw [hgood] at HMem
          clear HP hgood
          go_wp2
          go_ret2
          rw [HMem.out]
          exact ⟨HB1.out, g', s, rfl, by omega, q2, q3⟩
    | cons k D'' =>
      obtain ⟨off, rfl, hcells⟩ := HAt.out (by simp)
      have HCut : Hid (Calls Tryf.prog 20 #[.slice (some ⟨b, off, none⟩) (D''.length + 1) c'] wr fun e w' => Below wr.heap.size wr w' ∧ MPost wr w' b c' (cutM (k :: D'')) e) :=
        cutMember_any b off (D''.length + 1) c' k D'' wr (by omega) rfl (by simpa using h1) (by omega) HBy.out (hcells.below HBl.out hb)
      clear HAt hcells
      simp only [List.length_cons] at h1 h3
      go_wp2_with (go_at_call 20; go_must (refine HCut.out.mono ?_))
      rintro e w1 ⟨hbl1, hp⟩
      have HB1 : Hid (Below w.heap.size w w1) := HBl.out.trans (hbl1.mono hsz)
      have HBw : Hid (Below wr.heap.size wr w1) := hbl1
      have hsz1 := hbl1.size
      have HP : Hid (MPost wr w1 b c' (cutM (k :: D'')) e) := hp
      clear hbl1 hp HCut
      cases hcut : cutM (k :: D'') with
      | none =>
        have hp := HP.out
        rw [hcut] at hp
        obtain ⟨g', s, rfl, q1, q2, q3⟩ := hp
        have HMem : Hid (members D = none) := by
          show members D = none
          unfold members
          rw [HPar.out, parse_none (by simp) hcut]
          rfl
        have ha : ∀ o1 o2, ((w1.alloc o1).alloc o2).cell? ⟨g', 0, none⟩ = some (.string s) := fun o1 o2 => cell_old (cell_old q3 o1) o2
        clear HP hcut HPar
        go_wp2_with (go_at_call 19; go_must (refine (errMember ((ms.length : Int) + 1) ⟨g', 0, none⟩ s _ _ (ha _ _) (by go_simp) (by go_simp)).mono ?_))
        rintro e w2 ⟨rfl, t, rfl⟩
        go_wp2
        go_ret2
        rw [HMem.out]
        exact ⟨(((HB1.out.alloc HB1.out.size _).alloc (Nat.le_trans HB1.out.size (by simp)) _).alloc (Nat.le_trans HB1.out.size (by simp; omega)) _).drew, w1.heap.size + 1 + 1, t, rfl, by omega, by simp, by go_simp⟩
      | some mr =>
        obtain ⟨⟨id, addr, vt⟩, r⟩ := mr
        have hp := HP.out
        rw [hcut] at hp
        obtain ⟨o2, c2, rfl, hr, q1, q2⟩ := hp
        have hlr := cutM_length hcut
        simp only [List.length_cons] at hlr
        have hsb := cutM_small HBy.out hcut
        have HSm2 : Hid (∀ m ∈ ms ++ [⟨id, addr, vt⟩], Small m) := fun m hm => by
          rcases List.mem_append.1 hm with h | h
          · exact HSm.out m h
          · rw [List.mem_singleton.1 h]; exact hsb.1
        have HBy2 : Hid (Byte r) := hsb.2
        have HR : Hid (ByteCells w b o2 r) := hr.back HBl.out hb
        have HPar2 : Hid (parse D = (parse r).map ((ms ++ [⟨id, addr, vt⟩]) ++ ·)) := by
          show parse D = _
          rw [HPar.out, parse_some hcut]
          cases parse r <;> simp
        have HOwn1 : Hid (w1.ownsRow w.heap.size 52 3 (.slice am ms.length cm) ms.length (mcells ms)) := ownsRow_below HOwn.out HBw.out
        clear HP hcut HPar hsb hr HOwn HSm HBy
        go_wp2_with (at_builtin; go_must (refine wpList_append_lies _ rfl _ _ 31 rfl w.heap.size 52 Tryf.t52 (.agg #[.string ⟨#[]⟩, .string ⟨#[]⟩, .bool false]) 3 40 Tryf.underlying31 hi52 rfl rfl rfl rfl (by decide) _ ms.length (mcells ms) rfl ((HOwn1.out.alloc _).alloc _) _ 1 1 [.string id, .string addr, .bool vt] rfl rfl (news_new w1 _ _ _ _ rfl) (by simp [Value.oneCell']) (by decide) (by unfold maxLen; omega) (by omega) (Nat.le_trans HB1.out.size (by simp; omega)) (w1.heap.size + 1 + 1) (by simp) ?_))
        intro g1 cap1 w2 hown2 hgrow hat hlt
        have HB2 : Hid (Below w.heap.size w w2) := ((HB1.out.alloc HB1.out.size _).alloc (Nat.le_trans HB1.out.size (by simp)) _).grown hgrow (Nat.le_trans HB1.out.size (by simp; omega)) (fun j hj => (HOwn1.out.lt j hj).1)
        have HOwn2 : Hid (w2.ownsRow w.heap.size 52 3 (.slice (some ⟨g1, 0, none⟩) (ms.length + 1) cap1) (ms.length + 1) (mcells ms ++ [.string id, .string addr, .bool vt])) := hown2
        clear hown2 hgrow hat hlt
        go_wp2
        go_roundw
        case rel =>
          have e : (ms ++ [(⟨id, addr, vt⟩ : Mb)]).length = ms.length + 1 := by simp
          refine ⟨r, ms ++ [⟨id, addr, vt⟩], some ⟨b, o2, none⟩, c2, some ⟨g1, 0, none⟩, cap1, rfl, fun _ => ⟨o2, rfl, HR.out⟩, q1, by omega, HBy2.out, by rw [e], ?_, by omega, HSm2.out, HB2.out, HPar2.out⟩
          rw [e, mcells_append]
          exact HOwn2.out
        case measure => simp [lenOf]; omega

end Go.Proofs.Qxb6613017aFmt
