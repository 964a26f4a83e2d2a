/- Seat b6613017aF: what stands behind the three calls. -/
import Derived.Test.Qxb6613017aFmtReg
namespace Go.Proofs.Qxb6613017aFmt
open Go.RowKit Plain

theorem parse_len : ∀ (N : Nat) (D : List Int) (ms : List Mb), D.length ≤ N → parse D = some ms → ms.length ≤ D.length := by
  intro N
  induction N with
  | zero =>
    intro D ms h0 h
    obtain rfl : D = [] := List.length_eq_zero_iff.1 (by omega)
    rw [parse_nil] at h
    cases h
    simp
  | succ N ih =>
    intro D ms h0 h
    by_cases hD : D = []
    · subst hD
      rw [parse_nil] at h
      cases h
      simp
    · cases hc : cutM D with
      | none =>
        rw [parse_none hD hc] at h
        cases h
      | some p =>
        obtain ⟨m, r⟩ := p
        have hlt := cutM_length hc
        rw [parse_some hc] at h
        cases hp : parse r with
        | none => rw [hp] at h; cases h
        | some l =>
          rw [hp] at h
          cases h
          have := ih r l (by omega) hp
          simp
          omega
theorem members_len {D : List Int} {ms : List Mb} (h : members D = some ms) : ms.length ≤ D.length := by
  unfold members at h
  cases hp : parse D with
  | none => rw [hp] at h; cases h
  | some l =>
    rw [hp] at h
    simp only [Option.bind_some] at h
    split at h
    · cases h; exact parse_len _ D _ (Nat.le_refl _) hp
    · cases h
theorem configs_len {es : List En} : ∀ {l : List (Int × List Mb)}, configs es = some l → l.length ≤ es.length := by
  induction es with
  | nil => intro l h; cases h; simp
  | cons e r ih =>
    intro l h
    simp only [configs] at h
    split at h
    · cases hm : members e.dat with
      | none => rw [hm] at h; cases h
      | some ms =>
        rw [hm] at h
        cases hr : configs r with
        | none => rw [hr] at h; cases h
        | some t =>
          rw [hr] at h
          cases h
          have := ih hr
          simp; omega
    · have := ih h
      simp; omega
theorem configs_small {N : Nat} {es : List En} : ∀ {l : List (Int × List Mb)}, (∀ e ∈ es, e.dat.length ≤ N) → configs es = some l → ∀ x ∈ l, x.2.length ≤ N := by
  induction es with
  | nil => intro l _ h; cases h; simp
  | cons e r ih =>
    intro l hN h
    simp only [configs] at h
    split at h
    · cases hm : members e.dat with
      | none => rw [hm] at h; cases h
      | some ms =>
        rw [hm] at h
        cases hr : configs r with
        | none => rw [hr] at h; cases h
        | some t =>
          rw [hr] at h
          cases h
          intro x hx
          rcases List.mem_cons.1 hx with rfl | hx
          · exact Nat.le_trans (members_len hm) (hN e (List.mem_cons_self ..))
          · exact ih (fun e he => hN e (List.mem_cons_of_mem _ he)) hr x hx
    · exact ih (fun e he => hN e (List.mem_cons_of_mem _ he)) h

theorem eq39 (w : World) (a : Option Addr) (n c : Nat) : (binOp .eql 39 (.slice a n c) (.slice none 0 0)).run Tryf.prog w = .ok (.bool a.isNone) w := Lib.run_eql_slice_nil (P := Tryf.prog) w 39 38 a n c 0 0 Tryf.underlying39
/-- The error's value. -/
def IsErr (v : Value) : Prop := ∃ x, v = .iface 73 (.pointer (some x))

/-- The three calls refuse. -/
structure Refused (W : World) (p : Nat) (s14 s15 s16 s21 s26 : Value) : Prop where
  e1 : IsErr s16
  n14 : s14 = .slice none 0 0
  n15 : s15 = .slice none 0 0
  c0 : W.cell? ⟨p, 0, none⟩ = some (.int .u64 0)
  c1 : W.cell? ⟨p, 1, none⟩ = some (.int .u64 0)
  e2 : IsErr s21 ∨ s21 = .nilIface ∧ IsErr s26
/-- The three calls answer. -/
structure Held (W : World) (p : Nat) (si st : Int) (a : Option Addr) (n N : Nat) (es : List En) (s14 s15 s16 s20 s21 s25 s26 : Value) : Prop where
  e1 : s16 = .nilIface
  e2 : s21 = .nilIface
  e3 : s26 = .nilIface
  c0 : W.cell? ⟨p, 0, none⟩ = some (.int .u64 si)
  c1 : W.cell? ⟨p, 1, none⟩ = some (.int .u64 st)
  n14 : ∃ a1 B, s14 = .slice a1 n n ∧ a1.isNone = a.isNone ∧ (0 < n → a1 = some ⟨B, 0, none⟩) ∧ RaftEnts W B es
  cs : ∃ (cs l r : List Cf) (ac al ar : Option Addr) (cc cl cr : Nat), s15 = .slice ac cs.length cc ∧ s20 = .slice al l.length cl ∧ s25 = .slice ar r.length cr ∧ CfsAt W 0 ac cs ∧ CfsAt W 0 al l ∧ CfsAt W 0 ar r ∧ cs.map Cf.plain = l.map Cf.plain ++ r.map Cf.plain ∧ cs.length ≤ es.length ∧ ∀ x ∈ cs, x.ms.length ≤ N

theorem ZRel.err {W0 W1 : World} {si st : Int} {a : Option Addr} {n p : Nat} {es : List En} {s14 s15 s16 : Value} (h : ZRel W0 si st a n es (.pointer (some ⟨p, 0, none⟩)) s14 s15 s16 W1) (hc : configs es = none) :
    IsErr s16 ∧ s14 = .slice none 0 0 ∧ s15 = .slice none 0 0 ∧ W1.cell? ⟨p, 0, none⟩ = some (.int .u64 0) ∧ W1.cell? ⟨p, 1, none⟩ = some (.int .u64 0) := by
  obtain ⟨_, q, hq, _, h⟩ := h
  rw [hc] at h
  cases hq
  exact h
theorem ZRel.ok {W0 W1 : World} {si st : Int} {a : Option Addr} {n p : Nat} {es : List En} {l : List (Int × List Mb)} {s14 s15 s16 : Value} (h : ZRel W0 si st a n es (.pointer (some ⟨p, 0, none⟩)) s14 s15 s16 W1) (hc : configs es = some l) :
    s16 = .nilIface ∧ (∃ a1 B, s14 = .slice a1 n n ∧ a1.isNone = a.isNone ∧ (0 < n → a1 = some ⟨B, 0, none⟩) ∧ RaftEnts W1 B es) ∧ (∃ cs ac cc, s15 = .slice ac cs.length cc ∧ cs.map Cf.plain = l ∧ CfsAt W1 0 ac cs) ∧
    W1.cell? ⟨p, 0, none⟩ = some (.int .u64 si) ∧ W1.cell? ⟨p, 1, none⟩ = some (.int .u64 st) := by
  obtain ⟨_, q, hq, _, h⟩ := h
  rw [hc] at h
  cases hq
  exact h

theorem three {W0 W1 W2 W3 : World} {si st : Int} {a a2 a3 : Option Addr} {n n2 n3 p1 p2 p3 N : Nat} {es l r : List En} {s14 s15 s16 s19 s20 s21 s24 s25 s26 : Value}
    (r1 : ZRel W0 si st a n es (.pointer (some ⟨p1, 0, none⟩)) s14 s15 s16 W1) (r2 : ZRel W1 si st a2 n2 l (.pointer (some ⟨p2, 0, none⟩)) s19 s20 s21 W2) (r3 : ZRel W2 si st a3 n3 r (.pointer (some ⟨p3, 0, none⟩)) s24 s25 s26 W3)
    (he : es = l ++ r) (hN : ∀ e ∈ es, e.dat.length ≤ N) : Refused W3 p1 s14 s15 s16 s21 s26 ∨ Held W3 p1 si st a n N es s14 s15 s16 s20 s21 s25 s26 := by
  have hb2 : Below W1.heap.size W1 W2 := r2.1
  have hb3 : Below W2.heap.size W2 W3 := r3.1
  have hb : Below W1.heap.size W1 W3 := hb2.trans (hb3.mono hb2.size)
  have hap : configs es = (configs l).bind fun x => (configs r).map (x ++ ·) := by rw [he, configs_append]
  have herr : configs es = none → IsErr s21 ∨ s21 = .nilIface ∧ IsErr s26 → Refused W3 p1 s14 s15 s16 s21 s26 := fun hc h => by
    obtain ⟨h1, h2, h3, h4, h5⟩ := r1.err hc
    have hp := World.block_lt_of_cell? _ _ h4
    exact ⟨h1, h2, h3, (hb.cell (p := ⟨p1, 0, none⟩) hp).trans h4, (hb.cell (p := ⟨p1, 1, none⟩) hp).trans h5, h⟩
  cases hl : configs l with
  | none =>
    rw [hl] at hap
    exact Or.inl (herr hap (Or.inl (r2.err hl).1))
  | some x =>
    obtain ⟨e2, _, ⟨csl, al, cl, h20, hml, hCl⟩, _, _⟩ := r2.ok hl
    cases hr : configs r with
    | none =>
      rw [hl, hr] at hap
      exact Or.inl (herr hap (Or.inr ⟨e2, (r3.err hr).1⟩))
    | some y =>
      obtain ⟨e3, _, ⟨csr, ar, cr, h25, hmr, hCr⟩, _, _⟩ := r3.ok hr
      rw [hl, hr] at hap
      simp only [Option.bind_some, Option.map_some] at hap
      obtain ⟨e1, ⟨a1, B, h14, ha1, hB, hRE⟩, ⟨cs, ac, cc, h15, hm, hC⟩, c0, c1⟩ := r1.ok hap
      have hp := World.block_lt_of_cell? _ _ c0
      refine Or.inr ⟨e1, e2, e3, (hb.cell (p := ⟨p1, 0, none⟩) hp).trans c0, (hb.cell (p := ⟨p1, 1, none⟩) hp).trans c1, ⟨a1, B, h14, ha1, hB, hRE.below hb⟩, cs, csl, csr, ac, al, ar, cc, cl, cr, h15, h20, h25, hC.below hb, hCl.below hb3, hCr, ?_, ?_, ?_⟩
      · rw [hm, hml, hmr]
      · have := configs_len hap
        rw [← hm] at this
        simpa using this
      · intro c hc
        have := configs_small hN hap (Cf.plain c) (by rw [← hm]; exact List.mem_map_of_mem hc)
        exact this

theorem Held.len {cs l r : List Cf} (h : cs.map Cf.plain = l.map Cf.plain ++ r.map Cf.plain) : cs.length = l.length + r.length := by
  have := congrArg List.length h
  simpa using this
theorem Held.at_left {cs l r : List Cf} (h : cs.map Cf.plain = l.map Cf.plain ++ r.map Cf.plain) {i : Nat} (hi : i < l.length) : (l.getD i cf0).ix = (cs.getD i cf0).ix ∧ (l.getD i cf0).ms = (cs.getD i cf0).ms := by
  have hl := Held.len h
  have h1 := congrArg (fun x => x[i]?) h
  simp only [List.getElem?_map, List.getElem?_append_left (show i < (l.map Cf.plain).length by simpa using hi)] at h1
  rw [List.getElem?_eq_getElem (show i < cs.length by omega), List.getElem?_eq_getElem hi] at h1
  simp only [Option.map_some, Option.some.injEq, Cf.plain, Prod.mk.injEq] at h1
  simp only [List.getD, List.getElem?_eq_getElem (show i < cs.length by omega), List.getElem?_eq_getElem hi, Option.getD_some]
  exact ⟨h1.1.symm, h1.2.symm⟩
theorem Held.at_right {cs l r : List Cf} (h : cs.map Cf.plain = l.map Cf.plain ++ r.map Cf.plain) {i : Nat} (hi : l.length ≤ i) (hc : i < cs.length) : (r.getD (i - l.length) cf0).ix = (cs.getD i cf0).ix ∧ (r.getD (i - l.length) cf0).ms = (cs.getD i cf0).ms := by
  have hl := Held.len h
  have h1 := congrArg (fun x => x[i]?) h
  have hr : i - l.length < r.length := by omega
  simp only [List.getElem?_map, List.getElem?_append_right (show (l.map Cf.plain).length ≤ i by simpa using hi), List.length_map] at h1
  rw [List.getElem?_eq_getElem hc, List.getElem?_eq_getElem hr] at h1
  simp only [Option.map_some, Option.some.injEq, Cf.plain, Prod.mk.injEq] at h1
  simp only [List.getD, List.getElem?_eq_getElem hc, List.getElem?_eq_getElem hr, Option.getD_some]
  exact ⟨h1.1.symm, h1.2.symm⟩

theorem CfsAt.at {w : World} {lo i : Nat} {a : Option Addr} {cs : List Cf} (h : CfsAt w lo a cs) (hi : i < cs.length) :
    ∃ g gm n c, a = some ⟨g, 0, none⟩ ∧ g < w.heap.size ∧ w.cell? ⟨g, i * 2, none⟩ = some (.int .u64 (cs.getD i cf0).ix) ∧ w.cell? ⟨g, i * 2 + 1, none⟩ = some (.slice (some ⟨gm, 0, none⟩) n c) ∧ n = (cs.getD i cf0).ms.length ∧ gm < w.heap.size ∧ MemCells w gm (cs.getD i cf0).ms := by
  obtain ⟨g, ha, ⟨hg, _⟩, hall⟩ := h (by omega)
  obtain ⟨h1, h2, ⟨⟨h3, _⟩, _, h5⟩⟩ := hall i hi
  exact ⟨g, _, _, _, ha, hg, h1, h2, rfl, h3, h5⟩
theorem MemCells.same {w w' : World} {g : Nat} {ms : List Mb} (h : MemCells w g ms) (hc : ∀ c, w'.cell? c = w.cell? c) : MemCells w' g ms := fun i hi => ⟨(hc _).trans (h i hi).1, (hc _).trans (h i hi).2.1, (hc _).trans (h i hi).2.2⟩
theorem mems_call {w : World} {g1 g2 : Nat} {ms : List Mb} (h1 : MemCells w g1 ms) (h2 : MemCells w g2 ms) (l1 : g1 < w.heap.size) (l2 : g2 < w.heap.size) (hm : ms.length ≤ 1048576) (c1 c2 : Nat) (ob : Obj) (w' : World) (hc : ∀ c, w'.cell? c = (w.alloc ob).cell? c) :
    Calls Tryf.prog 13 #[.slice (some ⟨g1, 0, none⟩) ms.length c1, .slice (some ⟨g2, 0, none⟩) ms.length c2] w' fun e w1 => e = .returned (.bool true) ∧ ∃ m, w1 = w'.drewN m :=
  sameMems_any g1 g2 _ c1 c2 ms w' rfl (by omega) ((h1.below ((Below.refl _ w).alloc (Nat.le_refl _) ob) l1).same hc) ((h2.below ((Below.refl _ w).alloc (Nat.le_refl _) ob) l2).same hc)
theorem quiet_at {f : FuncId} {args : Array Value} {w : World} {x : Nat} {v : Value} (h : Calls Tryf.prog f args (w.drewN x) fun e w1 => e = .returned v ∧ ∃ m, w1 = (w.drewN x).drewN m) :
    Calls Tryf.prog f args (w.drewN x) fun e w1 => e = .returned v ∧ ∃ m, w1 = w.drewN m :=
  h.mono fun _ _ ⟨he, m, hm⟩ => ⟨he, x + m, by rw [hm, World.drewN_drewN]⟩
theorem getD_mem {cs : List Cf} {i : Nat} (h : i < cs.length) : cs.getD i cf0 ∈ cs := by
  simp only [List.getD, List.getElem?_eq_getElem h, Option.getD_some]
  exact List.getElem_mem h

end Go.Proofs.Qxb6613017aFmt
