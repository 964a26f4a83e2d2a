/- The proof of Rows.FnUnterminateJoinsLineToNextCardSaid: the row's step round the walk of Qxb6613005aDoorMain, and the tied card. -/
import Derived.Test.Qxb6613005aDoorMain
import Derived.Test.Qxb6613005aDoorTie
import Derived.Test.Qxb6613005aDoorCards
import Derived.ProofKit
import Derived.LaidMore
import Derived.OpenShut
import Derived.Stop.Joined
import Derived.ChangeOld
import Derived.Lib.LaidTab
import Derived.SevenTiedAt
namespace Go.Proofs.Qxb6613005aDoor.fnUnterminateJoinsLineToNext
open Go.ChangeShapes Go.WideShapes Go.ChangeAt Go.RowKit

theorem own : ownKnob Tryd.prog.godebug = none := by kernel_rfl
theorem laidOut : laidOutB Tryd.prog = true := by kernel_rfl

/-- The listed variable's name, off the row itself. -/
def tabName : String := (Rows.fnUnterminateJoinsLineToNextRow.laid.map (·.1)).headD ""
def tabZ : List Int := Lib.deBruijn64tab.map fun (n : Nat) => (n : Int)
theorem gTab : Tryd.prog.globalNamed tabName = some 1 := by kernel_rfl
theorem tTab : (Tryd.prog.globals[1]?).map (·.type) = some 76 := by kernel_rfl
theorem cells5 : Tryd.prog.cellsOf 5 = 1 := by kernel_rfl
theorem cells76 : Tryd.prog.cellsOf 76 = 64 := by kernel_rfl
theorem laid_eq : Rows.fnUnterminateJoinsLineToNextRow.laid = [(tabName, Lib.tabData .u8 tabZ)] := by kernel_rfl

theorem of_laid {W : World} (h : laidMetH Tryd.prog Rows.fnUnterminateJoinsLineToNextRow.laid W) : TabAt W := by
  rw [MakeChecks.laidMetH_plain _ _ _ (by kernel_rfl), laid_eq] at h
  have hT := Lib.tabIs_of_head gTab tTab Tryd.underlying76 Tryd.underlying5 cells5 cells76 h
  intro j hj
  rw [hT.cell gTab j (by simpa [tabZ, Lib.deBruijn64tab] using hj)]
  simp [tabZ, List.getD]
  cases Lib.deBruijn64tab[j]? <;> rfl

/-- The door's own heap meets the condition: closed facts. -/
theorem door_met (os : Os) (args : Array Value) : laidMetH Tryd.prog Rows.fnUnterminateJoinsLineToNextRow.laid ((World.doorLaid Tryd.prog 33 os).forCall (fun _ _ => 0) ⟨#[], args, []⟩).memory :=
  laidMetH_of_parts3 (fuel := 8) (laidMet_of_run' 8 (by kernel_rfl) (by kernel_rfl)) (by kernel_rfl) (by kernel_rfl)

/-- What the walk is told of a slice of bytes that came in. -/
def View (w : World) (a : Option Addr) (len : Nat) (f : Nat → Nat) : Prop :=
  ∃ b off, (0 < len → a = some ⟨b, off, none⟩ ∧ b < w.heap.size) ∧ (∀ i, i < len → w.cell? ⟨b, off + i, none⟩ = some (.int .u8 (f i))) ∧ ∀ i, i < len → f i < 256

theorem view_of {w : World} {x : Addr} {len : Nat} {f : Nat → Nat} (h : ∀ i, i < len → w.cell? (x.add i) = some (.int .u8 (f i))) (hf : ∀ i, i < len → f i < 256) : View w (some x) len f := by
  obtain ⟨b, off, spot⟩ := x
  by_cases h0 : len = 0
  · exact ⟨b, off, fun h => by omega, fun i hi => by omega, hf⟩
  · have hc := h 0 (by omega)
    have hspot : spot = none := by simpa [Addr.add] using World.cell?_spot hc
    subst hspot
    refine ⟨b, off, fun _ => ⟨rfl, ?_⟩, fun i hi => ?_, hf⟩
    · have := World.block_lt_of_cell? _ _ hc
      simpa [Addr.add] using this
    · have := h i hi
      rwa [Addr.add_lit] at this

theorem wf_u8 {a : Int} (h : (Lit.int .u8 a).wf = true) : 0 ≤ a ∧ a < 256 := by
  simp [Lit.wf, IntKind.min, IntKind.max, IntKind.signed, IntKind.bits] at h
  omega

theorem view_bytes {H : Type} {enc : TypeId × Value → H} {W : World} {d : DataW H} {p : List MemPlace} {a : Option Addr} {len cap : Nat} (h : DataW.Trod enc Tryd.prog W 0 (fun _ => true) true 22 (.slice a len cap) d p) : ∃ f, View W a len f := by
  obtain ⟨fuel, hf⟩ := h
  rcases open_ints Tryd.underlying22 Tryd.underlying5 (by kernel_rfl) hf with ⟨hcs, _⟩ | ⟨x, l, c, zs, hcs, _, hl, hm, hz, _, hcell, hwz⟩
  · simp [Value.cells] at hcs
    obtain ⟨rfl, rfl, rfl⟩ := hcs
    exact ⟨fun _ => 0, 0, 0, fun h => by omega, fun i hi => by omega, fun i hi => by omega⟩
  · simp [Value.cells] at hcs
    obtain ⟨rfl, rfl, rfl⟩ := hcs
    simp at hz
    have hb : ∀ i, i < len → 0 ≤ zs.getD i 0 ∧ zs.getD i 0 < 256 := fun i hi => by
      refine wf_u8 (hwz _ ?_)
      rw [List.getD_eq_getElem?_getD, List.getElem?_eq_getElem (show i < zs.length by omega)]
      exact List.getElem_mem _
    refine ⟨fun i => (zs.getD i 0).toNat, view_of (fun i hi => ?_) (fun i hi => ?_)⟩
    · rw [hcell i (by omega)]
      have := hb i hi
      rw [Int.toNat_of_nonneg this.1]
    · have := hb i hi
      omega

set_option maxRecDepth 100000 in
theorem lifted (os : Os) (started : os.Started) (H : Type) (enc : TypeId × Value → H) :
    ReturnsInHanded {} Tryd.checked os 5 .any (fun w args => (Rows.fnUnterminateJoinsLineToNextSpec.pre enc Tryd.prog Tryd.f5 [] false w args ∧ laidMetH Tryd.prog Rows.fnUnterminateJoinsLineToNextRow.laid w) ∧ sizedMet enc Tryd.prog Tryd.f5 (OpenSpec.ofChange Rows.fnUnterminateJoinsLineToNextSpec) false w args)
      (Rows.fnUnterminateJoinsLineToNextSpec.post enc Tryd.prog Tryd.f5 false true false false) := by
  refine returnsInHanded_of_change_and (C := Tryd.checked) (X := fun w _ => laidMetH Tryd.prog Rows.fnUnterminateJoinsLineToNextRow.laid w) (fun _ _ _ hh h => h.of_heap hh) own started (by kernel_rfl) Tryd.func5
    (ChangeSpec.witness_shaped (enc := enc) (C := Tryd.checked) (os := os) (X := fun w _ => laidMetH Tryd.prog Rows.fnUnterminateJoinsLineToNextRow.laid w) false (World.doorLaid Tryd.prog 33 os) #[.slice none 0 0, .slice none 0 0, .int .u8 0] 8 rfl (World.shaped_of_RefB (by kernel_rfl) (by kernel_rfl)) (by kernel_rfl) (by kernel_rfl) (by kernel_rfl) (door_met os _)) ?_
  intro W base args ds gs before hval0 hW _ _ hL _
  have hval : ∀ (j : Nat) t v, Tryd.f5.params[j]? = some t → args[j]? = some v → Value.okWide Tryd.prog W .any base t v := hval0
  have hW' := hW
  obtain ⟨p, q, hA0, hV, rfl, hfz, hnd⟩ := hW
  have hA : DataW.TrodAll enc Tryd.prog W 0 (fun _ => true) true Tryd.f5.params.toList args.toList ds p := hA0
  rw [Tryd.params5] at hA hval
  obtain ⟨v0, vs0, d0, ds0, p0, q0, hargs, rfl, rfl, h0, r0⟩ := trodAll_cons hA
  obtain ⟨v1, vs1, d1, ds1, p1, q1, rfl, rfl, rfl, h1, r1⟩ := trodAll_cons r0
  obtain ⟨v2, vs2, d2, ds2, p2, q2, rfl, rfl, rfl, h2, r2⟩ := trodAll_cons r1
  obtain ⟨rfl, rfl, rfl⟩ := trodAll_nil r2
  obtain rfl : args = #[v0, v1, v2] := by cases args; simp_all
  obtain ⟨rfl, rfl⟩ := trodVars_none hV
  obtain ⟨a0, len0, cap0, rfl⟩ := okWide_slice Tryd.underlying22 (hval 0 22 v0 rfl rfl)
  obtain ⟨a1, len1, cap1, rfl⟩ := okWide_slice Tryd.underlying22 (hval 1 22 v1 rfl rfl)
  have lt0 : ∀ x ∈ p0, x.block < W.heap.size := by obtain ⟨m, hm⟩ := h0; exact DataW.trod_lt m _ _ _ hm
  have lt1 : ∀ x ∈ p1, x.block < W.heap.size := by obtain ⟨m, hm⟩ := h1; exact DataW.trod_lt m _ _ _ hm
  obtain ⟨A, ba, oa, haa, hca, hA2⟩ := view_bytes h0
  obtain ⟨B, bb, ob, hab, hcb, hB2⟩ := view_bytes h1
  obtain ⟨a2, rfl, rfl, rfl, w2⟩ := open_int Tryd.underlying5 (hval 2 5 v2 rfl rfl) h2
  have hT := of_laid hL
  obtain ⟨e, rfl⟩ : ∃ e : Nat, a2 = e := ⟨a2.toNat, by have := wf_u8 w2; omega⟩
  have he : e < 256 := by have := wf_u8 w2; omega
  clear hA0 hval0
  refine (main_walk W a0 a1 ba oa len0 cap0 bb ob len1 cap1 e A B hT he hA2 hB2 haa hca hab hcb).mono fun r W' ⟨hr, bel⟩ => ?_
  subst hr
  exact ⟨_, rfl, _, _, _, [], _, [], hW', trodAll_mk1 (shut_bool Tryd.underlying4 _), (trodAll_cons_mk (Below.trod laidOut (by kernel_rfl) (of_decide_eq_true (by kernel_rfl)) h0 bel lt0) (trodAll_cons_mk (Below.trod laidOut (by kernel_rfl) (of_decide_eq_true (by kernel_rfl)) h1 bel lt1) (trodAll_cons_mk (shut_int Tryd.underlying5 w2) trodAll_mk0))), rfl, bel.frame _, fun h => by cases h⟩

theorem over : Rows.FnUnterminateJoinsLineToNextSaid :=
  OpenClaim.holds_of_wide 5 Tryd.f5 rfl rfl rfl rfl rfl rfl rfl ⟨rfl, rfl, rfl, rfl, rfl⟩ rfl rfl rfl rfl rfl (by kernel_rfl) Tryd.func5 (by kernel_rfl)
    (of_decide_eq_true (by kernel_rfl)) (by unfold Func.isWrapper; first | (rw [if_pos (by decide +kernel)]; kernel_rfl) | (rw [if_neg (by decide +kernel)]; exact ⟨rfl, rfl⟩))
    (fun os started H enc _ => lifted os started H enc)

/-- THE STATEMENT: the tied card. -/
theorem proved : Rows.FnUnterminateJoinsLineToNextCardSaid :=
  Claim7.holds_tied_plain_at .later [] [.data] true (true, "640e9ce4d5a2f1d7639c0a6d5bc837c5cfc2fb9df78dac8a30bf1e62f99c3212") true
    over (fun _ h => by cases h) (by kernel_rfl) (fun _ h => by cases h) fnUnterminateJoinsLineToNext_row_tie rfl ⟨rfl, rfl⟩ (by kernel_rfl) rfl
    (fun f fn hf hfn => by
      obtain rfl : f = 5 := Option.some.inj ((show Tryd.prog.funcNamed Rows.fnUnterminateJoinsLineToNextRow.func = some 5 by kernel_rfl).symm.trans hf) |>.symm
      obtain rfl : fn = Tryd.f5 := (Option.some.inj (Tryd.func5.symm.trans hfn)).symm
      exact ⟨by kernel_rfl, fun j t ht => by
        rw [Tryd.params5] at ht
        have hm : t ∈ [22, 22, 5] := by simpa using Array.mem_of_getElem? ht
        have hall : ([22, 22, 5].all fun u => !Tryd.prog.wantsStandIn u) = true := by kernel_rfl
        exact (show Tryd.prog.wantsStandIn t = false by simpa using List.all_eq_true.1 hall t hm)⟩)
    (by kernel_rfl)
end Go.Proofs.Qxb6613005aDoor.fnUnterminateJoinsLineToNext
