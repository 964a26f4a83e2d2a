/- Seat b6613017aF: the walk of modelMembers. -/
import Derived.Test.Qxb6613017aFmtModelA
namespace Go.Proofs.Qxb6613017aFmt
open Go.RowKit Plain

theorem run_makeMap_none (w : World) : (Instr.makeMap 61 none).run Tryf.prog w = .ok (.map (some w.heap.size)) (w.alloc (.map #[] 0)) := by
  simp [Instr.makeMap]

set_option maxRecDepth 20000 in
set_option maxHeartbeats 4000000 in
theorem model_any (a : Option Addr) (b off n c : Nat) (D : List Int) (w : World) (hn : D.length = n) (hc : n ≤ c) (hm : n ≤ 1048576) (hD : Byte D) (hb : 0 < n → b < w.heap.size)
    (ha : 0 < n → a = some ⟨b, off, none⟩ ∧ ByteCells w b off D) :
    Calls Tryf.prog 9 #[.slice a n c] w fun e w' => Below w.heap.size w w' ∧ MMPost w.heap.size w' (members D) e := by
  have HD : Hid (Byte D) := hD
  have HA : Hid (0 < n → a = some ⟨b, off, none⟩ ∧ ByteCells w b off D) := ha
  clear hD ha
  go_enter Tryf.func9, Tryf.ntmps9
  go_wp2_with fail
  go_loopw [4, 5] (fun s4 s5 wr => MMRel w D s4 s5 wr) (fun _ s5 _ => n - (intOf s5).toNat)
  case atStart => exact ⟨0, [], none, 0, Nat.zero_le _, rfl, rfl, World.ownsRow_nil _ _ _ _, by simp, by simp, Below.refl _ _, by simp⟩
  case round =>
    obtain ⟨p, ms, am, cm, hp, rfl, rfl, hown, h4, hsm, hbl, hpar⟩ := hrel
    have HOwn : Hid (wr.ownsRow w.heap.size 27 3 (.slice am ms.length cm) ms.length (mcells ms)) := hown
    have HSm : Hid (∀ m ∈ ms, Small m) := hsm
    have HBl : Hid (Below w.heap.size w wr) := hbl
    have HPar : Hid (parse D = (parse (D.drop p)).map (ms ++ ·)) := hpar
    have hsz : w.heap.size ≤ wr.heap.size := hbl.size
    obtain ⟨nm, hnm⟩ : ∃ x, ms.length = x := ⟨_, rfl⟩
    rw [hn] at hp
    by_cases hlt : p < n
    · obtain ⟨rfl, hcells⟩ := HA.out (by omega)
      have hcw : ByteCells wr b off D := hcells.below hbl (hb (by omega))
      have HCw : Hid (ByteCells wr b off D) := hcw
      have e0 := hcw p (by omega)
      obtain ⟨k, hk⟩ : ∃ k, D.getD p 0 = k := ⟨_, rfl⟩
      rw [hk] at e0
      have HK : Hid (D.getD p 0 = k) := hk
      clear hown hsm hbl hpar hcells hcw hk
      by_cases hkind : k ≠ 1 ∧ k ≠ 2
      · have HMem : Hid (members D = none) := parse_cut_none HPar.out (by omega) (cutM_kind (by omega) (by rw [HK.out]; exact hkind.1) (by rw [HK.out]; exact hkind.2))
        have hk1 : (k == 1) = false := by simpa using hkind.1
        have hk2 : (k == 2) = false := by simpa using hkind.2
        have hk3 : (k != 1) = true := by simpa using hkind.1
        have hk4 : (k != 2) = true := by simpa using hkind.2
        have hk5 : decide (k = 1) = false := by simpa using hkind.1
        have hk6 : decide (k = 2) = false := by simpa using hkind.2
        have hk7 : ¬ k = 1 := hkind.1
        have hk8 : ¬ k = 2 := hkind.2
        clear hkind
        go_wp2_with fail
        go_ret2
        rw [HMem.out]
        exact ⟨HBl.out, rfl⟩
      obtain ⟨np, hnp⟩ : ∃ np : Nat, np = n - p := ⟨_, rfl⟩
      have w0 : IntKind.i64.wrap ((n : Int) - (p : Int)) = (np : Int) := by rw [IntKind.wrap_i64]; omega
      by_cases hs1 : np < 2
      · have HMem : Hid (members D = none) := parse_cut_none HPar.out (by omega) (cutM_short1 (by omega) (by omega))
        rcases (show k = 1 ∨ k = 2 by omega) with rfl | rfl
        all_goals
          clear hkind hnp
          go_wp2_with fail
          go_ret2
          rw [HMem.out]
          exact ⟨HBl.out, rfl⟩
      obtain ⟨p1, hp1⟩ : ∃ p1 : Nat, p1 = p + 1 := ⟨_, rfl⟩
      obtain ⟨i, hi⟩ : ∃ i : Nat, D.getD (p + 1) 0 = (i : Int) := ⟨(D.getD (p + 1) 0).toNat, by have := HD.out.getD (p + 1); omega⟩
      have hi256 : i < 256 := by have := HD.out.getD (p + 1); omega
      have e1 := HCw.out p1 (by omega)
      rw [hp1, hi, ← hp1] at e1
      obtain ⟨q, hq⟩ : ∃ q : Nat, q = p + 2 := ⟨_, rfl⟩
      obtain ⟨r, hr⟩ : ∃ r : Nat, r = q + i := ⟨_, rfl⟩
      have w1 : IntKind.i64.wrap ((p : Int) + 1) = (p1 : Int) := by rw [IntKind.wrap_i64]; omega
      have w2 : IntKind.i64.wrap ((p : Int) + 2) = (q : Int) := by rw [IntKind.wrap_i64]; omega
      have w3 : IntKind.i64.wrap ((q : Int) + (i : Int)) = (r : Int) := by rw [IntKind.wrap_i64]; omega
      have hp1n : p1 < n := by omega
      have hrb : r ≤ 1048576 + 257 := by omega
      have HI : Hid (D.getD (p + 1) 0 = (i : Int)) := hi
      clear hi
      by_cases hs2 : n < r + 2
      · have HMem : Hid (members D = none) := parse_cut_none HPar.out (by omega) (cutM_short (by omega) HI.out (by omega))
        by_cases hs3 : n < r
        · rcases (show k = 1 ∨ k = 2 by omega) with rfl | rfl
          all_goals
            clear hkind hnp hp1 hq hr
            go_wp2_with fail
            go_ret2
            rw [HMem.out]
            exact ⟨HBl.out, rfl⟩
        · obtain ⟨nr, hnr⟩ : ∃ nr : Nat, nr = n - r := ⟨_, rfl⟩
          have w4 : IntKind.i64.wrap ((n : Int) - (r : Int)) = (nr : Int) := by rw [IntKind.wrap_i64]; omega
          have hnr2 : nr < 2 := by omega
          rcases (show k = 1 ∨ k = 2 by omega) with rfl | rfl
          all_goals
            clear hkind hnp hp1 hq hr hnr hs2
            go_wp2_with fail
            go_ret2
            rw [HMem.out]
            exact ⟨HBl.out, rfl⟩
      obtain ⟨nr, hnr⟩ : ∃ nr : Nat, nr = n - r := ⟨_, rfl⟩
      have w4 : IntKind.i64.wrap ((n : Int) - (r : Int)) = (nr : Int) := by rw [IntKind.wrap_i64]; omega
      have hnr2 : ¬ nr < 2 := by omega
      have hnr3 : ¬ n < r := by omega
      obtain ⟨x, hx⟩ : ∃ x : Nat, D.getD r 0 = (x : Int) := ⟨(D.getD r 0).toNat, by have := HD.out.getD r; omega⟩
      obtain ⟨y, hy⟩ : ∃ y : Nat, D.getD (r + 1) 0 = (y : Int) := ⟨(D.getD (r + 1) 0).toNat, by have := HD.out.getD (r + 1); omega⟩
      have hx256 : x < 256 := by have := HD.out.getD r; omega
      have hy256 : y < 256 := by have := HD.out.getD (r + 1); omega
      obtain ⟨r1, hr1⟩ : ∃ r1 : Nat, r1 = r + 1 := ⟨_, rfl⟩
      have e2 := HCw.out r (by omega)
      rw [hx] at e2
      have e3 := HCw.out r1 (by omega)
      rw [hr1, hy, ← hr1] at e3
      obtain ⟨s, hs⟩ : ∃ s : Nat, s = r + 2 := ⟨_, rfl⟩
      obtain ⟨x2, hx2⟩ : ∃ x2 : Nat, x2 = x * 256 := ⟨_, rfl⟩
      obtain ⟨s1, hs1'⟩ : ∃ s1 : Nat, s1 = s + x2 := ⟨_, rfl⟩
      obtain ⟨t, ht⟩ : ∃ t : Nat, t = s1 + y := ⟨_, rfl⟩
      have w5 : IntKind.i64.wrap ((r : Int) + 2) = (s : Int) := by rw [IntKind.wrap_i64]; omega
      have w6 : IntKind.i64.wrap ((x : Int) * 256) = (x2 : Int) := by rw [IntKind.wrap_i64]; omega
      have w7 : IntKind.i64.wrap ((s : Int) + (x2 : Int)) = (s1 : Int) := by rw [IntKind.wrap_i64]; omega
      have w8 : IntKind.i64.wrap ((r : Int) + 1) = (r1 : Int) := by rw [IntKind.wrap_i64]; omega
      have w9 : IntKind.i64.wrap ((s1 : Int) + (y : Int)) = (t : Int) := by rw [IntKind.wrap_i64]; omega
      have hrn : r < n := by omega
      have hr1n : r1 < n := by omega
      have HX : Hid (D.getD (p + 2 + i) 0 = (x : Int)) := by
        show D.getD (p + 2 + i) 0 = _
        rw [← hx, hr, hq]
      have HY : Hid (D.getD (p + 2 + i + 1) 0 = (y : Int)) := by
        show D.getD (p + 2 + i + 1) 0 = _
        rw [← hy, hr, hq]
      clear hx hy
      by_cases hbig : n < t
      · have HMem : Hid (members D = none) := parse_cut_none HPar.out (by omega) (cutM_long (by omega) HI.out HX.out HY.out (by omega) (by omega))
        rcases (show k = 1 ∨ k = 2 by omega) with rfl | rfl
        all_goals
          clear hkind hnp hp1 hq hr hnr hs2 hr1 hs hx2 hs1' ht
          go_wp2_with fail
          go_quiet (fail)
          go_wp2_with fail
          go_ret2
          rw [HMem.out]
          exact ⟨below_drewN HBl.out _, rfl⟩
      obtain ⟨o1, ho1, ho1'⟩ := where_ b off c q
      obtain ⟨o2, ho2, ho2'⟩ := where_ b off c s
      have HTn : Hid (4 * (nm + 1) ≤ t ∧ t ≤ n ∧ p < t) := ⟨by omega, by omega, by omega⟩
      rcases (show k = 1 ∨ k = 2 by omega) with rfl | rfl
      · have HCut : Hid (cutM (D.drop p) = some (⟨strOfNums ((D.drop q).take i), strOfNums ((D.drop s).take (t - s)), true⟩, D.drop t)) := by
          have h := cutM_ok (p := p) (by omega) (Or.inl HK.out) HI.out HX.out HY.out (by omega)
          rw [HK.out, show p + 2 = q by omega, show q + i + 2 = s by omega, show x * 256 + y = t - s by omega, show s + (t - s) = t by omega] at h
          exact h
        obtain ⟨id, hid⟩ : ∃ id, strOfNums ((D.drop q).take i) = id := ⟨_, rfl⟩
        obtain ⟨addr, had⟩ : ∃ addr, strOfNums ((D.drop s).take (t - s)) = addr := ⟨_, rfl⟩
        have hri : r - q = i := by omega
        have hl1 : ((D.drop q).take i).length = r - q := by rw [List.length_take, List.length_drop]; omega
        have hl2 : ((D.drop s).take (t - s)).length = t - s := by rw [List.length_take, List.length_drop]; omega
        have HKC : Hid (∀ wq, (∃ m, wq = wr.drewN m) → (convert 28 9 (.slice (some ⟨b, o1, none⟩) (r - q) (c - q))).run Tryf.prog wq = .ok (.string id) wq ∧ (convert 28 9 (.slice (some ⟨b, o2, none⟩) (t - s) (c - s))).run Tryf.prog wq = .ok (.string addr) wq) := by
          rintro wq ⟨m, rfl⟩
          have k1 := run_convert_bytes_arg (P := Tryf.prog) (wr.drewN m) 28 5 Tryf.underlying28 Tryf.underlying5 b o1 (r - q) (c - q) _ hl1 (fun j hj => (HCw.out.cut (by omega) (by omega) ho1') j (by rw [hl1]; exact hj)) 9 Tryf.underlying9
          have k2 := run_convert_bytes_arg (P := Tryf.prog) (wr.drewN m) 28 5 Tryf.underlying28 Tryf.underlying5 b o2 (t - s) (c - s) _ hl2 (fun j hj => (HCw.out.cut (by omega) (by omega) ho2') j (by rw [hl2]; exact hj)) 9 Tryf.underlying9
          rw [hid] at k1
          rw [had] at k2
          exact ⟨k1, k2⟩
        rw [hid, had] at HCut
        have hb1 : (q : Int) ≤ (r : Int) := by omega
        have hb2 : (r : Int) ≤ (c : Int) := by omega
        have hb3 : (s : Int) ≤ (t : Int) := by omega
        have hb4 : (t : Int) ≤ (c : Int) := by omega
        clear hkind hnp hp1 hq hr hnr hs2 hr1 hs hx2 hs1' ht hl1 hl2 hid had hri ho1' ho2'
        go_wp2_with fail
        go_quiet (fail)
        go_upto_region 17 with fail
        have hnr0 := HKC.out (wr.drewN nq).drew ⟨nq + 1, by simp [World.drew, World.drewN, Nat.add_assoc]⟩
        obtain ⟨wq, hwq⟩ : ∃ wq, wr.drewN nq = wq := ⟨_, rfl⟩
        rw [hwq] at hnr0 ⊢
        obtain ⟨kc1, kc2⟩ := hnr0
        have HBq : Hid (Below w.heap.size w wq) := hwq ▸ below_drewN HBl.out nq
        have HOwnq : Hid (wq.ownsRow w.heap.size 27 3 (.slice am nm cm) nm (mcells ms)) := by
          have h := ownsRow_below HOwn.out (below_drewN (Below.refl _ wr) nq)
          rw [hwq, hnm] at h
          exact h
        have hszq : w.heap.size ≤ wq.heap.size := HBq.out.size
        clear hwq
        have hsb := cutM_small (HD.out.drop p) HCut.out
        have HSm2 : Hid (∀ m ∈ ms ++ [⟨id, addr, true⟩], Small m) := fun m hm => by
          rcases List.mem_append.1 hm with h | h
          · exact HSm.out m h
          · rw [List.mem_singleton.1 h]; exact hsb.1
        have HPar2 : Hid (parse D = (parse (D.drop t)).map ((ms ++ [⟨id, addr, true⟩]) ++ ·)) := parse_cut_some HPar.out HCut.out
        have HT : Hid (4 * (nm + 1) ≤ t ∧ t ≤ n ∧ p < t) := HTn.out
        clear hsb HSm HPar HCut HK HI HX HY
        go_region_law (refine step_append_lies _ rfl _ _ 23 rfl w.heap.size 27 Tryf.t27 (.agg #[.string ⟨#[]⟩, .string ⟨#[]⟩, .bool false]) 3 40 Tryf.underlying23 hi27 rfl rfl rfl rfl (by decide) (.slice am nm cm) nm (mcells ms) rfl (HOwnq.out.drew.alloc _) ⟨wq.heap.size, 0, none⟩ 1 1 [.string id, .string addr, .bool true] rfl rfl (World.news_of_block (MapKept.heap_alloc wq.drew _).1) (by simp [Value.oneCell']) (by decide) (by unfold maxLen; omega) (by omega) (Nat.le_trans hszq (by simp)) (wq.heap.size + 1) (by simp) ?_; intro g1 cap1 w2 hown2 hgrow hat hlt2)
        all_goals
          have HB2 : Hid (Below w.heap.size w w2) := (HBq.out.drew.alloc hszq _).grown hgrow (Nat.le_trans hszq (by simp)) (fun j hj => (HOwnq.out.lt j hj).1)
          have HOwn2 : Hid (w2.ownsRow w.heap.size 27 3 (.slice (some ⟨g1, 0, none⟩) (nm + 1) cap1) (nm + 1) (mcells ms ++ [.string id, .string addr, .bool true])) := hown2
          clear hown2 hgrow hat hlt2 kc1 kc2
          go_wp2_with fail
          go_roundw
          case rel =>
            have e : (ms ++ [(⟨id, addr, true⟩ : Mb)]).length = nm + 1 := by simp [hnm]
            refine ⟨t, ms ++ [⟨id, addr, true⟩], some ⟨g1, 0, none⟩, cap1, by have := HT.out; omega, rfl, by rw [e], ?_, by rw [e]; exact HT.out.1, HSm2.out, HB2.out, HPar2.out⟩
            rw [e, mcells_append]
            exact HOwn2.out
          case measure => have := HT.out; simp [intOf]; omega
      · have HCut : Hid (cutM (D.drop p) = some (⟨strOfNums ((D.drop q).take i), strOfNums ((D.drop s).take (t - s)), false⟩, D.drop t)) := by
          have h := cutM_ok (p := p) (by omega) (Or.inr HK.out) HI.out HX.out HY.out (by omega)
          rw [HK.out, show p + 2 = q by omega, show q + i + 2 = s by omega, show x * 256 + y = t - s by omega, show s + (t - s) = t by omega] at h
          exact h
        obtain ⟨id, hid⟩ : ∃ id, strOfNums ((D.drop q).take i) = id := ⟨_, rfl⟩
        obtain ⟨addr, had⟩ : ∃ addr, strOfNums ((D.drop s).take (t - s)) = addr := ⟨_, rfl⟩
        have hri : r - q = i := by omega
        have hl1 : ((D.drop q).take i).length = r - q := by rw [List.length_take, List.length_drop]; omega
        have hl2 : ((D.drop s).take (t - s)).length = t - s := by rw [List.length_take, List.length_drop]; omega
        have HKC : Hid (∀ wq, (∃ m, wq = wr.drewN m) → (convert 28 9 (.slice (some ⟨b, o1, none⟩) (r - q) (c - q))).run Tryf.prog wq = .ok (.string id) wq ∧ (convert 28 9 (.slice (some ⟨b, o2, none⟩) (t - s) (c - s))).run Tryf.prog wq = .ok (.string addr) wq) := by
          rintro wq ⟨m, rfl⟩
          have k1 := run_convert_bytes_arg (P := Tryf.prog) (wr.drewN m) 28 5 Tryf.underlying28 Tryf.underlying5 b o1 (r - q) (c - q) _ hl1 (fun j hj => (HCw.out.cut (by omega) (by omega) ho1') j (by rw [hl1]; exact hj)) 9 Tryf.underlying9
          have k2 := run_convert_bytes_arg (P := Tryf.prog) (wr.drewN m) 28 5 Tryf.underlying28 Tryf.underlying5 b o2 (t - s) (c - s) _ hl2 (fun j hj => (HCw.out.cut (by omega) (by omega) ho2') j (by rw [hl2]; exact hj)) 9 Tryf.underlying9
          rw [hid] at k1
          rw [had] at k2
          exact ⟨k1, k2⟩
        rw [hid, had] at HCut
        have hb1 : (q : Int) ≤ (r : Int) := by omega
        have hb2 : (r : Int) ≤ (c : Int) := by omega
        have hb3 : (s : Int) ≤ (t : Int) := by omega
        have hb4 : (t : Int) ≤ (c : Int) := by omega
        clear hkind hnp hp1 hq hr hnr hs2 hr1 hs hx2 hs1' ht hl1 hl2 hid had hri ho1' ho2'
        go_wp2_with fail
        go_quiet (fail)
        go_upto_region 17 with fail
        have hnr0 := HKC.out (wr.drewN nq).drew ⟨nq + 1, by simp [World.drew, World.drewN, Nat.add_assoc]⟩
        obtain ⟨wq, hwq⟩ : ∃ wq, wr.drewN nq = wq := ⟨_, rfl⟩
        rw [hwq] at hnr0 ⊢
        obtain ⟨kc1, kc2⟩ := hnr0
        have HBq : Hid (Below w.heap.size w wq) := hwq ▸ below_drewN HBl.out nq
        have HOwnq : Hid (wq.ownsRow w.heap.size 27 3 (.slice am nm cm) nm (mcells ms)) := by
          have h := ownsRow_below HOwn.out (below_drewN (Below.refl _ wr) nq)
          rw [hwq, hnm] at h
          exact h
        have hszq : w.heap.size ≤ wq.heap.size := HBq.out.size
        clear hwq
        have hsb := cutM_small (HD.out.drop p) HCut.out
        have HSm2 : Hid (∀ m ∈ ms ++ [⟨id, addr, false⟩], Small m) := fun m hm => by
          rcases List.mem_append.1 hm with h | h
          · exact HSm.out m h
          · rw [List.mem_singleton.1 h]; exact hsb.1
        have HPar2 : Hid (parse D = (parse (D.drop t)).map ((ms ++ [⟨id, addr, false⟩]) ++ ·)) := parse_cut_some HPar.out HCut.out
        have HT : Hid (4 * (nm + 1) ≤ t ∧ t ≤ n ∧ p < t) := HTn.out
        clear hsb HSm HPar HCut HK HI HX HY
        go_region_law (refine step_append_lies _ rfl _ _ 23 rfl w.heap.size 27 Tryf.t27 (.agg #[.string ⟨#[]⟩, .string ⟨#[]⟩, .bool false]) 3 40 Tryf.underlying23 hi27 rfl rfl rfl rfl (by decide) (.slice am nm cm) nm (mcells ms) rfl (HOwnq.out.drew.alloc _) ⟨wq.heap.size, 0, none⟩ 1 1 [.string id, .string addr, .bool false] rfl rfl (World.news_of_block (MapKept.heap_alloc wq.drew _).1) (by simp [Value.oneCell']) (by decide) (by unfold maxLen; omega) (by omega) (Nat.le_trans hszq (by simp)) (wq.heap.size + 1) (by simp) ?_; intro g1 cap1 w2 hown2 hgrow hat hlt2)
        all_goals
          have HB2 : Hid (Below w.heap.size w w2) := (HBq.out.drew.alloc hszq _).grown hgrow (Nat.le_trans hszq (by simp)) (fun j hj => (HOwnq.out.lt j hj).1)
          have HOwn2 : Hid (w2.ownsRow w.heap.size 27 3 (.slice (some ⟨g1, 0, none⟩) (nm + 1) cap1) (nm + 1) (mcells ms ++ [.string id, .string addr, .bool false])) := hown2
          clear hown2 hgrow hat hlt2 kc1 kc2
          go_wp2_with fail
          go_roundw
          case rel =>
            have e : (ms ++ [(⟨id, addr, false⟩ : Mb)]).length = nm + 1 := by simp [hnm]
            refine ⟨t, ms ++ [⟨id, addr, false⟩], some ⟨g1, 0, none⟩, cap1, by have := HT.out; omega, rfl, by rw [e], ?_, by rw [e]; exact HT.out.1, HSm2.out, HB2.out, HPar2.out⟩
            rw [e, mcells_append]
            exact HOwn2.out
          case measure => have := HT.out; simp [intOf]; omega
    · obtain rfl : p = n := by omega
      have HMem : Hid (members D = if good ms = true then some ms else none) := by
        show members D = _
        unfold members
        rw [HPar.out, List.drop_eq_nil_of_le (by omega), parse_nil]
        simp
      by_cases h0 : nm = 0
      · subst h0
        obtain rfl : ms = [] := List.length_eq_zero_iff.1 hnm
        go_wp2_with fail
        go_ret2
        rw [HMem.out]
        exact ⟨HBl.out, rfl⟩
      have hpos : 0 < ms.length := by omega
      obtain ⟨g, rfl, hg1, hg2, hcs⟩ := mems_cells27 HOwn.out hpos
      have HCs : Hid (MemCells wr g ms) := hcs
      have hnm2 : nm ≤ 1048576 := by omega
      have hn0 : ((nm : Int) == 0) = false := by simpa using h0
      clear hown hsm hbl hpar hcs HOwn HPar HD HA
      rw [hnm]
      go_wp2_with fail
      go_loopw [11, 12] (fun s11 s12 wx => ∃ k : Nat, k ≤ nm ∧ s12 = .int .i64 k ∧ s11 = .bool ((ms.take k).any (·.voter)) ∧ wx = wr) (fun _ s12 _ => nm - (intOf s12).toNat)
      case atStart => exact ⟨0, Nat.zero_le _, rfl, rfl, rfl⟩
      case round =>
        obtain ⟨k, hk, rfl, rfl, rfl⟩ := hrel
        obtain ⟨va, hva⟩ : ∃ va, (ms.take k).any (·.voter) = va := ⟨_, rfl⟩
        by_cases hkl : k < nm
        · have HAny : Hid ((ms.take (k + 1)).any (·.voter) = (va || (ms.getD k mb0).voter)) := by
            show (ms.take (k + 1)).any (·.voter) = _
            have hkm : k < ms.length := by omega
            rw [List.take_add_one, List.getElem?_eq_getElem hkm, List.any_append, hva]
            simp [List.getD, List.getElem?_eq_getElem hkm]
          have hcell := (HCs.out k (by omega)).2.2
          obtain ⟨vt, hvt⟩ : ∃ vt, (ms.getD k mb0).voter = vt := ⟨_, rfl⟩
          rw [hvt] at hcell HAny
          rw [hva]
          clear hva hvt
          cases vt with
          | true =>
            go_wp2_with fail
            go_roundw
            case rel => exact ⟨k + 1, by omega, by go_num, by rw [HAny.out]; simp, by trivial⟩
            case measure => simp [intOf]; omega
          | false =>
            go_wp2_with fail
            go_roundw
            case rel => exact ⟨k + 1, by omega, by go_num, by rw [HAny.out]; simp, by trivial⟩
            case measure => simp [intOf]; omega
        · obtain rfl : k = nm := by omega
          rw [List.take_of_length_le (by omega)] at hva
          rw [List.take_of_length_le (by omega), hva]
          cases va with
          | false =>
            have HG : Hid (good ms = false) := by
              show good ms = false
              unfold good
              rw [hva]
              simp
            clear hva
            go_wp2_with fail
            go_ret2
            rw [HMem.out, HG.out]
            exact ⟨HBl.out, rfl⟩
          | true =>
            have HG : Hid (good ms = okFrom (decide (1 < k)) [] ms) := by
              show good ms = _
              have h2 : ms ≠ [] := fun e => by rw [e] at hnm; simp at hnm; omega
              unfold good
              rw [hva, hnm]
              simp [h2]
            clear hva
            obtain ⟨W, rfl⟩ : ∃ W, W = wr := ⟨_, rfl⟩
            have hszW : w.heap.size ≤ W.heap.size := HBl.out.size
            have hmm := run_makeMap_none
            go_wp2_with fail
            clear hmm
            go_loopw [14] (fun i wx => CRel W W.heap.size k ms i wx) (fun i _ => k - (intOf i).toNat)
            case atStart => exact ⟨0, [], Nat.zero_le _, rfl, SetMap.made W, (Below.refl _ _).alloc (Nat.le_refl _) _, by simp⟩
            case round =>
              obtain ⟨k2, seen, hk2, rfl, hset, hb3, hok⟩ := hrel
              have HB : Hid (Below W.heap.size W wr) := hb3
              have HBw : Hid (Below w.heap.size w wr) := HBl.out.trans (hb3.mono hszW)
              have HSet : Hid (SetMap wr W.heap.size k2 seen) := hset
              have HOk : Hid (okFrom (decide (1 < k)) seen (ms.drop k2) = okFrom (decide (1 < k)) [] ms) := hok
              have hszX : W.heap.size ≤ wr.heap.size := hb3.size
              clear hb3 hset hok
              by_cases hks : k2 < k
              · have hcs := HCs.out.below HB.out hg2 k2 (by omega)
                have hsm := HSm.out (ms[k2]'(by omega)) (List.getElem_mem _)
                have hdrop : ms.drop k2 = ms[k2]'(by omega) :: ms.drop (k2 + 1) := List.drop_eq_getElem_cons (by omega)
                have hok := HOk.out
                obtain ⟨m, hme⟩ : ∃ m, ms[k2]'(by omega) = m := ⟨_, rfl⟩
                have hme2 : ms.getD k2 mb0 = m := by rw [← hme]; simp [List.getD, List.getElem?_eq_getElem (show k2 < ms.length by omega)]
                rw [hdrop, hme] at hok
                rw [hme] at hsm
                rw [hme2] at hcs
                clear hdrop hme hme2 HOk
                obtain ⟨id, addr, vt⟩ := m
                obtain ⟨c0, c1, c2⟩ := hcs
                obtain ⟨s0, s1⟩ := hsm
                simp only at c0 c1 c2 s0 s1
                have HOk : Hid (okFrom (decide (1 < k)) seen (⟨id, addr, vt⟩ :: ms.drop (k2 + 1)) = okFrom (decide (1 < k)) [] ms) := hok
                clear hok
                by_cases hid : id.size = 0
                · have HG2 : Hid (good ms = false) := by
                    show good ms = false
                    rw [HG.out, ← HOk.out, okFrom, if_pos hid]
                  have he : id.toList.isEmpty = true := (isEmpty_size id).2 hid
                  go_wp2_with fail
                  go_ret2
                  rw [HMem.out, HG2.out]
                  exact ⟨HBw.out, rfl⟩
                have he : id.toList.isEmpty = false := by
                  cases h : id.toList.isEmpty with
                  | false => rfl
                  | true => exact absurd ((isEmpty_size id).1 h) hid
                have hmax : id.size ≤ maxLen := by unfold maxLen; omega
                by_cases hin : id.data.toList ∈ seen
                · have HG2 : Hid (good ms = false) := by
                    show good ms = false
                    rw [HG.out, ← HOk.out, okFrom, if_neg hid, if_pos hin]
                  have hdec : decide (id.data.toList ∈ seen) = true := by simpa using hin
                  have HDec : Hid (decide (id.data.toList ∈ seen) = true) := hdec
                  clear hdec hin
                  go_wp2_with (at_lookup; go_must (refine wpList_set_lookup_g _ (by rfl) _ _ rfl W.heap.size k2 seen rfl HSet.out id rfl hmax true HDec.out ?_))
                  go_ret2
                  rw [HMem.out, HG2.out]
                  exact ⟨HBw.out, rfl⟩
                have hdec : decide (id.data.toList ∈ seen) = false := by simpa using hin
                have HDec : Hid (decide (id.data.toList ∈ seen) = false) := hdec
                clear hdec
                by_cases hadr : 1 < k ∧ addr.size = 0
                · have HG2 : Hid (good ms = false) := by
                    show good ms = false
                    rw [HG.out, ← HOk.out, okFrom, if_neg hid, if_neg hin, if_pos ⟨by simpa using hadr.1, hadr.2⟩]
                  have he2 : addr.toList.isEmpty = true := (isEmpty_size addr).2 hadr.2
                  have hn1 : (1 : Int) < (k : Int) := by omega
                  clear hin
                  go_wp2_with (at_lookup; go_must (refine wpList_set_lookup_g _ (by rfl) _ _ rfl W.heap.size k2 seen rfl HSet.out id rfl hmax false HDec.out ?_))
                  go_ret2
                  rw [HMem.out, HG2.out]
                  exact ⟨HBw.out, rfl⟩
                have hok2 : okFrom (decide (1 < k)) (id.data.toList :: seen) (ms.drop (k2 + 1)) = okFrom (decide (1 < k)) [] ms := by
                  rw [← HOk.out, okFrom, if_neg hid, if_neg hin, if_neg (fun h => hadr ⟨by simpa using h.1, h.2⟩)]
                have HOk2 : Hid (okFrom (decide (1 < k)) (id.data.toList :: seen) (ms.drop (k2 + 1)) = okFrom (decide (1 < k)) [] ms) := hok2
                have hcase : addr.toList.isEmpty = false ∨ (addr.toList.isEmpty = true ∧ ¬ (1 : Int) < (k : Int)) := by
                  cases h : addr.toList.isEmpty with
                  | false => exact Or.inl rfl
                  | true => exact Or.inr ⟨rfl, fun h1 => hadr ⟨by omega, (isEmpty_size addr).1 h⟩⟩
                have hsplit : (1 : Int) < (k : Int) ∨ ¬ (1 : Int) < (k : Int) := Classical.em _
                clear hin hok2 HOk hadr
                rcases hcase with he2 | ⟨he2, hn1⟩
                · rcases hsplit with hn1 | hn1
                  all_goals
                    go_wp2_with (first
                      | (at_lookup; go_must (refine wpList_set_lookup_g _ (by rfl) _ _ rfl W.heap.size k2 seen rfl HSet.out id rfl hmax false HDec.out ?_))
                      | (at_mapUpdate; go_must (refine wpList_set_update _ rfl _ _ _ rfl W.heap.size k2 seen rfl HSet.out (by unfold maxLen; omega) id rfl rfl hmax ?_)))
                    intro w2 hset2 hgrow2
                    have HSet2 : Hid (SetMap w2 W.heap.size (k2 + 1) (id.data.toList :: seen)) := hset2
                    have HB2 : Hid (Below W.heap.size W w2) := HB.out.grown hgrow2 hszX (fun j hj => by cases hj; exact Nat.le_refl _)
                    clear hset2 hgrow2
                    go_wp2_with fail
                    go_roundw
                    case rel => exact ⟨k2 + 1, _, by omega, by go_num, HSet2.out, HB2.out, HOk2.out⟩
                    case measure => simp [intOf]; omega
                · clear hsplit
                  go_wp2_with (first
                    | (at_lookup; go_must (refine wpList_set_lookup_g _ (by rfl) _ _ rfl W.heap.size k2 seen rfl HSet.out id rfl hmax false HDec.out ?_))
                    | (at_mapUpdate; go_must (refine wpList_set_update _ rfl _ _ _ rfl W.heap.size k2 seen rfl HSet.out (by unfold maxLen; omega) id rfl rfl hmax ?_)))
                  intro w2 hset2 hgrow2
                  have HSet2 : Hid (SetMap w2 W.heap.size (k2 + 1) (id.data.toList :: seen)) := hset2
                  have HB2 : Hid (Below W.heap.size W w2) := HB.out.grown hgrow2 hszX (fun j hj => by cases hj; exact Nat.le_refl _)
                  clear hset2 hgrow2
                  go_wp2_with fail
                  go_roundw
                  case rel => exact ⟨k2 + 1, _, by omega, by go_num, HSet2.out, HB2.out, HOk2.out⟩
                  case measure => simp [intOf]; omega
              · obtain rfl : k2 = k := by omega
                have hok : okFrom (decide (1 < k2)) [] ms = true := by
                  rw [← HOk.out, List.drop_eq_nil_of_le (by omega)]
                  rfl
                have HG2 : Hid (good ms = true) := HG.out.trans hok
                clear hok
                go_wp2_with fail
                go_ret2
                rw [HMem.out, HG2.out]
                exact ⟨HBw.out, g, cm, by rw [hnm]; rfl, hg1, by omega, HCs.out.below HB.out hg2⟩

end Go.Proofs.Qxb6613017aFmt
