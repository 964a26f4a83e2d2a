/- Seat b6613017aF: the walk of FnNewEntryLogMatchesModel. -/
import Derived.Test.Qxb6613017aFmtWant
import Derived.Test.Qxb6613017aFmtModel
namespace Go.Proofs.Qxb6613017aFmt
open Go.RowKit Plain

def MMOut (w : World) (D : List Int) (e : Ending) (w' : World) : Prop := Below w.heap.size w w' ∧ MMPost w.heap.size w' (members D) e

theorem two0 (w : World) (x0 x1 y0 : Int) (am : Option Addr) (nm cm : Nat) :
    ((w.alloc (.cells #[.int .u64 x0, .int .u64 x1] 36)).alloc (.cells #[.int .u64 y0, .slice am nm cm] 38)).cell? ⟨w.heap.size, 0, none⟩ = some (.int .u64 x0) ∧
    ((w.alloc (.cells #[.int .u64 x0, .int .u64 x1] 36)).alloc (.cells #[.int .u64 y0, .slice am nm cm] 38)).cell? ⟨w.heap.size, 1, none⟩ = some (.int .u64 x1) ∧
    ((w.alloc (.cells #[.int .u64 x0, .int .u64 x1] 36)).alloc (.cells #[.int .u64 y0, .slice am nm cm] 38)).cell? ⟨w.heap.size + 1, 0, none⟩ = some (.int .u64 y0) ∧
    ((w.alloc (.cells #[.int .u64 x0, .int .u64 x1] 36)).alloc (.cells #[.int .u64 y0, .slice am nm cm] 38)).cell? ⟨w.heap.size + 1, 1, none⟩ = some (.slice am nm cm) := by
  refine ⟨by go_simp, by go_simp, by go_simp, by go_simp⟩

set_option maxRecDepth 20000 in
set_option maxHeartbeats 8000000 in
theorem matches_walk (si st ci : Int) (am : Option Addr) (bm om nm cm : Nat) (ms : List Mb) (a : Option Addr) (b off n c : Nat) (es : List En) (w : World) (hnm : ms.length = nm) (hlm : nm ≤ 9223372036854775807) (hn : es.length = n) (hl : n ≤ 9223372036854775807)
    (h0m : am = none → nm = 0 ∧ cm = 0) (hxm : 0 < nm → am = some ⟨bm, om, none⟩) (hM : MemsAt w bm om ms) (hsz : ∀ i, i < nm → (ms.getD i mb0).id.size ≤ 9223372036854775807 ∧ (ms.getD i mb0).addr.size ≤ 9223372036854775807)
    (h0 : a = none → n = 0 ∧ c = 0) (hx : 0 < n → a = some ⟨b, off, none⟩) (hA : ArgEnts w b off es) (hlen : ∀ i, i < n → (es.getD i en0).dat.length ≤ 9223372036854775807) (hby : ∀ e ∈ es, Byte e.dat)
    (hcap : ∀ i, i < n → ∀ A N C, w.cell? ⟨b, off + i * 4 + 3, none⟩ = some (.slice A N C) → N ≤ C) :
    Calls Tryf.prog 3 #[.int .u64 si, .int .u64 st, .int .u64 ci, .slice am nm cm, .slice a n c] w fun e w' => e = .returned (.bool true) ∧ Below w.heap.size w w' := by
  have HZ : Hid (Calls Tryf.prog 5 #[.int .u64 si, .int .u64 st, .int .u64 ci, .slice am nm cm, .slice a n c] w fun e w' => ZB5 w nm n ms es e w') := zzBytes5_any si st ci am bm om nm cm ms a b off n c es w hnm hlm hn hl hxm hM hsz hx hA hlen
  have HXm : Hid (0 < nm → am = some ⟨bm, om, none⟩) := hxm
  have H0m : Hid (am = none → nm = 0 ∧ cm = 0) := h0m
  have HM : Hid (MemsAt w bm om ms) := hM
  have HX : Hid (0 < n → a = some ⟨b, off, none⟩) := hx
  have H0 : Hid (a = none → n = 0 ∧ c = 0) := h0
  have HA : Hid (ArgEnts w b off es) := hA
  have HBy : Hid (∀ e ∈ es, Byte e.dat) := hby
  have HCap : Hid (∀ i, i < n → ∀ A N C, w.cell? ⟨b, off + i * 4 + 3, none⟩ = some (.slice A N C) → N ≤ C) := hcap
  clear hx h0 hA hlen hby hxm h0m hM hsz hcap
  go_enter Tryf.func3, Tryf.ntmps3
  go_wp2_with (go_at_call 5; go_must (refine HZ.out.mono ?_))
  rintro e w1 ⟨r, rfl, hw, hz⟩
  obtain rfl := hw.symm
  cases r with
  | false =>
    go_wp2
    go_ret
    exact ⟨rfl, Below.refl _ _⟩
  | true =>
  obtain ⟨hnmb, hnb, hsb, hdb⟩ := hz rfl
  have HSb : Hid (∀ i, i < nm → (ms.getD i mb0).id.size ≤ 1048576 ∧ (ms.getD i mb0).addr.size ≤ 1048576) := hsb
  have HDb : Hid (∀ i, i < n → (es.getD i en0).dat.length ≤ 1048576) := hdb
  clear hsb hdb hz HZ
  go_wp2_with fail
  go_loopw [11, 12] (fun s i wr => ∃ k q : Nat, k ≤ nm ∧ q ≤ 1048576 ∧ s = .int .i64 q ∧ i = .int .i64 k ∧ wr = w) (fun _ i _ => nm - (intOf i).toNat)
  case atStart => exact ⟨0, 0, Nat.zero_le _, by omega, rfl, rfl, rfl⟩
  case round =>
    obtain ⟨k, q, hk, hq, rfl, rfl, rfl⟩ := hrel
    by_cases hlt : k < nm
    · obtain rfl := HXm.out (by omega)
      obtain ⟨c0, c1, _⟩ := HM.out k (by omega)
      obtain ⟨hs0, hs1⟩ := HSb.out k hlt
      obtain ⟨mm, hmm⟩ : ∃ mm, ms.getD k mb0 = mm := ⟨_, rfl⟩
      rw [hmm] at c0 c1 hs0 hs1
      obtain ⟨id, addr, vt⟩ := mm
      simp only at c0 c1 hs0 hs1
      clear hmm
      by_cases h2 : q + 8 + id.size ≤ 1048576
      · by_cases h4 : q + 8 + id.size + addr.size ≤ 1048576
        · go_wp2
          go_roundw
          case rel => exact ⟨k + 1, q + 8 + id.size + addr.size, by omega, h4, by go_num, by go_num, by trivial⟩
          case measure => simp [intOf]; omega
        · go_wp2
          go_ret
          exact ⟨rfl, Below.refl _ _⟩
      · go_wp2
        go_ret
        exact ⟨rfl, Below.refl _ _⟩
    · obtain rfl : k = nm := by omega
      clear HSb
      go_wp2_with fail
      go_loopw [11, 13] (fun s i wx => ∃ k2 q2 : Nat, k2 ≤ n ∧ q2 ≤ 1048576 ∧ s = .int .i64 q2 ∧ i = .int .i64 k2 ∧ wx = wr) (fun _ i _ => n - (intOf i).toNat)
      case atStart => exact ⟨0, q, Nat.zero_le _, hq, rfl, rfl, rfl⟩
      case round =>
        obtain ⟨k2, q2, hk2, hq2, rfl, rfl, rfl⟩ := hrel
        by_cases hlt2 : k2 < n
        · obtain rfl := HX.out (by omega)
          obtain ⟨A, C, gb, go, e0, e1, e2, e3, e4⟩ := HA.out k2 (by omega)
          have hle := HDb.out k2 hlt2
          obtain ⟨d, hd⟩ : ∃ d, (es.getD k2 en0).dat.length = d := ⟨_, rfl⟩
          rw [hd] at e3 hle
          clear e0 e1 e2 e4 hd
          by_cases h2 : q2 + 8 + d ≤ 1048576
          · go_wp2
            go_roundw
            case rel => exact ⟨k2 + 1, q2 + 8 + d, by omega, h2, by go_num, by go_num, by trivial⟩
            case measure => simp [intOf]; omega
          · go_wp2
            go_ret
            exact ⟨rfl, Below.refl _ _⟩
        · obtain rfl : k2 = n := by omega
          obtain ⟨W, rfl⟩ : ∃ W, W = wr := ⟨_, rfl⟩
          have hdl : ∀ e ∈ es, Byte e.dat ∧ e.dat.length ≤ 1048576 := fun e he => ⟨HBy.out e he, by
            obtain ⟨i, hi, rfl⟩ := List.mem_iff_getElem.1 he
            have := HDb.out i (by omega)
            rwa [show es.getD i en0 = es[i] by simp [List.getD, List.getElem?_eq_getElem hi]] at this⟩
          have HDl : Hid (∀ e ∈ es, Byte e.dat ∧ e.dat.length ≤ 1048576) := hdl
          clear hdl HBy HDb
          have H6 : Hid (Calls Tryf.prog 6 #[.slice am k cm] W fun e w' => UOut W am k ms e w') := toMems_any am bm om k cm ms W hnm hnmb H0m.out HXm.out HM.out
          go_wp2_with (go_at_call 6; go_must (refine H6.out.mono ?_))
          rintro e w6 ⟨a6, rfl, h61, h62, h63, h64⟩
          have HB6 : Hid (Below W.heap.size W w6) := h63
          have H7 : Hid (Calls Tryf.prog 7 #[.slice a k2 c] w6 fun e w' => TO w6 a k2 es e w') := to_any a b off k2 c es w6 hn hnb (fun e he => (HDl.out e he).2) H0.out HX.out (HA.out.below h63)
          have HMem6 : Hid (MemCells w6 W.heap.size ms) := h64
          have H61 : Hid (a6.isNone = am.isNone) := h61
          have H62 : Hid (0 < k → a6 = some ⟨W.heap.size, 0, none⟩) := h62
          clear h61 h62 h63 h64 H6
          go_wp2_with (go_at_call 7; go_must (refine H7.out.mono ?_))
          rintro e w7 ⟨a7, rfl, h71, h72, h73, h74⟩
          have HB7 : Hid (Below w6.heap.size w6 w7) := h73
          have H8 : Hid (Calls Tryf.prog 8 #[.agg #[.int .u64 si, .int .u64 st], .agg #[.int .u64 ci, .slice a6 k k], .slice a7 k2 k2] w7 fun e w' => ZO w7 si st ci (.slice a6 k k) (.slice a7 k2 k2) (configs es) e w') :=
            (zz_any si st ci a6 k k a7 w6.heap.size k2 k2 es w7 hn hnb HDl.out h72 h74.ents).mono fun _ _ h => h.zo
          have H71 : Hid (a7.isNone = a.isNone) := h71
          have H72 : Hid (0 < k2 → a7 = some ⟨w6.heap.size, 0, none⟩) := h72
          have HR7 : Hid (RaftIn w7 w6.heap.size es) := h74
          clear h71 h72 h73 h74 H7
          go_wp2_with (go_at_call 8; go_must (refine H8.out.mono ?_))
          rintro e w8 ⟨x0, x1, y0, ay, ny, cy, v3, v4, v5, rfl, hv, h81⟩
          have HB8 : Hid (Below w7.heap.size w7 w8) := h81
          have HV : Hid (ZVal w7.heap.size w8 si st ci (.slice a6 k k) (.slice a7 k2 k2) (configs es) x0 x1 y0 (.slice ay ny cy) v3 v4 v5) := hv
          clear hv h81 H8
          go_wp2_with fail
          have hsize : w7.heap.size ≤ w8.heap.size := HB8.out.size
          have hsize7 : w6.heap.size ≤ w7.heap.size := HB7.out.size
          have hsize6 : W.heap.size ≤ w6.heap.size := HB6.out.size
          obtain ⟨hc0, hc1, hd0, hd1⟩ := two0 w8 x0 x1 y0 ay ny cy
          have HB9 : Hid (Below w8.heap.size w8 ((w8.alloc (.cells #[.int .u64 x0, .int .u64 x1] 36)).alloc (.cells #[.int .u64 y0, .slice ay ny cy] 38))) := ((Below.refl _ w8).alloc (Nat.le_refl _) _).alloc (by simp) _
          obtain ⟨W1, hW1⟩ : ∃ W1, ((w8.alloc (.cells #[.int .u64 x0, .int .u64 x1] 36)).alloc (.cells #[.int .u64 y0, .slice ay ny cy] 38)) = W1 := ⟨_, rfl⟩
          rw [hW1] at hc0 hc1 hd0 hd1 HB9
          rw [hW1]
          have HSt : Hid (St7 W1 w8.heap.size (w8.heap.size + 1) si st ci am k ms a k2 es v3 v4 v5) := St7.mk HV.out HMem6.out H61.out H62.out H71.out H72.out HR7.out HB7.out HB8.out HB9.out hc0 hc1 hd0 hd1
          have HBW : Hid (Below W.heap.size W W1) := ((HB6.out.trans (HB7.out.mono hsize6)).trans (HB8.out.mono (by omega))).trans (HB9.out.mono (by omega))
          obtain ⟨P, hP⟩ : ∃ P, w8.heap.size = P := ⟨_, rfl⟩
          rw [hP] at HSt
          rw [hP]
          have hszW : W.heap.size ≤ W1.heap.size := HBW.out.size
          clear hW1 hc0 hc1 hd0 hd1 HB9 HB8 HB7 HB6 HV HMem6 H61 H62 H71 H72 HR7 hsize hsize6 hsize7 hP
          go_loopw [21, 22, 23, 24] (fun s21 s22 s23 s24 wx => LRel W1 k2 es s21 s22 s23 s24 wx) (fun _ _ _ s24 _ => k2 - (intOf s24).toNat)
          case atStart => exact ⟨0, false, [], none, none, 0, 0, Nat.zero_le _, Nat.zero_le _, rfl, rfl, rfl, rfl, Or.inr ⟨rfl, rfl⟩, World.ownsRow_nil _ _ _ _, World.ownsRow_nil _ _ _ _, by simp, Below.refl _ _, by simp, by simp⟩
          case round =>
            obtain ⟨wx, rfl⟩ : ∃ x, x = wr := ⟨_, rfl⟩
            obtain ⟨t, bad, cs, b1, b2, c1, c2, ht, hct, rfl, rfl, rfl, rfl, hnn, ho1, ho2, hok, hbx, hbad, hgood⟩ := hrel
            obtain ⟨nc, hnc⟩ : ∃ x, cs.length = x := ⟨_, rfl⟩
            rw [hnc] at hct hnn ho1 ho2
            rw [hnc]
            have HO1 : Hid (wx.ownsRow W1.heap.size 22 1 (.slice b1 nc c1) nc (xcells cs)) := ho1
            have HO2 : Hid (wx.ownsRow W1.heap.size 23 1 (.slice b2 nc c2) nc (ycells cs)) := ho2
            have HOk : Hid (∀ x ∈ cs, CfOk wx W1.heap.size x) := hok
            have HBx : Hid (Below W1.heap.size W1 wx) := hbx
            have HBWx : Hid (Below W.heap.size W wx) := HBW.out.trans (hbx.mono hszW)
            have HNn : Hid (0 < nc ∨ b1 = none ∧ b2 = none) := hnn
            have HStx : Hid (St7 wx P (P + 1) si st ci am k ms a k2 es v3 v4 v5) := HSt.out.below hbx
            have hszx : W1.heap.size ≤ wx.heap.size := hbx.size
            clear ho1 ho2 hok hbx hnn
            cases bad with
            | true =>
              have hst := HStx.out
              unfold St7 at hst
              rw [hbad rfl] at hst
              obtain ⟨⟨v, rfl⟩, rfl, rfl, e0, e1, e2, e3⟩ := hst
              have heq31 := eq31
              have heq33 := eq33
              have heq39 := eq39
              clear hbad hgood
              by_cases ht2 : t < k2
              all_goals
                go_wp2_with fail
                go_ret
                exact ⟨rfl, HBWx.out⟩
            | false =>
            have HGood : Hid (configs es = (configs (es.drop t)).map (cs.map Cf.plain ++ ·)) := hgood rfl
            clear hbad hgood
            by_cases ht2 : t < k2
            · obtain rfl := HX.out (by omega)
              obtain ⟨A, C, gb, go, hent⟩ := HA.out t (by omega)
              have hcapC := HCap.out t ht2 A _ C hent.2.2.2.1
              have hent2 := hent.below HBWx.out
              have hmemE : es[t]'(by omega) ∈ es := List.getElem_mem _
              have hdrop : es.drop t = es[t]'(by omega) :: es.drop (t + 1) := List.drop_eq_getElem_cons (by omega)
              have hgetD : es.getD t en0 = es[t]'(by omega) := by simp [List.getD, List.getElem?_eq_getElem (show t < es.length by omega)]
              have hgood := HGood.out
              rw [hdrop, ← hgetD] at hgood
              have hdlb := HDl.out _ hmemE
              rw [← hgetD] at hdlb
              obtain ⟨en, hen⟩ : ∃ en, es.getD t en0 = en := ⟨_, rfl⟩
              rw [hen] at hent2 hgood hdlb hcapC
              clear hent hmemE hdrop hgetD hen
              obtain ⟨ix, tm, ty, nd, dat⟩ := en
              obtain ⟨e0, e1, e2, e3, e4⟩ := hent2
              simp only at e0 e1 e2 e3 e4 hdlb hcapC
              have HG2 : Hid (configs es = (configs ((⟨ix, tm, ty, nd, dat⟩ : En) :: es.drop (t + 1))).map (cs.map Cf.plain ++ ·)) := hgood
              clear hgood HGood
              by_cases hty : ty = 3
              · subst hty
                have HCall : Hid (Calls Tryf.prog 9 #[.slice A dat.length C] wx fun e w' => MMOut wx dat e w') := by
                  rcases e4 with ⟨_, rfl, rfl, rfl⟩ | ⟨_, x, rfl, hxx⟩
                  · exact model_any none 0 0 0 0 [] wx rfl (Nat.le_refl _) (by omega) hdlb.1 (fun h => by omega) (fun h => by omega)
                  · exact model_any (some x) gb go dat.length C dat wx rfl hcapC hdlb.2 hdlb.1 (fun h => (hxx h).2.1) (fun h => ⟨by rw [(hxx h).1], (hxx h).2.2⟩)
                obtain ⟨d, hd⟩ : ∃ d, dat.length = d := ⟨_, rfl⟩
                rw [hd] at e3 HCall
                clear e4 hdlb hcapC hd
                go_wp2_with (go_at_call 9; go_must (refine HCall.out.mono ?_))
                rintro e w1 ⟨hb1, hp⟩
                have HB1 : Hid (Below W1.heap.size W1 w1) := HBx.out.trans (hb1.mono hszx)
                have HBw : Hid (Below wx.heap.size wx w1) := hb1
                have HP : Hid (MMPost wx.heap.size w1 (members dat) e) := hp
                have hsz1 : wx.heap.size ≤ w1.heap.size := hb1.size
                have HO1b : Hid (w1.ownsRow W1.heap.size 22 1 (.slice b1 nc c1) nc (xcells cs)) := ownsRow_below HO1.out hb1
                have HO2b : Hid (w1.ownsRow W1.heap.size 23 1 (.slice b2 nc c2) nc (ycells cs)) := ownsRow_below HO2.out hb1
                clear hb1 hp HCall
                cases hmem : members dat with
                | none =>
                  have hp := HP.out
                  rw [hmem] at hp
                  obtain rfl : e = _ := hp
                  have HNone : Hid (configs es = none) := by
                    show configs es = none
                    rw [HG2.out, configs, if_pos rfl]
                    simp [hmem]
                  clear HP hmem HG2
                  go_wp2_with fail
                  go_roundw
                  case rel => exact ⟨t + 1, true, cs, b1, b2, c1, c2, by omega, by omega, by go_num, rfl, by rw [hnc], by rw [hnc], by rw [hnc]; exact HNn.out, by rw [hnc]; exact HO1b.out, by rw [hnc]; exact HO2b.out, fun x hx => (HOk.out x hx).below HBw.out, HB1.out, fun _ => HNone.out, fun h => by cases h⟩
                  case measure => simp [intOf]; omega
                | some ms2 =>
                  have hp := HP.out
                  rw [hmem] at hp
                  obtain ⟨g2, cc2, rfl, q1, q2, q3⟩ := hp
                  have HPos : Hid (0 < ms2.length) := members_pos hmem
                  have HNl : Hid (0 < nc ∨ b1 = none) := by
                    rcases HNn.out with h | h
                    · exact Or.inl h
                    · exact Or.inr h.1
                  have HNr : Hid (0 < nc ∨ b2 = none) := by
                    rcases HNn.out with h | h
                    · exact Or.inl h
                    · exact Or.inr h.2
                  have HOk1 : Hid (∀ x ∈ cs ++ [(⟨ix, ms2, g2, cc2⟩ : Cf)], CfOk w1 W1.heap.size x) := fun x hx => by
                    rcases List.mem_append.1 hx with h | h
                    · exact (HOk.out x h).below HBw.out
                    · rw [List.mem_singleton.1 h]
                      exact ⟨⟨q2, Nat.le_trans hszx q1⟩, HPos.out, q3⟩
                  have HG3 : Hid (configs es = (configs (es.drop (t + 1))).map ((cs ++ [(⟨ix, ms2, g2, cc2⟩ : Cf)]).map Cf.plain ++ ·)) := by
                    show configs es = _
                    rw [HG2.out, configs, if_pos rfl]
                    simp only [hmem, Option.bind_some]
                    cases configs (es.drop (t + 1)) <;> simp [Cf.plain]
                  obtain ⟨l2, hl2⟩ : ∃ l2, ms2.length = l2 := ⟨_, rfl⟩
                  have HL2 : Hid (ms2.length = l2) := hl2
                  rw [hl2]
                  have f0 : w1.cell? ⟨b, off + t * 4, none⟩ = some (.int .u64 ix) := (HBw.out.cell (p := ⟨b, off + t * 4, none⟩) (World.block_lt_of_cell? _ _ e0)).trans e0
                  have hszw : W1.heap.size ≤ w1.heap.size := HB1.out.size
                  clear HP hmem HG2 q1 q2 q3 HOk HO1 HO2 HBw hl2
                  go_wp2_with (at_builtin; go_must (refine wpList_append_lies _ rfl _ _ 44 rfl W1.heap.size 22 Tryf.t22 (.int .u64 0) 1 8 Tryf.underlying44 hi22 rfl rfl rfl rfl (by decide) _ nc (xcells cs) rfl (HO1b.out.alloc _) _ 1 1 [.int .u64 ix] rfl rfl (news_new1 w1 _ _ _ rfl) (by simp [Value.oneCell']) (by decide) (by unfold maxLen; omega) (by omega) (Nat.le_trans hszw (by simp)) (w1.heap.size + 1) (by simp) ?_))
                  intro h1 d1 w2 hown2 hgrow2 _ _
                  have HB2 : Hid (Below W1.heap.size W1 w2) := (HB1.out.alloc hszw _).grown hgrow2 (Nat.le_trans hszw (by simp)) (fun j hj => (HO1b.out.lt j hj).1)
                  have HO2c : Hid (w2.ownsRow W1.heap.size 23 1 (.slice b2 nc c2) nc (ycells cs)) := (HO2b.out.alloc _).kept hgrow2 (own_ne HO2b.out HO1b.out (by decide))
                  have HOk2 : Hid (∀ x ∈ cs ++ [(⟨ix, ms2, g2, cc2⟩ : Cf)], CfOk w2 W1.heap.size x) := fun x hx => (HOk1.out x hx).grown HO1b.out (xhead hnc HNl.out) hgrow2
                  have HO1c : Hid (w2.ownsRow W1.heap.size 22 1 (.slice (some ⟨h1, 0, none⟩) (nc + 1) d1) (nc + 1) (xcells cs ++ [.int .u64 ix])) := hown2
                  have hszw2 : W1.heap.size ≤ w2.heap.size := HB2.out.size
                  clear hown2 hgrow2 HO2b HO1b HOk1 HB1
                  go_wp2_with (at_builtin; go_must (refine wpList_append_lies _ rfl _ _ 45 rfl W1.heap.size 23 Tryf.t23 (.slice none 0 0) 1 24 Tryf.underlying45 hi23 rfl rfl rfl rfl (by decide) _ nc (ycells cs) rfl (HO2c.out.alloc _) _ 1 1 [.slice (some ⟨g2, 0, none⟩) l2 cc2] rfl rfl (news_new1 w2 _ _ _ rfl) (by simp [Value.oneCell']) (by decide) (by unfold maxLen; omega) (by omega) (Nat.le_trans hszw2 (by simp)) (w2.heap.size + 1) (by simp) ?_))
                  intro h2 d2 w3 hown3 hgrow3 _ _
                  have HB3 : Hid (Below W1.heap.size W1 w3) := (HB2.out.alloc hszw2 _).grown hgrow3 (Nat.le_trans hszw2 (by simp)) (fun j hj => (HO2c.out.lt j hj).1)
                  have HO1d : Hid (w3.ownsRow W1.heap.size 22 1 (.slice (some ⟨h1, 0, none⟩) (nc + 1) d1) (nc + 1) (xcells cs ++ [.int .u64 ix])) := (HO1c.out.alloc _).kept hgrow3 (own_ne HO1c.out HO2c.out (by decide))
                  have HOk3 : Hid (∀ x ∈ cs ++ [(⟨ix, ms2, g2, cc2⟩ : Cf)], CfOk w3 W1.heap.size x) := fun x hx => (HOk2.out x hx).grown HO2c.out (yhead hnc HNr.out) hgrow3
                  have HO2d : Hid (w3.ownsRow W1.heap.size 23 1 (.slice (some ⟨h2, 0, none⟩) (nc + 1) d2) (nc + 1) (ycells cs ++ [.slice (some ⟨g2, 0, none⟩) l2 cc2])) := hown3
                  clear hown3 hgrow3 HO2c HO1c HOk2 HB2
                  go_wp2_with fail
                  go_roundw
                  case rel =>
                    have e : (cs ++ [(⟨ix, ms2, g2, cc2⟩ : Cf)]).length = nc + 1 := by simp [hnc]
                    refine ⟨t + 1, false, cs ++ [⟨ix, ms2, g2, cc2⟩], some ⟨h1, 0, none⟩, some ⟨h2, 0, none⟩, d1, d2, by omega, by omega, by go_num, rfl, by rw [e], by rw [e], Or.inl (by omega), ?_, ?_, HOk3.out, HB3.out, (fun h => by cases h), fun _ => HG3.out⟩
                    · rw [e]
                      have := HO1d.out
                      simpa [xcells] using this
                    · rw [e]
                      have := HO2d.out
                      rw [← HL2.out] at this
                      simpa [ycells] using this
                  case measure => simp [intOf]; omega
              · have hk1 : (ty == 3) = false := by simpa using hty
                have hk3 : (ty != 3) = true := by simpa using hty
                have HG3 : Hid (configs es = (configs (es.drop (t + 1))).map (cs.map Cf.plain ++ ·)) := by
                  show configs es = _
                  rw [HG2.out, configs, if_neg hty]
                clear HG2 e4 hdlb hcapC
                go_wp2_with fail
                go_roundw
                case rel => exact ⟨t + 1, false, cs, b1, b2, c1, c2, by omega, by omega, by go_num, rfl, by rw [hnc], by rw [hnc], by rw [hnc]; exact HNn.out, by rw [hnc]; exact HO1.out, by rw [hnc]; exact HO2.out, HOk.out, HBx.out, (fun h => by cases h), fun _ => HG3.out⟩
                case measure => simp [intOf]; omega
            · obtain rfl : t = k2 := by omega
              have HAll : Hid (configs es = some (cs.map Cf.plain)) := by
                show configs es = _
                rw [HGood.out, List.drop_eq_nil_of_le (by omega), configs]
                simp
              have hst := HStx.out
              unfold St7 at hst
              rw [HAll.out] at hst
              obtain ⟨rfl, e0, e1, e2, ⟨a6', g6, e3, h6, h6', hM6⟩, ⟨a7', B, rfl, h7, h7', hR⟩, cs8, ac, cc, rfl, hmap, hC8⟩ := hst
              have hlen8 : cs8.length = nc := by
                have := congrArg List.length hmap
                rw [List.length_map, List.length_map, hnc] at this
                exact this
              rw [hlen8]
              have HSM : Hid (Calls Tryf.prog 10 #[.slice a6' k k, .slice am k cm] wx fun e w' => Quiet wx e w') := sameMembers_any a6' am g6 bm om k k cm ms wx hnm (by omega) (fun h => ⟨h6' h, HXm.out h⟩) hM6 (HM.out.below HBWx.out)
              have HSE : Hid (∀ m, Calls Tryf.prog 11 #[.slice a7' t t, .slice a t c] (wx.drewN m) fun e w' => Quiet (wx.drewN m) e w') := fun m =>
                sameEntries_any a7' a B b off t t c es _ hn hnb (fun e he => (HDl.out e he).2) a.isNone h7 rfl (fun h => ⟨h7' h, HX.out h⟩) (hR.below (below_drewN (Below.refl _ wx) m)) ((HA.out.below HBWx.out).below (below_drewN (Below.refl _ wx) m))
              have HC8 : Hid (CfsAt wx 0 ac cs8) := hC8
              have HMap : Hid (cs8.map Cf.plain = cs.map Cf.plain) := hmap
              have HSmall : Hid (∀ x ∈ cs, x.ms.length ≤ 1048576) := fun x hx => configs_small (fun e he => (HDl.out e he).2) HAll.out (Cf.plain x) (List.mem_map_of_mem hx)
              obtain ⟨z, hz⟩ : ∃ z, am.isNone = z := ⟨_, rfl⟩
              rw [hz] at h6
              have heq31 := eq31
              have heq23 := eq23
              have hncb : nc ≤ 1048576 := by omega
              clear h6' hM6 h7 h7' hR hC8 hmap HStx HSt HAll HGood
              go_wp2_with (go_at_call 10; go_must (refine HSM.out.mono ?_))
              rintro e w4 ⟨rfl, m, rfl⟩
              go_wp2_with (go_at_call 11; go_must (refine (HSE.out _).mono ?_))
              rintro e w5 ⟨rfl, m2, rfl⟩
              go_wp2_with fail
              go_loopw [27] (fun i wy => ∃ u m3 : Nat, u ≤ nc ∧ i = .int .i64 u ∧ wy = wx.drewN m3) (fun i _ => nc - (intOf i).toNat)
              case atStart => exact ⟨0, m + m2, Nat.zero_le _, rfl, by simp⟩
              case round =>
                obtain ⟨u, m3, hu, rfl, rfl⟩ := hrel
                by_cases hun : u < nc
                · obtain ⟨g, gm, n0, c9, rfl, hg, d0, d1, hn0, hgm, hMM⟩ := HC8.out.at (i := u) (by omega)
                  obtain ⟨gx, rfl, hgx, x0'⟩ := x_at HO1.out hnc hun
                  obtain ⟨gy, rfl, hgy, y0'⟩ := y_at HO2.out hnc hun
                  have hcf := HOk.out _ (getD_mem (cs := cs) (i := u) (by omega))
                  obtain ⟨q1, q2⟩ := Held.at_left (l := cs8) (r := []) (cs := cs) (by simpa using HMap.out.symm) (i := u) (by omega)
                  have hsml := HSmall.out _ (getD_mem (cs := cs) (i := u) (by omega))
                  rw [q1] at d0
                  rw [q2] at hn0 hMM
                  obtain ⟨xx, hxx⟩ : ∃ xx, cs.getD u cf0 = xx := ⟨_, rfl⟩
                  rw [hxx] at x0' y0' hcf hsml d0 hn0 hMM
                  obtain ⟨ix, ms2, g2, cc2⟩ := xx
                  simp only at x0' y0' hsml d0 hn0 hMM
                  obtain ⟨⟨hg2, _⟩, _, hMM2⟩ := hcf
                  simp only at hg2 hMM2
                  have HCall : Hid (∀ w', (∀ c, w'.cell? c = wx.cell? c) → Calls Tryf.prog 10 #[.slice (some ⟨gm, 0, none⟩) n0 c9, .slice (some ⟨g2, 0, none⟩) n0 cc2] w' fun e w1 => e = .returned (.bool true) ∧ ∃ m, w1 = w'.drewN m) := fun w' hw' =>
                    sameMembers_any _ _ gm g2 0 n0 c9 cc2 ms2 w' hn0.symm (by omega) (fun _ => ⟨rfl, rfl⟩) (hMM.same hw') (hMM2.same hw').at
                  rw [← hn0] at y0'
                  clear hn0 hMM hMM2 q1 q2 hxx hsml
                  go_wp2_with fail
                  go_quiet (first | (go_at_call 10; exact quiet_add (HCall.out _ (fun _ => rfl))) | (go_at_call 10; exact quiet_at (HCall.out _ (fun _ => rfl))))
                  go_wp2_with fail
                  go_roundw
                  case rel => exact ⟨u + 1, _, by omega, by go_num, rfl⟩
                  case measure => simp [intOf]; omega
                · go_wp2_with fail
                  go_ret
                  exact ⟨rfl, below_drewN HBWx.out _⟩

end Go.Proofs.Qxb6613017aFmt
