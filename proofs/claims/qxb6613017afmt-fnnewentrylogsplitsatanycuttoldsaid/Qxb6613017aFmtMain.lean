/- Seat b6613017aF: the walk of FnNewEntryLogSplitsAtAnyCut. -/
import Derived.Test.Qxb6613017aFmtThree
namespace Go.Proofs.Qxb6613017aFmt
open Go.RowKit Plain

theorem snap0 (w : World) (si st : Int) : (w.alloc (.cells #[.int .u64 si, .int .u64 st] 36)).cell? ⟨w.heap.size, 0, none⟩ = some (.int .u64 si) := by go_simp
theorem snap1 (w : World) (si st : Int) : (w.alloc (.cells #[.int .u64 si, .int .u64 st] 36)).cell? ⟨w.heap.size, 1, none⟩ = some (.int .u64 st) := by go_simp
theorem snapz (w : World) (si st : Int) : w.heap.size < (w.alloc (.cells #[.int .u64 si, .int .u64 st] 36)).heap.size := by simp

set_option maxRecDepth 20000 in
set_option maxHeartbeats 8000000 in
theorem splits_walk (si st : Int) (cut : Int) (a : Option Addr) (b off n c : Nat) (es : List En) (w : World) (hn : es.length = n) (hl : n ≤ 9223372036854775807) (hcap : n ≤ c) (hcm : c ≤ 9223372036854775807)
    (h0 : a = none → n = 0 ∧ c = 0) (hx : 0 < n → a = some ⟨b, off, none⟩) (hA : ArgEnts w b off es) (hlen : ∀ i, i < n → (es.getD i en0).dat.length ≤ 9223372036854775807) (hby : ∀ e ∈ es, Byte e.dat) :
    Calls Tryf.prog 4 #[.int .u64 si, .int .u64 st, .slice a n c, .int .i64 cut] w fun e w' => e = .returned (.bool true) ∧ Below w.heap.size w w' := by
  have HZ : Hid (Calls Tryf.prog 12 #[.int .u64 si, .int .u64 st, .slice a n c, .int .i64 cut] w fun e w' => ZB w n es e w') := zzBytes_any si st cut a b off n c es w hn hl hx hA hlen
  have HX : Hid (0 < n → a = some ⟨b, off, none⟩) := hx
  have H0 : Hid (a = none → n = 0 ∧ c = 0) := h0
  have HA : Hid (ArgEnts w b off es) := hA
  have HL : Hid (∀ i, i < n → (es.getD i en0).dat.length ≤ 9223372036854775807) := hlen
  have HBy : Hid (∀ e ∈ es, Byte e.dat) := hby
  clear hx h0 hA hlen hby
  go_enter Tryf.func4, Tryf.ntmps4
  go_wp2_with (go_at_call 12; go_must (refine HZ.out.mono ?_))
  rintro e w1 ⟨r, rfl, hw, hz⟩
  obtain rfl := hw.symm
  cases r with
  | false =>
    go_wp2
    go_ret
    exact ⟨rfl, Below.refl _ _⟩
  | true =>
  obtain ⟨hnb, hdb⟩ := hz rfl
  have HDb : Hid (∀ i, i < n → (es.getD i en0).dat.length ≤ 1048576) := hdb
  clear hdb hz HZ
  go_wp2_with fail
  go_loopw [9, 10] (fun s i wr => ∃ k q : Nat, k ≤ n ∧ q ≤ 1048576 ∧ s = .int .i64 q ∧ i = .int .i64 k ∧ wr = w) (fun _ i _ => n - (intOf i).toNat)
  case atStart => exact ⟨0, 0, Nat.zero_le _, by omega, rfl, rfl, rfl⟩
  case round =>
    obtain ⟨k, q, hk, hq, rfl, rfl, rfl⟩ := hrel
    by_cases hlt : k < n
    · obtain rfl := HX.out (by omega)
      obtain ⟨A, C, gb, go, e0, e1, e2, e3, e4⟩ := HA.out k (by omega)
      have hle := HDb.out k hlt
      obtain ⟨d, hd⟩ : ∃ d, (es.getD k en0).dat.length = d := ⟨_, rfl⟩
      rw [hd] at e3 hle
      clear e0 e1 e2 e4 hd
      by_cases h2 : q + 8 + d ≤ 1048576
      · go_wp2
        go_roundw
        case rel => exact ⟨k + 1, q + 8 + d, by omega, h2, by go_num, by go_num, by trivial⟩
        case measure => simp [intOf]; omega
      · go_wp2
        go_ret
        exact ⟨rfl, Below.refl _ _⟩
    · obtain rfl : k = n := by omega
      by_cases hneg : cut < 0
      · go_wp2
        go_ret
        exact ⟨rfl, Below.refl _ _⟩
      by_cases hbig : (k : Int) < cut
      · go_wp2
        go_ret
        exact ⟨rfl, Below.refl _ _⟩
      obtain ⟨j, rfl⟩ : ∃ j : Nat, cut = (j : Int) := ⟨cut.toNat, by omega⟩
      have hj : j ≤ k := by omega
      go_upto_region 14 with fail
      have hdl : ∀ e ∈ es, Byte e.dat ∧ e.dat.length ≤ 1048576 := fun e he => ⟨HBy.out e he, by
        obtain ⟨i, hi, rfl⟩ := List.mem_iff_getElem.1 he
        have := HDb.out i (by omega)
        rwa [show es.getD i en0 = es[i] by simp [List.getD, List.getElem?_eq_getElem hi]] at this⟩
      have HDl : Hid (∀ e ∈ es, Byte e.dat ∧ e.dat.length ≤ 1048576) := hdl
      clear hdl HBy HDb HL
      obtain ⟨W0, hW0⟩ : ∃ W0, wr.alloc (.cells #[.int .u64 si, .int .u64 st] 36) = W0 := ⟨_, rfl⟩
      have hc0 : W0.cell? ⟨wr.heap.size, 0, none⟩ = some (.int .u64 si) := hW0 ▸ snap0 wr si st
      have hc1 : W0.cell? ⟨wr.heap.size, 1, none⟩ = some (.int .u64 st) := hW0 ▸ snap1 wr si st
      have hz0 : wr.heap.size < W0.heap.size := hW0 ▸ snapz wr si st
      have HB0 : Hid (Below wr.heap.size wr W0) := hW0 ▸ (Below.refl _ wr).alloc (Nat.le_refl _) _
      rw [hW0]
      clear hW0
      have HA0 : Hid (ArgEnts W0 b off es) := HA.out.below HB0.out
      go_cut [12, 13, 14, 15, 16] (fun s12 _ s14 s15 s16 wx => ZRel W0 si st a k es s12 s14 s15 s16 wx)
      case first =>
        as_aux_lemma =>
          obtain ⟨HT7, HT7A, HT7B, HZ8, HZ8A, HZ8B, KA, K1, KD, SWb, SW0⟩ := facts wr.heap.size si st W0 a b off k c es hc0 hc1 hn hnb HDl.out H0.out HX.out HA0.out
          go_region_held3 (SS wr.heap.size si st W0) (first | with_reducible assumption | (repeat' (first | with_reducible assumption | with_reducible (refine KA.out _ _ ?_) | with_reducible (refine KD.out _ ?_) | with_reducible (refine K1.out _ _ _ _ ?_ ?_) | omega | (simp; omega))))
            (first
              | (go_at_call 7; refine (HT7B.out _ _ ?_).mono ?_; (with_reducible assumption); rintro e w1 ⟨⟨a1, rfl, t1, t2, t3, t4⟩, t5, ⟨t6, t60⟩, t61, t62, t63, t64, t65, t66⟩)
              | (go_at_call 7; refine (HT7A.out _ ?_).mono ?_; (with_reducible assumption); rintro e w1 ⟨⟨a1, rfl, t1, t2, t3, t4⟩, t5, ⟨t6, t60⟩, t61, t62, t63⟩)
              | (go_at_call 7; refine (HT7.out _ (by assumption)).mono ?_; rintro e w1 ⟨⟨a1, rfl, t1, t2, t3, t4⟩, t5, ⟨t6, t60⟩, t61, t62, t63, t64, t65, t66, t67⟩)
              | (go_at_call 8; refine (HZ8B.out _ _ _ ?_ (by assumption) (by assumption) (by first | assumption | exact RaftIn.alloc (by assumption) _ | exact RaftIn.alloc (RaftIn.alloc (by assumption) _) _)).mono ?_; (first | omega | (simp; omega)); rintro e w2 ⟨⟨x0, x1, y0, am, nm, cm, v3, v4, v5, rfl, hv, t7⟩, t8, ⟨t9, t90⟩, t91, t92, t93, t94, t95, t96, t97, t98, t99⟩)
              | (go_at_call 8; refine (HZ8A.out _ _ _ ?_ (by assumption) (by assumption) (by first | assumption | exact RaftIn.alloc (by assumption) _ | exact RaftIn.alloc (RaftIn.alloc (by assumption) _) _)).mono ?_; (first | omega | (simp; omega)); rintro e w2 ⟨⟨x0, x1, y0, am, nm, cm, v3, v4, v5, rfl, hv, t7⟩, t8, ⟨t9, t90⟩, t91, t92, t93, t94, t95, t96⟩)
              | (go_at_call 8; refine (HZ8.out _ _ _ (by assumption) (by assumption) (by first | assumption | exact RaftIn.alloc (by assumption) _ | exact RaftIn.alloc (RaftIn.alloc (by assumption) _) _)).mono ?_; rintro e w2 ⟨⟨x0, x1, y0, am, nm, cm, v3, v4, v5, rfl, hv, t7⟩, t8, ⟨t9, t90⟩, t91, t92, t93, t94, t95, t96, t97⟩))
          all_goals
            go_wp2_with fail
            go_meet
          all_goals (refine ZRel.mk (by with_reducible assumption) hv t1 t2 t4 ?_ ?_ ?_ ?_)
          all_goals first
            | (go_simp; done)
            | (have z0 : w2.cell? ⟨w1.heap.size, 0, none⟩ = some (.int .u64 0) := (t91 _ _ (by simp; omega)).trans (by go_simp)
               have z1 : w2.cell? ⟨w1.heap.size, 1, none⟩ = some (.int .u64 0) := (t91 _ _ (by simp; omega)).trans (by go_simp)
               go_simp; done)
            | ((first | (have t9' := t9; simp at t9') | skip); (first | (have t6' := t6; simp at t6') | skip); repeat' (first | with_reducible (exact Kept.refl _ _) | with_reducible (refine Kept.setCell ?_ _ _ ?_) | with_reducible (refine Kept.alloc ?_ _) | with_reducible (refine Kept.drew ?_) | with_reducible (refine Kept.below ?_ (by assumption)) | omega | (simp; done) | (simp; omega)))
      case rest =>
        obtain ⟨W1, rfl⟩ : ∃ x, x = wc := ⟨_, rfl⟩
        have HR1 : Hid (ZRel W0 si st a k es u12 u14 u15 u16 W1) := hcut
        obtain ⟨hB1, p1, rfl, hp1, -⟩ := hcut
        have hd0 : W1.cell? ⟨wr.heap.size, 0, none⟩ = some (.int .u64 si) := (hB1.cell (p := ⟨wr.heap.size, 0, none⟩) hz0).trans hc0
        have hd1 : W1.cell? ⟨wr.heap.size, 1, none⟩ = some (.int .u64 st) := (hB1.cell (p := ⟨wr.heap.size, 1, none⟩) hz0).trans hc1
        have hz1 : W0.heap.size ≤ W1.heap.size := hB1.size
        have HB1 : Hid (Below wr.heap.size wr W1) := HB0.out.trans (hB1.mono (Nat.le_of_lt hz0))
        have HA1 : Hid (ArgEnts W1 b off es) := HA0.out.below hB1
        clear hc0 hc1 hB1 HA0 HB0
        go_upto_region 15 with fail
        have hjc : (j : Int) ≤ (c : Int) := by omega
        have hj0 : (0 : Int) ≤ (j : Int) := by omega
        have hjk : (j : Int) ≤ (k : Int) := by omega
        go_cut [17, 18, 19, 20, 21] (fun s17 _ s19 s20 s21 wx => ZRel W1 si st a j (es.take j) s17 s19 s20 s21 wx)
        case first =>
          as_aux_lemma =>
            obtain ⟨HT7, HT7A, HT7B, HZ8, HZ8A, HZ8B, KA, K1, KD, SWb, SW0⟩ := facts wr.heap.size si st W1 a b off j c (es.take j) hd0 hd1 (by simp; omega) (by omega) (fun e he => HDl.out e (List.mem_of_mem_take he)) (fun h => by have := H0.out h; omega) (fun h => HX.out (by omega)) (fun i hi => by
              have h2 : i < es.length := by simp at hi; omega
              obtain ⟨A, C, gb, go, h3⟩ := HA1.out i h2
              exact ⟨A, C, gb, go, by simpa [List.getD, List.getElem?_take, show i < j by simp at hi; omega] using h3⟩)
            go_region_held3 (SS wr.heap.size si st W1) (first | with_reducible assumption | (repeat' (first | with_reducible assumption | with_reducible (refine KA.out _ _ ?_) | with_reducible (refine KD.out _ ?_) | with_reducible (refine K1.out _ _ _ _ ?_ ?_) | omega | (simp; omega))))
              (first
                | (go_at_call 7; refine (HT7B.out _ _ ?_).mono ?_; (with_reducible assumption); rintro e w1 ⟨⟨a1, rfl, t1, t2, t3, t4⟩, t5, ⟨t6, t60⟩, t61, t62, t63, t64, t65, t66⟩)
                | (go_at_call 7; refine (HT7A.out _ ?_).mono ?_; (with_reducible assumption); rintro e w1 ⟨⟨a1, rfl, t1, t2, t3, t4⟩, t5, ⟨t6, t60⟩, t61, t62, t63⟩)
                | (go_at_call 7; refine (HT7.out _ (by assumption)).mono ?_; rintro e w1 ⟨⟨a1, rfl, t1, t2, t3, t4⟩, t5, ⟨t6, t60⟩, t61, t62, t63, t64, t65, t66, t67⟩)
                | (go_at_call 8; refine (HZ8B.out _ _ _ ?_ (by assumption) (by assumption) (by first | assumption | exact RaftIn.alloc (by assumption) _ | exact RaftIn.alloc (RaftIn.alloc (by assumption) _) _)).mono ?_; (first | omega | (simp; omega)); rintro e w2 ⟨⟨x0, x1, y0, am, nm, cm, v3, v4, v5, rfl, hv, t7⟩, t8, ⟨t9, t90⟩, t91, t92, t93, t94, t95, t96, t97, t98, t99⟩)
                | (go_at_call 8; refine (HZ8A.out _ _ _ ?_ (by assumption) (by assumption) (by first | assumption | exact RaftIn.alloc (by assumption) _ | exact RaftIn.alloc (RaftIn.alloc (by assumption) _) _)).mono ?_; (first | omega | (simp; omega)); rintro e w2 ⟨⟨x0, x1, y0, am, nm, cm, v3, v4, v5, rfl, hv, t7⟩, t8, ⟨t9, t90⟩, t91, t92, t93, t94, t95, t96⟩)
                | (go_at_call 8; refine (HZ8.out _ _ _ (by assumption) (by assumption) (by first | assumption | exact RaftIn.alloc (by assumption) _ | exact RaftIn.alloc (RaftIn.alloc (by assumption) _) _)).mono ?_; rintro e w2 ⟨⟨x0, x1, y0, am, nm, cm, v3, v4, v5, rfl, hv, t7⟩, t8, ⟨t9, t90⟩, t91, t92, t93, t94, t95, t96, t97⟩))
            all_goals
              go_wp2_with fail
              go_meet
            all_goals (refine ZRel.mk (by with_reducible assumption) hv t1 t2 t4 ?_ ?_ ?_ ?_)
            all_goals first
              | (go_simp; done)
              | (have z0 : w2.cell? ⟨w1.heap.size, 0, none⟩ = some (.int .u64 0) := (t91 _ _ (by simp; omega)).trans (by go_simp)
                 have z1 : w2.cell? ⟨w1.heap.size, 1, none⟩ = some (.int .u64 0) := (t91 _ _ (by simp; omega)).trans (by go_simp)
                 go_simp; done)
              | ((first | (have t9' := t9; simp at t9') | skip); (first | (have t6' := t6; simp at t6') | skip); repeat' (first | with_reducible (exact Kept.refl _ _) | with_reducible (refine Kept.setCell ?_ _ _ ?_) | with_reducible (refine Kept.alloc ?_ _) | with_reducible (refine Kept.drew ?_) | with_reducible (refine Kept.below ?_ (by assumption)) | omega | (simp; done) | (simp; omega)))
        case rest =>
          obtain ⟨wd, rfl⟩ : ∃ x, x = wc := ⟨_, rfl⟩
          have HR2 : Hid (ZRel W1 si st a j (es.take j) u17 u19 u20 u21 wd) := hcut
          obtain ⟨hB2, p2, rfl, hp2, -⟩ := hcut
          have he0 : wd.cell? ⟨wr.heap.size, 0, none⟩ = some (.int .u64 si) := (hB2.cell (p := ⟨wr.heap.size, 0, none⟩) (Nat.lt_of_lt_of_le hz0 hz1)).trans hd0
          have he1 : wd.cell? ⟨wr.heap.size, 1, none⟩ = some (.int .u64 st) := (hB2.cell (p := ⟨wr.heap.size, 1, none⟩) (Nat.lt_of_lt_of_le hz0 hz1)).trans hd1
          have hz2 : W1.heap.size ≤ wd.heap.size := hB2.size
          have HB2 : Hid (Below wr.heap.size wr wd) := HB1.out.trans (hB2.mono (by omega))
          have HA2 : Hid (ArgEnts wd b off es) := HA1.out.below hB2
          clear hd0 hd1 hB2
          go_upto_region 16 with fail
          have H3n : Hid ((if c = j then a else Option.map (fun x => x.add (j * 4)) a) = none → k - j = 0 ∧ c - j = 0) := fun h => by
            split at h
            · omega
            · have := H0.out (Option.map_eq_none_iff.1 h); omega
          have H3x : Hid (0 < k - j → (if c = j then a else Option.map (fun x => x.add (j * 4)) a) = some ⟨b, off + j * 4, none⟩) := fun h => by
            rw [if_neg (by omega), HX.out (by omega), Option.map_some, Addr.add_lit]
          obtain ⟨a3, ha3⟩ : ∃ a3, (if c = j then a else Option.map (fun x => x.add (j * 4)) a) = a3 := ⟨_, rfl⟩
          rw [ha3] at H3n H3x
          go_cut [22, 23, 24, 25, 26] (fun s22 _ s24 s25 s26 wx => ZRel wd si st a3 (k - j) (es.drop j) s22 s24 s25 s26 wx)
          case first =>
            as_aux_lemma =>
              obtain ⟨HT7, HT7A, HT7B, HZ8, HZ8A, HZ8B, KA, K1, KD, SWb, SW0⟩ := facts wr.heap.size si st wd a3 b (off + j * 4) (k - j) (c - j) (es.drop j) he0 he1 (by simp; omega) (by omega) (fun e he => HDl.out e (List.mem_of_mem_drop he)) H3n.out H3x.out (fun i hi => by
                have h2 : j + i < es.length := by simp at hi; omega
                obtain ⟨A, C, gb, go, h3⟩ := HA2.out (j + i) h2
                exact ⟨A, C, gb, go, by simpa [List.getD, List.getElem?_drop, Nat.add_mul, Nat.add_assoc] using h3⟩)
              go_region_held3 (SS wr.heap.size si st wd) (first | with_reducible assumption | (repeat' (first | with_reducible assumption | with_reducible (refine KA.out _ _ ?_) | with_reducible (refine KD.out _ ?_) | with_reducible (refine K1.out _ _ _ _ ?_ ?_) | omega | (simp; omega))))
                (first
                  | (go_at_call 7; refine (HT7B.out _ _ ?_).mono ?_; (with_reducible assumption); rintro e w1 ⟨⟨a1, rfl, t1, t2, t3, t4⟩, t5, ⟨t6, t60⟩, t61, t62, t63, t64, t65, t66⟩)
                  | (go_at_call 7; refine (HT7A.out _ ?_).mono ?_; (with_reducible assumption); rintro e w1 ⟨⟨a1, rfl, t1, t2, t3, t4⟩, t5, ⟨t6, t60⟩, t61, t62, t63⟩)
                  | (go_at_call 7; refine (HT7.out _ (by assumption)).mono ?_; rintro e w1 ⟨⟨a1, rfl, t1, t2, t3, t4⟩, t5, ⟨t6, t60⟩, t61, t62, t63, t64, t65, t66, t67⟩)
                  | (go_at_call 8; refine (HZ8B.out _ _ _ ?_ (by assumption) (by assumption) (by first | assumption | exact RaftIn.alloc (by assumption) _ | exact RaftIn.alloc (RaftIn.alloc (by assumption) _) _)).mono ?_; (first | omega | (simp; omega)); rintro e w2 ⟨⟨x0, x1, y0, am, nm, cm, v3, v4, v5, rfl, hv, t7⟩, t8, ⟨t9, t90⟩, t91, t92, t93, t94, t95, t96, t97, t98, t99⟩)
                  | (go_at_call 8; refine (HZ8A.out _ _ _ ?_ (by assumption) (by assumption) (by first | assumption | exact RaftIn.alloc (by assumption) _ | exact RaftIn.alloc (RaftIn.alloc (by assumption) _) _)).mono ?_; (first | omega | (simp; omega)); rintro e w2 ⟨⟨x0, x1, y0, am, nm, cm, v3, v4, v5, rfl, hv, t7⟩, t8, ⟨t9, t90⟩, t91, t92, t93, t94, t95, t96⟩)
                  | (go_at_call 8; refine (HZ8.out _ _ _ (by assumption) (by assumption) (by first | assumption | exact RaftIn.alloc (by assumption) _ | exact RaftIn.alloc (RaftIn.alloc (by assumption) _) _)).mono ?_; rintro e w2 ⟨⟨x0, x1, y0, am, nm, cm, v3, v4, v5, rfl, hv, t7⟩, t8, ⟨t9, t90⟩, t91, t92, t93, t94, t95, t96, t97⟩))
              all_goals
                go_wp2_with fail
                go_meet
              all_goals (refine ZRel.mk (by with_reducible assumption) hv t1 t2 t4 ?_ ?_ ?_ ?_)
              all_goals first
                | (go_simp; done)
                | (have z0 : w2.cell? ⟨w1.heap.size, 0, none⟩ = some (.int .u64 0) := (t91 _ _ (by simp; omega)).trans (by go_simp)
                   have z1 : w2.cell? ⟨w1.heap.size, 1, none⟩ = some (.int .u64 0) := (t91 _ _ (by simp; omega)).trans (by go_simp)
                   go_simp; done)
                | ((first | (have t9' := t9; simp at t9') | skip); (first | (have t6' := t6; simp at t6') | skip); repeat' (first | with_reducible (exact Kept.refl _ _) | with_reducible (refine Kept.setCell ?_ _ _ ?_) | with_reducible (refine Kept.alloc ?_ _) | with_reducible (refine Kept.drew ?_) | with_reducible (refine Kept.below ?_ (by assumption)) | omega | (simp; done) | (simp; omega)))
          case rest =>
            obtain ⟨we, rfl⟩ : ∃ x, x = wc := ⟨_, rfl⟩
            have HR3 : Hid (ZRel wd si st a3 (k - j) (es.drop j) u22 u24 u25 u26 we) := hcut
            obtain ⟨hB3, p3, rfl, hp3, -⟩ := hcut
            have hz3 : wd.heap.size ≤ we.heap.size := hB3.size
            have HB3 : Hid (Below wr.heap.size wr we) := HB2.out.trans (hB3.mono (by omega))
            have HA3 : Hid (ArgEnts we b off es) := HA2.out.below hB3
            clear he0 he1 hB3 HA1 HA2 HB1 HB2
            rcases three HR1.out HR2.out HR3.out (List.take_append_drop j es).symm (fun e he => (HDl.out e he).2) with hq | hq
            · clear HR1 HR2 HR3
              obtain ⟨⟨v1, rfl⟩, rfl, rfl, c0, c1, e2⟩ := hq
              have heq := eq33
              have heq2 := eq39
              rcases e2 with ⟨v2, rfl⟩ | ⟨rfl, v2, rfl⟩
              all_goals
                go_wp2_with fail
                go_quiet (fail)
                go_wp2_with fail
                go_ret
                exact ⟨rfl, below_drewN HB3.out _⟩
            · clear HR1 HR2 HR3
              obtain ⟨rfl, rfl, rfl, c0, c1, ⟨a1, B, rfl, ha1, hB, hRE⟩, cs, l, r, ac, al, ar, cc, cl, cr, rfl, rfl, rfl, hC, hCl, hCr, hmap, hlen, hms⟩ := hq
              have hcl := Held.len hmap
              have HSE : Hid (∀ m, Calls Tryf.prog 11 #[.slice a1 k k, .slice a k c] (we.drewN m) fun e w' => Quiet (we.drewN m) e w') := fun m =>
                sameEntries_any a1 a B b off k k c es _ hn hnb (fun e he => (HDl.out e he).2) a.isNone ha1 rfl (fun h => ⟨hB h, HX.out h⟩) (hRE.below (below_drewN (Below.refl _ we) m)) (HA3.out.below (below_drewN (Below.refl _ we) m))
              have HC : Hid (CfsAt we 0 ac cs) := hC
              have HCl : Hid (CfsAt we 0 al l) := hCl
              have HCr : Hid (CfsAt we 0 ar r) := hCr
              have HMap : Hid (cs.map Cf.plain = l.map Cf.plain ++ r.map Cf.plain) := hmap
              have HMs : Hid (∀ x ∈ cs, x.ms.length ≤ 1048576) := hms
              obtain ⟨nc, hnc⟩ : ∃ x, cs.length = x := ⟨_, rfl⟩
              obtain ⟨nl, hnl⟩ : ∃ x, l.length = x := ⟨_, rfl⟩
              obtain ⟨nr, hnr⟩ : ∃ x, r.length = x := ⟨_, rfl⟩
              rw [hnc, hn] at hlen
              rw [hnc, hnl, hnr] at hcl ⊢
              obtain rfl := hcl.symm
              clear hC hCl hCr hmap hms ha1 hB hRE hcl
              have hsum : IntKind.i64.wrap ((nl : Int) + (nr : Int)) = (nl : Int) + (nr : Int) := by rw [IntKind.wrap_i64]; omega
              go_wp2_with fail
              go_quiet (fail)
              go_wp2_with (go_at_call 11; go_must (refine (HSE.out _).mono ?_))
              rintro e w5 ⟨rfl, m, rfl⟩
              go_wp2_with fail
              go_loopw [27] (fun i wx => ∃ t : Nat, t ≤ nl + nr ∧ i = .int .i64 t ∧ Below we.heap.size we wx) (fun i _ => nl + nr - (intOf i).toNat)
              case atStart => exact ⟨0, Nat.zero_le _, rfl, below_drewN (Below.refl _ we) _⟩
              case round =>
                obtain ⟨wx, rfl⟩ : ∃ x, x = wr := ⟨_, rfl⟩
                obtain ⟨t, htn, rfl, hbx⟩ := hrel
                have HBx : Hid (Below we.heap.size we wx) := hbx
                by_cases hlt2 : t < nl + nr
                · obtain ⟨g, gm, n0, c9, rfl, hg, d0, d1, hn0, hgm, hM⟩ := (HC.out.below hbx).at (i := t) (by omega)
                  have hms0 : n0 ≤ 1048576 := hn0 ▸ HMs.out _ (getD_mem (by omega))
                  by_cases htl : t < nl
                  · obtain ⟨g', gm', n1, c8, rfl, hg', d0', d1', hn1, hgm', hM'⟩ := (HCl.out.below hbx).at (i := t) (by omega)
                    obtain ⟨q1, q2⟩ := Held.at_left HMap.out (i := t) (by omega)
                    rw [q1] at d0'
                    rw [q2] at hn1 hM'
                    have HM := mems_call hM hM' hgm hgm' (by omega) c9 c8
                    rw [← hn0] at HM
                    obtain rfl : n1 = n0 := by omega
                    have HMh : Hid (∀ (ob : Obj) (w' : World), (∀ c, w'.cell? c = (wx.alloc ob).cell? c) → Calls Tryf.prog 13 #[.slice (some ⟨gm, 0, none⟩) n1 c9, .slice (some ⟨gm', 0, none⟩) n1 c8] w' fun e w1 => e = .returned (.bool true) ∧ ∃ m, w1 = w'.drewN m) := HM
                    obtain ⟨ix, hix⟩ : ∃ x, (cs.getD t cf0).ix = x := ⟨_, rfl⟩
                    rw [hix] at d0 d0'
                    clear HM hM hM' hix q1 q2 hn0 hn1
                    go_wp2_with fail
                    go_quiet (first | (go_at_call 13; exact quiet_at (HMh.out _ _ (fun _ => rfl))))
                    go_wp2_with fail
                    go_roundw
                    case rel => exact ⟨t + 1, by omega, by go_num, below_drewN (HBx.out.alloc HBx.out.size _) _⟩
                    case measure => simp [intOf]; omega
                  · obtain ⟨d, hd⟩ : ∃ d, t = nl + d := ⟨t - nl, by omega⟩
                    have htd : t - nl = d := by omega
                    obtain ⟨g', gm', n1, c8, rfl, hg', d0', d1', hn1, hgm', hM'⟩ := (HCr.out.below hbx).at (i := d) (by omega)
                    obtain ⟨q1, q2⟩ := Held.at_right HMap.out (i := t) (by omega) (by omega)
                    rw [hnl, htd] at q1 q2
                    rw [q1] at d0'
                    rw [q2] at hn1 hM'
                    have HM := mems_call hM hM' hgm hgm' (by omega) c9 c8
                    rw [← hn0] at HM
                    obtain rfl : n1 = n0 := by omega
                    have HMh : Hid (∀ (ob : Obj) (w' : World), (∀ c, w'.cell? c = (wx.alloc ob).cell? c) → Calls Tryf.prog 13 #[.slice (some ⟨gm, 0, none⟩) n1 c9, .slice (some ⟨gm', 0, none⟩) n1 c8] w' fun e w1 => e = .returned (.bool true) ∧ ∃ m, w1 = w'.drewN m) := HM
                    obtain ⟨ix, hix⟩ : ∃ x, (cs.getD t cf0).ix = x := ⟨_, rfl⟩
                    rw [hix] at d0 d0'
                    have hw2 : IntKind.i64.wrap ((t : Int) - (nl : Int)) = (d : Int) := by rw [IntKind.wrap_i64]; omega
                    have hdr : (d : Int) < (nr : Int) := by omega
                    have hd0 : (0 : Int) ≤ (d : Int) := by omega
                    clear HM hM hM' hix q1 q2 hn0 hn1 htd hd
                    go_wp2_with fail
                    go_quiet (first | (go_at_call 13; exact quiet_at (HMh.out _ _ (fun _ => rfl))))
                    go_wp2_with fail
                    go_roundw
                    case rel => exact ⟨t + 1, by omega, by go_num, below_drewN (HBx.out.alloc HBx.out.size _) _⟩
                    case measure => simp [intOf]; omega
                · go_wp2_with fail
                  go_ret
                  exact ⟨rfl, HB3.out.trans (HBx.out.mono (by omega))⟩

end Go.Proofs.Qxb6613017aFmt
