/- Seat b6613017aF: the walks of sameBytes, sameEntries, sameRaftMembers and of the bound on the input's size. -/
import Derived.Test.Qxb6613017aFmtTo
namespace Go.Proofs.Qxb6613017aFmt
open Go.RowKit Plain

theorem quiet_add {f : FuncId} {args : Array Value} {w : World} {a x : Nat} {v : Value} (h : Calls Tryf.prog f args (w.drewN (a + x)) fun e w1 => e = .returned v ∧ ∃ m, w1 = (w.drewN (a + x)).drewN m) :
    Calls Tryf.prog f args (w.drewN (a + x)) fun e w1 => e = .returned v ∧ ∃ m, w1 = w.drewN (a + m) :=
  h.mono fun _ _ ⟨he, m, hm⟩ => ⟨he, x + m, by rw [hm, World.drewN_drewN, Nat.add_assoc]⟩

def Quiet (w : World) (e : Ending) (w' : World) : Prop := e = .returned (.bool true) ∧ ∃ m, w' = w.drewN m

set_option maxRecDepth 20000 in
set_option maxHeartbeats 1000000 in
theorem sameBytes_any (A1 A2 : Option Addr) (b1 o1 b2 o2 n c1 c2 : Nat) (D : List Int) (w : World) (hn : D.length = n) (hm : n ≤ 1048576) (z : Bool) (h1 : A1.isNone = z) (h2 : A2.isNone = z)
    (hx : 0 < n → A1 = some ⟨b1, o1, none⟩ ∧ A2 = some ⟨b2, o2, none⟩ ∧ ByteCells w b1 o1 D ∧ ByteCells w b2 o2 D) :
    Calls Tryf.prog 16 #[.slice A1 n c1, .slice A2 n c2] w fun e w' => Quiet w e w' := by
  have HX : Hid (0 < n → A1 = some ⟨b1, o1, none⟩ ∧ A2 = some ⟨b2, o2, none⟩ ∧ ByteCells w b1 o1 D ∧ ByteCells w b2 o2 D) := hx
  have heq := eq28
  clear hx
  go_enter Tryf.func16, Tryf.ntmps16
  go_wp2_with fail
  go_loopw [5] (fun i wr => ∃ k m : Nat, k ≤ n ∧ i = .int .i64 k ∧ wr = w.drewN m) (fun i _ => n - (intOf i).toNat)
  case atStart => exact ⟨0, 0, Nat.zero_le _, rfl, rfl⟩
  case round =>
    obtain ⟨k, m, hk, rfl, rfl⟩ := hrel
    by_cases hlt : k < n
    · obtain ⟨rfl, rfl, hc1, hc2⟩ := HX.out (by omega)
      have a1 := hc1 k (by omega)
      have a2 := hc2 k (by omega)
      obtain ⟨y, hy⟩ : ∃ y, D.getD k 0 = y := ⟨_, rfl⟩
      rw [hy] at a1 a2
      clear hc1 hc2 hy
      go_wp2
      go_quiet (fail)
      go_wp2
      go_roundw
      case rel => exact ⟨k + 1, _, by omega, by go_num, rfl⟩
      case measure => simp [intOf]; omega
    · go_wp2
      go_ret
      exact ⟨rfl, _, rfl⟩

theorem eq33 (w : World) (a : Option Addr) (n c : Nat) : (binOp .eql 33 (.slice a n c) (.slice none 0 0)).run Tryf.prog w = .ok (.bool a.isNone) w := Lib.run_eql_slice_nil (P := Tryf.prog) w 33 56 a n c 0 0 Tryf.underlying33

/-- The data of one entry, here and there. -/
theorem same_data {w : World} {B p b q C gb go G : Nat} {en : En} {A1 A2 : Option Addr} (h1 : EntAt w B p en A1 G) (h2 : ArgEnt w b q en A2 C gb go) (hd : en.dat.length ≤ 1048576) :
    ∀ w', (∀ c, w'.cell? c = w.cell? c) → Calls Tryf.prog 16 #[.slice A1 en.dat.length en.dat.length, .slice A2 en.dat.length C] w' fun e w1 => Quiet w' e w1 := by
  intro w' hw'
  obtain ⟨_, _, _, _, hA1, hG, hD1⟩ := h1
  obtain ⟨_, _, _, _, hA2⟩ := h2
  rcases hA1 with ⟨n1, rfl, e1⟩ | ⟨n1, rfl⟩
  · rcases hA2 with ⟨n2, rfl, _, rfl⟩ | ⟨n2, _⟩
    · exact sameBytes_any none none 0 0 0 0 _ _ _ en.dat w' rfl hd true rfl rfl (fun h => by rw [e1] at h; cases h)
    · rw [n1] at n2; cases n2
  · rcases hA2 with ⟨n2, _⟩ | ⟨n2, x, rfl, hx⟩
    · rw [n1] at n2; cases n2
    · exact sameBytes_any _ _ G 0 gb go _ _ _ en.dat w' rfl hd false rfl rfl (fun h => ⟨rfl, by rw [(hx h).1], fun i hi => (hw' _).trans (hD1 i hi), fun i hi => (hw' _).trans ((hx h).2.2 i hi)⟩)

set_option maxRecDepth 20000 in
set_option maxHeartbeats 4000000 in
theorem sameEntries_any (a1 a2 : Option Addr) (B b off n c1 c2 : Nat) (es : List En) (w : World) (hn : es.length = n) (hm : n ≤ 1048576) (hd : ∀ e ∈ es, e.dat.length ≤ 1048576) (z : Bool) (h1 : a1.isNone = z) (h2 : a2.isNone = z)
    (hx : 0 < n → a1 = some ⟨B, 0, none⟩ ∧ a2 = some ⟨b, off, none⟩) (hE : RaftEnts w B es) (hA : ArgEnts w b off es) :
    Calls Tryf.prog 11 #[.slice a1 n c1, .slice a2 n c2] w fun e w' => Quiet w e w' := by
  have HX : Hid (0 < n → a1 = some ⟨B, 0, none⟩ ∧ a2 = some ⟨b, off, none⟩) := hx
  have HE : Hid (RaftEnts w B es) := hE
  have HA : Hid (ArgEnts w b off es) := hA
  have HD : Hid (∀ e ∈ es, e.dat.length ≤ 1048576) := hd
  have heq := eq33
  have heq2 := eq24
  clear hx hE hA hd
  go_enter Tryf.func11, Tryf.ntmps11
  go_wp2_with fail
  go_loopw [5] (fun i wr => ∃ k m : Nat, k ≤ n ∧ i = .int .i64 k ∧ wr = w.drewN m) (fun i _ => n - (intOf i).toNat)
  case atStart => exact ⟨0, 0, Nat.zero_le _, rfl, rfl⟩
  case round =>
    obtain ⟨k, m, hk, rfl, rfl⟩ := hrel
    clear heq heq2
    by_cases hlt : k < n
    · obtain ⟨rfl, rfl⟩ := HX.out (by omega)
      obtain ⟨A1, G, e1⟩ := HE.out k (by omega)
      obtain ⟨A2, C, gb, go, e2⟩ := HA.out k (by omega)
      have hdl : (es.getD k en0).dat.length ≤ 1048576 := by
        have e : es.getD k en0 = es[k]'(by omega) := by simp [List.getD, List.getElem?_eq_getElem (show k < es.length by omega)]
        rw [e]
        exact HD.out _ (List.getElem_mem _)
      obtain ⟨en, hen⟩ : ∃ en, es.getD k en0 = en := ⟨_, rfl⟩
      rw [hen] at e1 e2 hdl
      have hs := same_data e1 e2 hdl
      obtain ⟨ix, tm, ty, nd, dat⟩ := en
      have HS : Hid (∀ w', (∀ c, w'.cell? c = w.cell? c) → Calls Tryf.prog 16 #[.slice A1 dat.length dat.length, .slice A2 dat.length C] w' fun e w1 => e = .returned (.bool true) ∧ ∃ m, w1 = w'.drewN m) := hs
      obtain ⟨x0, x1, x2, x3, _⟩ := e1
      obtain ⟨y0, y1, y2, y3, _⟩ := e2
      simp only at x0 x1 x2 x3 y0 y1 y2 y3
      clear hs hen hdl
      go_wp2
      go_quiet (fail)
      go_wp2
      go_quiet (first | (go_at_call 16; exact quiet_add (HS.out _ (fun _ => rfl))))
      go_wp2
      go_roundw
      case rel => exact ⟨k + 1, _, by omega, by go_num, rfl⟩
      case measure => simp [intOf]; omega
    · go_wp2
      go_ret
      exact ⟨rfl, _, rfl⟩

set_option maxRecDepth 20000 in
set_option maxHeartbeats 4000000 in
theorem sameMems_any (g1 g2 n c1 c2 : Nat) (ms : List Mb) (w : World) (hn : ms.length = n) (hm : n ≤ 9223372036854775806) (h1 : MemCells w g1 ms) (h2 : MemCells w g2 ms) :
    Calls Tryf.prog 13 #[.slice (some ⟨g1, 0, none⟩) n c1, .slice (some ⟨g2, 0, none⟩) n c2] w fun e w' => Quiet w e w' := by
  have H1 : Hid (MemCells w g1 ms) := h1
  have H2 : Hid (MemCells w g2 ms) := h2
  clear h1 h2
  go_enter Tryf.func13, Tryf.ntmps13
  go_wp2_with fail
  go_loopw [5] (fun i wr => ∃ k m : Nat, k ≤ n ∧ i = .int .i64 k ∧ wr = w.drewN m) (fun i _ => n - (intOf i).toNat)
  case atStart => exact ⟨0, 0, Nat.zero_le _, rfl, rfl⟩
  case round =>
    obtain ⟨k, m, hk, rfl, rfl⟩ := hrel
    by_cases hlt : k < n
    · obtain ⟨x0, x1, x2⟩ := H1.out k (by omega)
      obtain ⟨y0, y1, y2⟩ := H2.out k (by omega)
      obtain ⟨mm, hmm⟩ : ∃ mm, ms.getD k mb0 = mm := ⟨_, rfl⟩
      rw [hmm] at x0 x1 x2 y0 y1 y2
      obtain ⟨id, addr, vt⟩ := mm
      simp only at x0 x1 x2 y0 y1 y2
      clear hmm
      go_wp2
      go_quiet (fail)
      go_wp2
      go_roundw
      case rel => exact ⟨k + 1, _, by omega, by go_num, rfl⟩
      case measure => simp [intOf]; omega
    · go_wp2
      go_ret
      exact ⟨rfl, _, rfl⟩

/-- What the bound's function answers. -/
def ZB (w : World) (n : Nat) (es : List En) (e : Ending) (w' : World) : Prop := ∃ r : Bool, e = .returned (.bool r) ∧ w' = w ∧ (r = true → n ≤ 1048576 ∧ ∀ i, i < n → (es.getD i en0).dat.length ≤ 1048576)

set_option maxRecDepth 20000 in
set_option maxHeartbeats 1000000 in
theorem zzBytes_any (si st cut : Int) (a : Option Addr) (b off n c : Nat) (es : List En) (w : World) (hn : es.length = n) (hl : n ≤ 9223372036854775807)
    (hx : 0 < n → a = some ⟨b, off, none⟩) (hA : ArgEnts w b off es) (hlen : ∀ i, i < n → (es.getD i en0).dat.length ≤ 9223372036854775807) :
    Calls Tryf.prog 12 #[.int .u64 si, .int .u64 st, .slice a n c, .int .i64 cut] w fun e w' => ZB w n es e w' := by
  have HX : Hid (0 < n → a = some ⟨b, off, none⟩) := hx
  have HA : Hid (ArgEnts w b off es) := hA
  have HL : Hid (∀ i, i < n → (es.getD i en0).dat.length ≤ 9223372036854775807) := hlen
  clear hx hA hlen
  by_cases hbig : n ≤ 1048576
  · go_enter Tryf.func12, Tryf.ntmps12
    go_wp2_with fail
    go_loopw [9, 10] (fun s i wr => ∃ k q : Nat, k ≤ n ∧ q ≤ 1048576 ∧ s = .int .i64 q ∧ i = .int .i64 k ∧ wr = w ∧ ∀ j, j < k → (es.getD j en0).dat.length ≤ 1048576) (fun _ i _ => n - (intOf i).toNat)
    case atStart => exact ⟨0, n, Nat.zero_le _, hbig, by simp, rfl, rfl, fun j hj => by omega⟩
    case round =>
      obtain ⟨k, q, hk, hq, rfl, rfl, rfl, hall⟩ := hrel
      have HAll : Hid (∀ j, j < k → (es.getD j en0).dat.length ≤ 1048576) := hall
      clear hall
      by_cases hlt : k < n
      · obtain rfl := HX.out (by omega)
        obtain ⟨A, C, gb, go, e0, e1, e2, e3, e4⟩ := HA.out k (by omega)
        have hle := HL.out k hlt
        obtain ⟨d, hd⟩ : ∃ d, (es.getD k en0).dat.length = d := ⟨_, rfl⟩
        rw [hd] at e3 hle
        have HDe : Hid ((es.getD k en0).dat.length = d) := hd
        clear e0 e1 e2 e4 hd
        by_cases h1 : d ≤ 1048576
        · by_cases h2 : q + d ≤ 1048576
          · have HNx : Hid (∀ j, j < k + 1 → (es.getD j en0).dat.length ≤ 1048576) := fun j hj => by
              by_cases hjk : j = k
              · subst hjk; rw [HDe.out]; exact h1
              · exact HAll.out j (by omega)
            go_wp2
            go_roundw
            case rel => exact ⟨k + 1, q + d, by omega, h2, by go_num, by go_num, by trivial, HNx.out⟩
            case measure => simp [intOf]; omega
          · go_wp2
            go_ret
            exact ⟨false, rfl, rfl, fun h => by cases h⟩
        · go_wp2
          go_ret
          exact ⟨false, rfl, rfl, fun h => by cases h⟩
      · go_wp2
        go_ret
        exact ⟨true, rfl, rfl, fun _ => ⟨hbig, fun i hi => HAll.out i (by omega)⟩⟩
  · go_enter Tryf.func12, Tryf.ntmps12
    go_wp2
    go_ret
    exact ⟨false, rfl, rfl, fun h => by cases h⟩

end Go.Proofs.Qxb6613017aFmt
