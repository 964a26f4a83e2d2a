/- Seat b6613002a: the two trees side by side: what each call of the law does to both. -/
import Derived.Test.Qxb6613002aPush
import Derived.Test.Qxb6613002aPop
import Derived.Test.Qxb6613002aNew
import Derived.Test.Qxb6613002aTree
namespace Go.Proofs.Qxb6613002a
open Go.RowKit

/-- The row of names. -/
def Names (B nv : Nat) (NM : List (Option Addr)) (wx : World) : Prop := wx.ownsRow 0 27 1 (.slice (some ⟨B, 0, none⟩) nv nv) nv (NM.map Value.pointer)

structure Two (w : World) (B nv : Nat) (NM : List (Option Addr)) (pa pb : Nat) (ga ca gb cb : Nat → Nat) (xa xb : Nat → List Value) (wx : World) : Prop where
  ta : Tree wx pa ga ca xa
  tb : Tree wx pb gb cb xb
  names : Names B nv NM wx
  below : Below B w wx
  fa : ∀ b, foot pa ga b → B < b
  fb : ∀ b, foot pb gb b → B < b
  apart : ∀ b, foot pa ga b → ¬ foot pb gb b

def Inv (w : World) (B nv : Nat) (NM : List (Option Addr)) (pa pb : Nat) (xa xb : Nat → List Value) (wx : World) : Prop :=
  ∃ ga ca gb cb, Two w B nv NM pa pb ga ca gb cb xa xb wx

theorem Inv.swap {w wx : World} {B nv pa pb : Nat} {NM : List (Option Addr)} {xa xb : Nat → List Value} (h : Inv w B nv NM pa pb xa xb wx) : Inv w B nv NM pb pa xb xa wx := by
  obtain ⟨ga, ca, gb, cb, h⟩ := h
  exact ⟨gb, cb, ga, ca, h.tb, h.ta, h.names, h.below, h.fb, h.fa, fun b hb ha => h.apart b ha hb⟩

theorem Names.lt {B nv : Nat} {NM : List (Option Addr)} {wx : World} (h : Names B nv NM wx) : B < wx.heap.size := (World.ownsRow.lt h B rfl).2
theorem Names.off {B nv : Nat} {NM : List (Option Addr)} {wx w' : World} {S : Nat → Prop} (h : Names B nv NM wx) (ho : Off S wx w') (hS : ¬ S B) : Names B nv NM w' := ho.owns h hS

theorem Inv.drewN {w wx : World} {B nv pa pb : Nat} {NM : List (Option Addr)} {xa xb : Nat → List Value} (h : Inv w B nv NM pa pb xa xb wx) (m : Nat) : Inv w B nv NM pa pb xa xb (wx.drewN m) := by
  obtain ⟨ga, ca, gb, cb, h⟩ := h
  have ho : Off (fun _ => False) wx (wx.drewN m) := Off.drewN _ _ _
  exact ⟨ga, ca, gb, cb, h.ta.off ho (fun _ _ h => h), h.tb.off ho (fun _ _ h => h), h.names.off ho (fun h => h), below_drewN h.below m, h.fa, h.fb, h.apart⟩

/-- What a step on the first tree alone leaves of the second, the names, and old memory. -/
theorem Two.step {w wx w' : World} {B nv pa pb : Nat} {NM : List (Option Addr)} {ga ca gb cb g' c' : Nat → Nat} {xa xb xa' : Nat → List Value} (h : Two w B nv NM pa pb ga ca gb cb xa xb wx)
    (hT : Tree w' pa g' c' xa') (hO : Off (foot pa ga) wx w') (hN : ∀ j, j < 6 → g' j = ga j ∨ wx.heap.size ≤ g' j) : Inv w B nv NM pa pb xa' xb w' := by
  have hBs : B ≤ wx.heap.size := Nat.le_of_lt h.names.lt
  have hnew : ∀ b, foot pa g' b → foot pa ga b ∨ wx.heap.size ≤ b := by
    rintro b (rfl | ⟨k, hk, rfl⟩)
    · exact .inl (.inl rfl)
    · rcases hN k hk with e | e
      · exact .inl (.inr ⟨k, hk, e⟩)
      · exact .inr e
  refine ⟨g', c', gb, cb, hT, h.tb.off hO (fun b hb ha => h.apart b ha hb), h.names.off hO (fun ha => by have := h.fa _ ha; omega), h.below.trans (hO.below hBs (fun b hb => by have := h.fa _ hb; omega)), ?_, h.fb, ?_⟩
  · intro b hb
    rcases hnew b hb with h1 | h1
    · exact h.fa b h1
    · have := h.names.lt; omega
  · intro b hb h2
    rcases hnew b hb with h1 | h1
    · exact h.apart b h1 h2
    · have := h.tb.foot_lt b h2; omega

set_option maxRecDepth 20000 in
theorem zzpush_any (w : World) (p : Nat) (g c : Nat → Nat) (xs : Nat → List Value) (n : Nat) (nm : Option Addr) (s : ByteArray) (par : Int) (hT : Tree w p g c xs)
    (hn : ∀ k, k < 6 → (xs k).length = n) (hb : n ≤ 1048576) :
    Calls Try.prog 7 #[.pointer (some ⟨p, 0, none⟩), .pointer nm, .string s, .int .i32 par] w fun e w' =>
      e = .returned (.int .i32 n) ∧ Rel w p g xs (nws nm s par) 6 w' := by
  have H := push_any w p g c xs n nm s par hT hn hb
  have HH : Hid (Calls Try.prog 13 #[.pointer (some ⟨p, 0, none⟩), .pointer nm, .string s, .int .i32 par] w fun e w' => e = .returned (.int .i32 n) ∧ Rel w p g xs (nws nm s par) 6 w') := H
  clear H hT hn hb
  go_enter Try.func7, Try.ntmps7
  go_wp2_with (go_at_call 13; go_must (refine HH.out.mono ?_))
  rintro e w1 ⟨rfl, R⟩
  have R' : Hid (Rel w p g xs (nws nm s par) 6 w1) := R
  clear R HH
  go_wp2
  go_ret
  exact ⟨rfl, R'.out⟩

theorem pushA {w wx : World} {B nv pa pb n : Nat} {NM : List (Option Addr)} {xa xb : Nat → List Value} (h : Inv w B nv NM pa pb xa xb wx) (hn : ∀ k, k < 6 → (xa k).length = n) (hb : n ≤ 1048576) (nm : Option Addr) (s : ByteArray) (par : Int) :
    Calls Try.prog 7 #[.pointer (some ⟨pa, 0, none⟩), .pointer nm, .string s, .int .i32 par] wx fun e w' => e = .returned (.int .i32 n) ∧ Inv w B nv NM pa pb (fun k => xa k ++ [nws nm s par k]) xb w' := by
  obtain ⟨ga, ca, gb, cb, h⟩ := h
  refine (zzpush_any wx pa ga ca xa n nm s par h.ta hn hb).mono ?_
  rintro e w' ⟨rfl, g', c', hT, hO, hN⟩
  exact ⟨rfl, h.step (hT.congr (fun k hk => by simp [XS, hk])) hO hN⟩

theorem pushB {w wx : World} {B nv pa pb n : Nat} {NM : List (Option Addr)} {xa xb : Nat → List Value} (h : Inv w B nv NM pa pb xa xb wx) (hn : ∀ k, k < 6 → (xb k).length = n) (hb : n ≤ 1048576) (nm : Option Addr) (s : ByteArray) (par : Int) :
    Calls Try.prog 7 #[.pointer (some ⟨pb, 0, none⟩), .pointer nm, .string s, .int .i32 par] wx fun e w' => e = .returned (.int .i32 n) ∧ Inv w B nv NM pa pb xa (fun k => xb k ++ [nws nm s par k]) w' := by
  refine (pushA h.swap hn hb nm s par).mono ?_
  rintro e w' ⟨rfl, hI⟩
  exact ⟨rfl, hI.swap⟩

set_option maxRecDepth 20000 in
theorem zzpop_any (w : World) (p : Nat) (g c : Nat → Nat) (ys : Nat → List Value) (u : Nat → Value) (n : Nat) (hT : Tree w p g c (fun k => ys k ++ [u k]))
    (hn : ∀ k, k < 6 → (ys k).length = n) (hb : n ≤ 1048576) :
    Calls Try.prog 8 #[.pointer (some ⟨p, 0, none⟩)] w fun e w' => e = .returned (.tuple #[]) ∧ Pel w p g c ys 6 w' := by
  have HH : Hid (Calls Try.prog 14 #[.pointer (some ⟨p, 0, none⟩)] w fun e w' => e = .returned (.tuple #[]) ∧ Pel w p g c ys 6 w') := pop_any w p g c ys u n hT hn hb
  clear hT hn hb
  go_enter Try.func8, Try.ntmps8
  go_wp2_with (go_at_call 14; go_must (refine HH.out.mono ?_))
  rintro e w1 ⟨rfl, R⟩
  have R' : Hid (Pel w p g c ys 6 w1) := R
  clear R HH
  go_wp2
  go_end0
  exact ⟨rfl, R'.out⟩

theorem popA {w wx : World} {B nv pa pb n : Nat} {NM : List (Option Addr)} {ys xb : Nat → List Value} {u : Nat → Value} (h : Inv w B nv NM pa pb (fun k => ys k ++ [u k]) xb wx) (hn : ∀ k, k < 6 → (ys k).length = n) (hb : n ≤ 1048576) :
    Calls Try.prog 8 #[.pointer (some ⟨pa, 0, none⟩)] wx fun e w' => e = .returned (.tuple #[]) ∧ Inv w B nv NM pa pb ys xb w' := by
  obtain ⟨ga, ca, gb, cb, h⟩ := h
  refine (zzpop_any wx pa ga ca ys u n h.ta hn hb).mono ?_
  rintro e w' ⟨rfl, v, hT, hO⟩
  exact ⟨rfl, h.step (hT.congr (fun k hk => by simp [ZS, hk])) hO (fun _ _ => .inl rfl)⟩

theorem sameAB {w wx : World} {B nv pa pb n : Nat} {NM : List (Option Addr)} {xs : Nat → List Value} (h : Inv w B nv NM pa pb xs xs wx) (hy : Typed xs n) (hn : n ≤ 1048577) :
    Calls Try.prog 9 #[.pointer (some ⟨pa, 0, none⟩), .pointer (some ⟨pb, 0, none⟩)] wx fun e w' => e = .returned (.bool true) ∧ Inv w B nv NM pa pb xs xs w' := by
  have h' := h
  obtain ⟨ga, ca, gb, cb, h⟩ := h
  refine (same_tree wx pa pb n ga ca gb cb xs h.ta h.tb hy (by omega)).mono ?_
  rintro e w' ⟨rfl, m, rfl⟩
  exact ⟨rfl, h'.drewN m⟩

theorem getElem?_snoc {α : Type} (l : List α) (a : α) (i : Nat) : (l ++ [a])[i]? = if i < l.length then l[i]? else if i = l.length then some a else none := by
  by_cases h : i < l.length
  · rw [if_pos h, List.getElem?_append_left h]
  · by_cases h2 : i = l.length
    · subst h2; simp
    · simp [h, h2]; omega

theorem Typed.push {xs : Nat → List Value} {n : Nat} (h : Typed xs n) (nm : Option Addr) (s : ByteArray) (par : Int) : Typed (fun k => xs k ++ [nws nm s par k]) (n + 1) := by
  have hp : ∀ i, i < n + 1 → (xs 0 ++ [nws nm s par 0])[i]? = some (.pointer (ptrAt (xs 0 ++ [nws nm s par 0]) i)) := fun i hi => by
    by_cases hin : i < n
    · have e : (xs 0 ++ [nws nm s par 0])[i]? = (xs 0)[i]? := by rw [getElem?_snoc, if_pos (by rw [h.len 0 (by omega)]; exact hin)]
      simp only [ptrAt, e]
      exact h.ptr i hin
    · have e : (xs 0 ++ [nws nm s par 0])[i]? = some (.pointer nm) := by rw [getElem?_snoc, if_neg (by rw [h.len 0 (by omega)]; exact hin), if_pos (by rw [h.len 0 (by omega)]; omega)]; rfl
      simp only [ptrAt, e]
  have hs : ∀ i, i < n + 1 → (xs 1 ++ [nws nm s par 1])[i]? = some (.string (strAt (xs 1 ++ [nws nm s par 1]) i)) := fun i hi => by
    by_cases hin : i < n
    · have e : (xs 1 ++ [nws nm s par 1])[i]? = (xs 1)[i]? := by rw [getElem?_snoc, if_pos (by rw [h.len 1 (by omega)]; exact hin)]
      simp only [strAt, e]
      exact h.str i hin
    · have e : (xs 1 ++ [nws nm s par 1])[i]? = some (.string s) := by rw [getElem?_snoc, if_neg (by rw [h.len 1 (by omega)]; exact hin), if_pos (by rw [h.len 1 (by omega)]; omega)]; rfl
      simp only [strAt, e]
  refine ⟨fun k hk => by simp [h.len k hk], hp, hs, fun k h2 hk i hi => ?_⟩
  by_cases hin : i < n
  · have e : (xs k ++ [nws nm s par k])[i]? = (xs k)[i]? := by rw [getElem?_snoc, if_pos (by rw [h.len k (by omega)]; exact hin)]
    simp only [numAt, e]
    exact h.num k h2 hk i hin
  · have hz : ∃ z, nws nm s par k = .int .i32 z := by
      rcases lt_six hk with rfl | rfl | rfl | rfl | rfl | rfl
      · omega
      · omega
      · exact ⟨_, rfl⟩
      · exact ⟨_, rfl⟩
      · exact ⟨_, rfl⟩
      · exact ⟨_, rfl⟩
    obtain ⟨z, hz⟩ := hz
    have e : (xs k ++ [nws nm s par k])[i]? = some (.int .i32 z) := by rw [getElem?_snoc, if_neg (by rw [h.len k (by omega)]; exact hin), if_pos (by rw [h.len k (by omega)]; omega), hz]
    simp only [numAt, e]

theorem Typed.root : Typed (fun k => [nws none ⟨#[]⟩ (-1) k]) 1 := by
  have h0 : Typed (fun _ => []) 0 := ⟨fun _ _ => rfl, fun _ h => by omega, fun _ h => by omega, fun _ _ _ _ h => by omega⟩
  exact h0.push none ⟨#[]⟩ (-1)

end Go.Proofs.Qxb6613002a
