/- Seat b6613017aF: the plain functions that the walks compute, and their laws. No dump is imported here. -/
import Derived.Laws.BytesArg
namespace Go.Proofs.Qxb6613017aFmt.Plain
open Go

/-- A member, an entry: what the laws take and what the program makes. -/
structure Mb where
  id : ByteArray
  addr : ByteArray
  voter : Bool
structure En where
  ix : Int
  tm : Int
  ty : Int
  nd : Bool
  dat : List Int
/-- What stands for none. -/
def en0 : En := ⟨0, 0, 0, true, []⟩
def mb0 : Mb := ⟨⟨#[]⟩, ⟨#[]⟩, false⟩

/-- The first s bytes as a big-endian number. -/
def num (D : List Int) : Nat → Nat
  | 0 => 0
  | s + 1 => num D s * 256 + (D.getD s 0).toNat

def cutL (s : Nat) (D : List Int) : Option (List Int × List Int) :=
  if D.length < s then none
  else if (D.drop s).length < num D s then none
  else some ((D.drop s).take (num D s), (D.drop s).drop (num D s))

def cutM : List Int → Option (Mb × List Int)
  | [] => none
  | k :: r => if k ≠ 1 ∧ k ≠ 2 then none else
    match cutL 1 r with
    | none => none
    | some (i, r1) => match cutL 2 r1 with
      | none => none
      | some (a, r2) => some (⟨strOfNums i, strOfNums a, k == 1⟩, r2)

theorem cutL_length {s : Nat} {D f r : List Int} (h : cutL s D = some (f, r)) : s + f.length + r.length = D.length := by
  unfold cutL at h
  split at h
  · cases h
  · split at h
    · cases h
    · cases h
      simp at *
      omega

theorem cutM_length {D r : List Int} {m : Mb} (h : cutM D = some (m, r)) : r.length + 4 ≤ D.length := by
  cases D with
  | nil => cases h
  | cons k t =>
    simp only [cutM] at h
    split at h
    · cases h
    · split at h
      · cases h
      · rename_i i r1 h1
        split at h
        · cases h
        · rename_i a r2 h2
          cases h
          have := cutL_length h1
          have := cutL_length h2
          simp
          omega

/-- How long an id and an address can be. -/
def Byte (D : List Int) : Prop := ∀ x ∈ D, 0 ≤ x ∧ x < 256
theorem Byte.take {D : List Int} (h : Byte D) (n : Nat) : Byte (D.take n) := fun x hx => h x (List.mem_of_mem_take hx)
theorem Byte.drop {D : List Int} (h : Byte D) (n : Nat) : Byte (D.drop n) := fun x hx => h x (List.mem_of_mem_drop hx)
theorem Byte.getD {D : List Int} (h : Byte D) (i : Nat) : 0 ≤ D.getD i 0 ∧ D.getD i 0 < 256 := by
  rcases Nat.lt_or_ge i D.length with hi | hi
  · have := h (D[i]) (List.getElem_mem hi)
    simpa [List.getD, List.getElem?_eq_getElem hi] using this
  · simp [List.getD, List.getElem?_eq_none hi]
theorem num_lt {D : List Int} (h : Byte D) (s : Nat) : num D s < 256 ^ s := by
  induction s with
  | zero => simp [num]
  | succ s ih =>
    have := h.getD s
    rw [num, Nat.pow_succ]
    omega
theorem cutL_byte {s : Nat} {D f r : List Int} (hD : Byte D) (h : cutL s D = some (f, r)) : Byte f ∧ Byte r ∧ f.length < 256 ^ s := by
  have hl := num_lt hD s
  unfold cutL at h
  split at h
  · cases h
  · split at h
    · cases h
    · cases h
      refine ⟨(hD.drop _).take _, (hD.drop _).drop _, ?_⟩
      rw [List.length_take]
      omega
/-- A member as a list of bytes gives it. -/
def Small (m : Mb) : Prop := m.id.size ≤ 255 ∧ m.addr.size ≤ 65535
theorem cutM_small {D r : List Int} {m : Mb} (hD : Byte D) (h : cutM D = some (m, r)) : Small m ∧ Byte r := by
  cases D with
  | nil => cases h
  | cons k t =>
    have ht : Byte t := fun x hx => hD x (List.mem_cons_of_mem _ hx)
    simp only [cutM] at h
    split at h
    · cases h
    · split at h
      · cases h
      · rename_i i r1 h1
        split at h
        · cases h
        · rename_i a r2 h2
          cases h
          have b1 := cutL_byte ht h1
          have b2 := cutL_byte b1.2.1 h2
          refine ⟨⟨?_, ?_⟩, b2.2.1⟩
          · rw [strOfNums_size]; have := b1.2.2; omega
          · rw [strOfNums_size]; have := b2.2.2; omega

/-- With a bound on the rounds. -/
def parseN : Nat → List Int → Option (List Mb)
  | 0, D => if D = [] then some [] else none
  | f + 1, D => if D = [] then some [] else
    match cutM D with
    | none => none
    | some (m, r) => (parseN f r).map (m :: ·)
def parse (D : List Int) : Option (List Mb) := parseN D.length D

theorem parseN_nil (f : Nat) : parseN f [] = some [] := by cases f <;> simp [parseN]
theorem parseN_enough : ∀ (f g : Nat) (D : List Int), D.length ≤ f → D.length ≤ g → parseN f D = parseN g D := by
  intro f
  induction f with
  | zero =>
    intro g D h1 _
    obtain rfl : D = [] := List.length_eq_zero_iff.1 (by omega)
    rw [parseN_nil, parseN_nil]
  | succ f ih =>
    intro g D h1 h2
    by_cases hD : D = []
    · subst hD
      rw [parseN_nil, parseN_nil]
    · cases g with
      | zero => exact absurd (List.length_eq_zero_iff.1 (by omega)) hD
      | succ g =>
        rw [parseN, parseN, if_neg hD, if_neg hD]
        cases hc : cutM D with
        | none => rfl
        | some p =>
          obtain ⟨m, r⟩ := p
          have := cutM_length hc
          simp only
          rw [ih g r (by omega) (by omega)]
theorem parse_nil : parse [] = some [] := parseN_nil _
theorem parse_none {D : List Int} (hD : D ≠ []) (h : cutM D = none) : parse D = none := by
  unfold parse
  cases hl : D.length with
  | zero => exact absurd (List.length_eq_zero_iff.1 hl) hD
  | succ n => rw [parseN, if_neg hD, h]
theorem parse_some {D r : List Int} {m : Mb} (h : cutM D = some (m, r)) : parse D = (parse r).map (m :: ·) := by
  have hD : D ≠ [] := fun e => by rw [e] at h; cases h
  have hr := cutM_length h
  unfold parse
  cases hl : D.length with
  | zero => exact absurd (List.length_eq_zero_iff.1 hl) hD
  | succ n =>
    rw [parseN, if_neg hD, h]
    simp only
    rw [parseN_enough n r.length r (by omega) (Nat.le_refl _)]

/-- The ids, in order: nonempty, none twice; with several members every address given. -/
def okFrom (multi : Bool) : List (List UInt8) → List Mb → Bool
  | _, [] => true
  | seen, m :: r => if m.id.size = 0 then false else if m.id.data.toList ∈ seen then false else if multi = true ∧ m.addr.size = 0 then false else okFrom multi (m.id.data.toList :: seen) r

def good (ms : List Mb) : Bool := decide (ms ≠ []) && ms.any (·.voter) && okFrom (decide (1 < ms.length)) [] ms

def members (D : List Int) : Option (List Mb) := (parse D).bind fun ms => if good ms = true then some ms else none

def configs : List En → Option (List (Int × List Mb))
  | [] => some []
  | e :: r => if e.ty = 3 then (members e.dat).bind fun ms => (configs r).map ((e.ix, ms) :: ·) else configs r

theorem configs_append (a b : List En) : configs (a ++ b) = (configs a).bind fun x => (configs b).map (x ++ ·) := by
  induction a with
  | nil => simp [configs]
  | cons e r ih =>
    simp only [List.cons_append, configs]
    split
    · cases h : members e.dat with
      | none => simp
      | some ms =>
        simp only [Option.bind_some, ih]
        cases configs r <;> simp
        cases configs b <;> simp
    · exact ih

end Go.Proofs.Qxb6613017aFmt.Plain
