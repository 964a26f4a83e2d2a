/-
  DERIVED. Seat b6613017aF: THE CLOSED FACTS FOR THE WALK OVER fmt.errorf's STOP at this dump (turned to this program after the guide's DigitsFmt.lean), and the calls of fmt.Errorf and errors.New by contract: each hands back a new error that is not nil; which text it bears, no law of this seat asks.
-/
import Derived.Test.Qxb6613017aFmtProg
import Derived.Stop.CallBack
import Derived.Stop.IfaceNil
import GoSem.ClaimData
import Derived.RowKit
import Derived.Below
namespace Go.Proofs.Qxb6613017aFmt
open Go.Extern.Stop Go.Stop Go.Extern Go.RowKit

@[go_sem] theorem Tryf.call22 (args : Array Value) (w : World) : (callFunc 22 args).run Tryf.prog w = ((FmtStop.errorf #[9, 71] #[41] args).run Tryf.prog w).andThen fun v w' => .ok (.value v) w' :=
  run_callFunc_extern Tryf.func22 (by kernel_rfl) (by kernel_rfl) (by kernel_rfl) (by kernel_rfl) args w

@[go_sem] theorem Tryf.guard (name : String) (w : World) : (FmtStop.guard name).run Tryf.prog w = .ok () w := by kernel_rfl

-- "is of unknown kind %d"
@[go_sem] theorem Tryf.fmt0 : FmtStop.printed? ⟨#[105, 115, 32, 111, 102, 32, 117, 110, 107, 110, 111, 119, 110, 32, 107, 105, 110, 100, 32, 37, 100]⟩ 1 = some [(0, 100, false)] := by kernel_rfl
@[go_sem] theorem Tryf.fmt0r (w : World) : (FmtDoors.printed ⟨#[105, 115, 32, 111, 102, 32, 117, 110, 107, 110, 111, 119, 110, 32, 107, 105, 110, 100, 32, 37, 100]⟩ 1).run Tryf.prog w = .ok [(0, 100, false)] w := by kernel_rfl
-- "member %d %v"
@[go_sem] theorem Tryf.fmt1 : FmtStop.printed? ⟨#[109, 101, 109, 98, 101, 114, 32, 37, 100, 32, 37, 118]⟩ 2 = some [(0, 100, false), (1, 118, false)] := by kernel_rfl
@[go_sem] theorem Tryf.fmt1r (w : World) : (FmtDoors.printed ⟨#[109, 101, 109, 98, 101, 114, 32, 37, 100, 32, 37, 118]⟩ 2).run Tryf.prog w = .ok [(0, 100, false), (1, 118, false)] w := by kernel_rfl
-- "the configuration of entry %d: %w"
@[go_sem] theorem Tryf.fmt2 : FmtStop.printed? ⟨#[116, 104, 101, 32, 99, 111, 110, 102, 105, 103, 117, 114, 97, 116, 105, 111, 110, 32, 111, 102, 32, 101, 110, 116, 114, 121, 32, 37, 100, 58, 32, 37, 119]⟩ 2 = some [(0, 100, false), (1, 119, false)] := by kernel_rfl
@[go_sem] theorem Tryf.fmt2r (w : World) : (FmtDoors.printed ⟨#[116, 104, 101, 32, 99, 111, 110, 102, 105, 103, 117, 114, 97, 116, 105, 111, 110, 32, 111, 102, 32, 101, 110, 116, 114, 121, 32, 37, 100, 58, 32, 37, 119]⟩ 2).run Tryf.prog w = .ok [(0, 100, false), (1, 119, false)] w := by kernel_rfl
-- "member %q is named twice"
@[go_sem] theorem Tryf.fmt3 : FmtStop.printed? ⟨#[109, 101, 109, 98, 101, 114, 32, 37, 113, 32, 105, 115, 32, 110, 97, 109, 101, 100, 32, 116, 119, 105, 99, 101]⟩ 1 = some [(0, 113, false)] := by kernel_rfl
@[go_sem] theorem Tryf.fmt3r (w : World) : (FmtDoors.printed ⟨#[109, 101, 109, 98, 101, 114, 32, 37, 113, 32, 105, 115, 32, 110, 97, 109, 101, 100, 32, 116, 119, 105, 99, 101]⟩ 1).run Tryf.prog w = .ok [(0, 113, false)] w := by kernel_rfl
-- "member %q has no address"
@[go_sem] theorem Tryf.fmt4 : FmtStop.printed? ⟨#[109, 101, 109, 98, 101, 114, 32, 37, 113, 32, 104, 97, 115, 32, 110, 111, 32, 97, 100, 100, 114, 101, 115, 115]⟩ 1 = some [(0, 113, false)] := by kernel_rfl
@[go_sem] theorem Tryf.fmt4r (w : World) : (FmtDoors.printed ⟨#[109, 101, 109, 98, 101, 114, 32, 37, 113, 32, 104, 97, 115, 32, 110, 111, 32, 97, 100, 100, 114, 101, 115, 115]⟩ 1).run Tryf.prog w = .ok [(0, 113, false)] w := by kernel_rfl

theorem Tryf.op5_100w (name : String) (x : Int) (w : World) : ∃ r, (FmtStop.operand name true 100 false (.iface 5 (.int .u8 x))).run Tryf.prog w = .ok r w := ⟨([6, 5, 0, 0, 0, 0, 0, 0, 0, 117, 105, 110, 116, 56], Go.Extern.Stop.digits 8 (x % 2 ^ 64).toNat), by kernel_rfl⟩
theorem Tryf.op3_100w (name : String) (x : Int) (w : World) : ∃ r, (FmtStop.operand name true 100 false (.iface 3 (.int .i64 x))).run Tryf.prog w = .ok r w := ⟨([5, 3, 0, 0, 0, 0, 0, 0, 0, 105, 110, 116], Go.Extern.Stop.digits 8 (x % 2 ^ 64).toNat), by kernel_rfl⟩
theorem Tryf.op22_100w (name : String) (x : Int) (w : World) : ∃ r, (FmtStop.operand name true 100 false (.iface 22 (.int .u64 x))).run Tryf.prog w = .ok r w := ⟨([9, 6, 0, 0, 0, 0, 0, 0, 0, 117, 105, 110, 116, 54, 52], Go.Extern.Stop.digits 8 (x % 2 ^ 64).toNat), by kernel_rfl⟩
theorem Tryf.op9_113w (name : String) (x : ByteArray) (w : World) : ∃ r, (FmtStop.operand name true 113 false (.iface 9 (.string x))).run Tryf.prog w = .ok r w := ⟨([12, 6, 0, 0, 0, 0, 0, 0, 0, 115, 116, 114, 105, 110, 103], FmtStop.pack x.data.toList), by kernel_rfl⟩

@[go_sem] theorem Tryf.ptr77 (w : World) : (FmtStop.ptrTo "errors.errorString").run Tryf.prog w = .ok 77 w := by kernel_rfl
@[go_sem] theorem Tryf.elem77 (w : World) : (elemOf 77).run Tryf.prog w = .ok 79 w := by kernel_rfl
@[go_sem] theorem Tryf.isError77' (w : World) : (FmtDoors.textMethod 77 "Error").run Tryf.prog w = .ok true w := by kernel_rfl
@[go_sem] theorem Tryf.ptr73 (w : World) : (FmtStop.ptrTo "fmt.wrapError").run Tryf.prog w = .ok 73 w := by kernel_rfl
@[go_sem] theorem Tryf.elem73 (w : World) : (elemOf 73).run Tryf.prog w = .ok 100 w := by kernel_rfl
def Tryf.plain77 : List UInt8 := 14 :: FmtStop.pack "*errors.errorString".toUTF8.data.toList
theorem Tryf.opPlain77_118w (name : String) (a : Addr) (s : ByteArray) (w : World) (hc : w.cell? a = some (.string s)) :
    (FmtStop.operand name true 118 false (.iface 77 (.pointer (some a)))).run Tryf.prog w = .ok (Tryf.plain77, s.data.toList) w := by
  have h1 : (typeStr 77).run Tryf.prog w = .ok "*errors.errorString" w := by kernel_rfl
  have d2 : Tryf.t77.desc = .pointer 79 := rfl
  have d3 : Tryf.t79.desc = .named "errors.errorString" 78 := rfl
  simp [FmtStop.operand, h1, d2, d3, run_load, hc, Tryf.plain77]
theorem Tryf.opPlain77_119w (name : String) (a : Addr) (s : ByteArray) (w : World) (hc : w.cell? a = some (.string s)) :
    (FmtStop.operand name true 119 false (.iface 77 (.pointer (some a)))).run Tryf.prog w = .ok (Tryf.plain77, s.data.toList) w := by
  have h1 : (typeStr 77).run Tryf.prog w = .ok "*errors.errorString" w := by kernel_rfl
  have d2 : Tryf.t77.desc = .pointer 79 := rfl
  have d3 : Tryf.t79.desc = .named "errors.errorString" 78 := rfl
  simp [FmtStop.operand, h1, d2, d3, run_load, hc, Tryf.plain77]


/-- A plain error, as errors.New and fmt.Errorf make it, lying in block 'n' of w. -/
def PlainErr (w : World) (n : Nat) (e : Value) : Prop := e = .iface 77 (.pointer (some ⟨n, 0, none⟩)) ∧ ∃ s : ByteArray, w.cell? ⟨n, 0, none⟩ = some (.string s)

theorem errorsNew (s : ByteArray) (w : World) :
    Calls Tryf.prog 23 #[.string s] w fun e w' => e = .returned (.iface 77 (.pointer (some ⟨w.heap.size, 0, none⟩))) ∧ w' = w.alloc (.cells #[.string s] 79) := by
  go_enter Tryf.func23, Tryf.ntmps23
  go_wp2
  go_ret
  exact ⟨rfl, rfl⟩


theorem errorfKind (x : Int) (blk : Nat) (w : World) 
    (hc0 : w.cell? ⟨blk, 0, none⟩ = some (.iface 5 (.int .u8 x))) :
    Calls Tryf.prog 19 #[.string ⟨#[105, 115, 32, 111, 102, 32, 117, 110, 107, 110, 111, 119, 110, 32, 107, 105, 110, 100, 32, 37, 100]⟩, .slice (some ⟨blk, 0, none⟩) 1 1] w fun e w' =>
      e = .returned (.iface 77 (.pointer (some ⟨w.heap.size, 0, none⟩))) ∧ ∃ s : ByteArray, w' = (w.alloc (.cells #[.string s] 79)).drew := by
  obtain ⟨r0, hr0⟩ : ∃ r, (FmtStop.operand "fmt.errorf" true 100 false (.iface 5 (.int .u8 x))).run Tryf.prog w = .ok r w := Tryf.op5_100w _ _ _
  go_enter Tryf.func19, Tryf.ntmps19
  go_wp2
  go_ret
  exact ⟨rfl, _, rfl⟩


theorem errorfMember (x : Int) (a : Addr) (t : ByteArray) (blk : Nat) (w : World) (ha : w.cell? a = some (.string t))
    (hc0 : w.cell? ⟨blk, 0, none⟩ = some (.iface 3 (.int .i64 x))) (hc1 : w.cell? ⟨blk, 1, none⟩ = some (.iface 77 (.pointer (some a)))) :
    Calls Tryf.prog 19 #[.string ⟨#[109, 101, 109, 98, 101, 114, 32, 37, 100, 32, 37, 118]⟩, .slice (some ⟨blk, 0, none⟩) 2 2] w fun e w' =>
      e = .returned (.iface 77 (.pointer (some ⟨w.heap.size, 0, none⟩))) ∧ ∃ s : ByteArray, w' = (w.alloc (.cells #[.string s] 79)).drew := by
  obtain ⟨r0, hr0⟩ : ∃ r, (FmtStop.operand "fmt.errorf" true 100 false (.iface 3 (.int .i64 x))).run Tryf.prog w = .ok r w := Tryf.op3_100w _ _ _
  obtain ⟨r1, hr1⟩ : ∃ r, (FmtStop.operand "fmt.errorf" true 118 false (.iface 77 (.pointer (some a)))).run Tryf.prog w = .ok r w := ⟨_, Tryf.opPlain77_118w _ a t w ha⟩
  go_enter Tryf.func19, Tryf.ntmps19
  go_wp2
  go_ret
  exact ⟨rfl, _, rfl⟩


theorem errorfConfig (x : Int) (a : Addr) (t : ByteArray) (blk : Nat) (w : World) (ha : w.cell? a = some (.string t))
    (hc0 : w.cell? ⟨blk, 0, none⟩ = some (.iface 22 (.int .u64 x))) (hc1 : w.cell? ⟨blk, 1, none⟩ = some (.iface 77 (.pointer (some a)))) :
    Calls Tryf.prog 19 #[.string ⟨#[116, 104, 101, 32, 99, 111, 110, 102, 105, 103, 117, 114, 97, 116, 105, 111, 110, 32, 111, 102, 32, 101, 110, 116, 114, 121, 32, 37, 100, 58, 32, 37, 119]⟩, .slice (some ⟨blk, 0, none⟩) 2 2] w fun e w' =>
      e = .returned (.iface 73 (.pointer (some ⟨w.heap.size, 0, none⟩))) ∧ ∃ s : ByteArray, w' = (w.alloc (.cells #[.string s, .iface 77 (.pointer (some a))] 100)).drew := by
  obtain ⟨r0, hr0⟩ : ∃ r, (FmtStop.operand "fmt.errorf" true 100 false (.iface 22 (.int .u64 x))).run Tryf.prog w = .ok r w := Tryf.op22_100w _ _ _
  obtain ⟨r1, hr1⟩ : ∃ r, (FmtStop.operand "fmt.errorf" true 119 false (.iface 77 (.pointer (some a)))).run Tryf.prog w = .ok r w := ⟨_, Tryf.opPlain77_119w _ a t w ha⟩
  go_enter Tryf.func19, Tryf.ntmps19
  go_wp2
  go_ret
  exact ⟨rfl, _, rfl⟩


theorem errorfTwice (x : ByteArray) (blk : Nat) (w : World) 
    (hc0 : w.cell? ⟨blk, 0, none⟩ = some (.iface 9 (.string x))) :
    Calls Tryf.prog 19 #[.string ⟨#[109, 101, 109, 98, 101, 114, 32, 37, 113, 32, 105, 115, 32, 110, 97, 109, 101, 100, 32, 116, 119, 105, 99, 101]⟩, .slice (some ⟨blk, 0, none⟩) 1 1] w fun e w' =>
      e = .returned (.iface 77 (.pointer (some ⟨w.heap.size, 0, none⟩))) ∧ ∃ s : ByteArray, w' = (w.alloc (.cells #[.string s] 79)).drew := by
  obtain ⟨r0, hr0⟩ : ∃ r, (FmtStop.operand "fmt.errorf" true 113 false (.iface 9 (.string x))).run Tryf.prog w = .ok r w := Tryf.op9_113w _ _ _
  go_enter Tryf.func19, Tryf.ntmps19
  go_wp2
  go_ret
  exact ⟨rfl, _, rfl⟩


theorem errorfNoAddr (x : ByteArray) (blk : Nat) (w : World) 
    (hc0 : w.cell? ⟨blk, 0, none⟩ = some (.iface 9 (.string x))) :
    Calls Tryf.prog 19 #[.string ⟨#[109, 101, 109, 98, 101, 114, 32, 37, 113, 32, 104, 97, 115, 32, 110, 111, 32, 97, 100, 100, 114, 101, 115, 115]⟩, .slice (some ⟨blk, 0, none⟩) 1 1] w fun e w' =>
      e = .returned (.iface 77 (.pointer (some ⟨w.heap.size, 0, none⟩))) ∧ ∃ s : ByteArray, w' = (w.alloc (.cells #[.string s] 79)).drew := by
  obtain ⟨r0, hr0⟩ : ∃ r, (FmtStop.operand "fmt.errorf" true 113 false (.iface 9 (.string x))).run Tryf.prog w = .ok r w := Tryf.op9_113w _ _ _
  go_enter Tryf.func19, Tryf.ntmps19
  go_wp2
  go_ret
  exact ⟨rfl, _, rfl⟩

end Go.Proofs.Qxb6613017aFmt
