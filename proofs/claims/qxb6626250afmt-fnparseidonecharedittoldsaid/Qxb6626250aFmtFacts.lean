import Derived.Test.Qxb6626250aFmtRows
import Derived.WalkKit
import Derived.ProofKit
import Derived.OpenShut
import Derived.Below
import Derived.Outline
import Derived.BigQuiet
import Derived.Handy
import Derived.WalkLawsBesides
import Derived.Deep.QuietTactic
import Derived.Deep.RegionWith
import Derived.Stop.CallBack
import Derived.Stop.IfaceNil
import GoSem.ClaimData
namespace Go.Proofs.Qxb6626250aFmt
open Go.ChangeShapes Go.WideShapes Go.ChangeAt Go.RowKit
open Go.Extern.Stop Go.Stop Go.Extern

/-! ### Closed facts for a walk over fmt's stopped front, for this dump (after the guide's generated Fmt texts) -/
theorem call12 (args : Array Value) (w : World) : (callFunc 12 args).run Tryf.prog w = ((FmtStop.errorf #[9, 38] #[26] args).run Tryf.prog w).andThen fun v w' => .ok (.value v) w' :=
  run_callFunc_extern Tryf.func12 (by kernel_rfl) (by kernel_rfl) (by kernel_rfl) (by kernel_rfl) args w
theorem fguard (name : String) (w : World) : (FmtStop.guard name).run Tryf.prog w = .ok () w := by kernel_rfl
theorem fmt0r (w : World) : (FmtDoors.printed ⟨#[115, 105, 120, 104, 111, 112, 58, 32, 105, 100, 32, 37, 113, 58, 32, 119, 97, 110, 116, 32, 37, 100, 32, 104, 101, 120, 97, 100, 101, 99, 105, 109, 97, 108, 32, 99, 104, 97, 114, 97, 99, 116, 101, 114, 115, 44, 32, 104, 97, 118, 101, 32, 37, 100]⟩ 3).run Tryf.prog w = .ok [(0, 113, false), (1, 100, false), (2, 100, false)] w := by kernel_rfl
theorem fmt1r (w : World) : (FmtDoors.printed ⟨#[115, 105, 120, 104, 111, 112, 58, 32, 105, 100, 32, 37, 113, 58, 32, 99, 104, 97, 114, 97, 99, 116, 101, 114, 32, 37, 100, 32, 105, 115, 32, 110, 111, 116, 32, 108, 111, 119, 101, 114, 99, 97, 115, 101, 32, 104, 101, 120, 97, 100, 101, 99, 105, 109, 97, 108]⟩ 2).run Tryf.prog w = .ok [(0, 113, false), (1, 100, false)] w := by kernel_rfl
def shape9 : List UInt8 := [12, 6, 0, 0, 0, 0, 0, 0, 0, 115, 116, 114, 105, 110, 103]
theorem op9_113 (name : String) (x : ByteArray) (w : World) : (FmtStop.operand name true 113 false (.iface 9 (.string x))).run Tryf.prog w = .ok (shape9, FmtStop.pack x.data.toList) w := by kernel_rfl
def shape3 : List UInt8 := [5, 3, 0, 0, 0, 0, 0, 0, 0, 105, 110, 116]
theorem op3_100 (name : String) (x : Int) (w : World) : (FmtStop.operand name true 100 false (.iface 3 (.int .i64 x))).run Tryf.prog w = .ok (shape3, Go.Extern.Stop.digits 8 (x % 2 ^ 64).toNat) w := by kernel_rfl
theorem ptr44 (w : World) : (FmtStop.ptrTo "errors.errorString").run Tryf.prog w = .ok 44 w := by kernel_rfl
theorem elem44 (w : World) : (elemOf 44).run Tryf.prog w = .ok 46 w := by kernel_rfl
attribute [local go_sem] call12 fguard fmt0r fmt1r op9_113 op3_100 ptr44 elem44

def F3 : ByteArray := ⟨#[115, 105, 120, 104, 111, 112, 58, 32, 105, 100, 32, 37, 113, 58, 32, 119, 97, 110, 116, 32, 37, 100, 32, 104, 101, 120, 97, 100, 101, 99, 105, 109, 97, 108, 32, 99, 104, 97, 114, 97, 99, 116, 101, 114, 115, 44, 32, 104, 97, 118, 101, 32, 37, 100]⟩
def F2 : ByteArray := ⟨#[115, 105, 120, 104, 111, 112, 58, 32, 105, 100, 32, 37, 113, 58, 32, 99, 104, 97, 114, 97, 99, 116, 101, 114, 32, 37, 100, 32, 105, 115, 32, 110, 111, 116, 32, 108, 111, 119, 101, 114, 99, 97, 115, 101, 32, 104, 101, 120, 97, 100, 101, 99, 105, 109, 97, 108]⟩

set_option maxHeartbeats 1000000 in
theorem errorf3 (s : ByteArray) (n m : Int) (b : Nat) (w : World) (h0 : w.cell? ⟨b, 0, none⟩ = some (.iface 9 (.string s))) (h1 : w.cell? ⟨b, 1, none⟩ = some (.iface 3 (.int .i64 n))) (h2 : w.cell? ⟨b, 2, none⟩ = some (.iface 3 (.int .i64 m))) :
    Calls Tryf.prog 9 #[.string F3, .slice (some ⟨b, 0, none⟩) 3 3] w fun e w' =>
      e = .returned (.iface 44 (.pointer (some ⟨w.heap.size, 0, none⟩))) ∧ ∃ t, w' = (w.alloc (.cells #[.string t] 46)).drew := by
  unfold F3
  go_enter Tryf.func9, Tryf.ntmps9
  go_wp2
  go_ret
  exact ⟨rfl, _, rfl⟩

set_option maxHeartbeats 1000000 in
theorem errorf2 (s : ByteArray) (n : Int) (b : Nat) (w : World) (h0 : w.cell? ⟨b, 0, none⟩ = some (.iface 9 (.string s))) (h1 : w.cell? ⟨b, 1, none⟩ = some (.iface 3 (.int .i64 n))) :
    Calls Tryf.prog 9 #[.string F2, .slice (some ⟨b, 0, none⟩) 2 2] w fun e w' =>
      e = .returned (.iface 44 (.pointer (some ⟨w.heap.size, 0, none⟩))) ∧ ∃ t, w' = (w.alloc (.cells #[.string t] 46)).drew := by
  unfold F2
  go_enter Tryf.func9, Tryf.ntmps9
  go_wp2
  go_ret
  exact ⟨rfl, _, rfl⟩

/-- The digit's value; -1 where the byte is no lowercase hexadecimal digit. -/
def nib (c : Int) : Int := if 48 ≤ c ∧ c ≤ 57 then c - 48 else if 97 ≤ c ∧ c ≤ 102 then c - 87 else -1
/-- Is the byte a digit? -/
def hexB (c : Int) : Bool := decide (48 ≤ c ∧ c ≤ 57) || decide (97 ≤ c ∧ c ≤ 102)

theorem hexB_iff (c : Int) : hexB c = true ↔ (48 ≤ c ∧ c ≤ 57) ∨ (97 ≤ c ∧ c ≤ 102) := by simp [hexB]
theorem nib_pos {c : Int} (h : hexB c = true) : 0 ≤ nib c ∧ nib c ≤ 15 := by
  rw [hexB_iff] at h
  unfold nib
  split <;> (try split) <;> omega
theorem nib_neg {c : Int} (h : hexB c = false) : nib c = -1 := by
  have : ¬ hexB c = true := by simp [h]
  rw [hexB_iff] at this
  unfold nib
  rw [if_neg (by omega), if_neg (by omega)]

theorem ret_int {k : IntKind} {a b : Int} (h : a = b) : Ending.returned (.int k a) = .returned (.int k b) := by rw [h]

set_option maxHeartbeats 1000000 in
theorem nibble (c : Int) (w : World) (h0 : 0 ≤ c) (h1 : c ≤ 255) : Calls Tryf.prog 7 #[.int .u8 c] w fun e w' => e = .returned (.int .i64 (nib c)) ∧ w = w' := by
  by_cases a : 48 ≤ c
  · by_cases b : c ≤ 57
    · go_enter Tryf.func7, Tryf.ntmps7
      go_wp2
      go_ret
      exact ⟨ret_int (by unfold nib; rw [if_pos ⟨a, b⟩]), rfl⟩
    · by_cases d : 97 ≤ c
      · by_cases f : c ≤ 102
        · go_enter Tryf.func7, Tryf.ntmps7
          go_wp2
          go_ret
          exact ⟨ret_int (by unfold nib; rw [if_neg (by omega), if_pos ⟨d, f⟩]; omega), rfl⟩
        · go_enter Tryf.func7, Tryf.ntmps7
          go_wp2
          go_ret
          exact ⟨ret_int (by unfold nib; rw [if_neg (by omega), if_neg (by omega)]), rfl⟩
      · go_enter Tryf.func7, Tryf.ntmps7
        go_wp2
        go_ret
        exact ⟨ret_int (by unfold nib; rw [if_neg (by omega), if_neg (by omega)]), rfl⟩
  · go_enter Tryf.func7, Tryf.ntmps7
    go_wp2
    go_ret
    exact ⟨ret_int (by unfold nib; rw [if_neg (by omega), if_neg (by omega)]), rfl⟩

end Go.Proofs.Qxb6626250aFmt
