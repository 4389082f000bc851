/-
  Seat b6613108aF. THE CLOSED FACTS FOR A WALK OVER fmt.Sprintf's STOP at this dump (after the worked ..Fmt texts of the guide), and what the format gives where there is no operand.
-/
import Derived.Test.Qxb6613108aFmtRows
import Derived.Stop.CallBack
import Derived.Stop.IfaceNil
import GoSem.ClaimData
namespace Go.Proofs.Qxb6613108aFmt
open Go.Extern.Stop Go.Stop Go.Extern

@[go_sem] theorem Tryf.call11 (args : Array Value) (w : World) : (callFunc 11 args).run Tryf.prog w = (FmtCalls.sprintf #[9, 30] #[9] args).run Tryf.prog w :=
  run_callFunc_next Tryf.func11 (by kernel_rfl) (by kernel_rfl) (by kernel_rfl) args w
@[go_sem] theorem Tryf.guard (name : String) (w : World) : (FmtStop.guard name).run Tryf.prog w = .ok () w := by kernel_rfl
theorem Tryf.nextTurns : Extern.next FmtCalls.turnsRow = some (FmtCalls.begun #[] #[]) := by kernel_rfl

/-- tooLong's own format. -/
def longFormat : ByteArray := ⟨#[37, 115, 39, 115, 32, 74, 83, 79, 78, 32, 116, 101, 120, 116, 32, 105, 115, 32, 108, 111, 110, 103, 101, 114, 32, 116, 104, 97, 110, 32, 116, 104, 101, 32, 37, 100, 32, 98, 121, 116, 101, 115, 32, 105, 116, 32, 109, 97, 121, 32, 116, 97, 107, 101]⟩
@[go_sem] theorem Tryf.fmtLong : FmtStop.printed? ⟨#[37, 115, 39, 115, 32, 74, 83, 79, 78, 32, 116, 101, 120, 116, 32, 105, 115, 32, 108, 111, 110, 103, 101, 114, 32, 116, 104, 97, 110, 32, 116, 104, 101, 32, 37, 100, 32, 98, 121, 116, 101, 115, 32, 105, 116, 32, 109, 97, 121, 32, 116, 97, 107, 101]⟩ 2 = some [(0, 115, false), (1, 100, false)] := by kernel_rfl

-- type 9: string
def Tryf.shape9 : List UInt8 := [12, 6, 0, 0, 0, 0, 0, 0, 0, 115, 116, 114, 105, 110, 103]
@[go_sem] theorem Tryf.act9_115 (name : String) (x : Value) (w : World) : (FmtCalls.act name false 115 false (.iface 9 x)).run Tryf.prog w = .ok (.closed false) w := by kernel_rfl
@[go_sem] theorem Tryf.op9_115 (name : String) (x : ByteArray) (w : World) : (FmtStop.operand name false 115 false (.iface 9 (.string x))).run Tryf.prog w = .ok (Tryf.shape9, FmtStop.pack x.data.toList) w := by kernel_rfl
-- type 3: int
def Tryf.shape3 : List UInt8 := [5, 3, 0, 0, 0, 0, 0, 0, 0, 105, 110, 116]
@[go_sem] theorem Tryf.act3_100 (name : String) (x : Value) (w : World) : (FmtCalls.act name false 100 false (.iface 3 x)).run Tryf.prog w = .ok (.closed false) w := by kernel_rfl
@[go_sem] theorem Tryf.op3_100 (name : String) (x : Int) (w : World) : (FmtStop.operand name false 100 false (.iface 3 (.int .i64 x))).run Tryf.prog w = .ok (Tryf.shape3, Go.Extern.Stop.digits 8 (x % 2 ^ 64).toNat) w := by kernel_rfl

/-! ### No operand: whatever the format, no operand is asked for -/
theorem walk_zero (fuel : Nat) : ∀ (k : Nat) (l : List UInt8), FmtDoors.walk 0 fuel k l [] = none ∨ ∃ j, FmtDoors.walk 0 fuel k l [] = some ([], j) := by
  induction fuel with
  | zero => intro k l; exact Or.inl (by cases l <;> rfl)
  | succ fuel ih =>
    intro k l
    cases l with
    | nil => exact Or.inr ⟨k, rfl⟩
    | cons c r =>
      unfold FmtDoors.walk
      split
      · exact ih _ _
      · dsimp only
        split
        · exact Or.inl rfl
        · split
          · exact Or.inl rfl
          · exact Or.inr ⟨k, rfl⟩
          · split
            · exact Or.inl rfl
            · rw [if_pos (by simp)]
              exact ih _ _
theorem printed_zero (f : ByteArray) : FmtStop.printed? f 0 = none ∨ FmtStop.printed? f 0 = some [] := by
  unfold FmtStop.printed?
  rcases walk_zero (f.size + 1) 0 f.data.toList with h | ⟨j, h⟩
  · exact Or.inl (by rw [h]; rfl)
  · exact Or.inr (by rw [h]; simp)
end Go.Proofs.Qxb6613108aFmt
