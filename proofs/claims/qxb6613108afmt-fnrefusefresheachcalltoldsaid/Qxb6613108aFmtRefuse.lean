/-
  Seat b6613108aF. THE CALLEES BY CONTRACT: refuse (10) with no operand and with tooLong's two, ZZrefuse (7), tooLong (9), ZZtooLong (6), and the two length bounds (5, 8). For every text that fmt may give.
-/
import Derived.Test.Qxb6613108aFmtFacts
import Derived.WalkKit
import Derived.WalkSpells
import Derived.LaidEqlPtr
namespace Go.Proofs.Qxb6613108aFmt
open Go.RowKit Go.Extern.Stop Go.Stop Go.Extern

set_option maxHeartbeats 800000 in
theorem refuse_none (F : Interp) (code f : ByteArray) (w : World) (hF : F.answers w.tape) :
    Calls Tryf.prog 10 #[.string code, .string f, .slice none 0 0] w fun e w' => ∃ m : ByteArray,
      e = .returned (.pointer (some ⟨w.heap.size, 0, none⟩)) ∧ w' = (w.alloc (.cells #[.string code, .string m, .string ⟨#[]⟩] 28)).drew := by
  have hF' := answers_open hF
  rcases printed_zero f with hp | hp
  · go_enter Tryf.func10, Tryf.ntmps10
    go_wp2
    go_ret
    exact ⟨_, rfl, rfl⟩
  · go_enter Tryf.func10, Tryf.ntmps10
    go_wp2
    apply rows_value Tryf.nextTurns
    case hr =>
      go_simp
      exact ⟨rfl, rfl⟩
    case h =>
      go_wp2
      go_ret
      exact ⟨_, rfl, rfl⟩

set_option maxHeartbeats 800000 in
theorem refuse_long (F : Interp) (code s : ByteArray) (blk : Nat) (w : World) (hF : F.answers w.tape)
    (hc0 : w.cell? ⟨blk, 0, none⟩ = some (.iface 9 (.string s))) (hc1 : w.cell? ⟨blk, 1, none⟩ = some (.iface 3 (.int .i64 25165824))) :
    Calls Tryf.prog 10 #[.string code, .string ⟨#[37, 115, 39, 115, 32, 74, 83, 79, 78, 32, 116, 101, 120, 116, 32, 105, 115, 32, 108, 111, 110, 103, 101, 114, 32, 116, 104, 97, 110, 32, 116, 104, 101, 32, 37, 100, 32, 98, 121, 116, 101, 115, 32, 105, 116, 32, 109, 97, 121, 32, 116, 97, 107, 101]⟩, .slice (some ⟨blk, 0, none⟩) 2 2] w fun e w' => ∃ m : ByteArray,
      e = .returned (.pointer (some ⟨w.heap.size, 0, none⟩)) ∧ w' = (w.alloc (.cells #[.string code, .string m, .string ⟨#[]⟩] 28)).drew := by
  have hF' := answers_open hF
  go_enter Tryf.func10, Tryf.ntmps10
  go_wp2
  apply rows_value Tryf.nextTurns
  case hr =>
    go_simp
    exact ⟨rfl, rfl⟩
  case h =>
    go_wp2
    go_ret
    exact ⟨_, rfl, rfl⟩

/-- ZZrefuse. -/
theorem zrefuse_any (F : Interp) (code f : ByteArray) (w : World) (hF : F.answers w.tape) :
    Calls Tryf.prog 7 #[.string code, .string f] w fun e w' => ∃ m : ByteArray,
      e = .returned (.pointer (some ⟨w.heap.size, 0, none⟩)) ∧ w' = (w.alloc (.cells #[.string code, .string m, .string ⟨#[]⟩] 28)).drew := by
  go_enter Tryf.func7, Tryf.ntmps7
  go_wp2_with (go_at_call 10; refine (refuse_none F code f _ hF).mono ?_; rintro e w' ⟨m, rfl, rfl⟩)
  go_ret
  exact ⟨m, rfl, rfl⟩

/-- tooLong: the variadic block, then the refusal. -/
theorem long_any (F : Interp) (s : ByteArray) (w : World) (hF : F.answers w.tape) :
    Calls Tryf.prog 9 #[.string s] w fun e w' => ∃ (o : Obj) (m : ByteArray),
      e = .returned (.pointer (some ⟨w.heap.size + 1, 0, none⟩)) ∧ w' = ((w.alloc o).alloc (.cells #[.string ⟨#[105, 110, 118, 97, 108, 105, 100, 95, 111, 114, 100, 101, 114]⟩, .string m, .string ⟨#[]⟩] 28)).drew := by
  go_enter Tryf.func9, Tryf.ntmps9
  go_wp2_with fail
  refine (refuse_long F _ s w.heap.size (w.alloc (.cells #[.iface 9 (.string s), .iface 3 (.int .i64 25165824)] 20)) (by exact hF) (by simp [go_sem]) (by simp [go_sem])).mono ?_
  rintro e w' ⟨m, rfl, rfl⟩
  go_wp2
  go_ret
  exact ⟨_, m, rfl, rfl⟩

/-- ZZtooLong. -/
theorem zlong_any (F : Interp) (s : ByteArray) (w : World) (hF : F.answers w.tape) :
    Calls Tryf.prog 6 #[.string s] w fun e w' => ∃ (o : Obj) (m : ByteArray),
      e = .returned (.pointer (some ⟨w.heap.size + 1, 0, none⟩)) ∧ w' = ((w.alloc o).alloc (.cells #[.string ⟨#[105, 110, 118, 97, 108, 105, 100, 95, 111, 114, 100, 101, 114]⟩, .string m, .string ⟨#[]⟩] 28)).drew := by
  go_enter Tryf.func6, Tryf.ntmps6
  go_wp2_with (go_at_call 9; refine (long_any F s _ hF).mono ?_; rintro e w' ⟨o, m, rfl, rfl⟩)
  go_ret
  exact ⟨o, m, rfl, rfl⟩

/-- The bound on the lengths (5). -/
theorem bytes5_true (a b c : ByteArray) (w : World) (h : a.size + b.size + c.size ≤ 1048576) :
    Calls Tryf.prog 5 #[.string a, .string b, .string c] w fun e w' => e = .returned (.bool true) ∧ w' = w := by
  go_enter Tryf.func5, Tryf.ntmps5
  go_wp2
  all_goals (go_ret; exact ⟨rfl, rfl⟩)
theorem bytes5_false (a b c : ByteArray) (w : World) (h : 1048576 < a.size + b.size + c.size) :
    Calls Tryf.prog 5 #[.string a, .string b, .string c] w fun e w' => e = .returned (.bool false) ∧ w' = w := by
  go_enter Tryf.func5, Tryf.ntmps5
  go_wp2
  all_goals (go_ret; exact ⟨rfl, rfl⟩)
/-- The bound on the lengths (8). -/
theorem bytes8_true (a b c : ByteArray) (w : World) (h : a.size + b.size + c.size ≤ 1048576) :
    Calls Tryf.prog 8 #[.string a, .string b, .string c] w fun e w' => e = .returned (.bool true) ∧ w' = w := by
  go_enter Tryf.func8, Tryf.ntmps8
  go_wp2
  all_goals (go_ret; exact ⟨rfl, rfl⟩)
theorem bytes8_false (a b c : ByteArray) (w : World) (h : 1048576 < a.size + b.size + c.size) :
    Calls Tryf.prog 8 #[.string a, .string b, .string c] w fun e w' => e = .returned (.bool false) ∧ w' = w := by
  go_enter Tryf.func8, Tryf.ntmps8
  go_wp2
  all_goals (go_ret; exact ⟨rfl, rfl⟩)

/-! ### Two pointers to two blocks of the call's own differ -/
theorem heap_new (w : World) (o : Obj) : (w.alloc o).heap[w.heap.size]? = some o := by
  show (w.heap.push o)[w.heap.size]? = some o
  simp
theorem heap_at (w : World) (o : Obj) (k : Nat) (h : k = w.heap.size) : (w.alloc o).heap[k]? = some o := by rw [h]; exact heap_new w o
theorem heap_old (w : World) (o : Obj) (k : Nat) (h : k < w.heap.size) : (w.alloc o).heap[k]? = w.heap[k]? := by
  show (w.heap.push o)[k]? = _
  rw [Array.getElem?_push, if_neg (by omega)]
theorem Tryf.size28 : (Tryf.prog.info? 28).map (·.size) = some 3 := by kernel_rfl
theorem eql_other (w : World) (i j : Nat) (hij : i ≠ j) (ca cb : Array Value) (ha : w.heap[i]? = some (.cells ca 28 (0, 0))) (hb : w.heap[j]? = some (.cells cb 28 (0, 0))) :
    (binOp .eql 23 (.pointer (some ⟨i, 0, none⟩)) (.pointer (some ⟨j, 0, none⟩))).run Tryf.prog w = .ok (.bool false) w := by
  obtain ⟨t, ht, hs⟩ := Option.map_eq_some_iff.1 Tryf.size28
  exact run_eql_ptr_other w Tryf.underlying23 ht (by rw [hs]; decide) (by intro e; injection e with e1; exact hij e1) ha hb
end Go.Proofs.Qxb6613108aFmt
