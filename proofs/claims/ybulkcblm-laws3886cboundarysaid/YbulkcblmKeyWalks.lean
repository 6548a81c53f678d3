import Derived.Test.YbulkcblmRows
import Derived.WalkKit
import Derived.WalkSpells
import Derived.WalkLawsBesides
namespace Go.Proofs.Ybulkcblm.KeyWalks
open Go.RowKit

/-- CheckKey of the empty key. -/
theorem key_none (s : ByteArray) (w : World) (h : s.size = 0) :
    Calls Yba.prog 6 #[.string s] w fun e w' => e = .returned (.iface 29 (.pointer (some ⟨w.heap.size, 0, none⟩))) ∧ w' = w.alloc (.cells #[.string s, .int .i64 0] 33) := by
  have h0 : ((s.size : Int) == 0) = true := by simp [h]
  clear h
  go_enter Yba.func6, Yba.ntmps6
  go_wp2
  go_ret
  exact ⟨rfl, rfl⟩

theorem key_long (s : ByteArray) (w : World) (h : 250 < s.size) (hm : s.size ≤ maxLen) :
    Calls Yba.prog 6 #[.string s] w fun e w' => e = .returned (.iface 29 (.pointer (some ⟨w.heap.size, 0, none⟩))) ∧ w' = w.alloc (.cells #[.string s, .int .i64 1] 33) := by
  unfold maxLen at hm
  have h0 : ((s.size : Int) == 0) = false := beq_eq_false_iff_ne.2 (by omega)
  go_enter Yba.func6, Yba.ntmps6
  go_wp2
  go_ret
  exact ⟨rfl, rfl⟩

theorem key_good (s : ByteArray) (w : World) (h0 : 0 < s.size) (h : s.size ≤ 250) :
    Calls Yba.prog 6 #[.string s] w fun e w' => e = .returned .nilIface ∧ w' = w := by
  have h0 : ((s.size : Int) == 0) = false := beq_eq_false_iff_ne.2 (by omega)
  go_enter Yba.func6, Yba.ntmps6
  go_wp2
  go_ret
  exact ⟨rfl, rfl⟩

theorem assert_yes (v : Value) (w : World) : (Instr.typeAssert (.iface 29 v) 24 29 true).run Yba.prog w = .ok (.tuple #[v, .bool true]) w := by kernel_rfl

theorem check_none (s : ByteArray) (b : Nat) (w : World) (h : s.size = 0)
    (c0 : w.cell? ⟨b, 0, none⟩ = some (.string s)) (c1 : w.cell? ⟨b, 1, none⟩ = some (.int .i64 0)) :
    Calls Yba.prog 5 #[.string s, .iface 29 (.pointer (some ⟨b, 0, none⟩))] w fun e w' => e = .returned (.bool true) ∧ w' = w := by
  have h0 : ((s.size : Int) == 0) = true := by simp [h]
  clear h
  have hta := assert_yes
  go_enter Yba.func5, Yba.ntmps5
  go_wp2
  go_ret
  exact ⟨rfl, rfl⟩

theorem check_long (s : ByteArray) (b : Nat) (w : World) (h : 250 < s.size) (hm : s.size ≤ maxLen)
    (c0 : w.cell? ⟨b, 0, none⟩ = some (.string s)) (c1 : w.cell? ⟨b, 1, none⟩ = some (.int .i64 1)) :
    Calls Yba.prog 5 #[.string s, .iface 29 (.pointer (some ⟨b, 0, none⟩))] w fun e w' => e = .returned (.bool true) ∧ w' = w := by
  unfold maxLen at hm
  have h0 : ((s.size : Int) == 0) = false := beq_eq_false_iff_ne.2 (by omega)
  have hta := assert_yes
  go_enter Yba.func5, Yba.ntmps5
  go_wp2
  go_ret
  exact ⟨rfl, rfl⟩

theorem check_good (s : ByteArray) (w : World) (h0 : 0 < s.size) (h : s.size ≤ 250) :
    Calls Yba.prog 5 #[.string s, .nilIface] w fun e w' => e = .returned (.bool true) ∧ w' = w := by
  have h0 : ((s.size : Int) == 0) = false := beq_eq_false_iff_ne.2 (by omega)
  go_enter Yba.func5, Yba.ntmps5
  go_wp2
  go_ret
  exact ⟨rfl, rfl⟩

end Go.Proofs.Ybulkcblm.KeyWalks
