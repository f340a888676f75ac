import Derived.Test.Qxb6608683aOwn
import Derived.Test.Qxb6608683aHeld
namespace Go.Proofs.Qxb6608683a
open Go.RowKit
set_option linter.unusedVariables false
set_option linter.unusedSimpArgs false

theorem idx22 (w : World) (b off n c k : Nat) (hk : k < n) (hn : n ≤ 1048576) : (Instr.indexAt 22 (.slice (some ⟨b, off, none⟩) n c) (.int .i64 k)).run Try.prog w = .ok (.pointer (some ⟨b, off + k * 2, none⟩)) w := by
  go_simp
theorem fld0 (w : World) (b o : Nat) : (Instr.fieldAt 31 (.pointer (some ⟨b, o, none⟩)) 0).run Try.prog w = .ok (.pointer (some ⟨b, o, none⟩)) w := by
  go_simp
theorem fld1 (w : World) (b o : Nat) : (Instr.fieldAt 31 (.pointer (some ⟨b, o, none⟩)) 1).run Try.prog w = .ok (.pointer (some ⟨b, o + 1, none⟩)) w := by
  go_simp
theorem load9 (w : World) (b o : Nat) (s : ByteArray) (h : w.cell? ⟨b, o, none⟩ = some (.string s)) : (Instr.loadAt 9 (.pointer (some ⟨b, o, none⟩))).run Try.prog w = .ok (.string s) w := by
  go_simp
theorem build35 (w : World) (x y : ByteArray) : (Instr.build 35 #[(0, .string x), (1, .string y)]).run Try.prog w = .ok (.agg #[.string x, .string y]) w := by
  go_simp
end Go.Proofs.Qxb6608683a
