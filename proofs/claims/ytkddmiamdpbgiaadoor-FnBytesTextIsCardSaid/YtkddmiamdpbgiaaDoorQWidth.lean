/- A byte beyond ASCII that the decoder takes alone is the mark of a bad one. -/
import Derived.Test.YtkddmiamdpbgiaaDoorValid
import Derived.Laws.RangeAny
namespace Go.Proofs.YtkddmiamdpbgiaaDoor
theorem high_one (s : ByteArray) (pos : Nat) (h : pos < s.size) (ha : 128 ≤ (s[pos]'h).toNat) : (Utf8.decode s pos).2 = 1 → (Utf8.decode s pos).1 = 65533 := by
  have hn : ¬ (s[pos]'h).toNat < 128 := by omega
  simp only [Utf8.decode, get_at s pos h, hn, if_false]
  repeat' split
  all_goals simp_all [Utf8.runeError]
end Go.Proofs.YtkddmiamdpbgiaaDoor
