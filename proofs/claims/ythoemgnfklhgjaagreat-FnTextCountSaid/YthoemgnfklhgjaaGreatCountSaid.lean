/- The law's walk, with its parameters in the row's order. -/
import Derived.Test.YthoemgnfklhgjaaGreatCountLaw
import Derived.Test.YthoemgnfklhgjaaGreatOpenVal
namespace Go.Proofs.YthoemgnfklhgjaaGreat
open Go.RowKit
theorem count_said (s t : ByteArray) (k1 : Int) (n1 : Bool) (a1 : Option Addr) (m1 c1 : Nat) (b1 : Int) (x1 : ByteArray) (ka1 : Option Addr) (kn1 kc1 : Nat) (l1 : List Nat) (k2 : Int) (n2 : Bool) (a2 : Option Addr) (m2 c2 : Nat) (b2 : Int) (x2 : ByteArray) (ka2 : Option Addr) (kn2 kc2 : Nat) (l2 : List Nat) (w : World)
    (hs : s.size ≤ maxLen) (ht : t.size ≤ maxLen) (h1 : ValIn w a1 m1 c1 l1) (h2 : ValIn w a2 m2 c2 l2) :
    Calls Tryz.prog 3 #[.string s, .string t, pv k1 n1 a1 m1 c1 b1 x1 ka1 kn1 kc1, pv k2 n2 a2 m2 c2 b2 x2 ka2 kn2 kc2] w fun e w' => e = .returned (.bool true) ∧ Below w.heap.size w w' :=
  count_law s t k1 k2 n1 n2 a1 a2 m1 m2 c1 c2 b1 b2 x1 x2 ka1 ka2 kn1 kn2 kc1 kc2 l1 l2 w hs ht h1.1 h2.1 h1.2 h2.2
end Go.Proofs.YthoemgnfklhgjaaGreat
