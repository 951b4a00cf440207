/- The language's comparison of two ints, as far as equal goes. -/
import Derived.Test.YtbdnmfabmdbamaaBigCmp
import Derived.Test.YtbdnmfabmdbamaaOrder
namespace Go.Proofs.Ytbdnmfabmdbamaa
open Go.RowKit
theorem sg_posw (x : Int) (h0 : 0 < x) (h1 : x < 9223372036854775807) : wrap64 (bits .or .u64 (x / 9223372036854775808) (IntKind.u64.wrap (-x) / 9223372036854775808)) = 1 := by
  have e1 : x / 9223372036854775808 = 0 := by omega
  have e2 : IntKind.u64.wrap (-x) / 9223372036854775808 = 1 := by
    have h : IntKind.u64.wrap (-x) = 18446744073709551616 - x := by
      simp [IntKind.wrap, IntKind.bits, IntKind.signed]
      omega
    rw [h]; omega
  rw [e1, e2]
  decide +kernel
theorem sg_negw (x : Int) (h0 : x < 0) (h1 : -9223372036854775807 ≤ x) : wrap64 (bits .or .u64 (IntKind.u64.wrap (x / 9223372036854775808)) (-x / 9223372036854775808)) = -1 := by
  have e1 : x / 9223372036854775808 = -1 := by omega
  have e2 : -x / 9223372036854775808 = 0 := by omega
  rw [e1, e2]
  decide +kernel
theorem signum_wide (x : Int) (h0 : x < 5000000000) (h1 : -5000000000 ≤ x) (w : World) :
    Calls Try.prog 56 #[.int .i64 x] w (IntPost (sgn x) w) := by
  by_cases hn : x < 0
  · have HS : Hid (sgn x = -1) := by unfold Hid sgn; rw [if_pos hn]
    have HV := Lib.hid (sg_negw x hn (by omega))
    go_enter Try.func56, Try.ntmps56
    go_wp2
    go_ret
    exact ⟨ret_int (by rw [HS.out]; exact HV.out), rfl⟩
  · by_cases hz : x = 0
    · subst hz
      exact signum_any 0 (by omega) (by omega) w
    · have HS : Hid (sgn x = 1) := by unfold Hid sgn; rw [if_neg hn, if_neg hz]
      have hp : 0 < x := by omega
      have HV := Lib.hid (sg_posw x hp (by omega))
      clear hn hz
      go_enter Try.func56, Try.ntmps56
      go_wp2
      go_ret
      exact ⟨ret_int (by rw [HS.out]; exact HV.out), rfl⟩
theorem sgn_zero {x y : Int} : sgn (x - y) = 0 ↔ x = y := by
  unfold sgn
  split
  · constructor
    · intro h; simp at h
    · intro h; omega
  · split <;> constructor <;> intro h <;> (first | omega | simp at h)
@[go_sem] theorem Try.assertInt (v : Value) (w : World) : (Instr.typeAssert (.iface 56 v) 91 56 false).run Try.prog w = .ok v w := by kernel_rfl
def StarCmpPost (n m : Int) (w : World) (e : Ending) (w' : World) : Prop := ∃ r : Int, e = .returned (.tuple #[.int .i64 r, .nilIface]) ∧ (r = 0 ↔ n = m) ∧ Below w.heap.size w w'
theorem cmp_apart {w w2 w3 : World} {t : TypeId} {x1 x2 : Int} {p1 p2 : Option Addr} {g1 g2 : Nat} {n1 : Bool} {xs : List Nat}
    (hne : ∀ b, p1 = some ⟨b, 0, none⟩ → p2 ≠ some ⟨b, 0, none⟩) (h1 : ∀ b, p1 = some ⟨b, 0, none⟩ → b < w.heap.size) (h2 : ∀ b, p2 = some ⟨b, 0, none⟩ → b < w.heap.size)
    (c2 : Below (w.heap.size + 1 + 1) ((w.alloc (.cells #[.int .i64 x1, .pointer p1] t)).alloc (.cells #[.int .i64 x2, .pointer p2] t)) w2)
    (hb : BigI w3 0 g1 n1 xs) (hg1 : w2.drew.heap.size ≤ g1 ∨ Value.agg #[.int .i64 x1, .pointer p1] = .agg #[.int .i64 0, .pointer (some ⟨g1, 0, none⟩)])
    (hg2 : w3.heap.size ≤ g2 ∨ Value.agg #[.int .i64 x2, .pointer p2] = .agg #[.int .i64 0, .pointer (some ⟨g2, 0, none⟩)]) : g1 ≠ g2 := by
  intro e
  subst e
  rcases hg2 with hg2 | hg2
  · have := hb.blk; omega
  · have e2 : p2 = some ⟨g1, 0, none⟩ := by
      simp at hg2; exact hg2.2
    rcases hg1 with hg1 | hg1
    · have a := h2 _ e2
      have b := c2.size
      have c : w2.heap.size ≤ g1 := hg1
      simp at b
      omega
    · have e1 : p1 = some ⟨g1, 0, none⟩ := by
        simp at hg1; exact hg1.2
      exact hne _ e1 e2
theorem si_ptr {w : World} {B : Nat} {x : Int} {p : Option Addr} {n : Int} (hv : SI w B (.agg #[.int .i64 x, .pointer p]) n) : ∀ b, p = some ⟨b, 0, none⟩ → b < w.heap.size := fun b h => by
  rcases hv with ⟨_, e⟩ | ⟨_, b', _, _, e, _, hbi, _⟩
  · subst h; simp at e
  · subst h; simp at e; rw [e.2]; exact hbi.blk
theorem cmp_iff (n m : Int) (n1 n2 : Bool) (xs ys : List Nat) (W : World) (c1 c2 : Nat) (k1 : BigI W 0 c1 n1 xs) (k2 : BigI W 0 c2 n2 ys) (h1 : valI n1 xs = n) (h2 : valI n2 ys = m) : bigR n1 n2 xs ys = 0 ↔ n = m := by
  obtain ⟨_, _, how1, ht1, hg1, _⟩ := k1
  obtain ⟨_, _, how2, ht2, hg2, _⟩ := k2
  rw [← h1, ← h2]
  exact bigR_eq how1.2 how2.2 ht1 ht2 hg1 hg2
theorem two_size {w W' : World} {t : TypeId} {a b c d : Value} (h : Below (w.heap.size + 1 + 1) ((w.alloc (.cells #[a, b] t)).alloc (.cells #[c, d] t)) W') : w.heap.size + 1 + 1 ≤ W'.heap.size := by
  have := h.size
  simpa using this
theorem four_of {w W' : World} {t : TypeId} {a b c d : Value} (h : Below (w.heap.size + 1 + 1) ((w.alloc (.cells #[a, b] t)).alloc (.cells #[c, d] t)) W') :
    W'.cell? ⟨w.heap.size, 0, none⟩ = some a ∧ W'.cell? ⟨w.heap.size, 1, none⟩ = some b ∧ W'.cell? ⟨w.heap.size + 1, 0, none⟩ = some c ∧ W'.cell? ⟨w.heap.size + 1, 1, none⟩ = some d := by
  obtain ⟨⟨d0, d1, _, _⟩, ⟨d2, d3, _, _⟩, _⟩ := two_boxes h
  exact ⟨d0, d1, d2, d3⟩
end Go.Proofs.Ytbdnmfabmdbamaa
