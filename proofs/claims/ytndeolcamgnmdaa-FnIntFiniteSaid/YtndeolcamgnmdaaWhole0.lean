/- The first bytes of a slice. -/
import Derived.Test.YtndeolcamgnmdaaTold0
namespace Go.Proofs.Ytndeolcamgnmdaa
open Go.RowKit
/-- v[:k] -/
theorem slice_to (w : World) (a : Option Addr) (n cap k : Nat) (hk : k ≤ cap) :
    (Instr.slice 22 (.slice a n cap) none (some (.int .i64 (k : Int))) none).run Try.prog w = .ok (.slice (if cap = 0 then a else a.map (·.add (0 * 1))) k cap) w := by
  simp [Instr.slice, run_underlying Try.underlying22, Instr.sliceBounds, Instr.sliceBound, asIntOf, hk, Try.sizeOf5]
theorem BSl.to {w : World} {a : Option Addr} {n cap : Nat} {l : List Nat} (h : BSl w (.slice a n cap) l) (k : Nat) (hk : k ≤ n) : BSl w (.slice (if cap = 0 then a else a.map (·.add (0 * 1))) k cap) (l.take k) := by
  obtain ⟨a', cap', hv, h1, h2, h3, h4, h5⟩ := h
  injection hv with e1 e2 e3
  subst e1 e2 e3
  have hl : (l.take k).length = k := by simp; omega
  refine ⟨if cap = 0 then a else a.map (·.add (0 * 1)), cap, by rw [hl], by rw [hl]; omega, h2, fun x hx => h3 x (List.mem_of_mem_take hx), fun hn => ?_, fun p hp j hj => ?_⟩
  · split at hn
    · obtain ⟨e, e2⟩ := h4 hn
      exact ⟨by simp [e], e2⟩
    · rw [Option.map_eq_none_iff] at hn
      obtain ⟨e, e2⟩ := h4 hn
      exact ⟨by simp [e], e2⟩
  · have hj' : j < l.length := by omega
    split at hp
    · rw [h5 p hp j hj']; simp
    · obtain ⟨q, rfl, rfl⟩ := Option.map_eq_some_iff.1 hp
      rw [Addr.add_add, Nat.zero_mul, Nat.zero_add, h5 q rfl j hj']
      simp
end Go.Proofs.Ytndeolcamgnmdaa
