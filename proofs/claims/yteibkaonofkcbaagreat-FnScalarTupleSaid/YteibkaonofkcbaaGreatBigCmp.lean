/- math/big's comparison of two integers; the integer of a small number; the language's. -/
import Derived.Test.YteibkaonofkcbaaGreatTupJoinI
set_option linter.unusedSimpArgs false
set_option linter.unusedVariables false
namespace Go.Proofs.YteibkaonofkcbaaGreat
open Go.RowKit
theorem run_eql_ptr_other {P : Program} (w : World) {tp te : TypeId} {j : TypeInfo} {a b : Addr} {ca cb : Array Value} {ta tb : TypeId} (hp : P.underlying tp = some (.pointer te)) (hte : P.info? te = some j) (hsz : j.size ≠ 0)
    (hne : a ≠ b) (ha : w.heap[a.block]? = some (.cells ca ta (0, 0))) (hb : w.heap[b.block]? = some (.cells cb tb (0, 0))) :
    (binOp .eql tp (.pointer (some a)) (.pointer (some b))).run P w = .ok (.bool false) w := by
  have h : ∀ d : Nat, (Op.equalIn (d + 1) tp (.pointer (some a)) (.pointer (some b))).run P w = .ok false w := fun d => by
    simp [Op.equalIn, run_underlying hp, sizeOf, typeInfo, hte, hsz, run_sameAddr_other w hne ha hb]
  simp only [binOp]
  simp [Op.equal, Op.maxDepth, h 9999]
def bigR (n1 n2 : Bool) (xs ys : List Nat) : Int := if n1 = n2 then (if n1 then -cmpN xs ys else cmpN xs ys) else (if n1 then -1 else 1)
theorem topNZ_len {xs ys : List Nat} (hx : TopNZ xs) (by' : ∀ y ∈ ys, y < W64) (h : valW xs = valW ys) : xs.length ≤ ys.length := by
  by_cases h0 : xs = []
  · subst h0; simp
  · obtain ⟨init, last, rfl⟩ : ∃ init last, xs = init ++ [last] := ⟨xs.dropLast, xs.getLast h0, (List.dropLast_concat_getLast h0).symm⟩
    have hl0 : last ≠ 0 := by unfold TopNZ at hx; simpa using hx
    have h1 := valW_top init last hl0
    have h2 := valW_lt ys by'
    rw [h] at h1
    have h3 := (Nat.pow_lt_pow_iff_right (a := W64) (by unfold W64; omega)).1 (Nat.lt_of_le_of_lt h1 h2)
    simp; omega
theorem bigR_eq {n1 n2 : Bool} {xs ys : List Nat} (bx : ∀ x ∈ xs, x < W64) (by' : ∀ y ∈ ys, y < W64) (hx : TopNZ xs) (hy : TopNZ ys) (h1 : n1 = true → xs ≠ []) (h2 : n2 = true → ys ≠ []) : bigR n1 n2 xs ys = 0 ↔ valI n1 xs = valI n2 ys := by
  have hm : xs = ys ↔ valW xs = valW ys := ⟨fun e => by rw [e], fun e => valW_inj xs ys (Nat.le_antisymm (topNZ_len hx by' e) (topNZ_len hy bx e.symm)) bx by' e⟩
  have hz : ∀ {l : List Nat}, TopNZ l → l ≠ [] → 0 < valW l := fun {l} ht h => by
    obtain ⟨init, last, rfl⟩ : ∃ init last, l = init ++ [last] := ⟨l.dropLast, l.getLast h, (List.dropLast_concat_getLast h).symm⟩
    have hl0 : last ≠ 0 := by unfold TopNZ at ht; simpa using ht
    have h1 := valW_top init last hl0
    have h2 : 0 < W64 ^ init.length := Nat.pow_pos W64_pos
    omega
  have hc := cmpN_eq xs ys
  unfold bigR valI
  cases n1 <;> cases n2
  · simp [hc, hm]; omega
  · have := hz hy (h2 rfl)
    simp; omega
  · have := hz hx (h1 rfl)
    simp; omega
  · simp [hc, hm]; omega
theorem cmp_quiet {P : Program} {f : FuncId} {args : Array Value} {w : World} {a n : Nat} {v : Value} (h : ∀ W', (∃ q, W' = w.drewN q) → Calls P f args W' fun e w' => e = .returned v ∧ ∃ m, w' = W'.drewN m) :
    Calls P f args (w.drewN (a + n)) fun e w'' => e = .returned v ∧ ∃ m, w'' = w.drewN (a + m) :=
  (h _ ⟨a + n, rfl⟩).mono fun _ _ hh => ⟨hh.1, by obtain ⟨_, m, rfl⟩ := hh; exact ⟨n + m, by rw [World.drewN_drewN, Nat.add_assoc]⟩⟩
def NewPost (x : Int) (w : World) (e : Ending) (w' : World) : Prop := ∃ b neg ws, e = .returned (.pointer (some ⟨b, 0, none⟩)) ∧ w.heap.size ≤ b ∧ BigI w' 0 b neg ws ∧ valI neg ws = x ∧ Below w.heap.size w w'
theorem ow_one (w : World) (m : Nat) (hm : m < W64) : OW (w.alloc (.cells #[.int .u64 (m : Int)] 158)) 0 (.slice (some ⟨w.heap.size, 0, none⟩) 1 1) [m] :=
  ⟨⟨rfl, .inr ⟨w.heap.size, 1, _, rfl, Nat.zero_le _, heap_alloc_new w _, Nat.le_refl _, by unfold maxLen; omega, rfl, rfl⟩⟩, by simpa using hm⟩
theorem big_one (w : World) (neg : Bool) (m : Nat) (hm : m < W64) (hm0 : m ≠ 0) : BigI ((w.alloc (.cells #[.int .u64 (m : Int)] 158)).alloc (.cells #[.bool neg, .slice (some ⟨w.heap.size, 0, none⟩) 1 1] 136)) 0 (w.heap.size + 1) neg [m] :=
  ⟨_, Blk.new_at (w.alloc (.cells #[.int .u64 (m : Int)] 158)) 136 #[.bool neg, .slice (some ⟨w.heap.size, 0, none⟩) 1 1] (n := w.heap.size + 1) (by simp), (ow_one w m hm).below ((Below.refl _ _).alloc (Nat.le_refl _) _), by unfold TopNZ; simpa using hm0, by simp, by simp⟩
theorem big_zero (w : World) : BigI (w.alloc (.cells #[.bool false, .slice none 0 0] 136)) 0 w.heap.size false [] :=
  ⟨_, Blk.new w 136 #[.bool false, .slice none 0 0], ow_nil _ _, by simp [TopNZ], by simp, by simp⟩
theorem new_int (x : Int) (h0 : -2147483648 ≤ x) (h1 : x < 2147483648) (w : World) :
    Calls Tryz.prog 86 #[.int .i64 x] w (NewPost x w) := by
  by_cases hn : x < 0
  · obtain ⟨m, hm⟩ : ∃ m : Nat, x = -(m : Int) := ⟨(-x).toNat, by omega⟩
    have hm0 : m ≠ 0 := by omega
    have hm1 : m < W64 := by unfold W64; omega
    have hu : IntKind.u64.wrap (-(m : Int)) = 18446744073709551616 - (m : Int) := by simp [IntKind.wrap, IntKind.bits, IntKind.signed]; omega
    have hu2 : IntKind.u64.wrap (-(18446744073709551616 - (m : Int))) = (m : Int) := by simp [IntKind.wrap, IntKind.bits, IntKind.signed]; omega
    have hd : decide (-(m : Int) < 0) = true := by simp; omega
    have he : ((-(m : Int)) == 0) = false := by rw [beq_eq_false_iff_ne]; omega
    subst hm
    have hb := Lib.hid (big_one w true m hm1 hm0)
    clear hn h0 h1
    go_enter Tryz.func86, Tryz.ntmps86
    go_wp2
    go_ret
    exact ⟨_, true, [m], rfl, by omega, hb.out, by simp [valI, valW], ((Below.refl _ w).alloc (Nat.le_refl _) _).alloc (by simp) _⟩
  · by_cases hz : x = 0
    · subst hz
      have hb := Lib.hid (big_zero w)
      go_enter Tryz.func86, Tryz.ntmps86
      go_wp2
      go_ret
      exact ⟨_, false, [], rfl, Nat.le_refl _, hb.out, rfl, (Below.refl _ w).alloc (Nat.le_refl _) _⟩
    · obtain ⟨m, hm⟩ : ∃ m : Nat, x = (m : Int) := ⟨x.toNat, by omega⟩
      subst hm
      have hm0 : m ≠ 0 := by omega
      have hm1 : m < W64 := by unfold W64; omega
      have hd : decide ((m : Int) < 0) = false := by simp
      have he : ((m : Int) == 0) = false := by rw [beq_eq_false_iff_ne]; omega
      have hb := Lib.hid (big_one w false m hm1 hm0)
      clear hn hz
      go_enter Tryz.func86, Tryz.ntmps86
      go_wp2
      go_ret
      exact ⟨_, false, [m], rfl, by omega, hb.out, by simp [valI, valW], ((Below.refl _ w).alloc (Nat.le_refl _) _).alloc (by simp) _⟩
end Go.Proofs.YteibkaonofkcbaaGreat
