/- Joined texts: Told0, Whole0, SpecSign. -/
import Derived.Test.YteibkaonofkcbaaGreatSInt
import Derived.Test.YteibkaonofkcbaaGreatTupJoinA
set_option linter.unusedSimpArgs false
set_option linter.unusedVariables false
namespace Go.Proofs.YteibkaonofkcbaaGreat
open Go.RowKit
theorem ob_new_at (w : World) (B n : Nat) (hn : w.heap.size = n) (hB : B ≤ n) : OB (w.alloc (.cells #[] 5)).drew B (.slice (some ⟨n, 0, none⟩) 0 0) [] := by
  subst hn
  obtain ⟨h1, h2⟩ := ob_new w B hB
  exact ⟨h1.drew, h2⟩
theorem blk2 {w : World} {g : Nat} {t : TypeId} {a b : Value} (h : Blk w g t #[a, b]) :
    w.cell? ⟨g, 0, none⟩ = some a ∧ w.cell? ⟨g, 1, none⟩ = some b ∧ w.frozen? ⟨g, 0, none⟩ = false ∧ w.frozen? ⟨g, 1, none⟩ = false :=
  ⟨(h.cell 0).trans rfl, (h.cell 1).trans rfl, h.frozen 0, h.frozen 1⟩
theorem blk6 {w : World} {g : Nat} {t : TypeId} {a b c d e f : Value} (h : Blk w g t #[a, b, c, d, e, f]) :
    w.cell? ⟨g, 0, none⟩ = some a ∧ w.cell? ⟨g, 1, none⟩ = some b ∧ w.cell? ⟨g, 2, none⟩ = some c ∧ w.cell? ⟨g, 3, none⟩ = some d ∧ w.cell? ⟨g, 4, none⟩ = some e ∧ w.cell? ⟨g, 5, none⟩ = some f ∧
    w.frozen? ⟨g, 0, none⟩ = false ∧ w.frozen? ⟨g, 1, none⟩ = false ∧ w.frozen? ⟨g, 2, none⟩ = false ∧ w.frozen? ⟨g, 3, none⟩ = false ∧ w.frozen? ⟨g, 4, none⟩ = false ∧ w.frozen? ⟨g, 5, none⟩ = false :=
  ⟨(h.cell 0).trans rfl, (h.cell 1).trans rfl, (h.cell 2).trans rfl, (h.cell 3).trans rfl, (h.cell 4).trans rfl, (h.cell 5).trans rfl, h.frozen 0, h.frozen 1, h.frozen 2, h.frozen 3, h.frozen 4, h.frozen 5⟩
theorem two_set (w : World) (b : Nat) (u0 u1 : Value) : Only (· = b) w ((w.setCell ⟨b, 0, none⟩ u0).setCell ⟨b, 1, none⟩ u1) :=
  ((Only.refl (fun x => x = b) w).setCell (p := ⟨b, 0, none⟩) (.inl (rfl : b = b)) u0).setCell (p := ⟨b, 1, none⟩) (.inl (rfl : b = b)) u1
theorem six_set (w : World) (b : Nat) (u0 u1 u2 u3 u4 u5 : Value) : Only (· = b) w ((((((w.setCell ⟨b, 0, none⟩ u0).setCell ⟨b, 1, none⟩ u1).setCell ⟨b, 2, none⟩ u2).setCell ⟨b, 3, none⟩ u3).setCell ⟨b, 4, none⟩ u4).setCell ⟨b, 5, none⟩ u5) :=
  ((((two_set w b u0 u1).setCell (p := ⟨b, 2, none⟩) (.inl rfl) u2).setCell (p := ⟨b, 3, none⟩) (.inl rfl) u3).setCell (p := ⟨b, 4, none⟩) (.inl rfl) u4).setCell (p := ⟨b, 5, none⟩) (.inl rfl) u5
theorem OB.only {w w' : World} {B : Nat} {S : Nat → Prop} {v : Value} {l : List Nat} (h : OB w B v l) (k : Only S w w') (hs : ∀ g, B ≤ g → ¬ S g) : OB w' B v l :=
  ⟨own_only h.1 k fun g hg => hs g (h.1.lt g hg).1, h.2⟩
theorem told_below (w w5 : World) (a b : Obj) (h : Below (w.heap.size + 1 + 1) (((w.alloc a).alloc b).alloc (.cells #[] 5)).drew w5) : Below w.heap.size w w5 :=
  (((((Below.refl _ w).alloc (Nat.le_refl _) a).alloc (by simp) b).alloc (by simp; omega) _).drew).trans (h.mono (by omega))
end Go.Proofs.YteibkaonofkcbaaGreat
namespace Go.Proofs.YteibkaonofkcbaaGreat
open Go.RowKit
/-- v[:k] -/
theorem slice_to (w : World) (a : Option Addr) (n cap k : Nat) (hk : k ≤ cap) :
    (Instr.slice 30 (.slice a n cap) none (some (.int .i64 (k : Int))) none).run Tryz.prog w = .ok (.slice (if cap = 0 then a else a.map (·.add (0 * 1))) k cap) w := by
  simp [Instr.slice, run_underlying Tryz.underlying30, Instr.sliceBounds, Instr.sliceBound, asIntOf, hk, Tryz.sizeOf5]
theorem BSl.to {w : World} {a : Option Addr} {n cap : Nat} {l : List Nat} (h : BSl w (.slice a n cap) l) (k : Nat) (hk : k ≤ n) : BSl w (.slice (if cap = 0 then a else a.map (·.add (0 * 1))) k cap) (l.take k) := by
  obtain ⟨a', cap', hv, h1, h2, h3, h4, h5⟩ := h
  injection hv with e1 e2 e3
  subst e1 e2 e3
  have hl : (l.take k).length = k := by simp; omega
  refine ⟨if cap = 0 then a else a.map (·.add (0 * 1)), cap, by rw [hl], by rw [hl]; omega, h2, fun x hx => h3 x (List.mem_of_mem_take hx), fun hn => ?_, fun p hp j hj => ?_⟩
  · split at hn
    · obtain ⟨e, e2⟩ := h4 hn
      exact ⟨by simp [e], e2⟩
    · rw [Option.map_eq_none_iff] at hn
      obtain ⟨e, e2⟩ := h4 hn
      exact ⟨by simp [e], e2⟩
  · have hj' : j < l.length := by omega
    split at hp
    · rw [h5 p hp j hj']; simp
    · obtain ⟨q, rfl, rfl⟩ := Option.map_eq_some_iff.1 hp
      rw [Addr.add_add, Nat.zero_mul, Nat.zero_add, h5 q rfl j hj']
      simp
end Go.Proofs.YteibkaonofkcbaaGreat
namespace Go.Proofs.YteibkaonofkcbaaGreat
open Go.RowKit
def intOf2 (neg : Bool) (l : List Nat) : Int := if neg then -(natOf l : Int) else (natOf l : Int)
def sgn (n : Int) : Int := if n < 0 then -1 else if n = 0 then 0 else 1
theorem sgn_pos {neg : Bool} {l : List Nat} (hh : l.head? ≠ some 0) (h : l ≠ []) : sgn (intOf2 neg l) = if neg then -1 else 1 := by
  have : natOf l ≠ 0 := fun e => h ((natOf_eq_zero hh).1 e)
  unfold sgn intOf2
  cases neg
  · rw [if_neg (by simp), if_neg (by simp; omega)]; rfl
  · rw [if_pos (by simp; omega)]; rfl
theorem sgn_nil {neg : Bool} : sgn (intOf2 neg []) = 0 := by cases neg <;> rfl
theorem zero_any (neg : Bool) (a : Option Addr) (n c : Nat) (w : World) :
    Calls Tryz.prog 67 #[.agg #[.bool neg, .slice a n c]] w fun e w' => e = .returned (.bool ((n : Int) == 0)) ∧ Below w.heap.size w w' := by
  go_enter Tryz.func67, Tryz.ntmps67
  go_wp2
  go_ret
  exact ⟨rfl, (Below.refl _ w).alloc (Nat.le_refl _) _⟩
theorem spec_sign {B : Nat} {v : Value} {neg : Bool} {l : List Nat} (w : World) (hv : SInt w B v neg l) :
    Calls Tryz.prog 57 #[v] w fun e w' => e = .returned (.int .i64 (sgn (intOf2 neg l))) ∧ Below w.heap.size w w' := by
  obtain ⟨vs, rfl, hob, hh, hn⟩ := hv
  obtain ⟨g, c, hvs, _, _, _, _⟩ := hob.form
  obtain ⟨m, hm⟩ : ∃ m, m = l.length := ⟨_, rfl⟩
  rw [← hm] at hvs
  subst hvs
  have hk := Lib.hid (Blk.new w 68 #[.bool neg, .slice (some ⟨g, 0, none⟩) m c])
  by_cases h0 : l = []
  · have hb : ((m : Int) == 0) = true := by rw [beq_iff_eq]; rw [hm, h0]; rfl
    have HS : Hid (sgn (intOf2 neg l) = 0) := by rw [h0]; exact sgn_nil
    clear hm hob hh hn h0
    go_enter Tryz.func57, Tryz.ntmps57
    go_wp2_with fail
    refine (zero_any _ _ _ _ _).mono ?_
    rw [hb]
    rintro e w1 ⟨rfl, hb1⟩
    have hbw := ((Below.refl _ w).alloc (Nat.le_refl _) _).trans (hb1.mono (by simp))
    clear hb1
    go_wp2
    go_ret
    exact ⟨ret_int (by rw [HS.out]), hbw⟩
  · have hb : ((m : Int) == 0) = false := by
      rw [beq_eq_false_iff_ne]
      have : l.length ≠ 0 := by simpa using h0
      omega
    have HS := Lib.hid (sgn_pos (neg := neg) hh h0)
    clear hm hob hh hn h0
    go_enter Tryz.func57, Tryz.ntmps57
    go_wp2_with fail
    refine (zero_any _ _ _ _ _).mono ?_
    rw [hb]
    rintro e w1 ⟨rfl, hb1⟩
    obtain ⟨c0, c1, _, _⟩ := blk2 (hk.out.below hb1 (by simp))
    have hbw := ((Below.refl _ w).alloc (Nat.le_refl _) _).trans (hb1.mono (by simp))
    clear hb1
    cases neg
    all_goals
      go_wp2
      go_ret
      exact ⟨ret_int (by rw [HS.out]; rfl), hbw⟩
/-- The last bytes of a number. -/
theorem natOf_set : ∀ (ws : List Nat) (i x : Nat) (h : i < ws.length), ws[i]'h = 0 → natOf (ws.set i x) = natOf ws + x * 256 ^ (ws.length - 1 - i)
  | [], i, x, h, _ => by simp at h
  | y :: r, 0, x, h, h0 => by
    have h0' : y = 0 := by simpa using h0
    simp [natOf, h0']
    omega
  | y :: r, i + 1, x, h, h0 => by
    have := natOf_set r i x (by simpa using h) (by simpa using h0)
    simp only [List.set_cons_succ, natOf, this, List.length_set, List.length_cons]
    rw [show r.length + 1 - 1 - (i + 1) = r.length - 1 - i by omega]
    omega
def BytesOfPost (u : Nat) (w : World) (e : Ending) (w' : World) : Prop := ∃ v l, e = .returned v ∧ OB w' w.heap.size v l ∧ l.length = 8 ∧ natOf l = u ∧ Below w.heap.size w w'
theorem OB.cell {w : World} {B g c : Nat} {l : List Nat} {n : Nat} (h : OB w B (.slice (some ⟨g, 0, none⟩) n c) l) (j : Nat) (hj : j < l.length) : w.cell? ⟨g, j, none⟩ = some (.int .u8 ((l[j]'hj : Nat) : Int)) := by
  have h1 := h.1.cells (g := g) rfl j (.int .u8 ((l[j]'hj : Nat) : Int)) (by simp [bcells, hj])
  rw [Addr.add_lit, Nat.zero_add] at h1
  exact h1
theorem OB.free {w : World} {B g c : Nat} {l : List Nat} {n : Nat} (h : OB w B (.slice (some ⟨g, 0, none⟩) n c) l) (j : Nat) : w.frozen? ⟨g, j, none⟩ = false := by
  have hn : n = l.length := by obtain ⟨_, _, hv, _⟩ := h.form; injection hv
  subst hn
  exact h.1.frozenAt j
theorem OB.store {w : World} {B g c : Nat} {l : List Nat} {n : Nat} (h : OB w B (.slice (some ⟨g, 0, none⟩) n c) l) (j x : Nat) (hx : x < 256) : OB (w.setCell ⟨g, j, none⟩ (.int .u8 (x : Int))) B (.slice (some ⟨g, 0, none⟩) n c) (l.set j x) := by
  have hn : n = l.length := by obtain ⟨_, _, hv, _⟩ := h.form; injection hv
  subst hn
  by_cases hj : j < l.length
  · have h1 := h.1.stored j (.int .u8 (x : Int))
    refine ⟨?_, h.2.1, ?_⟩
    · simpa [bcells, List.map_set] using h1.1
    · intro y hy
      rcases List.mem_or_eq_of_mem_set hy with hy | rfl
      · exact h.2.2 y hy
      · exact hx
  · have h1 := h.1.stored j (.int .u8 (x : Int))
    refine ⟨?_, h.2.1, ?_⟩
    · simpa [bcells, List.map_set] using h1.1
    · rw [List.set_eq_of_length_le (by omega)]
      exact h.2.2
set_option maxHeartbeats 2000000 in
theorem bytes_of (u : Nat) (hu : u < W64) (w : World) :
    Calls Tryz.prog 54 #[.int .u64 (u : Int)] w (BytesOfPost u w) := by
  have hmk : ∀ w, (Instr.makeSlice 30 (.int .i64 8) (.int .i64 8)).run Tryz.prog w = .ok (.slice (some ⟨w.heap.size, 0, none⟩) 8 8) (w.alloc (.cells #[.int .u8 0, .int .u8 0, .int .u8 0, .int .u8 0, .int .u8 0, .int .u8 0, .int .u8 0, .int .u8 0] 5)) := fun _ => by kernel_rfl
  have HOB := Lib.hid (show OB (w.alloc (.cells #[.int .u8 0, .int .u8 0, .int .u8 0, .int .u8 0, .int .u8 0, .int .u8 0, .int .u8 0, .int .u8 0] 5)) w.heap.size (.slice (some ⟨w.heap.size, 0, none⟩) 8 8) (List.replicate 8 0) from
    ⟨⟨rfl, .inr ⟨w.heap.size, 8, _, rfl, Nat.le_refl _, heap_alloc_new w _, Nat.le_refl _, by unfold maxLen; omega, rfl, rfl⟩⟩, by simp, by simp⟩)
  have HU := Lib.hid hu
  clear hu
  go_enter Tryz.func54, Tryz.ntmps54
  go_wp2_with fail
  go_loopw [0, 4] (fun uv iv wr => ∃ (k : Nat) (l : List Nat), k ≤ 8 ∧ iv = .int .i64 ((7 : Int) - (k : Int)) ∧ uv = .int .u64 ((u / 256 ^ k : Nat) : Int) ∧ Hid (OB wr w.heap.size (.slice (some ⟨w.heap.size, 0, none⟩) 8 8) l) ∧ Hid (l.length = 8) ∧ Hid (natOf l = u % 256 ^ k) ∧ Hid (∀ j (h : j < l.length), j < 8 - k → l[j]'h = 0) ∧ Below w.heap.size w wr)
    (fun _ iv _ => (intOf iv + 1).toNat)
  case atStart => exact ⟨0, _, by omega, by simp, by simp, HOB.out, by simp [Hid], by simp [Hid, natOf, List.replicate, Nat.mod_one], fun j h _ => List.eq_of_mem_replicate (List.getElem_mem h), (Below.refl _ w).alloc (Nat.le_refl _) _⟩
  case round =>
    obtain ⟨k, l, hk, rfl, rfl, hob, hln, hnat, hz, hb⟩ := hrel
    by_cases hk8 : k < 8
    · obtain ⟨i, hi⟩ : ∃ i : Nat, i = 7 - k := ⟨_, rfl⟩
      have e : (7 : Int) - (k : Int) = (i : Int) := by omega
      obtain ⟨X, hX⟩ : ∃ X : Nat, X = u / 256 ^ k := ⟨_, rfl⟩
      have hi8 : i < 8 := by omega
      have hil : i < l.length := by rw [hln.out]; exact hi8
      have hwr : IntKind.u8.wrap (X : Int) = ((X % 256 : Nat) : Int) := by
        simp [IntKind.wrap, IntKind.bits, IntKind.signed]
      obtain ⟨y, hy⟩ : ∃ y : Nat, y = X % 256 := ⟨_, rfl⟩
      rw [← hy] at hwr
      have hc : wr.cell? ⟨w.heap.size, i, none⟩ = some (.int .u8 ((l[i]'hil : Nat) : Int)) := hob.out.cell i hil
      have hf := hob.out.free i
      have hlt : w.heap.size < wr.heap.size := hob.out.1.lt _ rfl |>.2
      have HX := Lib.hid hX
      have HY := Lib.hid hy
      have HI := Lib.hid hi
      have HE := Lib.hid e
      rw [e, ← hX]
      clear hX hy hi e
      go_wp2
      go_roundw
      case rel =>
        refine ⟨k + 1, l.set i y, by omega, ?_, ?_, hob.out.store i y (by rw [HY.out]; omega), by simpa [Hid] using hln.out, ?_, ?_, hb.setCell (p := ⟨w.heap.size, i, none⟩) (Nat.le_refl _) _⟩
        · exact congrArg (Value.int .i64) (by have := HE.out; omega)
        · refine congrArg (Value.int .u64) ?_
          rw [Nat.pow_succ, ← Nat.div_div_eq_div_mul, ← HX.out]
          omega
        · unfold Hid
          rw [natOf_set l i y hil (hz.out i hil (by have := HI.out; omega)), hnat.out, hln.out, HY.out, HX.out, show 8 - 1 - i = k by have := HI.out; omega, Nat.pow_succ, Nat.mod_mul]
          rw [Nat.mul_comm (256 ^ k)]
        · intro j hj hjk
          rw [List.getElem_set_ne (by have := HI.out; omega)]
          exact hz.out j (by simpa using hj) (by omega)
      case measure => simp [intOf]
    · obtain rfl : k = 8 := by omega
      have e : (7 : Int) - ((8 : Nat) : Int) = -1 := by omega
      rw [e]
      clear e
      go_wp2
      go_ret
      exact ⟨_, l, rfl, hob.out, hln.out, by rw [hnat.out, Nat.mod_eq_of_lt (by rw [← W64_eq]; exact HU.out)], hb⟩
end Go.Proofs.YteibkaonofkcbaaGreat
