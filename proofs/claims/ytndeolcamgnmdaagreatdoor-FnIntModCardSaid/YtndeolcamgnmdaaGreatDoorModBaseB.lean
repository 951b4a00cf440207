/- Joined texts: Str, SpecSign, Order, Dig, OrdFull, Small. -/
import Derived.WalkKit
import Derived.Lib.Hide
import Derived.Lib.Strings
import Derived.Test.YtndeolcamgnmdaaGreatDoorModBaseA
import Derived.Deep.DeepCutAuto
import Derived.Deep.RegionHeld3
import Derived.Deep.DrawnRows
set_option linter.unusedVariables false
set_option linter.unusedSimpArgs false
set_option linter.unnecessarySimpa false
namespace Go.Proofs.YtndeolcamgnmdaaGreatDoor
open Go.RowKit
theorem emp_false {s : ByteArray} (h : 0 < s.size) : s.toList.isEmpty = false := by
  rw [Lib.toList_data]
  have hl : 0 < s.data.toList.length := by simpa using h
  cases hd : s.data.toList with
  | nil => rw [hd] at hl; simp at hl
  | cons a b => rfl
theorem emp_pos {s : ByteArray} (h : s.toList.isEmpty = false) : 1 ≤ s.size := by
  rw [Lib.toList_data] at h
  have hl : s.data.toList.length = s.size := by simp
  cases hd : s.data.toList with
  | nil => rw [hd] at h; simp at h
  | cons a b => rw [hd] at hl; simp at hl; omega
theorem emp_true {s : ByteArray} (h : s.size = 0) : s.toList.isEmpty = true := by
  rw [Lib.toList_data]
  have : s.data.toList = [] := List.eq_nil_of_length_eq_zero (by simpa using h)
  rw [this]; rfl
theorem take_snoc (s : ByteArray) (k : Nat) (h : k < s.size) : s.data.toList.take (k + 1) = s.data.toList.take k ++ [s[k]] := by
  rw [List.take_succ_eq_append_getElem (by simpa using h)]; rfl
theorem take_all (s : ByteArray) (k : Nat) (h : s.size ≤ k) : s.data.toList.take k = s.data.toList := List.take_of_length_le (by simpa using h)
theorem drop_cons (s : ByteArray) (k : Nat) (h : k < s.size) : s.data.toList.drop k = s[k] :: s.data.toList.drop (k + 1) := by
  rw [List.drop_eq_getElem_cons (by simpa using h)]; rfl
theorem mk_toList (s : ByteArray) : (⟨s.data.toList.toArray⟩ : ByteArray) = s := by cases s; simp
theorem extract_list (s : ByteArray) (i e : Nat) : s.extract i e = ⟨((s.data.toList.take e).drop i).toArray⟩ := by
  apply ByteArray.ext
  simp [Array.ext_iff]
theorem ret_int {k : IntKind} {a b : Int} (h : a = b) : Ending.returned (.int k a) = .returned (.int k b) := by rw [h]
theorem ret_bool {a b : Bool} (h : a = b) : Ending.returned (.bool a) = .returned (.bool b) := by rw [h]
theorem bcell {W w1 : World} (hb : Below W.heap.size W w1) : (∀ b o, b < W.heap.size → w1.cell? ⟨b, o, none⟩ = W.cell? ⟨b, o, none⟩) ∧ (∀ b o, b < W.heap.size → w1.frozen? ⟨b, o, none⟩ = W.frozen? ⟨b, o, none⟩) :=
  ⟨fun b o h => hb.cell (p := ⟨b, o, none⟩) h, fun b o h => hb.frozen (p := ⟨b, o, none⟩) h⟩
end Go.Proofs.YtndeolcamgnmdaaGreatDoor
namespace Go.Proofs.YtndeolcamgnmdaaGreatDoor
open Go.RowKit
def intOf2 (neg : Bool) (l : List Nat) : Int := if neg then -(natOf l : Int) else (natOf l : Int)
def sgn (n : Int) : Int := if n < 0 then -1 else if n = 0 then 0 else 1
theorem sgn_pos {neg : Bool} {l : List Nat} (hh : l.head? ≠ some 0) (h : l ≠ []) : sgn (intOf2 neg l) = if neg then -1 else 1 := by
  have : natOf l ≠ 0 := fun e => h ((natOf_eq_zero hh).1 e)
  unfold sgn intOf2
  cases neg
  · rw [if_neg (by simp), if_neg (by simp; omega)]; rfl
  · rw [if_pos (by simp; omega)]; rfl
theorem sgn_nil {neg : Bool} : sgn (intOf2 neg []) = 0 := by cases neg <;> rfl
theorem zero_any (neg : Bool) (a : Option Addr) (n c : Nat) (w : World) :
    Calls Tryz.prog 5 #[.agg #[.bool neg, .slice a n c]] w fun e w' => e = .returned (.bool ((n : Int) == 0)) ∧ Below w.heap.size w w' := by
  go_enter Tryz.func5, Tryz.ntmps5
  go_wp2
  go_ret
  exact ⟨rfl, (Below.refl _ w).alloc (Nat.le_refl _) _⟩
/-- The last bytes of a number. -/
theorem natOf_set : ∀ (ws : List Nat) (i x : Nat) (h : i < ws.length), ws[i]'h = 0 → natOf (ws.set i x) = natOf ws + x * 256 ^ (ws.length - 1 - i)
  | [], i, x, h, _ => by simp at h
  | y :: r, 0, x, h, h0 => by
    have h0' : y = 0 := by simpa using h0
    simp [natOf, h0']
    omega
  | y :: r, i + 1, x, h, h0 => by
    have := natOf_set r i x (by simpa using h) (by simpa using h0)
    simp only [List.set_cons_succ, natOf, this, List.length_set, List.length_cons]
    rw [show r.length + 1 - 1 - (i + 1) = r.length - 1 - i by omega]
    omega
def BytesOfPost (u : Nat) (w : World) (e : Ending) (w' : World) : Prop := ∃ v l, e = .returned v ∧ OB w' w.heap.size v l ∧ l.length = 8 ∧ natOf l = u ∧ Below w.heap.size w w'
theorem OB.cell {w : World} {B g c : Nat} {l : List Nat} {n : Nat} (h : OB w B (.slice (some ⟨g, 0, none⟩) n c) l) (j : Nat) (hj : j < l.length) : w.cell? ⟨g, j, none⟩ = some (.int .u8 ((l[j]'hj : Nat) : Int)) := by
  have h1 := h.1.cells (g := g) rfl j (.int .u8 ((l[j]'hj : Nat) : Int)) (by simp [bcells, hj])
  rw [Addr.add_lit, Nat.zero_add] at h1
  exact h1
theorem OB.free {w : World} {B g c : Nat} {l : List Nat} {n : Nat} (h : OB w B (.slice (some ⟨g, 0, none⟩) n c) l) (j : Nat) : w.frozen? ⟨g, j, none⟩ = false := by
  have hn : n = l.length := by obtain ⟨_, _, hv, _⟩ := h.form; injection hv
  subst hn
  exact h.1.frozenAt j
theorem OB.store {w : World} {B g c : Nat} {l : List Nat} {n : Nat} (h : OB w B (.slice (some ⟨g, 0, none⟩) n c) l) (j x : Nat) (hx : x < 256) : OB (w.setCell ⟨g, j, none⟩ (.int .u8 (x : Int))) B (.slice (some ⟨g, 0, none⟩) n c) (l.set j x) := by
  have hn : n = l.length := by obtain ⟨_, _, hv, _⟩ := h.form; injection hv
  subst hn
  by_cases hj : j < l.length
  · have h1 := h.1.stored j (.int .u8 (x : Int))
    refine ⟨?_, h.2.1, ?_⟩
    · simpa [bcells, List.map_set] using h1.1
    · intro y hy
      rcases List.mem_or_eq_of_mem_set hy with hy | rfl
      · exact h.2.2 y hy
      · exact hx
  · have h1 := h.1.stored j (.int .u8 (x : Int))
    refine ⟨?_, h.2.1, ?_⟩
    · simpa [bcells, List.map_set] using h1.1
    · rw [List.set_eq_of_length_le (by omega)]
      exact h.2.2
set_option maxHeartbeats 2000000 in
theorem bytes_of (u : Nat) (hu : u < W64) (w : World) :
    Calls Tryz.prog 12 #[.int .u64 (u : Int)] w (BytesOfPost u w) := by
  have hmk : ∀ w, (Instr.makeSlice 22 (.int .i64 8) (.int .i64 8)).run Tryz.prog w = .ok (.slice (some ⟨w.heap.size, 0, none⟩) 8 8) (w.alloc (.cells #[.int .u8 0, .int .u8 0, .int .u8 0, .int .u8 0, .int .u8 0, .int .u8 0, .int .u8 0, .int .u8 0] 5)) := fun _ => by kernel_rfl
  have HOB := Lib.hid (show OB (w.alloc (.cells #[.int .u8 0, .int .u8 0, .int .u8 0, .int .u8 0, .int .u8 0, .int .u8 0, .int .u8 0, .int .u8 0] 5)) w.heap.size (.slice (some ⟨w.heap.size, 0, none⟩) 8 8) (List.replicate 8 0) from
    ⟨⟨rfl, .inr ⟨w.heap.size, 8, _, rfl, Nat.le_refl _, heap_alloc_new w _, Nat.le_refl _, by unfold maxLen; omega, rfl, rfl⟩⟩, by simp, by simp⟩)
  have HU := Lib.hid hu
  clear hu
  go_enter Tryz.func12, Tryz.ntmps12
  go_wp2_with fail
  go_loopw [0, 4] (fun uv iv wr => ∃ (k : Nat) (l : List Nat), k ≤ 8 ∧ iv = .int .i64 ((7 : Int) - (k : Int)) ∧ uv = .int .u64 ((u / 256 ^ k : Nat) : Int) ∧ Hid (OB wr w.heap.size (.slice (some ⟨w.heap.size, 0, none⟩) 8 8) l) ∧ Hid (l.length = 8) ∧ Hid (natOf l = u % 256 ^ k) ∧ Hid (∀ j (h : j < l.length), j < 8 - k → l[j]'h = 0) ∧ Below w.heap.size w wr)
    (fun _ iv _ => (intOf iv + 1).toNat)
  case atStart => exact ⟨0, _, by omega, by simp, by simp, HOB.out, by simp [Hid], by simp [Hid, natOf, List.replicate, Nat.mod_one], fun j h _ => List.eq_of_mem_replicate (List.getElem_mem h), (Below.refl _ w).alloc (Nat.le_refl _) _⟩
  case round =>
    obtain ⟨k, l, hk, rfl, rfl, hob, hln, hnat, hz, hb⟩ := hrel
    by_cases hk8 : k < 8
    · obtain ⟨i, hi⟩ : ∃ i : Nat, i = 7 - k := ⟨_, rfl⟩
      have e : (7 : Int) - (k : Int) = (i : Int) := by omega
      obtain ⟨X, hX⟩ : ∃ X : Nat, X = u / 256 ^ k := ⟨_, rfl⟩
      have hi8 : i < 8 := by omega
      have hil : i < l.length := by rw [hln.out]; exact hi8
      have hwr : IntKind.u8.wrap (X : Int) = ((X % 256 : Nat) : Int) := by
        simp [IntKind.wrap, IntKind.bits, IntKind.signed]
      obtain ⟨y, hy⟩ : ∃ y : Nat, y = X % 256 := ⟨_, rfl⟩
      rw [← hy] at hwr
      have hc : wr.cell? ⟨w.heap.size, i, none⟩ = some (.int .u8 ((l[i]'hil : Nat) : Int)) := hob.out.cell i hil
      have hf := hob.out.free i
      have hlt : w.heap.size < wr.heap.size := hob.out.1.lt _ rfl |>.2
      have HX := Lib.hid hX
      have HY := Lib.hid hy
      have HI := Lib.hid hi
      have HE := Lib.hid e
      rw [e, ← hX]
      clear hX hy hi e
      go_wp2
      go_roundw
      case rel =>
        refine ⟨k + 1, l.set i y, by omega, ?_, ?_, hob.out.store i y (by rw [HY.out]; omega), by simpa [Hid] using hln.out, ?_, ?_, hb.setCell (p := ⟨w.heap.size, i, none⟩) (Nat.le_refl _) _⟩
        · exact congrArg (Value.int .i64) (by have := HE.out; omega)
        · refine congrArg (Value.int .u64) ?_
          rw [Nat.pow_succ, ← Nat.div_div_eq_div_mul, ← HX.out]
          omega
        · unfold Hid
          rw [natOf_set l i y hil (hz.out i hil (by have := HI.out; omega)), hnat.out, hln.out, HY.out, HX.out, show 8 - 1 - i = k by have := HI.out; omega, Nat.pow_succ, Nat.mod_mul]
          rw [Nat.mul_comm (256 ^ k)]
        · intro j hj hjk
          rw [List.getElem_set_ne (by have := HI.out; omega)]
          exact hz.out j (by simpa using hj) (by omega)
      case measure => simp [intOf]
    · obtain rfl : k = 8 := by omega
      have e : (7 : Int) - ((8 : Nat) : Int) = -1 := by omega
      rw [e]
      clear e
      go_wp2
      go_ret
      exact ⟨_, l, rfl, hob.out, hln.out, by rw [hnat.out, Nat.mod_eq_of_lt (by rw [← W64_eq]; exact HU.out)], hb⟩
end Go.Proofs.YtndeolcamgnmdaaGreatDoor
namespace Go.Proofs.YtndeolcamgnmdaaGreatDoor
open Go.RowKit
def EqPost (P : Prop) (w : World) (e : Ending) (w' : World) : Prop := ∃ r : Int, e = .returned (.int .i64 r) ∧ (-1 ≤ r ∧ r ≤ 1) ∧ (r = 0 ↔ P) ∧ Below w.heap.size w w'
theorem eq_of_all {xs ys : List Nat} {m : Nat} (h1 : m = xs.length) (h2 : m = ys.length) (h : ∀ j (hj : j < xs.length) (hk : j < ys.length), j < m → xs[j]'hj = ys[j]'hk) : xs = ys := by
  refine List.ext_getElem (by omega) fun i hi hk => h i hi hk (by omega)
set_option maxHeartbeats 1600000 in
theorem order_any (B1 B2 g1 c1 g2 c2 m1 m2 : Nat) (xs ys : List Nat) (w : World) (h1 : OB w B1 (.slice (some ⟨g1, 0, none⟩) m1 c1) xs) (h2 : OB w B2 (.slice (some ⟨g2, 0, none⟩) m2 c2) ys) :
    Calls Tryz.prog 22 #[.slice (some ⟨g1, 0, none⟩) m1 c1, .slice (some ⟨g2, 0, none⟩) m2 c2] w (EqPost (xs = ys) w) := by
  have hm1 : m1 = xs.length ∧ m1 ≤ c1 ∧ c1 ≤ maxLen := by obtain ⟨_, _, hv, _, _, h1, h2⟩ := h1.form; injection hv with _ e1 e2; subst e1 e2; exact ⟨rfl, h1, h2⟩
  have hm2 : m2 = ys.length := by obtain ⟨_, _, hv, _, _, h1, h2⟩ := h2.form; injection hv
  obtain ⟨hm1, hmc, hcm⟩ := hm1
  unfold maxLen at hcm
  have H1 := Lib.hid h1
  have H2 := Lib.hid h2
  have HM1 := Lib.hid hm1
  have HM2 := Lib.hid hm2
  clear h1 h2 hm1 hm2
  by_cases hne : m1 = m2
  · subst hne
    go_enter Tryz.func22, Tryz.ntmps22
    go_wp2_with fail
    go_loopw [5] (fun iv wr => ∃ i : Nat, i ≤ m1 ∧ iv = .int .i64 (i : Int) ∧ Hid (∀ j (hj : j < xs.length) (hk : j < ys.length), j < i → xs[j]'hj = ys[j]'hk) ∧ Hid (OB wr B1 (.slice (some ⟨g1, 0, none⟩) m1 c1) xs) ∧ Hid (OB wr B2 (.slice (some ⟨g2, 0, none⟩) m1 c2) ys) ∧ Below w.heap.size w wr)
      (fun iv _ => ((m1 : Int) - intOf iv).toNat)
    case atStart => exact ⟨0, Nat.zero_le _, rfl, fun j hj hk h => absurd h (Nat.not_lt_zero _), H1.out, H2.out, Below.refl _ _⟩
    case round =>
      obtain ⟨i, hi, rfl, hall, ho1, ho2, hb⟩ := hrel
      by_cases him : i < m1
      · have hix : i < xs.length := by rw [← HM1.out]; exact him
        have hiy : i < ys.length := by rw [← HM2.out]; exact him
        have hc1 := ho1.out.cell i hix
        have hc2 := ho2.out.cell i hiy
        obtain ⟨x, hx⟩ : ∃ x, x = xs[i]'hix := ⟨_, rfl⟩
        obtain ⟨y, hy⟩ : ∃ y, y = ys[i]'hiy := ⟨_, rfl⟩
        rw [← hx] at hc1
        rw [← hy] at hc2
        have HX := Lib.hid hx
        have HY := Lib.hid hy
        have hlt : i < c1 := by omega
        clear hx hy
        by_cases hxy : x = y
        · subst hxy
          go_wp2_with fail
          go_quiet (fail)
          go_wp2
          go_roundw
          case rel =>
            refine ⟨i + 1, by omega, by go_num, fun j hj hk h => ?_, ho1.out.below (below_dn (Below.refl _ _) _), ho2.out.below (below_dn (Below.refl _ _) _), below_dn hb _⟩
            by_cases e : j = i
            · subst e; rw [← HX.out, ← HY.out]
            · exact hall.out j hj hk (by omega)
          case measure => simp [intOf]; omega
        · have hb1 : ((x : Int) == (y : Int)) = false := by rw [beq_eq_false_iff_ne]; omega
          have hb2 : ((x : Int) != (y : Int)) = true := by rw [bne_iff_ne]; omega
          have hnn : ¬ xs = ys := fun e => hxy (by rw [HX.out, HY.out]; simp [e])
          have HNN := Lib.hid hnn
          clear hnn
          by_cases hlt2 : x < y
          · have hd : decide (x < y) = true := by simpa using hlt2
            clear hlt2 hxy
            go_wp2_with fail
            go_quiet (fail)
            go_wp2_with fail
            go_quiet (fail)
            go_wp2
            go_ret
            exact ⟨-1, rfl, by omega, by simp [HNN.out], below_dn (below_dn hb _) _⟩
          · have hd : decide (x < y) = false := by simp; omega
            clear hlt2 hxy
            go_wp2_with fail
            go_quiet (fail)
            go_wp2_with fail
            go_quiet (fail)
            go_wp2
            go_ret
            exact ⟨1, rfl, by omega, by simp [HNN.out], below_dn (below_dn hb _) _⟩
      · obtain rfl : i = m1 := by omega
        go_wp2
        go_ret
        exact ⟨0, rfl, by omega, by simp [eq_of_all HM1.out HM2.out hall.out], hb⟩
  · have hb1 : ((m1 : Int) == (m2 : Int)) = false := by rw [beq_eq_false_iff_ne]; omega
    have hnn : ¬ xs = ys := fun e => hne (by rw [HM1.out, HM2.out, e])
    by_cases hlt : m1 < m2
    · have hd : decide ((m1 : Int) < (m2 : Int)) = true := by simp; omega
      clear hne
      go_enter Tryz.func22, Tryz.ntmps22
      go_wp2
      go_ret
      exact ⟨-1, rfl, by omega, by simp [hnn], Below.refl _ _⟩
    · have hd : decide ((m1 : Int) < (m2 : Int)) = false := by simp; omega
      clear hne
      go_enter Tryz.func22, Tryz.ntmps22
      go_wp2
      go_ret
      exact ⟨1, rfl, by omega, by simp [hnn], Below.refl _ _⟩
theorem sgn_ne {a b : Int} (h : sgn a ≠ sgn b) : a ≠ b := fun e => h (by rw [e])
theorem int_eq {n1 n2 : Bool} {xs ys : List Nat} (bx : ∀ x ∈ xs, x < 256) (by' : ∀ y ∈ ys, y < 256) (hx : xs.head? ≠ some 0) (hy : ys.head? ≠ some 0) (h1 : n1 = true → xs ≠ []) (h2 : n2 = true → ys ≠ []) (hs : sgn (intOf2 n1 xs) = sgn (intOf2 n2 ys)) : n1 = n2 ∧ (xs = ys ↔ intOf2 n1 xs = intOf2 n2 ys) := by
  have e1 := natOf_eq_zero hx
  have e2 := natOf_eq_zero hy
  have f1 : n1 = true → natOf xs ≠ 0 := fun e h => h1 e (e1.1 h)
  have f2 : n2 = true → natOf ys ≠ 0 := fun e h => h2 e (e2.1 h)
  have hn : n1 = n2 := by
    cases n1 <;> cases n2
    · rfl
    · have := f2 rfl; simp only [sgn, intOf2] at hs; split at hs <;> simp at * <;> (first | omega | (split at hs <;> simp at * <;> omega))
    · have := f1 rfl; simp only [sgn, intOf2] at hs; split at hs <;> simp at * <;> (first | omega | (split at hs <;> simp at * <;> omega))
    · rfl
  subst hn
  refine ⟨rfl, fun e => by rw [e], fun e => natOf_unique bx by' hx hy ?_⟩
  cases n1 <;> simp [intOf2] at e <;> omega
theorem two_boxes {w W' : World} {t : TypeId} {a b c d : Value} (h : Below (w.heap.size + 1 + 1) ((w.alloc (.cells #[a, b] t)).alloc (.cells #[c, d] t)) W') :
    (W'.cell? ⟨w.heap.size, 0, none⟩ = some a ∧ W'.cell? ⟨w.heap.size, 1, none⟩ = some b ∧ W'.frozen? ⟨w.heap.size, 0, none⟩ = false ∧ W'.frozen? ⟨w.heap.size, 1, none⟩ = false) ∧
    (W'.cell? ⟨w.heap.size + 1, 0, none⟩ = some c ∧ W'.cell? ⟨w.heap.size + 1, 1, none⟩ = some d ∧ W'.frozen? ⟨w.heap.size + 1, 0, none⟩ = false ∧ W'.frozen? ⟨w.heap.size + 1, 1, none⟩ = false) ∧
    Below w.heap.size w W' := by
  have hw1 : Below w.heap.size w W' := (((Below.refl _ w).alloc (Nat.le_refl _) _).alloc (by simp) _).trans (h.mono (by omega))
  exact ⟨blk2 (Blk.below (w' := W') (Blk.alloc (Blk.new w t #[a, b]) (.cells #[c, d] t)) h (by omega)),
    blk2 (Blk.below (w' := W') (Blk.new_at (w.alloc (.cells #[a, b] t)) t #[c, d] (n := w.heap.size + 1) (by simp)) h (by omega)), hw1⟩
end Go.Proofs.YtndeolcamgnmdaaGreatDoor
namespace Go.Proofs.YtndeolcamgnmdaaGreatDoor
/-- The i-th byte from the lowest one on. -/
def dig (n i : Nat) : Nat := n / 256 ^ i % 256
def bitAt (n i : Nat) : Nat := n / 2 ^ i % 2
theorem natOf_mid (a r : List Nat) (x : Nat) (hx : x < 256) (hr : ∀ y ∈ r, y < 256) : dig (natOf (a ++ x :: r)) r.length = x := by
  unfold dig
  rw [natOf_append]
  have h1 := natOf_lt r hr
  have h2 : natOf (x :: r) = x * 256 ^ r.length + natOf r := by simp [natOf]
  have h3 : (natOf a * 256 ^ (x :: r).length + natOf (x :: r)) = natOf r + 256 ^ r.length * (natOf a * 256 + x) := by
    rw [h2, List.length_cons, Nat.pow_succ, Nat.mul_add]
    rw [Nat.mul_comm (256 ^ r.length) (natOf a * 256), Nat.mul_comm (256 ^ r.length) 256, ← Nat.mul_assoc, Nat.mul_comm (256 ^ r.length) x]
    omega
  rw [h3, Nat.add_mul_div_left _ _ (Nat.pow_pos (by omega)), Nat.div_eq_of_lt h1]
  omega
theorem dig_at (l : List Nat) (i : Nat) (hb : ∀ x ∈ l, x < 256) (k : Nat) (hk : k < l.length) (hki : k + i + 1 = l.length) : dig (natOf l) i = l[k]'hk := by
  have e : l = l.take k ++ (l[k]'hk :: l.drop (k + 1)) := by
    rw [← List.drop_eq_getElem_cons hk, List.take_append_drop]
  have h := natOf_mid (l.take k) (l.drop (k + 1)) (l[k]'hk) (hb _ (List.getElem_mem hk)) (fun y hy => hb y (List.mem_of_mem_drop hy))
  rw [← e] at h
  rw [List.length_drop] at h
  have : l.length - (k + 1) = i := by omega
  rw [this] at h
  exact h
theorem dig_over (l : List Nat) (i : Nat) (hb : ∀ x ∈ l, x < 256) (h : l.length ≤ i) : dig (natOf l) i = 0 := by
  unfold dig
  have h1 := natOf_lt l hb
  have h2 : 256 ^ l.length ≤ 256 ^ i := Nat.pow_le_pow_right (by omega) h
  rw [Nat.div_eq_of_lt (by omega)]
theorem dig_lt (n i : Nat) : dig n i < 256 := by unfold dig; omega
theorem bit_dig (n i : Nat) : dig n (i / 8) / 2 ^ (i % 8) % 2 = bitAt n i := by
  unfold dig bitAt
  have e : (256 : Nat) ^ (i / 8) = 2 ^ (8 * (i / 8)) := by rw [Nat.pow_mul]
  rw [e]
  have h1 : 2 ^ i = 2 ^ (8 * (i / 8)) * 2 ^ (i % 8) := by rw [← Nat.pow_add]; congr 1; omega
  rw [h1, ← Nat.div_div_eq_div_mul]
  generalize n / 2 ^ (8 * (i / 8)) = m
  have h2 : i % 8 < 8 := Nat.mod_lt _ (by omega)
  generalize i % 8 = k at h2
  have hc : k = 0 ∨ k = 1 ∨ k = 2 ∨ k = 3 ∨ k = 4 ∨ k = 5 ∨ k = 6 ∨ k = 7 := by omega
  rcases hc with rfl | rfl | rfl | rfl | rfl | rfl | rfl | rfl <;> simp <;> omega
/-- k is how many bits n has. -/
def IsLen (n k : Nat) : Prop := n < 2 ^ k ∧ (k = 0 ∨ 2 ^ (k - 1) ≤ n)
theorem bitAt_top {n i : Nat} (h : n < 2 ^ (i + 1)) (hb : bitAt n i = 1) : IsLen n (i + 1) := by
  refine ⟨h, .inr ?_⟩
  rw [Nat.add_sub_cancel]
  unfold bitAt at hb
  rcases Nat.lt_or_ge n (2 ^ i) with h1 | h1
  · rw [Nat.div_eq_of_lt h1] at hb; simp at hb
  · exact h1
theorem bitAt_no {n i : Nat} (h : n < 2 ^ (i + 1)) (hb : bitAt n i ≠ 1) : n < 2 ^ i := by
  unfold bitAt at hb
  rcases Nat.lt_or_ge n (2 ^ i) with h1 | h1
  · exact h1
  · exfalso
    apply hb
    have h2 : n / 2 ^ i < 2 := by
      rw [Nat.div_lt_iff_lt_mul (Nat.pow_pos (by omega))]
      rw [Nat.pow_succ] at h; omega
    have h3 : 1 ≤ n / 2 ^ i := by
      rw [Nat.le_div_iff_mul_le (Nat.pow_pos (by omega))]; omega
    omega
theorem isLen_le {n k m : Nat} (h : IsLen n k) : k ≤ m ↔ n < 2 ^ m := by
  constructor
  · intro hk
    exact Nat.lt_of_lt_of_le h.1 (Nat.pow_le_pow_right (by omega) hk)
  · intro hn
    rcases h.2 with h0 | h0
    · omega
    · have := (Nat.pow_lt_pow_iff_right (a := 2) (by omega)).1 (Nat.lt_of_le_of_lt h0 hn)
      omega
theorem natOf_pow2 (l : List Nat) (hb : ∀ x ∈ l, x < 256) : natOf l < 2 ^ (8 * l.length) := by
  have := natOf_lt l hb
  rwa [Nat.pow_mul]
/-- low's step. -/
theorem low_step (n i k : Nat) : n / 256 ^ (i + 1) % 256 ^ k * 256 + dig n i = n / 256 ^ i % 256 ^ (k + 1) := by
  unfold dig
  rw [Nat.pow_succ 256 i, ← Nat.div_div_eq_div_mul]
  generalize n / 256 ^ i = m
  rw [Nat.pow_succ, Nat.mul_comm (256 ^ k) 256, Nat.mod_mul, Nat.mul_comm 256 (m / 256 % 256 ^ k)]
  omega
/-- Equal up to a byte: that byte decides. -/
theorem natOf_less (p a b : List Nat) (x y : Nat) (hl : a.length = b.length) (ha : ∀ z ∈ a, z < 256) (hxy : x < y) : natOf (p ++ x :: a) < natOf (p ++ y :: b) := by
  rw [natOf_append, natOf_append]
  have h1 := natOf_lt a ha
  have h2 : natOf (x :: a) = x * 256 ^ a.length + natOf a := by simp [natOf]
  have h3 : natOf (y :: b) = y * 256 ^ b.length + natOf b := by simp [natOf]
  have h4 : (x + 1) * 256 ^ a.length ≤ y * 256 ^ a.length := Nat.mul_le_mul_right _ hxy
  rw [Nat.add_mul] at h4
  rw [h2, h3, List.length_cons, List.length_cons, hl] at *
  omega
theorem natOf_at {xs ys : List Nat} (hx : ∀ z ∈ xs, z < 256) (hl : xs.length = ys.length) (i : Nat) (h1 : i < xs.length) (h2 : i < ys.length) (hall : ∀ j (hj : j < xs.length) (hk : j < ys.length), j < i → xs[j]'hj = ys[j]'hk) (hlt : xs[i]'h1 < ys[i]'h2) : natOf xs < natOf ys := by
  have e1 : xs = xs.take i ++ (xs[i]'h1 :: xs.drop (i + 1)) := by rw [← List.drop_eq_getElem_cons h1, List.take_append_drop]
  have e2 : ys = xs.take i ++ (ys[i]'h2 :: ys.drop (i + 1)) := by
    have : xs.take i = ys.take i := by
      apply List.ext_getElem
      · simp; omega
      · intro j hj hk
        simp at hj hk ⊢
        exact hall j (by omega) (by omega) (by omega)
    rw [this, ← List.drop_eq_getElem_cons h2, List.take_append_drop]
  rw [e1, e2]
  have := natOf_less (xs.take i) (xs.drop (i + 1)) (ys.drop (i + 1)) _ _ (by simp; omega) (fun z hz => hx z (List.mem_of_mem_drop hz)) hlt
  simpa using this
theorem natOf_shorter {xs ys : List Nat} (hx : ∀ z ∈ xs, z < 256) (hy : ys.head? ≠ some 0) (hl : xs.length < ys.length) : natOf xs < natOf ys := by
  cases ys with
  | nil => simp at hl
  | cons y r =>
    have hy0 : y ≠ 0 := fun e => hy (by simp [e])
    have h1 := natOf_pos y r hy0
    have h2 := natOf_lt xs hx
    have h3 : 256 ^ xs.length ≤ 256 ^ r.length := Nat.pow_le_pow_right (by omega) (by simp at hl; omega)
    omega
end Go.Proofs.YtndeolcamgnmdaaGreatDoor
namespace Go.Proofs.YtndeolcamgnmdaaGreatDoor
open Go.RowKit
attribute [local go_sem ↓] Go.wp_at_zero Go.wp_at_succ
def OrdPost (n : Int) (w : World) (e : Ending) (w' : World) : Prop := e = .returned (.int .i64 (sgn n)) ∧ Below w.heap.size w w'
theorem order_full (B1 B2 g1 c1 g2 c2 m1 m2 : Nat) (xs ys : List Nat) (w : World) (h1 : OB w B1 (.slice (some ⟨g1, 0, none⟩) m1 c1) xs) (h2 : OB w B2 (.slice (some ⟨g2, 0, none⟩) m2 c2) ys) (hhx : xs.head? ≠ some 0) (hhy : ys.head? ≠ some 0) :
    Calls Tryz.prog 22 #[.slice (some ⟨g1, 0, none⟩) m1 c1, .slice (some ⟨g2, 0, none⟩) m2 c2] w (OrdPost ((natOf xs : Int) - (natOf ys : Int)) w) := by
  have hm1 : m1 = xs.length ∧ m1 ≤ c1 ∧ c1 ≤ maxLen := by obtain ⟨_, _, hv, _, _, h1, h2⟩ := h1.form; injection hv with _ e1 e2; subst e1 e2; exact ⟨rfl, h1, h2⟩
  have hm2 : m2 = ys.length := by obtain ⟨_, _, hv, _, _, h1, h2⟩ := h2.form; injection hv
  obtain ⟨hm1, hmc, hcm⟩ := hm1
  unfold maxLen at hcm
  have HHX := Lib.hid hhx
  have HHY := Lib.hid hhy
  have HBX := Lib.hid h1.2.2
  have HBY := Lib.hid h2.2.2
  have H1 := Lib.hid h1
  have H2 := Lib.hid h2
  have HM1 := Lib.hid hm1
  have HM2 := Lib.hid hm2
  clear h1 h2 hm1 hm2 hhx hhy
  by_cases hne : m1 = m2
  · subst hne
    go_enter Tryz.func22, Tryz.ntmps22
    go_wp2_with fail
    go_loopw [5] (fun iv wr => ∃ i : Nat, i ≤ m1 ∧ iv = .int .i64 (i : Int) ∧ Hid (∀ j (hj : j < xs.length) (hk : j < ys.length), j < i → xs[j]'hj = ys[j]'hk) ∧ Hid (OB wr B1 (.slice (some ⟨g1, 0, none⟩) m1 c1) xs) ∧ Hid (OB wr B2 (.slice (some ⟨g2, 0, none⟩) m1 c2) ys) ∧ Below w.heap.size w wr)
      (fun iv _ => ((m1 : Int) - intOf iv).toNat)
    case atStart => exact ⟨0, Nat.zero_le _, rfl, fun j hj hk h => absurd h (Nat.not_lt_zero _), H1.out, H2.out, Below.refl _ _⟩
    case round =>
      obtain ⟨i, hi, rfl, hall, ho1, ho2, hb⟩ := hrel
      by_cases him : i < m1
      · have hix : i < xs.length := by rw [← HM1.out]; exact him
        have hiy : i < ys.length := by rw [← HM2.out]; exact him
        have hc1 := ho1.out.cell i hix
        have hc2 := ho2.out.cell i hiy
        obtain ⟨x, hx⟩ : ∃ x, x = xs[i]'hix := ⟨_, rfl⟩
        obtain ⟨y, hy⟩ : ∃ y, y = ys[i]'hiy := ⟨_, rfl⟩
        rw [← hx] at hc1
        rw [← hy] at hc2
        have HX := Lib.hid hx
        have HY := Lib.hid hy
        have hlt : i < c1 := by omega
        clear hx hy
        by_cases hxy : x = y
        · subst hxy
          go_wp2_with fail
          go_quiet (fail)
          go_wp2
          go_roundw
          case rel =>
            refine ⟨i + 1, by omega, by go_num, fun j hj hk h => ?_, ho1.out.below (below_dn (Below.refl _ _) _), ho2.out.below (below_dn (Below.refl _ _) _), below_dn hb _⟩
            by_cases e : j = i
            · subst e; rw [← HX.out, ← HY.out]
            · exact hall.out j hj hk (by omega)
          case measure => simp [intOf]; omega
        · have hb1 : ((x : Int) == (y : Int)) = false := by rw [beq_eq_false_iff_ne]; omega
          have hb2 : ((x : Int) != (y : Int)) = true := by rw [bne_iff_ne]; omega
          by_cases hlt2 : x < y
          · have hd : decide (x < y) = true := by simpa using hlt2
            have HLT := Lib.hid (natOf_at (xs := xs) (ys := ys) HBX.out (by rw [← HM1.out, ← HM2.out]) i hix hiy hall.out (by rw [← HX.out, ← HY.out]; exact hlt2))
            clear hlt2 hxy
            go_wp2_with fail
            go_quiet (fail)
            go_wp2_with fail
            go_quiet (fail)
            go_wp2
            go_ret
            exact ⟨ret_int (by unfold sgn; rw [if_pos (by have := HLT.out; omega)]), below_dn (below_dn hb _) _⟩
          · have hd : decide (x < y) = false := by simp; omega
            have HLT := Lib.hid (natOf_at (xs := ys) (ys := xs) HBY.out (by rw [← HM1.out, ← HM2.out]) i hiy hix (fun j hj hk h => (hall.out j hk hj h).symm) (by rw [← HX.out, ← HY.out]; omega))
            clear hlt2 hxy
            go_wp2_with fail
            go_quiet (fail)
            go_wp2_with fail
            go_quiet (fail)
            go_wp2
            go_ret
            exact ⟨ret_int (by unfold sgn; rw [if_neg (by have := HLT.out; omega), if_neg (by have := HLT.out; omega)]), below_dn (below_dn hb _) _⟩
      · obtain rfl : i = m1 := by omega
        go_wp2
        go_ret
        exact ⟨ret_int (by rw [eq_of_all HM1.out HM2.out hall.out]; unfold sgn; rw [if_neg (by omega), if_pos (by omega)]), hb⟩
  · have hb1 : ((m1 : Int) == (m2 : Int)) = false := by rw [beq_eq_false_iff_ne]; omega
    by_cases hlt : m1 < m2
    · have hd : decide ((m1 : Int) < (m2 : Int)) = true := by simp; omega
      have HLT := Lib.hid (natOf_shorter (xs := xs) (ys := ys) HBX.out HHY.out (by rw [← HM1.out, ← HM2.out]; exact hlt))
      clear hne
      go_enter Tryz.func22, Tryz.ntmps22
      go_wp2
      go_ret
      exact ⟨ret_int (by unfold sgn; rw [if_pos (by have := HLT.out; omega)]), Below.refl _ _⟩
    · have hd : decide ((m1 : Int) < (m2 : Int)) = false := by simp; omega
      have HLT := Lib.hid (natOf_shorter (xs := ys) (ys := xs) HBY.out HHX.out (by rw [← HM1.out, ← HM2.out]; omega))
      clear hne
      go_enter Tryz.func22, Tryz.ntmps22
      go_wp2
      go_ret
      exact ⟨ret_int (by unfold sgn; rw [if_neg (by have := HLT.out; omega), if_neg (by have := HLT.out; omega)]), Below.refl _ _⟩
end Go.Proofs.YtndeolcamgnmdaaGreatDoor
namespace Go.Proofs.YtndeolcamgnmdaaGreatDoor
open Go.RowKit
theorem wrap64_pos (n : Int) (h0 : 0 ≤ n) (h1 : n.natAbs < W64) : IntKind.u64.wrap n = ((n.natAbs : Nat) : Int) := by
  unfold W64 at h1
  simp [IntKind.wrap, IntKind.bits, IntKind.signed]
  omega
theorem wrap64_neg (n : Int) (h0 : n < 0) (h1 : n.natAbs < W64) : IntKind.u64.wrap n = ((W64 - n.natAbs : Nat) : Int) := by
  unfold W64 at *
  simp [IntKind.wrap, IntKind.bits, IntKind.signed]
  omega
theorem wrap64_back (m : Nat) (h0 : 0 < m) (h1 : m < W64) : IntKind.u64.wrap (-((W64 - m : Nat) : Int)) = (m : Int) := by
  unfold W64 at *
  simp [IntKind.wrap, IntKind.bits, IntKind.signed]
  omega
def NumPost (n : Int) (w : World) (e : Ending) (w' : World) : Prop := ∃ v neg l, e = .returned v ∧ SInt w' w.heap.size v neg l ∧ (∀ x ∈ l, x < 256) ∧ intOf2 neg l = n ∧ Below w.heap.size w w'
theorem SInt.only {w w' : World} {B : Nat} {S : Nat → Prop} {v : Value} {neg : Bool} {l : List Nat} (h : SInt w B v neg l) (k : Only S w w') (hs : ∀ g, B ≤ g → ¬ S g) : SInt w' B v neg l := by
  obtain ⟨vs, hv, h1, h2⟩ := h
  exact ⟨vs, hv, h1.only k hs, h2⟩
theorem small_fin {n : Int} {neg : Bool} {lb : List Nat} (hneg : neg = decide (n < 0)) (hl : natOf lb = n.natAbs) : intOf2 (negOf neg lb) (strip lb) = n := by
  unfold intOf2
  rw [natOf_strip, hl]
  by_cases h : n < 0
  · have hs : strip lb ≠ [] := fun e => by
      have := natOf_strip lb
      rw [e, hl] at this
      simp [natOf] at this
      omega
    have : negOf neg lb = true := by
      subst hneg
      unfold negOf
      cases hq : strip lb with
      | nil => exact absurd hq hs
      | cons x r => simp [h]
    rw [this]
    simp
    omega
  · have : negOf neg lb = false := by subst hneg; simp [negOf, h]
    rw [this]
    simp
    omega
set_option maxHeartbeats 2000000 in
theorem small_any (n : Int) (hn : n.natAbs < W64) (w : World) :
    Calls Tryz.prog 6 #[.int .i64 n] w (NumPost n w) := by
  have hK := Lib.hid (Blk.new w 24 #[.bool false, .slice none 0 0])
  have HN := Lib.hid hn
  by_cases h0 : n < 0
  · obtain ⟨U, hU⟩ : ∃ U, U = W64 - n.natAbs := ⟨_, rfl⟩
    obtain ⟨m, hm⟩ : ∃ m, m = n.natAbs := ⟨_, rfl⟩
    have hw1 := wrap64_neg n h0 hn
    have hw2 := wrap64_back n.natAbs (by omega) hn
    rw [← hU] at hw1 hw2
    rw [← hm] at hw2
    have hd : decide (n < 0) = true := by simp [h0]
    have HU := Lib.hid hU
    have HM := Lib.hid hm
    have H0 := Lib.hid h0
    clear hU hm h0 hn
    go_enter Tryz.func6, Tryz.ntmps6
    go_wp2_with fail
    refine (bytes_of m (by have := HM.out; have := HN.out; omega) _).mono ?_
    rintro e w1 ⟨v1, lb, rfl, hob, h8, hnat, hb1⟩
    obtain ⟨g, c, hv1, hg1, _, _, _⟩ := hob.form
    rw [h8] at hv1
    subst hv1
    have HOB := Lib.hid hob
    have HNAT := Lib.hid hnat
    have H8 := Lib.hid h8
    have HB1 := Lib.hid hb1
    have k1 := Lib.hid (hK.out.below hb1 (by simp))
    clear hob hnat h8 hb1 hg1
    go_wp2_with fail
    refine (of_any true _ _ _ lb _ HOB.out.bsl (by have := H8.out; omega)).mono ?_
    rintro e w2 ⟨v2, rfl, hsi, hb2⟩
    have hfin := small_fin (n := n) (neg := true) (lb := lb) (by simp [H0.out]) (by rw [HNAT.out, HM.out])
    have HFIN := Lib.hid hfin
    have hbw : Below w.heap.size w w2 := ((Below.refl _ w).alloc (Nat.le_refl _) _).trans ((HB1.out.mono (by simp)).trans (hb2.mono (by have := HB1.out.size; simp at this; omega)))
    obtain ⟨c0, c1, f0, f1⟩ := blk2 (k1.out.below hb2 k1.out.lt)
    have hsz : w.heap.size + 1 ≤ w1.heap.size := by have := HB1.out.size; simpa using this
    have hsi' := Lib.hid (hsi.base (C := w.heap.size + 1) hsz)
    obtain ⟨vs, rfl, ho, hh, hn2⟩ := hsi
    obtain ⟨g2, c2, hvs, hg2, _, _, _⟩ := ho.form
    obtain ⟨r, hr⟩ : ∃ r, r = (strip lb).length := ⟨_, rfl⟩
    rw [← hr] at hvs
    subst hvs
    obtain ⟨nb, hnb⟩ : ∃ nb, nb = negOf true lb := ⟨_, rfl⟩
    rw [← hnb] at hsi' ⊢
    have HNB := Lib.hid hnb
    have HBS := Lib.hid ho.2.2
    have hbw' := Lib.hid hbw
    clear hb2 ho hh hn2 hr hnb hfin hbw
    go_wp2
    refine bodyPost_ret (v := .agg #[.bool nb, .slice (some ⟨g2, 0, none⟩) r c2]) (by simp [results, Tryz.results6, go_sem, c0, c1]) rfl ⟨_, nb, strip lb, rfl, ?_, HBS.out, by rw [HNB.out]; exact HFIN.out, (hbw'.out.setCell (p := ⟨w.heap.size, 0, none⟩) (Nat.le_refl _) _).setCell (p := ⟨w.heap.size, 1, none⟩) (Nat.le_refl _) _⟩
    exact (hsi'.out.only (two_set w2 w.heap.size (.bool nb) (.slice (some ⟨g2, 0, none⟩) r c2)) (fun k hk e => by omega)).base (by omega)
  · obtain ⟨m, hm⟩ : ∃ m, m = n.natAbs := ⟨_, rfl⟩
    have hw1 := wrap64_pos n (by omega) hn
    rw [← hm] at hw1
    have hd : decide (n < 0) = false := by simp [h0]
    have HM := Lib.hid hm
    have H0 := Lib.hid h0
    clear hm h0 hn
    go_enter Tryz.func6, Tryz.ntmps6
    go_wp2_with fail
    refine (bytes_of m (by have := HM.out; have := HN.out; omega) _).mono ?_
    rintro e w1 ⟨v1, lb, rfl, hob, h8, hnat, hb1⟩
    obtain ⟨g, c, hv1, hg1, _, _, _⟩ := hob.form
    rw [h8] at hv1
    subst hv1
    have HOB := Lib.hid hob
    have HNAT := Lib.hid hnat
    have H8 := Lib.hid h8
    have HB1 := Lib.hid hb1
    have k1 := Lib.hid (hK.out.below hb1 (by simp))
    clear hob hnat h8 hb1 hg1
    go_wp2_with fail
    refine (of_any false _ _ _ lb _ HOB.out.bsl (by have := H8.out; omega)).mono ?_
    rintro e w2 ⟨v2, rfl, hsi, hb2⟩
    have hfin := small_fin (n := n) (neg := false) (lb := lb) (by simp [H0.out]) (by rw [HNAT.out, HM.out])
    have HFIN := Lib.hid hfin
    have hbw : Below w.heap.size w w2 := ((Below.refl _ w).alloc (Nat.le_refl _) _).trans ((HB1.out.mono (by simp)).trans (hb2.mono (by have := HB1.out.size; simp at this; omega)))
    obtain ⟨c0, c1, f0, f1⟩ := blk2 (k1.out.below hb2 k1.out.lt)
    have hsz : w.heap.size + 1 ≤ w1.heap.size := by have := HB1.out.size; simpa using this
    have hsi' := Lib.hid (hsi.base (C := w.heap.size + 1) hsz)
    obtain ⟨vs, rfl, ho, hh, hn2⟩ := hsi
    obtain ⟨g2, c2, hvs, hg2, _, _, _⟩ := ho.form
    obtain ⟨r, hr⟩ : ∃ r, r = (strip lb).length := ⟨_, rfl⟩
    rw [← hr] at hvs
    subst hvs
    obtain ⟨nb, hnb⟩ : ∃ nb, nb = negOf false lb := ⟨_, rfl⟩
    rw [← hnb] at hsi' ⊢
    have HNB := Lib.hid hnb
    have HBS := Lib.hid ho.2.2
    have hbw' := Lib.hid hbw
    clear hb2 ho hh hn2 hr hnb hfin hbw
    go_wp2
    refine bodyPost_ret (v := .agg #[.bool nb, .slice (some ⟨g2, 0, none⟩) r c2]) (by simp [results, Tryz.results6, go_sem, c0, c1]) rfl ⟨_, nb, strip lb, rfl, ?_, HBS.out, by rw [HNB.out]; exact HFIN.out, (hbw'.out.setCell (p := ⟨w.heap.size, 0, none⟩) (Nat.le_refl _) _).setCell (p := ⟨w.heap.size, 1, none⟩) (Nat.le_refl _) _⟩
    exact (hsi'.out.only (two_set w2 w.heap.size (.bool nb) (.slice (some ⟨g2, 0, none⟩) r c2)) (fun k hk e => by omega)).base (by omega)
end Go.Proofs.YtndeolcamgnmdaaGreatDoor
