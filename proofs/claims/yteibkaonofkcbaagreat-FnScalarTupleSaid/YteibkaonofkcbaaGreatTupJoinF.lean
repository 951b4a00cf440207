/- Joined texts: BigInt, BitLen. -/
import Derived.Test.YteibkaonofkcbaaGreatSetBytes
import Derived.WalkSpells
import Derived.Lib.Builder
import Derived.Lib.BitFns
import Derived.Laws.Bits64b
set_option linter.unusedSimpArgs false
set_option linter.unusedVariables false
namespace Go.Proofs.YteibkaonofkcbaaGreat
open Go.RowKit
def valI (neg : Bool) (ws : List Nat) : Int := if neg then -(valW ws : Int) else (valW ws : Int)
/-- Block b holds an integer of these words, which lie above B. -/
def BigI (w : World) (B b : Nat) (neg : Bool) (ws : List Nat) : Prop :=
  ∃ v, Blk w b 136 #[.bool neg, v] ∧ OW w B v ws ∧ TopNZ ws ∧ (neg = true → ws ≠ []) ∧ ws.length ≤ 1000
theorem BigI.blk {w : World} {B b : Nat} {neg : Bool} {ws : List Nat} (h : BigI w B b neg ws) : b < w.heap.size := by obtain ⟨_, h1, _⟩ := h; exact h1.lt
theorem BigI.below {w w' : World} {B b : Nat} {neg : Bool} {ws : List Nat} (h : BigI w B b neg ws) (hb : Below w.heap.size w w') : BigI w' B b neg ws := by
  obtain ⟨v, h1, h2, h3⟩ := h
  exact ⟨v, h1.below hb h1.lt, h2.below hb, h3⟩
theorem BigI.base {w : World} {B C b : Nat} {neg : Bool} {ws : List Nat} (h : BigI w B b neg ws) (hC : C ≤ B) : BigI w C b neg ws := by
  obtain ⟨v, h1, h2, h3⟩ := h
  exact ⟨v, h1, h2.base hC, h3⟩
/-- The value of the slice of words, its constructor in sight. -/
theorem OW.shape {w : World} {B : Nat} {v : Value} {l : List Nat} (h : OW w B v l) : ∃ a c, v = .slice a l.length c := by
  rcases h.form with ⟨hv, rfl⟩ | ⟨g, c, hv, _⟩
  · exact ⟨none, 0, hv⟩
  · exact ⟨_, c, hv⟩
theorem pow8_len {ws : List Nat} {l : List Nat} (h : valW ws = natOf l) (ht : TopNZ ws) (hl : l.length ≤ 1000) (hb : ∀ x ∈ l, x < 256) : ws.length ≤ 1000 := by
  by_cases h0 : ws = []
  · subst h0; simp
  · obtain ⟨init, last, rfl⟩ : ∃ init last, ws = init ++ [last] := ⟨ws.dropLast, ws.getLast h0, (List.dropLast_concat_getLast h0).symm⟩
    have hl0 : last ≠ 0 := by
      unfold TopNZ at ht
      simpa using ht
    have h1 := valW_top init last hl0
    have h2 := natOf_lt l hb
    by_cases hc : init.length < 1000
    · simp; omega
    · exfalso
      have h3 : W64 ^ init.length = 256 ^ (8 * init.length) := (pow256_8 _).symm
      have h4 := Nat.pow_le_pow_right (n := 256) (by omega) (show l.length ≤ 8 * init.length by omega)
      omega
def SetBytesPost (b : Nat) (l : List Nat) (w : World) (e : Ending) (w' : World) : Prop := ∃ ws, e = .returned (.pointer (some ⟨b, 0, none⟩)) ∧ BigI w' w.heap.size b false ws ∧ valW ws = natOf l ∧ Only (· = b) w w'
set_option maxRecDepth 20000 in
set_option maxHeartbeats 2000000 in
theorem int_setBytes (B b g n c : Nat) (l : List Nat) (w : World) (hz : Blk w b 136 #[.bool false, .slice none 0 0]) (h : OB w B (.slice (some ⟨g, 0, none⟩) n c) l) (hn : n ≤ 1000) (hnl : n = l.length) :
    Calls Tryz.prog 68 #[.pointer (some ⟨b, 0, none⟩), .slice (some ⟨g, 0, none⟩) n c] w (SetBytesPost b l w) := by
  obtain ⟨c0, c1, f0, f1⟩ := blk2 hz
  have HZ := Lib.hid hz
  have H := Lib.hid h
  have HNL := Lib.hid hnl
  clear hz h hnl
  go_enter Tryz.func68, Tryz.ntmps68
  go_wp2_with fail
  refine (set_bytes B g n c l _ H.out hn HNL.out).mono ?_
  rintro e w1 ⟨v, ws, rfl, how, hval, htop, hb1⟩
  have hlen := pow8_len hval htop (by have := HNL.out; omega) H.out.2.2
  obtain ⟨a, cz, hv⟩ := how.shape
  obtain ⟨r, hr⟩ : ∃ r, r = ws.length := ⟨_, rfl⟩
  rw [← hr] at hv
  subst hv
  have k := Lib.hid (HZ.out.below hb1 HZ.out.lt)
  obtain ⟨d0, d1, e0, e1⟩ := blk2 k.out
  have HOW := Lib.hid how
  have HB := Lib.hid hb1
  have HV := Lib.hid hval
  have hbz := HZ.out.lt
  clear how hb1 hval hr c0 c1 f0 f1
  go_wp2
  go_ret
  refine ⟨ws, rfl, ⟨.slice a r cz, ?_, ?_, htop, fun h => by simp at h, hlen⟩, HV.out, ?_⟩
  · have h := (k.out.put 1 (.slice a r cz)).put 0 (.bool false)
    simpa using h
  · exact HOW.out.only (((Only.refl (fun x => x = b) w1).setCell (p := ⟨b, 1, none⟩) (.inl (rfl : b = b)) _).setCell (p := ⟨b, 0, none⟩) (.inl (rfl : b = b)) _) (fun k hk e => by omega)
  · exact ((Only.of_below (S := fun x => x = b) HB.out).setCell (p := ⟨b, 1, none⟩) (.inl (rfl : b = b)) _).setCell (p := ⟨b, 0, none⟩) (.inl (rfl : b = b)) _
set_option maxRecDepth 20000 in
theorem set_same (b : Nat) (w : World) :
    Calls Tryz.prog 80 #[.pointer (some ⟨b, 0, none⟩), .pointer (some ⟨b, 0, none⟩)] w fun e w' => e = .returned (.pointer (some ⟨b, 0, none⟩)) ∧ w = w' := by
  have hne := Lib.run_neq_ptr_same (P := Tryz.prog) (w := w) (te := 136) (tp := 111) (j := (Tryz.prog.info? 136).get (by kernel_rfl)) ⟨b, 0, none⟩ Tryz.underlying111 (Option.some_get _).symm
  go_enter Tryz.func80, Tryz.ntmps80
  go_wp2
  go_ret
  exact ⟨rfl, rfl⟩
def NegPost (B b : Nat) (ws : List Nat) (w : World) (e : Ending) (w' : World) : Prop := e = .returned (.pointer (some ⟨b, 0, none⟩)) ∧ BigI w' B b (!ws.isEmpty) ws ∧ Only (· = b) w w'
set_option maxRecDepth 20000 in
set_option maxHeartbeats 2000000 in
theorem int_neg (B b : Nat) (ws : List Nat) (w : World) (hB : b < B) (h : BigI w B b false ws) :
    Calls Tryz.prog 69 #[.pointer (some ⟨b, 0, none⟩), .pointer (some ⟨b, 0, none⟩)] w (NegPost B b ws w) := by
  obtain ⟨v, hz, how, htop, _, hlen⟩ := h
  obtain ⟨a, c, hv⟩ := how.shape
  obtain ⟨r, hr⟩ : ∃ r, r = ws.length := ⟨_, rfl⟩
  rw [← hr] at hv
  subst hv
  obtain ⟨c0, c1, f0, f1⟩ := blk2 hz
  have HZ := Lib.hid hz
  have HOW := Lib.hid how
  have HR := Lib.hid hr
  have hO : ∀ u, Only (· = b) w (w.setCell ⟨b, 0, none⟩ u) := fun u => (Only.refl (fun x => x = b) w).setCell (p := ⟨b, 0, none⟩) (.inl (rfl : b = b)) u
  have HO := Lib.hid hO
  clear hz how hr hO
  by_cases h0 : 0 < r
  · have hd : decide ((0 : Int) < (r : Int)) = true := by simp; omega
    have HE : Hid ((!ws.isEmpty) = true) := by
      unfold Hid
      cases hw : ws with
      | nil => have := HR.out; rw [hw] at this; simp at this; omega
      | cons x y => rfl
    go_enter Tryz.func69, Tryz.ntmps69
    go_wp2_with fail
    refine (set_same b _).mono ?_
    rintro e w1 ⟨rfl, rfl⟩
    go_wp2
    go_ret
    refine ⟨rfl, ⟨.slice a r c, ?_, HOW.out.only (HO.out _) (fun k hk e => by omega), htop, fun _ e => ?_, hlen⟩, HO.out _⟩
    · have h := HZ.out.put 0 (.bool true)
      rw [HE.out]
      simpa using h
    · have := HR.out; rw [e] at this; simp at this; omega
  · have hd : decide ((0 : Int) < (r : Int)) = false := by simp; omega
    have HE : Hid ((!ws.isEmpty) = false) := by
      unfold Hid
      have : ws = [] := List.eq_nil_of_length_eq_zero (by have := HR.out; omega)
      rw [this]; rfl
    go_enter Tryz.func69, Tryz.ntmps69
    go_wp2_with fail
    refine (set_same b _).mono ?_
    rintro e w1 ⟨rfl, rfl⟩
    go_wp2
    go_ret
    refine ⟨rfl, ⟨.slice a r c, ?_, HOW.out.only (HO.out _) (fun k hk e => by omega), htop, fun h e => ?_, hlen⟩, HO.out _⟩
    · have h := HZ.out.put 0 (.bool false)
      rw [HE.out]
      simpa using h
    · rw [HE.out] at h; simp at h
def signW (neg : Bool) (ws : List Nat) : Int := if ws = [] then 0 else if neg then -1 else 1
def SignWPost (neg : Bool) (ws : List Nat) (w : World) (e : Ending) (w' : World) : Prop := e = .returned (.int .i64 (signW neg ws)) ∧ w = w'
theorem big_sign (B b : Nat) (neg : Bool) (ws : List Nat) (w : World) (h : BigI w B b neg ws) :
    Calls Tryz.prog 72 #[.pointer (some ⟨b, 0, none⟩)] w (SignWPost neg ws w) := by
  obtain ⟨v, hz, how, htop, _, hlen⟩ := h
  obtain ⟨a, c, hv⟩ := how.shape
  obtain ⟨r, hr⟩ : ∃ r, r = ws.length := ⟨_, rfl⟩
  rw [← hr] at hv
  subst hv
  obtain ⟨c0, c1, f0, f1⟩ := blk2 hz
  have HR := Lib.hid hr
  clear hz how hr
  by_cases h0 : r = 0
  · have hb : ((r : Int) == 0) = true := by rw [beq_iff_eq]; omega
    have hw : ws = [] := List.eq_nil_of_length_eq_zero (by have := HR.out; omega)
    have HW : Hid (signW neg ws = 0) := by unfold Hid signW; rw [if_pos hw]
    clear hw h0
    go_enter Tryz.func72, Tryz.ntmps72
    go_wp2
    go_ret
    exact ⟨ret_int (by rw [HW.out]), rfl⟩
  · have hb : ((r : Int) == 0) = false := by rw [beq_eq_false_iff_ne]; omega
    have hw : ¬ ws = [] := fun e => by have := HR.out; rw [e] at this; simp at this; omega
    have HW : Hid (signW neg ws = if neg then -1 else 1) := by unfold Hid signW; rw [if_neg hw]
    clear hw h0
    cases neg
    all_goals
      go_enter Tryz.func72, Tryz.ntmps72
      go_wp2
      go_ret
      exact ⟨ret_int (by rw [HW.out]; rfl), rfl⟩
theorem low_64 (B : Nat) (v : Value) (ws : List Nat) (w : World) (how : OW w B v ws) :
    Calls Tryz.prog 95 #[v] w fun e w' => e = .returned (.int .u64 ((valW ws % W64 : Nat) : Int)) ∧ w = w' := by
  rcases how.form with ⟨rfl, rfl⟩ | ⟨g, c, rfl, _, _, hc, hcm⟩
  · go_enter Tryz.func95, Tryz.ntmps95
    go_wp2
    go_ret
    exact ⟨rfl, rfl⟩
  · cases ws with
    | nil =>
      go_enter Tryz.func95, Tryz.ntmps95
      go_wp2
      go_ret
      exact ⟨rfl, rfl⟩
    | cons x r =>
      have hx : x < W64 := how.2 x (by simp)
      have HV : Hid (valW (x :: r) % W64 = x) := by unfold Hid; rw [valW, Nat.add_mul_mod_self_left, Nat.mod_eq_of_lt hx]
      obtain ⟨n, hn⟩ : ∃ n, n = (x :: r).length := ⟨_, rfl⟩
      have hn0 : 0 < n := by rw [hn]; simp
      have hb : ((n : Int) == 0) = false := by rw [beq_eq_false_iff_ne]; omega
      have c0 := how.cell 0 (by simp)
      simp only [List.getElem_cons_zero] at c0
      rw [← hn] at hc ⊢
      have h0n : (0 : Int) < (n : Int) := by omega
      clear how hn hx
      go_enter Tryz.func95, Tryz.ntmps95
      go_wp2
      go_ret
      exact ⟨ret_int (by rw [HV.out]), rfl⟩
end Go.Proofs.YteibkaonofkcbaaGreat
namespace Go.Proofs.YteibkaonofkcbaaGreat
open Go.RowKit
theorem W64_two : W64 = 2 ^ 64 := by unfold W64; decide
theorem bitLenAux_le : ∀ (f x m : Nat), x < 2 ^ f → (Lib.bitLenAux f x ≤ m ↔ x < 2 ^ m)
  | 0, x, m, h => by
    have : x = 0 := by simpa using h
    subst this
    simp [Lib.bitLenAux]
    exact Nat.pow_pos (by omega)
  | f + 1, x, m, h => by
    rw [Lib.bitLenAux]
    by_cases h0 : x = 0
    · subst h0
      simp
      exact Nat.pow_pos (by omega)
    · rw [if_neg h0]
      have hx : x / 2 < 2 ^ f := by rw [Nat.pow_succ] at h; omega
      cases m with
      | zero => simp; omega
      | succ m =>
        have ih := bitLenAux_le f (x / 2) m hx
        rw [Nat.pow_succ]
        omega
theorem bitLen_le (x m : Nat) (h : x < W64) : Lib.bitLen x ≤ m ↔ x < 2 ^ m := bitLenAux_le 64 x m (by rw [← W64_two]; exact h)
theorem or_shift (x k m : Nat) : (x ||| x / 2 ^ k) < 2 ^ m ↔ x < 2 ^ m := by
  constructor
  · intro h
    exact Nat.lt_of_le_of_lt Nat.left_le_or h
  · intro h
    exact Nat.or_lt_two_pow h (Nat.lt_of_le_of_lt (Nat.div_le_self _ _) h)
theorem or_lt64 (x k : Nat) (h : x < W64) : (x ||| x / 2 ^ k) < W64 := by rw [W64_two] at *; exact (or_shift x k 64).2 h
theorem bitLen_or (x k : Nat) (h : x < W64) : Lib.bitLen (x ||| x / 2 ^ k) = Lib.bitLen x := by
  have h2 := or_lt64 x k h
  have a := (bitLen_le x (Lib.bitLen (x ||| x / 2 ^ k)) h).2 ((or_shift x k _).1 ((bitLen_le _ _ h2).1 (Nat.le_refl _)))
  have b := (bitLen_le (x ||| x / 2 ^ k) (Lib.bitLen x) h2).2 ((or_shift x k _).2 ((bitLen_le _ _ h).1 (Nat.le_refl _)))
  omega
theorem bitLen_64 (x : Nat) (h : x < W64) : Lib.bitLen x ≤ 64 := (bitLen_le x 64 h).2 (by rw [← W64_two]; exact h)
theorem bitLen_pos (x : Nat) (h : x < W64) (h0 : x ≠ 0) : 1 ≤ Lib.bitLen x := by
  have := bitLen_le x 0 h
  simp at this
  omega
/-- How many bits words have. -/
def blen (ws : List Nat) : Nat := match ws.getLast? with
  | none => 0
  | some x => 64 * (ws.length - 1) + Lib.bitLen x
theorem blen_le (ws : List Nat) (m : Nat) (ht : TopNZ ws) (hw : ∀ x ∈ ws, x < W64) : blen ws ≤ m ↔ valW ws < 2 ^ m := by
  by_cases h0 : ws = []
  · subst h0
    simp [blen, valW]
    exact Nat.pow_pos (by omega)
  · obtain ⟨init, last, rfl⟩ : ∃ init last, ws = init ++ [last] := ⟨ws.dropLast, ws.getLast h0, (List.dropLast_concat_getLast h0).symm⟩
    have hl0 : last ≠ 0 := by unfold TopNZ at ht; simpa using ht
    have hlw : last < W64 := hw last (by simp)
    have hi := valW_lt init (fun x hx => hw x (by simp [hx]))
    have hb : blen (init ++ [last]) = 64 * init.length + Lib.bitLen last := by simp [blen]
    have hv : valW (init ++ [last]) = valW init + W64 ^ init.length * last := by rw [valW_append]; simp [valW]
    have hp : W64 ^ init.length = 2 ^ (64 * init.length) := by rw [W64_two, ← Nat.pow_mul]
    have h1 := bitLen_pos last hlw hl0
    rw [hb, hv, hp]
    rw [hp] at hi
    by_cases hm : 64 * init.length ≤ m
    · obtain ⟨d, rfl⟩ : ∃ d, m = 64 * init.length + d := ⟨m - 64 * init.length, by omega⟩
      rw [Nat.pow_add]
      have h2 := bitLen_le last d hlw
      have h3 : 64 * init.length + Lib.bitLen last ≤ 64 * init.length + d ↔ Lib.bitLen last ≤ d := by omega
      rw [h3, h2]
      generalize 2 ^ (64 * init.length) = P at *
      generalize 2 ^ d = Q at *
      constructor
      · intro h
        have := Nat.mul_le_mul_left P (show last + 1 ≤ Q from h)
        rw [Nat.mul_add, Nat.mul_one] at this
        omega
      · intro h
        by_cases hq : last < Q
        · exact hq
        · exfalso
          have := Nat.mul_le_mul_left P (show Q ≤ last by omega)
          omega
    · have h4 := Nat.pow_le_pow_right (n := 2) (by omega) (show m ≤ 64 * init.length by omega)
      have h5 : 2 ^ (64 * init.length) * 1 ≤ 2 ^ (64 * init.length) * last := Nat.mul_le_mul_left _ (by omega)
      constructor
      · intro h; omega
      · intro h; omega
theorem blen_bound (ws : List Nat) (hl : ws.length ≤ 1000) (hw : ∀ x ∈ ws, x < W64) : blen ws ≤ 64000 := by
  unfold blen
  cases h : ws.getLast? with
  | none => simp
  | some x =>
    have := bitLen_64 x (hw x (List.mem_of_getLast? h))
    simp only []
    omega
end Go.Proofs.YteibkaonofkcbaaGreat
