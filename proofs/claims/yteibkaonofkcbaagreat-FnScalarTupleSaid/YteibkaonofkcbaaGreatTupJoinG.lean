/- Joined texts: BitLenW, NatSet. -/
import Derived.Test.YteibkaonofkcbaaGreatTupJoinF
import Derived.Test.YteibkaonofkcbaaGreatShelf
import Derived.Laws.CopyOwn
import Derived.LaidEqlPtr
set_option linter.unusedSimpArgs false
set_option linter.unusedVariables false
namespace Go.Proofs.YteibkaonofkcbaaGreat
open Go.RowKit
def BLenPost (ws : List Nat) (w : World) (e : Ending) (w' : World) : Prop := e = .returned (.int .i64 ((blen ws : Nat) : Int)) ∧ w = w'
set_option maxRecDepth 20000 in
set_option maxHeartbeats 2000000 in
theorem nat_bitLen (B : Nat) (v : Value) (ws : List Nat) (w : World) (how : OW w B v ws) (hlen : ws.length ≤ 1000) :
    Calls Tryz.prog 99 #[v] w (BLenPost ws w) := by
  obtain ⟨a, c, rfl⟩ := how.shape
  by_cases h0 : ws = []
  · subst h0
    clear how
    go_enter Tryz.func99, Tryz.ntmps99
    go_wp2
    go_ret
    exact ⟨rfl, rfl⟩
  · obtain ⟨init, x, rfl⟩ : ∃ init last, ws = init ++ [last] := ⟨ws.dropLast, ws.getLast h0, (List.dropLast_concat_getLast h0).symm⟩
    have hx : x < W64 := how.2 x (by simp)
    obtain ⟨i, hi⟩ : ∃ i, i = init.length := ⟨_, rfl⟩
    have hbl : blen (init ++ [x]) = 64 * i + Lib.bitLen x := by simp [blen, hi]
    have hn : (init ++ [x]).length = i + 1 := by simp [hi]
    rcases how.form with ⟨hv, _⟩ | ⟨g, c', hv, _, _, hc, hcm⟩
    · injection hv with _ e2; rw [hn] at e2; omega
    injection hv with e1 e2 e3
    subst e1 e3
    have hcell := how.cell i (by omega)
    have hget : (init ++ [x])[i]'(by omega) = x := by simp [hi]
    rw [hget] at hcell
    rw [hn] at hc ⊢
    have HBL := Lib.hid hbl
    have hi1000 : i ≤ 1000 := by omega
    have hsub : ((i + 1 : Nat) : Int) - 1 = (i : Int) := by omega
    obtain ⟨y1, hy1⟩ : ∃ y, y = x ||| x / 2 ^ 1 := ⟨_, rfl⟩
    have l1 : y1 < W64 := by rw [hy1]; exact or_lt64 x 1 hx
    obtain ⟨y2, hy2⟩ : ∃ y, y = y1 ||| y1 / 2 ^ 2 := ⟨_, rfl⟩
    have l2 : y2 < W64 := by rw [hy2]; exact or_lt64 y1 2 l1
    obtain ⟨y3, hy3⟩ : ∃ y, y = y2 ||| y2 / 2 ^ 4 := ⟨_, rfl⟩
    have l3 : y3 < W64 := by rw [hy3]; exact or_lt64 y2 4 l2
    obtain ⟨y4, hy4⟩ : ∃ y, y = y3 ||| y3 / 2 ^ 8 := ⟨_, rfl⟩
    have l4 : y4 < W64 := by rw [hy4]; exact or_lt64 y3 8 l3
    obtain ⟨y5, hy5⟩ : ∃ y, y = y4 ||| y4 / 2 ^ 16 := ⟨_, rfl⟩
    have l5 : y5 < W64 := by rw [hy5]; exact or_lt64 y4 16 l4
    obtain ⟨y6, hy6⟩ : ∃ y, y = y5 ||| y5 / 2 ^ 32 := ⟨_, rfl⟩
    have l6 : y6 < W64 := by rw [hy6]; exact or_lt64 y5 32 l5
    have HY : Hid (Lib.bitLen y6 = Lib.bitLen x) := by
      unfold Hid
      rw [hy6, bitLen_or y5 32 l5, hy5, bitLen_or y4 16 l4, hy4, bitLen_or y3 8 l3, hy3, bitLen_or y2 4 l2, hy2, bitLen_or y1 2 l1, hy1, bitLen_or x 1 hx]
    have q1 : bits .or .u64 (x : Int) ((x : Int) / 2) = (y1 : Int) := by
      have h := bits_or_u64_nat x (x / 2 ^ 1) hx (Nat.lt_of_le_of_lt (Nat.div_le_self _ _) hx)
      rw [← hy1] at h; simpa using h
    have q2 : bits .or .u64 (y1 : Int) ((y1 : Int) / 4) = (y2 : Int) := by
      have h := bits_or_u64_nat y1 (y1 / 2 ^ 2) l1 (Nat.lt_of_le_of_lt (Nat.div_le_self _ _) l1)
      rw [← hy2] at h; simpa using h
    have q3 : bits .or .u64 (y2 : Int) ((y2 : Int) / 16) = (y3 : Int) := by
      have h := bits_or_u64_nat y2 (y2 / 2 ^ 4) l2 (Nat.lt_of_le_of_lt (Nat.div_le_self _ _) l2)
      rw [← hy3] at h; simpa using h
    have q4 : bits .or .u64 (y3 : Int) ((y3 : Int) / 256) = (y4 : Int) := by
      have h := bits_or_u64_nat y3 (y3 / 2 ^ 8) l3 (Nat.lt_of_le_of_lt (Nat.div_le_self _ _) l3)
      rw [← hy4] at h; simpa using h
    have q5 : bits .or .u64 (y4 : Int) ((y4 : Int) / 65536) = (y5 : Int) := by
      have h := bits_or_u64_nat y4 (y4 / 2 ^ 16) l4 (Nat.lt_of_le_of_lt (Nat.div_le_self _ _) l4)
      rw [← hy5] at h; simpa using h
    have q6 : bits .or .u64 (y5 : Int) ((y5 : Int) / 65536 / 65536) = (y6 : Int) := by
      have h := bits_or_u64_nat y5 (y5 / 2 ^ 32) l5 (Nat.lt_of_le_of_lt (Nat.div_le_self _ _) l5)
      rw [← hy6] at h
      have e : (y5 : Int) / 65536 / 65536 = ((y5 / 2 ^ 32 : Nat) : Int) := by
        have : y5 / 65536 / 65536 = y5 / 2 ^ 32 := by rw [Nat.div_div_eq_div_mul]
        rw [← this]; simp
      rw [e]; exact h
    have L6 := Lib.hid l6
    have L64 := Lib.hid (bitLen_64 x hx)
    clear hy1 hy2 hy3 hy4 hy5 hy6 l1 l2 l3 l4 l5 l6 hx how hn hi hbl hget
    go_enter Tryz.func99, Tryz.ntmps99
    go_wp2_with fail
    refine (Tryz.bits_Len (y6 : Int) _ (by omega) (by have := L6.out; unfold W64 at this; omega)).mono ?_
    rw [Int.toNat_natCast, HY.out]
    obtain ⟨m, hm⟩ : ∃ m, m = Lib.bitLen x := ⟨_, rfl⟩
    rw [← hm] at HBL ⊢
    rintro e w1 ⟨rfl, rfl⟩
    have hm64 : m ≤ 64 := by rw [hm]; exact L64.out
    clear hm
    go_wp2
    go_ret
    exact ⟨ret_int (by rw [HBL.out]; omega), rfl⟩
theorem int_bitLen (B b : Nat) (neg : Bool) (ws : List Nat) (w : World) (h : BigI w B b neg ws) :
    Calls Tryz.prog 94 #[.pointer (some ⟨b, 0, none⟩)] w (BLenPost ws w) := by
  obtain ⟨v, hz, how, htop, _, hlen⟩ := h
  obtain ⟨a, c, hv⟩ := how.shape
  obtain ⟨r, hr⟩ : ∃ r, r = ws.length := ⟨_, rfl⟩
  rw [← hr] at hv
  subst hv
  obtain ⟨c0, c1, f0, f1⟩ := blk2 hz
  have HOW := Lib.hid how
  have HR := Lib.hid hr
  clear hz how hr
  go_enter Tryz.func94, Tryz.ntmps94
  go_wp2_with fail
  refine (nat_bitLen B _ ws _ HOW.out hlen).mono ?_
  rintro e w1 ⟨rfl, rfl⟩
  go_wp2
  go_ret
  exact ⟨rfl, rfl⟩
def IntPost (n : Int) (w : World) (e : Ending) (w' : World) : Prop := e = .returned (.int .i64 n) ∧ w = w'
theorem wrap_i64_mid (n : Int) (h0 : -9223372036854775808 ≤ n) (h1 : n < 9223372036854775808) : IntKind.i64.wrap n = n := by
  rw [IntKind.wrap_i64]; omega
set_option maxHeartbeats 1000000 in
theorem int_int64 (B b : Nat) (neg : Bool) (ws : List Nat) (w : World) (h : BigI w B b neg ws) (hs : valW ws < 9223372036854775808) :
    Calls Tryz.prog 83 #[.pointer (some ⟨b, 0, none⟩)] w (IntPost (valI neg ws) w) := by
  obtain ⟨v, hz, how, htop, _, hlen⟩ := h
  obtain ⟨a, c, hv⟩ := how.shape
  obtain ⟨r, hr⟩ : ∃ r, r = ws.length := ⟨_, rfl⟩
  rw [← hr] at hv
  subst hv
  obtain ⟨c0, c1, f0, f1⟩ := blk2 hz
  have HOW := Lib.hid how
  have HR := Lib.hid hr
  obtain ⟨m, hm⟩ : ∃ m, m = valW ws := ⟨_, rfl⟩
  have hmod : valW ws % W64 = m := by rw [Nat.mod_eq_of_lt (by unfold W64; omega), hm]
  have hw1 : IntKind.i64.wrap (m : Int) = (m : Int) := wrap_i64_mid _ (by omega) (by omega)
  have hw2 : IntKind.i64.wrap (-(m : Int)) = -(m : Int) := wrap_i64_mid _ (by omega) (by omega)
  have HMOD := Lib.hid hmod
  have HV : Hid (valI neg ws = if neg then -(m : Int) else (m : Int)) := by unfold Hid valI; rw [hm]
  clear hz how hr hmod hs hm
  cases neg
  all_goals
    go_enter Tryz.func83, Tryz.ntmps83
    go_wp2_with fail
    refine (low_64 B _ ws _ HOW.out).mono ?_
    rw [HMOD.out]
    rintro e w1 ⟨rfl, rfl⟩
    go_wp2
    go_ret
    exact ⟨ret_int (by rw [HV.out]; rfl), rfl⟩
def smallB (n : Int) : Bool := decide (-2147483648 ≤ n ∧ n < 2147483648)
def BoolPost (b : Bool) (w : World) (e : Ending) (w' : World) : Prop := e = .returned (.bool b) ∧ w = w'
set_option maxHeartbeats 1000000 in
theorem is_small (B b : Nat) (neg : Bool) (ws : List Nat) (w : World) (h : BigI w B b neg ws) :
    Calls Tryz.prog 81 #[.pointer (some ⟨b, 0, none⟩)] w (BoolPost (smallB (valI neg ws)) w) := by
  have h' := h
  obtain ⟨v, hz, how, htop, hneg, hlen⟩ := h
  have b31 := blen_le ws 31 htop how.2
  have b32 := blen_le ws 32 htop how.2
  have hbd := blen_bound ws hlen how.2
  have H := Lib.hid h'
  obtain ⟨n, hn⟩ : ∃ n, n = blen ws := ⟨_, rfl⟩
  rw [← hn] at b31 b32 hbd
  have HN := Lib.hid hn
  have e31 : (2 : Nat) ^ 31 = 2147483648 := by decide
  have e32 : (2 : Nat) ^ 32 = 4294967296 := by decide
  rw [e31] at b31
  rw [e32] at b32
  clear e31 e32 hz how htop hneg hlen h' hn
  by_cases h1 : n < 32
  · have hd : decide ((n : Int) < 32) = true := by simp; omega
    have HS : Hid (smallB (valI neg ws) = true) := by
      unfold Hid smallB valI
      have := b31.1 (by omega)
      cases neg <;> simp <;> omega
    clear b31 b32 h1
    go_enter Tryz.func81, Tryz.ntmps81
    go_wp2_with fail
    refine (int_bitLen B b neg ws _ H.out).mono ?_
    unfold BLenPost
    rw [← HN.out]
    rintro e w1 ⟨rfl, rfl⟩
    go_wp2
    go_ret
    exact ⟨ret_bool (by rw [HS.out]), rfl⟩
  · have hd : decide ((n : Int) < 32) = false := by simp; omega
    by_cases h2 : n = 32
    · have hb : ((n : Int) == 32) = true := by rw [beq_iff_eq]; omega
      have hv1 : valW ws < 4294967296 := b32.1 (by omega)
      have hv2 : 2147483648 ≤ valW ws := by have := b31.2; omega
      have HS : Hid (smallB (valI neg ws) = ((valI neg ws) == -2147483648)) := by
        unfold Hid
        rw [Bool.eq_iff_iff]
        unfold smallB valI
        cases neg <;> simp <;> omega
      have hlt := Lib.hid (show valW ws < 9223372036854775808 by omega)
      clear b31 b32 h1 h2 hv1 hv2
      go_enter Tryz.func81, Tryz.ntmps81
      go_wp2_with fail
      refine (int_bitLen B b neg ws _ H.out).mono ?_
      unfold BLenPost
      rw [← HN.out]
      rintro e w1 ⟨rfl, rfl⟩
      go_wp2_with fail
      refine (int_int64 B b neg ws _ H.out hlt.out).mono ?_
      unfold IntPost
      rintro e w1 ⟨rfl, rfl⟩
      go_wp2
      go_ret
      exact ⟨ret_bool (by rw [HS.out]), rfl⟩
    · have hb : ((n : Int) == 32) = false := by rw [beq_eq_false_iff_ne]; omega
      have HS : Hid (smallB (valI neg ws) = false) := by
        unfold Hid smallB valI
        have : ¬ valW ws < 4294967296 := fun e => by have := b32.2 e; omega
        cases neg <;> simp <;> omega
      clear b31 b32 h1 h2
      go_enter Tryz.func81, Tryz.ntmps81
      go_wp2_with fail
      refine (int_bitLen B b neg ws _ H.out).mono ?_
      unfold BLenPost
      rw [← HN.out]
      rintro e w1 ⟨rfl, rfl⟩
      go_wp2
      go_ret
      exact ⟨ret_bool (by rw [HS.out]), rfl⟩
end Go.Proofs.YteibkaonofkcbaaGreat
namespace Go.Proofs.YteibkaonofkcbaaGreat
open Go.RowKit
theorem wcells_one (l : List Nat) : ∀ u ∈ wcells l, u.oneCell' = true := by
  intro u hu
  simp only [wcells, List.mem_map] at hu
  obtain ⟨x, _, rfl⟩ := hu
  rfl
theorem wpList_copy_words {w : World} {ops : Array Oper} {rest : List Oper} {o : Oper} {a : Act} {Q : Exit → Act → World → Prop} (hgd : o.guard = none) (d s : Operand)
    (ho : o.op = .call { callee := .builtin .copy, args := #[d, s], argTypes := #[134, 134] }) (B C : Nat) (zv xv : Value) (zs ws : List Nat) (hd : a.eval d = zv) (hs : a.eval s = xv)
    (hz : OW w B zv zs) (hx : OW w C xv ws) (hlen : zs.length = ws.length)
    (h : ∀ w', OW w' B zv ws → Below B w w' → wpList Tryz.prog ops Q rest (a.put o.dst (goInt ws.length)) w') : wpList Tryz.prog ops Q (o :: rest) a w := by
  have hsz : (Tryz.prog.info? 158).map (·.size) = some 1 := by kernel_rfl
  by_cases h0 : ws.length = 0
  · obtain rfl : ws = [] := List.eq_nil_of_length_eq_zero h0
    obtain rfl : zs = [] := List.eq_nil_of_length_eq_zero hlen
    obtain ⟨za, zc, rfl⟩ := hz.shape
    obtain ⟨xa, xc, rfl⟩ := hx.shape
    exact wpList_copy_nothing hgd d s 134 134 ho 158 Tryz.underlying134 hsz za xa _ _ _ _ hd hs rfl (h w hz (Below.refl _ _))
  · rcases hz.1.2 with ⟨_, hn⟩ | ⟨gz, cz, cur, rfl, hb, hh, hc1, hc2, hcs, htk⟩
    · omega
    rcases hx.form with ⟨_, hn⟩ | ⟨gx, cx, rfl, _, _, _, _⟩
    · subst hn; simp at h0
    refine wpList_copy_own hgd d s 134 134 ho 158 Tryz.underlying134 hsz gz 0 zs.length cz ⟨gx, 0, none⟩ ws.length cx hd hs cur 158 hh (wcells ws) (by rw [wcells_len, hlen]; exact (Nat.min_self _).symm) (fun j v hj => hx.1.cells (g := gx) rfl j v hj) (by rw [wcells_len]; omega) (wcells_one ws) ?_
    rw [wcells_len]
    refine h _ ⟨⟨by simp, .inr ⟨gz, cz, _, by rw [hlen], hb, setRow_heap w gz _ _ 158 _ hh, by omega, hc2, ?_, ?_⟩⟩, hx.2⟩ (below_setRow (Below.refl _ _) hb _)
    · simp
      try omega
    · simp
      try (rw [List.take_append_of_le_length (by simp)]; exact List.take_of_length_le (by simp))
def NatSetPost (ws : List Nat) (w : World) (e : Ending) (w' : World) : Prop := ∃ v, e = .returned v ∧ OW w' w.heap.size v ws ∧ Below w.heap.size w w'
set_option maxRecDepth 20000 in
set_option maxHeartbeats 1000000 in
theorem nat_set (B : Nat) (v : Value) (ws : List Nat) (w : World) (how : OW w B v ws) (hlen : ws.length ≤ 1000) :
    Calls Tryz.prog 93 #[.slice none 0 0, v] w (NatSetPost ws w) := by
  obtain ⟨a, c, rfl⟩ := how.shape
  obtain ⟨n, hn⟩ : ∃ n, n = ws.length := ⟨_, rfl⟩
  rw [← hn] at how ⊢
  have HOW := Lib.hid how
  have HN := Lib.hid hn
  have hn1 : n ≤ 1000 := by omega
  clear how hn hlen
  go_enter Tryz.func93, Tryz.ntmps93
  go_wp2_with fail
  refine (nat_make n (by omega) _).mono ?_
  rintro e w1 ⟨⟨v1, rfl, how1⟩, hb1⟩
  obtain ⟨za, zc, hv⟩ := how1.shape
  rw [List.length_replicate] at hv
  subst hv
  have H1 := Lib.hid how1
  have HB1 := Lib.hid hb1
  have HOW1 := Lib.hid (HOW.out.below hb1)
  clear how1 hb1
  go_wp2_with (refine wpList_copy_words (o := ⟨some 11, _, _, _, _, _⟩) rfl (.tmp 9) (.tmp 10) rfl w.heap.size B _ _ (List.replicate n 0) ws rfl rfl H1.out HOW1.out (by rw [List.length_replicate]; exact HN.out) ?_; intro w2 h2 hb2)
  have H2 := Lib.hid h2
  have HB2 := Lib.hid (HB1.out.trans hb2)
  clear h2 hb2
  go_wp2
  go_ret
  exact ⟨_, rfl, H2.out, HB2.out⟩
end Go.Proofs.YteibkaonofkcbaaGreat
