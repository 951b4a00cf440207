/- Joined texts: BitLenW, NatSet, MakeInt, ImplWhole, IntGet, Low, SpecLen. -/
import Derived.Test.YtndeolcamgnmdaaGreatDoorModBaseC
import Derived.Test.YtndeolcamgnmdaaGreatDoorShelf
import Derived.Laws.CopyOwn
import Derived.LaidEqlPtr
import Derived.Test.YtndeolcamgnmdaaGreatDoorModBaseB
set_option linter.unusedVariables false
set_option linter.unusedSimpArgs false
set_option linter.unnecessarySimpa false
namespace Go.Proofs.YtndeolcamgnmdaaGreatDoor
open Go.RowKit
def BLenPost (ws : List Nat) (w : World) (e : Ending) (w' : World) : Prop := e = .returned (.int .i64 ((blen ws : Nat) : Int)) ∧ w = w'
set_option maxRecDepth 20000 in
set_option maxHeartbeats 2000000 in
theorem nat_bitLen (B : Nat) (v : Value) (ws : List Nat) (w : World) (how : OW w B v ws) (hlen : ws.length ≤ 1000) :
    Calls Tryz.prog 64 #[v] w (BLenPost ws w) := by
  obtain ⟨a, c, rfl⟩ := how.shape
  by_cases h0 : ws = []
  · subst h0
    clear how
    go_enter Tryz.func64, Tryz.ntmps64
    go_wp2
    go_ret
    exact ⟨rfl, rfl⟩
  · obtain ⟨init, x, rfl⟩ : ∃ init last, ws = init ++ [last] := ⟨ws.dropLast, ws.getLast h0, (List.dropLast_concat_getLast h0).symm⟩
    have hx : x < W64 := how.2 x (by simp)
    obtain ⟨i, hi⟩ : ∃ i, i = init.length := ⟨_, rfl⟩
    have hbl : blen (init ++ [x]) = 64 * i + Lib.bitLen x := by simp [blen, hi]
    have hn : (init ++ [x]).length = i + 1 := by simp [hi]
    rcases how.form with ⟨hv, _⟩ | ⟨g, c', hv, _, _, hc, hcm⟩
    · injection hv with _ e2; rw [hn] at e2; omega
    injection hv with e1 e2 e3
    subst e1 e3
    have hcell := how.cell i (by omega)
    have hget : (init ++ [x])[i]'(by omega) = x := by simp [hi]
    rw [hget] at hcell
    rw [hn] at hc ⊢
    have HBL := Lib.hid hbl
    have hi1000 : i ≤ 1000 := by omega
    have hsub : ((i + 1 : Nat) : Int) - 1 = (i : Int) := by omega
    obtain ⟨y1, hy1⟩ : ∃ y, y = x ||| x / 2 ^ 1 := ⟨_, rfl⟩
    have l1 : y1 < W64 := by rw [hy1]; exact or_lt64 x 1 hx
    obtain ⟨y2, hy2⟩ : ∃ y, y = y1 ||| y1 / 2 ^ 2 := ⟨_, rfl⟩
    have l2 : y2 < W64 := by rw [hy2]; exact or_lt64 y1 2 l1
    obtain ⟨y3, hy3⟩ : ∃ y, y = y2 ||| y2 / 2 ^ 4 := ⟨_, rfl⟩
    have l3 : y3 < W64 := by rw [hy3]; exact or_lt64 y2 4 l2
    obtain ⟨y4, hy4⟩ : ∃ y, y = y3 ||| y3 / 2 ^ 8 := ⟨_, rfl⟩
    have l4 : y4 < W64 := by rw [hy4]; exact or_lt64 y3 8 l3
    obtain ⟨y5, hy5⟩ : ∃ y, y = y4 ||| y4 / 2 ^ 16 := ⟨_, rfl⟩
    have l5 : y5 < W64 := by rw [hy5]; exact or_lt64 y4 16 l4
    obtain ⟨y6, hy6⟩ : ∃ y, y = y5 ||| y5 / 2 ^ 32 := ⟨_, rfl⟩
    have l6 : y6 < W64 := by rw [hy6]; exact or_lt64 y5 32 l5
    have HY : Hid (Lib.bitLen y6 = Lib.bitLen x) := by
      unfold Hid
      rw [hy6, bitLen_or y5 32 l5, hy5, bitLen_or y4 16 l4, hy4, bitLen_or y3 8 l3, hy3, bitLen_or y2 4 l2, hy2, bitLen_or y1 2 l1, hy1, bitLen_or x 1 hx]
    have q1 : bits .or .u64 (x : Int) ((x : Int) / 2) = (y1 : Int) := by
      have h := bits_or_u64_nat x (x / 2 ^ 1) hx (Nat.lt_of_le_of_lt (Nat.div_le_self _ _) hx)
      rw [← hy1] at h; simpa using h
    have q2 : bits .or .u64 (y1 : Int) ((y1 : Int) / 4) = (y2 : Int) := by
      have h := bits_or_u64_nat y1 (y1 / 2 ^ 2) l1 (Nat.lt_of_le_of_lt (Nat.div_le_self _ _) l1)
      rw [← hy2] at h; simpa using h
    have q3 : bits .or .u64 (y2 : Int) ((y2 : Int) / 16) = (y3 : Int) := by
      have h := bits_or_u64_nat y2 (y2 / 2 ^ 4) l2 (Nat.lt_of_le_of_lt (Nat.div_le_self _ _) l2)
      rw [← hy3] at h; simpa using h
    have q4 : bits .or .u64 (y3 : Int) ((y3 : Int) / 256) = (y4 : Int) := by
      have h := bits_or_u64_nat y3 (y3 / 2 ^ 8) l3 (Nat.lt_of_le_of_lt (Nat.div_le_self _ _) l3)
      rw [← hy4] at h; simpa using h
    have q5 : bits .or .u64 (y4 : Int) ((y4 : Int) / 65536) = (y5 : Int) := by
      have h := bits_or_u64_nat y4 (y4 / 2 ^ 16) l4 (Nat.lt_of_le_of_lt (Nat.div_le_self _ _) l4)
      rw [← hy5] at h; simpa using h
    have q6 : bits .or .u64 (y5 : Int) ((y5 : Int) / 65536 / 65536) = (y6 : Int) := by
      have h := bits_or_u64_nat y5 (y5 / 2 ^ 32) l5 (Nat.lt_of_le_of_lt (Nat.div_le_self _ _) l5)
      rw [← hy6] at h
      have e : (y5 : Int) / 65536 / 65536 = ((y5 / 2 ^ 32 : Nat) : Int) := by
        have : y5 / 65536 / 65536 = y5 / 2 ^ 32 := by rw [Nat.div_div_eq_div_mul]
        rw [← this]; simp
      rw [e]; exact h
    have L6 := Lib.hid l6
    have L64 := Lib.hid (bitLen_64 x hx)
    clear hy1 hy2 hy3 hy4 hy5 hy6 l1 l2 l3 l4 l5 l6 hx how hn hi hbl hget
    go_enter Tryz.func64, Tryz.ntmps64
    go_wp2_with fail
    refine (Tryz.bits_Len (y6 : Int) _ (by omega) (by have := L6.out; unfold W64 at this; omega)).mono ?_
    rw [Int.toNat_natCast, HY.out]
    obtain ⟨m, hm⟩ : ∃ m, m = Lib.bitLen x := ⟨_, rfl⟩
    rw [← hm] at HBL ⊢
    rintro e w1 ⟨rfl, rfl⟩
    have hm64 : m ≤ 64 := by rw [hm]; exact L64.out
    clear hm
    go_wp2
    go_ret
    exact ⟨ret_int (by rw [HBL.out]; omega), rfl⟩
theorem int_bitLen (B b : Nat) (neg : Bool) (ws : List Nat) (w : World) (h : BigI w B b neg ws) :
    Calls Tryz.prog 51 #[.pointer (some ⟨b, 0, none⟩)] w (BLenPost ws w) := by
  obtain ⟨v, hz, how, htop, _, hlen⟩ := h
  obtain ⟨a, c, hv⟩ := how.shape
  obtain ⟨r, hr⟩ : ∃ r, r = ws.length := ⟨_, rfl⟩
  rw [← hr] at hv
  subst hv
  obtain ⟨c0, c1, f0, f1⟩ := blk2 hz
  have HOW := Lib.hid how
  have HR := Lib.hid hr
  clear hz how hr
  go_enter Tryz.func51, Tryz.ntmps51
  go_wp2_with fail
  refine (nat_bitLen B _ ws _ HOW.out hlen).mono ?_
  rintro e w1 ⟨rfl, rfl⟩
  go_wp2
  go_ret
  exact ⟨rfl, rfl⟩
def IntPost (n : Int) (w : World) (e : Ending) (w' : World) : Prop := e = .returned (.int .i64 n) ∧ w = w'
theorem wrap_i64_mid (n : Int) (h0 : -9223372036854775808 ≤ n) (h1 : n < 9223372036854775808) : IntKind.i64.wrap n = n := by
  rw [IntKind.wrap_i64]; omega
set_option maxHeartbeats 1000000 in
theorem int_int64 (B b : Nat) (neg : Bool) (ws : List Nat) (w : World) (h : BigI w B b neg ws) (hs : valW ws < 9223372036854775808) :
    Calls Tryz.prog 39 #[.pointer (some ⟨b, 0, none⟩)] w (IntPost (valI neg ws) w) := by
  obtain ⟨v, hz, how, htop, _, hlen⟩ := h
  obtain ⟨a, c, hv⟩ := how.shape
  obtain ⟨r, hr⟩ : ∃ r, r = ws.length := ⟨_, rfl⟩
  rw [← hr] at hv
  subst hv
  obtain ⟨c0, c1, f0, f1⟩ := blk2 hz
  have HOW := Lib.hid how
  have HR := Lib.hid hr
  obtain ⟨m, hm⟩ : ∃ m, m = valW ws := ⟨_, rfl⟩
  have hmod : valW ws % W64 = m := by rw [Nat.mod_eq_of_lt (by unfold W64; omega), hm]
  have hw1 : IntKind.i64.wrap (m : Int) = (m : Int) := wrap_i64_mid _ (by omega) (by omega)
  have hw2 : IntKind.i64.wrap (-(m : Int)) = -(m : Int) := wrap_i64_mid _ (by omega) (by omega)
  have HMOD := Lib.hid hmod
  have HV : Hid (valI neg ws = if neg then -(m : Int) else (m : Int)) := by unfold Hid valI; rw [hm]
  clear hz how hr hmod hs hm
  cases neg
  all_goals
    go_enter Tryz.func39, Tryz.ntmps39
    go_wp2_with fail
    refine (low_64 B _ ws _ HOW.out).mono ?_
    rw [HMOD.out]
    rintro e w1 ⟨rfl, rfl⟩
    go_wp2
    go_ret
    exact ⟨ret_int (by rw [HV.out]; rfl), rfl⟩
def smallB (n : Int) : Bool := decide (-2147483648 ≤ n ∧ n < 2147483648)
def BoolPost (b : Bool) (w : World) (e : Ending) (w' : World) : Prop := e = .returned (.bool b) ∧ w = w'
set_option maxHeartbeats 1000000 in
theorem is_small (B b : Nat) (neg : Bool) (ws : List Nat) (w : World) (h : BigI w B b neg ws) :
    Calls Tryz.prog 38 #[.pointer (some ⟨b, 0, none⟩)] w (BoolPost (smallB (valI neg ws)) w) := by
  have h' := h
  obtain ⟨v, hz, how, htop, hneg, hlen⟩ := h
  have b31 := blen_le ws 31 htop how.2
  have b32 := blen_le ws 32 htop how.2
  have hbd := blen_bound ws hlen how.2
  have H := Lib.hid h'
  obtain ⟨n, hn⟩ : ∃ n, n = blen ws := ⟨_, rfl⟩
  rw [← hn] at b31 b32 hbd
  have HN := Lib.hid hn
  have e31 : (2 : Nat) ^ 31 = 2147483648 := by decide
  have e32 : (2 : Nat) ^ 32 = 4294967296 := by decide
  rw [e31] at b31
  rw [e32] at b32
  clear e31 e32 hz how htop hneg hlen h' hn
  by_cases h1 : n < 32
  · have hd : decide ((n : Int) < 32) = true := by simp; omega
    have HS : Hid (smallB (valI neg ws) = true) := by
      unfold Hid smallB valI
      have := b31.1 (by omega)
      cases neg <;> simp <;> omega
    clear b31 b32 h1
    go_enter Tryz.func38, Tryz.ntmps38
    go_wp2_with fail
    refine (int_bitLen B b neg ws _ H.out).mono ?_
    unfold BLenPost
    rw [← HN.out]
    rintro e w1 ⟨rfl, rfl⟩
    go_wp2
    go_ret
    exact ⟨ret_bool (by rw [HS.out]), rfl⟩
  · have hd : decide ((n : Int) < 32) = false := by simp; omega
    by_cases h2 : n = 32
    · have hb : ((n : Int) == 32) = true := by rw [beq_iff_eq]; omega
      have hv1 : valW ws < 4294967296 := b32.1 (by omega)
      have hv2 : 2147483648 ≤ valW ws := by have := b31.2; omega
      have HS : Hid (smallB (valI neg ws) = ((valI neg ws) == -2147483648)) := by
        unfold Hid
        rw [Bool.eq_iff_iff]
        unfold smallB valI
        cases neg <;> simp <;> omega
      have hlt := Lib.hid (show valW ws < 9223372036854775808 by omega)
      clear b31 b32 h1 h2 hv1 hv2
      go_enter Tryz.func38, Tryz.ntmps38
      go_wp2_with fail
      refine (int_bitLen B b neg ws _ H.out).mono ?_
      unfold BLenPost
      rw [← HN.out]
      rintro e w1 ⟨rfl, rfl⟩
      go_wp2_with fail
      refine (int_int64 B b neg ws _ H.out hlt.out).mono ?_
      unfold IntPost
      rintro e w1 ⟨rfl, rfl⟩
      go_wp2
      go_ret
      exact ⟨ret_bool (by rw [HS.out]), rfl⟩
    · have hb : ((n : Int) == 32) = false := by rw [beq_eq_false_iff_ne]; omega
      have HS : Hid (smallB (valI neg ws) = false) := by
        unfold Hid smallB valI
        have : ¬ valW ws < 4294967296 := fun e => by have := b32.2 e; omega
        cases neg <;> simp <;> omega
      clear b31 b32 h1 h2
      go_enter Tryz.func38, Tryz.ntmps38
      go_wp2_with fail
      refine (int_bitLen B b neg ws _ H.out).mono ?_
      unfold BLenPost
      rw [← HN.out]
      rintro e w1 ⟨rfl, rfl⟩
      go_wp2
      go_ret
      exact ⟨ret_bool (by rw [HS.out]), rfl⟩
end Go.Proofs.YtndeolcamgnmdaaGreatDoor
namespace Go.Proofs.YtndeolcamgnmdaaGreatDoor
open Go.RowKit
theorem wcells_one (l : List Nat) : ∀ u ∈ wcells l, u.oneCell' = true := by
  intro u hu
  simp only [wcells, List.mem_map] at hu
  obtain ⟨x, _, rfl⟩ := hu
  rfl
theorem wpList_copy_words {w : World} {ops : Array Oper} {rest : List Oper} {o : Oper} {a : Act} {Q : Exit → Act → World → Prop} (hgd : o.guard = none) (d s : Operand)
    (ho : o.op = .call { callee := .builtin .copy, args := #[d, s], argTypes := #[58, 58] }) (B C : Nat) (zv xv : Value) (zs ws : List Nat) (hd : a.eval d = zv) (hs : a.eval s = xv)
    (hz : OW w B zv zs) (hx : OW w C xv ws) (hlen : zs.length = ws.length)
    (h : ∀ w', OW w' B zv ws → Below B w w' → wpList Tryz.prog ops Q rest (a.put o.dst (goInt ws.length)) w') : wpList Tryz.prog ops Q (o :: rest) a w := by
  have hsz : (Tryz.prog.info? 83).map (·.size) = some 1 := by kernel_rfl
  by_cases h0 : ws.length = 0
  · obtain rfl : ws = [] := List.eq_nil_of_length_eq_zero h0
    obtain rfl : zs = [] := List.eq_nil_of_length_eq_zero hlen
    obtain ⟨za, zc, rfl⟩ := hz.shape
    obtain ⟨xa, xc, rfl⟩ := hx.shape
    exact wpList_copy_nothing hgd d s 58 58 ho 83 Tryz.underlying58 hsz za xa _ _ _ _ hd hs rfl (h w hz (Below.refl _ _))
  · rcases hz.1.2 with ⟨_, hn⟩ | ⟨gz, cz, cur, rfl, hb, hh, hc1, hc2, hcs, htk⟩
    · omega
    rcases hx.form with ⟨_, hn⟩ | ⟨gx, cx, rfl, _, _, _, _⟩
    · subst hn; simp at h0
    refine wpList_copy_own hgd d s 58 58 ho 83 Tryz.underlying58 hsz gz 0 zs.length cz ⟨gx, 0, none⟩ ws.length cx hd hs cur 83 hh (wcells ws) (by rw [wcells_len, hlen]; exact (Nat.min_self _).symm) (fun j v hj => hx.1.cells (g := gx) rfl j v hj) (by rw [wcells_len]; omega) (wcells_one ws) ?_
    rw [wcells_len]
    refine h _ ⟨⟨by simp, .inr ⟨gz, cz, _, by rw [hlen], hb, setRow_heap w gz _ _ 83 _ hh, by omega, hc2, ?_, ?_⟩⟩, hx.2⟩ (below_setRow (Below.refl _ _) hb _)
    · simp
      try omega
    · simp
      try (rw [List.take_append_of_le_length (by simp)]; exact List.take_of_length_le (by simp))
def NatSetPost (ws : List Nat) (w : World) (e : Ending) (w' : World) : Prop := ∃ v, e = .returned v ∧ OW w' w.heap.size v ws ∧ Below w.heap.size w w'
set_option maxRecDepth 20000 in
set_option maxHeartbeats 1000000 in
theorem nat_set (B : Nat) (v : Value) (ws : List Nat) (w : World) (how : OW w B v ws) (hlen : ws.length ≤ 1000) :
    Calls Tryz.prog 50 #[.slice none 0 0, v] w (NatSetPost ws w) := by
  obtain ⟨a, c, rfl⟩ := how.shape
  obtain ⟨n, hn⟩ : ∃ n, n = ws.length := ⟨_, rfl⟩
  rw [← hn] at how ⊢
  have HOW := Lib.hid how
  have HN := Lib.hid hn
  have hn1 : n ≤ 1000 := by omega
  clear how hn hlen
  go_enter Tryz.func50, Tryz.ntmps50
  go_wp2_with fail
  refine (nat_make n (by omega) _).mono ?_
  rintro e w1 ⟨⟨v1, rfl, how1⟩, hb1⟩
  obtain ⟨za, zc, hv⟩ := how1.shape
  rw [List.length_replicate] at hv
  subst hv
  have H1 := Lib.hid how1
  have HB1 := Lib.hid hb1
  have HOW1 := Lib.hid (HOW.out.below hb1)
  clear how1 hb1
  go_wp2_with (refine wpList_copy_words (o := ⟨some 11, _, _, _, _, _⟩) rfl (.tmp 9) (.tmp 10) rfl w.heap.size B _ _ (List.replicate n 0) ws rfl rfl H1.out HOW1.out (by rw [List.length_replicate]; exact HN.out) ?_; intro w2 h2 hb2)
  have H2 := Lib.hid h2
  have HB2 := Lib.hid (HB1.out.trans hb2)
  clear h2 hb2
  go_wp2
  go_ret
  exact ⟨_, rfl, H2.out, HB2.out⟩
end Go.Proofs.YtndeolcamgnmdaaGreatDoor
namespace Go.Proofs.YtndeolcamgnmdaaGreatDoor
open Go.RowKit
theorem run_neq_ptr_other {P : Program} (w : World) {tp te : TypeId} {j : TypeInfo} {a b : Addr} {ca cb : Array Value} {ta tb : TypeId} (hp : P.underlying tp = some (.pointer te)) (hte : P.info? te = some j) (hsz : j.size ≠ 0)
    (hne : a ≠ b) (ha : w.heap[a.block]? = some (.cells ca ta (0, 0))) (hb : w.heap[b.block]? = some (.cells cb tb (0, 0))) :
    (binOp .neq tp (.pointer (some a)) (.pointer (some b))).run P w = .ok (.bool true) w := by
  have h : ∀ d : Nat, (Op.equalIn (d + 1) tp (.pointer (some a)) (.pointer (some b))).run P w = .ok false w := fun d => by
    simp [Op.equalIn, run_underlying hp, sizeOf, typeInfo, hte, hsz, run_sameAddr_other w hne ha hb]
  simp only [binOp]
  simp [Op.equal, Op.maxDepth, h 9999]
def IntSetPost (bz : Nat) (neg : Bool) (ws : List Nat) (w : World) (e : Ending) (w' : World) : Prop := e = .returned (.pointer (some ⟨bz, 0, none⟩)) ∧ BigI w' w.heap.size bz neg ws ∧ Only (· = bz) w w'
theorem Tryz.infoBig : (Tryz.prog.info? 60).map (·.size) = some 2 := by kernel_rfl
set_option maxRecDepth 20000 in
set_option maxHeartbeats 2000000 in
theorem int_set (B bz bx : Nat) (neg : Bool) (ws : List Nat) (w : World) (hz : Blk w bz 60 #[.bool false, .slice none 0 0]) (hx : BigI w B bx neg ws) (hne : bz ≠ bx) :
    Calls Tryz.prog 37 #[.pointer (some ⟨bz, 0, none⟩), .pointer (some ⟨bx, 0, none⟩)] w (IntSetPost bz neg ws w) := by
  obtain ⟨v, hk, how, htop, hneg, hlen⟩ := hx
  obtain ⟨a, c, hv⟩ := how.shape
  obtain ⟨r, hr⟩ : ∃ r, r = ws.length := ⟨_, rfl⟩
  rw [← hr] at hv
  subst hv
  obtain ⟨j, hj, hj2⟩ := Option.map_eq_some_iff.1 Tryz.infoBig
  have hpne := run_neq_ptr_other (P := Tryz.prog) w (tp := 44) (te := 60) (a := ⟨bz, 0, none⟩) (b := ⟨bx, 0, none⟩) Tryz.underlying44 hj (by rw [hj2]; decide) (by intro e; injection e with e1; exact hne e1) hz hk
  obtain ⟨c0, c1, f0, f1⟩ := blk2 hz
  obtain ⟨d0, d1, _, _⟩ := blk2 hk
  have HZ := Lib.hid hz
  have HK := Lib.hid hk
  have HOW := Lib.hid how
  have HJ := Lib.hid hj
  have hbz := hz.lt
  clear hz hk how hr hj hj2
  go_enter Tryz.func37, Tryz.ntmps37
  go_wp2_with fail
  clear hpne
  go_region_with ((go_at_call 50; refine (nat_set B _ ws _ (HOW.out.below (below_dn (Below.refl _ _) 1)) hlen).mono ?_; rintro e w1 ⟨v1, rfl, how1, hb1⟩; obtain ⟨a1, cc1, hv1⟩ := how1.shape; rw [hv1] at how1 ⊢; have HB1 := Lib.hid (show Below w.heap.size w w1 from (below_dn (Below.refl _ w) 1).trans hb1); have H1 := Lib.hid how1; have KZ := Lib.hid (HZ.out.below HB1.out HZ.out.lt); have KX := Lib.hid (HK.out.below HB1.out HK.out.lt); obtain ⟨p0, p1, q0, q1⟩ := blk2 KZ.out; obtain ⟨x0, x1, _, _⟩ := blk2 KX.out; clear how1 hb1 hv1))
  all_goals
    go_wp2
    go_ret
    refine ⟨rfl, ⟨.slice a1 ws.length cc1, ?_, ?_, htop, hneg, hlen⟩, ?_⟩
    · have h := (KZ.out.put 1 (.slice a1 ws.length cc1)).put 0 (.bool neg)
      simpa using h
    · exact (H1.out.base (C := w.heap.size) (by simp)).only (((Only.refl (fun x => x = bz) w1).setCell (p := ⟨bz, 1, none⟩) (.inl (rfl : bz = bz)) _).setCell (p := ⟨bz, 0, none⟩) (.inl (rfl : bz = bz)) _) (fun k hk e => by omega)
    · exact ((Only.of_below (S := fun x => x = bz) HB1.out).setCell (p := ⟨bz, 1, none⟩) (.inl (rfl : bz = bz)) _).setCell (p := ⟨bz, 0, none⟩) (.inl (rfl : bz = bz)) _
/-- An int of the language. -/
def SI (w : World) (B : Nat) (v : Value) (n : Int) : Prop :=
  (smallB n = true ∧ v = .agg #[.int .i64 n, .pointer none]) ∨ (smallB n = false ∧ ∃ b neg ws, v = .agg #[.int .i64 0, .pointer (some ⟨b, 0, none⟩)] ∧ B ≤ b ∧ BigI w B b neg ws ∧ valI neg ws = n)
theorem SI.below {w w' : World} {B : Nat} {v : Value} {n : Int} (h : SI w B v n) (hb : Below w.heap.size w w') : SI w' B v n := by
  rcases h with h | ⟨h1, b, neg, ws, hv, h2, h3, h4⟩
  · exact .inl h
  · exact .inr ⟨h1, b, neg, ws, hv, h2, h3.below hb, h4⟩
theorem SI.base {w : World} {B C : Nat} {v : Value} {n : Int} (h : SI w B v n) (hC : C ≤ B) : SI w C v n := by
  rcases h with h | ⟨h1, b, neg, ws, hv, h2, h3, h4⟩
  · exact .inl h
  · exact .inr ⟨h1, b, neg, ws, hv, Nat.le_trans hC h2, h3.base hC, h4⟩
theorem BigI.only {w w' : World} {B b : Nat} {S : Nat → Prop} {neg : Bool} {ws : List Nat} (h : BigI w B b neg ws) (k : Only S w w') (hb : ¬ S b) (hs : ∀ g, B ≤ g → ¬ S g) : BigI w' B b neg ws := by
  obtain ⟨v, h1, h2, h3⟩ := h
  exact ⟨v, h1.only k hb, h2.only k hs, h3⟩
theorem SI.only {w w' : World} {B : Nat} {S : Nat → Prop} {v : Value} {n : Int} (h : SI w B v n) (k : Only S w w') (hs : ∀ g, B ≤ g → ¬ S g) : SI w' B v n := by
  rcases h with h | ⟨h1, b, neg, ws, hv, h2, h3, h4⟩
  · exact .inl h
  · exact .inr ⟨h1, b, neg, ws, hv, h2, h3.only k (hs b h2) hs, h4⟩
def SIPost (n : Int) (w : World) (e : Ending) (w' : World) : Prop := ∃ v, e = .returned v ∧ SI w' w.heap.size v n ∧ Below w.heap.size w w'
theorem make_small (n : Int) (w : World) : Calls Tryz.prog 35 #[.int .i64 n] w fun e w' => e = .returned (.agg #[.int .i64 n, .pointer none]) ∧ Below w.heap.size w w' := by
  go_enter Tryz.func35, Tryz.ntmps35
  go_wp2
  exact bodyPost_ret (v := .agg #[.int .i64 n, .pointer none]) (by simp [results, Tryz.results35, go_sem]) rfl ⟨rfl, (Below.refl _ _).alloc (Nat.le_refl _) _⟩
theorem make_big (b : Nat) (w : World) : Calls Tryz.prog 40 #[.pointer (some ⟨b, 0, none⟩)] w fun e w' => e = .returned (.agg #[.int .i64 0, .pointer (some ⟨b, 0, none⟩)]) ∧ Below w.heap.size w w' := by
  go_enter Tryz.func40, Tryz.ntmps40
  go_wp2
  exact bodyPost_ret (v := .agg #[.int .i64 0, .pointer (some ⟨b, 0, none⟩)]) (by simp [results, Tryz.results40, go_sem]) rfl ⟨rfl, (Below.refl _ _).alloc (Nat.le_refl _) _⟩
set_option maxRecDepth 20000 in
set_option maxHeartbeats 2000000 in
theorem make_bigint (B b : Nat) (neg : Bool) (ws : List Nat) (w : World) (h : BigI w B b neg ws) :
    Calls Tryz.prog 26 #[.pointer (some ⟨b, 0, none⟩)] w (SIPost (valI neg ws) w) := by
  have hblt := h.blk
  have hk := Lib.hid (Blk.new w 48 #[.int .i64 0, .pointer none])
  have H := Lib.hid (h.below ((Below.refl _ w).alloc (Nat.le_refl _) (.cells #[.int .i64 0, .pointer none] 48)))
  clear h
  cases hs : smallB (valI neg ws) with
  | true =>
    have HS := Lib.hid hs
    have hlt : valW ws < 9223372036854775808 := by
      have h1 := of_decide_eq_true hs
      unfold valI at h1
      cases neg <;> simp at h1 <;> omega
    have HLT := Lib.hid hlt
    clear hs hlt
    obtain ⟨n, hn⟩ : ∃ n, n = valI neg ws := ⟨_, rfl⟩
    go_enter Tryz.func26, Tryz.ntmps26
    rw [← hn] at HS ⊢
    have HN := Lib.hid hn
    clear hn
    go_wp2_with fail
    refine (is_small B b neg ws _ H.out).mono ?_
    unfold BoolPost
    rw [← HN.out, HS.out]
    rintro e w1 ⟨rfl, rfl⟩
    go_wp2_with fail
    refine (int_int64 B b neg ws _ H.out HLT.out).mono ?_
    unfold IntPost
    rw [← HN.out]
    rintro e w1 ⟨rfl, rfl⟩
    go_wp2_with fail
    refine (make_small n _).mono ?_
    rintro e w2 ⟨rfl, hb2⟩
    obtain ⟨c0, c1, f0, f1⟩ := blk2 (hk.out.below hb2 (by simp))
    have hbw := Lib.hid (show Below w.heap.size w w2 from ((Below.refl _ w).alloc (Nat.le_refl _) _).trans (hb2.mono (by simp)))
    clear hb2
    go_wp2
    exact bodyPost_ret (v := .agg #[.int .i64 n, .pointer none]) (by simp [results, Tryz.results26, go_sem, c0, c1]) rfl ⟨_, rfl, .inl ⟨HS.out, rfl⟩, (hbw.out.setCell (p := ⟨w.heap.size, 0, none⟩) (Nat.le_refl _) _).setCell (p := ⟨w.heap.size, 1, none⟩) (Nat.le_refl _) _⟩
  | false =>
    have HS := Lib.hid hs
    clear hs
    obtain ⟨n, hn⟩ : ∃ n, n = valI neg ws := ⟨_, rfl⟩
    go_enter Tryz.func26, Tryz.ntmps26
    rw [← hn] at HS ⊢
    have HN := Lib.hid hn
    clear hn
    go_wp2_with fail
    refine (is_small B b neg ws _ H.out).mono ?_
    unfold BoolPost
    rw [← HN.out, HS.out]
    rintro e w1 ⟨rfl, rfl⟩
    go_wp2_with fail
    refine (int_set B (w.heap.size + 1) b neg ws _ (Blk.new_at _ _ _ (by simp)) (H.out.below ((Below.refl _ _).alloc (Nat.le_refl _) _)) (by omega)).mono ?_
    rintro e w2 ⟨rfl, hbi, hO⟩
    have hbi2 := hbi.base (C := w.heap.size + 1) (by simp)
    have HBI := Lib.hid hbi2
    have hbw := Lib.hid (show Below (w.heap.size + 1) (w.alloc (.cells #[.int .i64 0, .pointer none] 48)) w2 from ((Below.refl (w.heap.size + 1) _).alloc (by simp) _).trans (hO.to_below (by simp) (fun k _ e => by omega)))
    clear hbi hbi2 hO
    go_wp2_with fail
    refine (make_big (w.heap.size + 1) _).mono ?_
    rintro e w3 ⟨rfl, hb3⟩
    have hbw3 := hbw.out.trans (hb3.mono (by have := hbw.out.size; simp at this; omega))
    obtain ⟨c0, c1, f0, f1⟩ := blk2 (hk.out.below hbw3 (by omega))
    have HBI3 := Lib.hid (HBI.out.below hb3)
    have HB3 := Lib.hid hbw3
    clear hb3 hbw3
    go_wp2
    refine bodyPost_ret (v := .agg #[.int .i64 0, .pointer (some ⟨w.heap.size + 1, 0, none⟩)]) (by simp [results, Tryz.results26, go_sem, c0, c1]) rfl ⟨_, rfl, .inr ⟨HS.out, w.heap.size + 1, neg, ws, rfl, by omega, ?_, HN.out.symm⟩, ((((Below.refl _ w).alloc (Nat.le_refl _) _).trans (HB3.out.mono (by omega))).setCell (p := ⟨w.heap.size, 0, none⟩) (Nat.le_refl _) _).setCell (p := ⟨w.heap.size, 1, none⟩) (Nat.le_refl _) _⟩
    exact (HBI3.out.only (two_set w3 w.heap.size (.int .i64 0) (.pointer (some ⟨w.heap.size + 1, 0, none⟩))) (by omega) (fun k hk e => by omega)).base (by omega)
end Go.Proofs.YtndeolcamgnmdaaGreatDoor
namespace Go.Proofs.YtndeolcamgnmdaaGreatDoor
open Go.RowKit
theorem intOf2_valI {neg : Bool} {l ws : List Nat} (hv : valW ws = natOf l) : intOf2 neg l = valI neg ws := by unfold intOf2 valI; rw [hv]
theorem si_fin {w w' : World} {n : Int} {v : Value} {B : Nat} (h : SI w B v n) : ∃ x p, v = .agg #[.int .i64 x, .pointer p] := by
  rcases h with ⟨_, hv⟩ | ⟨_, b, _, _, hv, _⟩
  · exact ⟨_, _, hv⟩
  · exact ⟨_, _, hv⟩
set_option maxRecDepth 100000 in
set_option maxHeartbeats 4000000 in
theorem impl_whole (B : Nat) (v : Value) (neg : Bool) (l : List Nat) (w : World) (hv : IVal w B v neg l) (hl : l.length ≤ 1000) :
    Calls Tryz.prog 16 #[v] w (SIPost (intOf2 neg l) w) := by
  obtain ⟨vs, rfl, hob, hh, hn⟩ := hv
  obtain ⟨g, c, hvs, hg1, hg2, _, _⟩ := hob.form
  obtain ⟨m, hm⟩ : ∃ m, m = l.length := ⟨_, rfl⟩
  rw [← hm] at hvs
  subst hvs
  have HOB := Lib.hid hob
  have HM := Lib.hid hm
  have HH := Lib.hid hh
  have HNN := Lib.hid hn
  have hm1 : m ≤ 1000 := by omega
  obtain ⟨C6, hC6⟩ : ∃ C6, C6 = #[Value.int .i64 2, .bool neg, .slice (some ⟨g, 0, none⟩) m c, .int .u64 0, .string ⟨#[]⟩, .slice none 0 0] := ⟨_, rfl⟩
  have K0 := Lib.hid (Blk.alloc (Blk.alloc (Blk.new w 28 #[.int .i64 2, .bool neg, .slice (some ⟨g, 0, none⟩) m c, .int .u64 0, .string ⟨#[]⟩, .slice none 0 0]) (.cells #[.int .i64 0, .pointer none] 48)) (.cells #[.bool false, .slice none 0 0] 60))
  have K1 := Lib.hid (Blk.alloc (Blk.new_at (w.alloc (.cells #[.int .i64 2, .bool neg, .slice (some ⟨g, 0, none⟩) m c, .int .u64 0, .string ⟨#[]⟩, .slice none 0 0] 28)) 48 #[.int .i64 0, .pointer none] (n := w.heap.size + 1) (by simp)) (.cells #[.bool false, .slice none 0 0] 60))
  have HB0 : Hid (∀ a b c : Obj, Below w.heap.size w (((w.alloc a).alloc b).alloc c)) := fun a b c => (((Below.refl _ w).alloc (Nat.le_refl _) a).alloc (by simp) b).alloc (by simp; omega) c
  clear hob hm hh hn hC6 hl
  go_enter Tryz.func16, Tryz.ntmps16
  go_wp2_with fail
  refine (int_setBytes B (w.heap.size + 1 + 1) g m c l _ (Blk.new_at _ _ _ (by simp)) (HOB.out.below (HB0.out _ _ _)) hm1 HM.out).mono ?_
  rintro e w1 ⟨ws, rfl, hbi, hval, hO⟩
  have k0 := Lib.hid (K0.out.only hO (by omega))
  have k1 := Lib.hid (K1.out.only hO (by simp))
  have hbw := Lib.hid (show Below w.heap.size w w1 from (HB0.out _ _ _).trans (hO.to_below (by simp; omega) (fun k _ e => by omega)))
  have hz : w.heap.size + 3 ≤ w1.heap.size := by have := hO.size; simp at this; omega
  have HBI := Lib.hid (hbi.base (C := w.heap.size + 3) (by simp))
  have HV := Lib.hid (intOf2_valI (neg := neg) hval)
  have HVAL := Lib.hid hval
  obtain ⟨e0, e1, e2, e3, e4, e5, _, _, _, _, _, _⟩ := blk6 k0.out
  clear hbi hval hO
  cases neg with
  | false =>
    go_wp2_with fail
    refine (make_bigint (w.heap.size + 3) (w.heap.size + 1 + 1) false ws _ HBI.out).mono ?_
    rw [← HV.out]
    obtain ⟨n, hn⟩ : ∃ n, n = intOf2 false l := ⟨_, rfl⟩
    rw [← hn]
    rintro e w2 ⟨v2, rfl, hsi, hb2⟩
    obtain ⟨x, p, hv2⟩ := si_fin (w' := w2) hsi
    have hsi' := Lib.hid (hsi.base (C := w.heap.size + 3) hz)
    subst hv2
    obtain ⟨c0, c1, f0, f1⟩ := blk2 (k1.out.below hb2 k1.out.lt)
    have hbw2 := Lib.hid (hbw.out.trans (hb2.mono (by omega)))
    have HN := Lib.hid hn
    clear hsi hb2 hn
    go_wp2
    refine bodyPost_ret (v := .agg #[.int .i64 x, .pointer p]) (by simp [results, Tryz.results16, go_sem, c0, c1]) rfl ⟨_, rfl, ?_, (hbw2.out.setCell (p := ⟨w.heap.size + 1, 0, none⟩) (by simp) _).setCell (p := ⟨w.heap.size + 1, 1, none⟩) (by simp) _⟩
    rw [← HN.out]
    exact (hsi'.out.only (two_set w2 (w.heap.size + 1) (.int .i64 x) (.pointer p)) (fun k hk e => by omega)).base (by omega)
  | true =>
    go_wp2_with fail
    refine (int_neg (w.heap.size + 3) (w.heap.size + 1 + 1) ws _ (by omega) HBI.out).mono ?_
    have hne : (!ws.isEmpty) = true := by
      cases hw : ws with
      | nil =>
        exfalso
        have h1 := HVAL.out
        rw [hw] at h1
        exact HNN.out (by first | rfl | trivial) ((natOf_eq_zero HH.out).1 h1.symm)
      | cons x y => rfl
    unfold NegPost
    rw [hne]
    rintro e w1' ⟨rfl, hbi2, hO2⟩
    have hz2 : w.heap.size + 3 ≤ w1'.heap.size := Nat.le_trans hz hO2.size
    have k1' := Lib.hid (k1.out.only hO2 (by omega))
    have hbw' := Lib.hid (hbw.out.trans (hO2.to_below (by omega) (fun k _ e => by omega)))
    have HBI2 := Lib.hid hbi2
    clear hne hbi2 hO2
    go_wp2_with fail
    refine (make_bigint (w.heap.size + 3) (w.heap.size + 1 + 1) true ws _ HBI2.out).mono ?_
    rw [← HV.out]
    obtain ⟨n, hn⟩ : ∃ n, n = intOf2 true l := ⟨_, rfl⟩
    rw [← hn]
    rintro e w2 ⟨v2, rfl, hsi, hb2⟩
    obtain ⟨x, p, hv2⟩ := si_fin (w' := w2) hsi
    have hsi' := Lib.hid (hsi.base (C := w.heap.size + 3) hz2)
    subst hv2
    obtain ⟨c0, c1, f0, f1⟩ := blk2 (k1'.out.below hb2 k1'.out.lt)
    have hbw2 := Lib.hid (hbw'.out.trans (hb2.mono (by omega)))
    have HN := Lib.hid hn
    clear hsi hb2 hn
    go_wp2
    refine bodyPost_ret (v := .agg #[.int .i64 x, .pointer p]) (by simp [results, Tryz.results16, go_sem, c0, c1]) rfl ⟨_, rfl, ?_, (hbw2.out.setCell (p := ⟨w.heap.size + 1, 0, none⟩) (by simp) _).setCell (p := ⟨w.heap.size + 1, 1, none⟩) (by simp) _⟩
    rw [← HN.out]
    exact (hsi'.out.only (two_set w2 (w.heap.size + 1) (.int .i64 x) (.pointer p)) (fun k hk e => by omega)).base (by omega)
end Go.Proofs.YtndeolcamgnmdaaGreatDoor
namespace Go.Proofs.YtndeolcamgnmdaaGreatDoor
open Go.RowKit
theorem int_get (x : Int) (p : Option Addr) (w : World) :
    Calls Tryz.prog 27 #[.agg #[.int .i64 x, .pointer p]] w fun e w' => e = .returned (.tuple #[.int .i64 x, .pointer p]) ∧ Below w.heap.size w w' := by
  go_enter Tryz.func27, Tryz.ntmps27
  go_wp2_with fail
  go_quiet (fail)
  go_wp2
  go_ret2
  exact ⟨rfl, below_dn ((Below.refl _ w).alloc (Nat.le_refl _) _) _⟩
end Go.Proofs.YtndeolcamgnmdaaGreatDoor
namespace Go.Proofs.YtndeolcamgnmdaaGreatDoor
open Go.RowKit
theorem digit_any (B g n c : Nat) (l : List Nat) (i : Nat) (w : World) (h : OB w B (.slice (some ⟨g, 0, none⟩) n c) l) (hn : n = l.length) (hi : i ≤ 4000000000) (hm : n ≤ 4000000000) :
    Calls Tryz.prog 23 #[.slice (some ⟨g, 0, none⟩) n c, .int .i64 (i : Int)] w (IntPost ((dig (natOf l) i : Nat) : Int) w) := by
  obtain ⟨d, hd⟩ : ∃ d, d = dig (natOf l) i := ⟨_, rfl⟩
  rw [← hd]
  have hdl : d < 256 := by rw [hd]; exact dig_lt _ _
  by_cases hlt : i < n
  · obtain ⟨k, hk⟩ : ∃ k, n = k + i + 1 := ⟨n - 1 - i, by omega⟩
    have hkl : k < l.length := by omega
    have hc := h.cell k hkl
    rw [← dig_at l i h.2.2 k hkl (by omega), ← hd] at hc
    have e1 : (n : Int) - 1 - (i : Int) = (k : Int) := by omega
    have hk1 : (k : Int) < (n : Int) := by omega
    have hd1 : decide (n ≤ i) = false := by simp; omega
    have hd2 : decide ((n : Int) ≤ (i : Int)) = false := by simp; omega
    clear h hn hkl hk hd
    go_enter Tryz.func23, Tryz.ntmps23
    go_wp2
    go_ret
    exact ⟨rfl, rfl⟩
  · have h0 : d = 0 := by rw [hd]; exact dig_over l i h.2.2 (by omega)
    subst h0
    have hd1 : decide (n ≤ i) = true := by simp; omega
    have hd2 : decide ((n : Int) ≤ (i : Int)) = true := by simp; omega
    clear h hn hd
    go_enter Tryz.func23, Tryz.ntmps23
    go_wp2
    go_ret
    exact ⟨rfl, rfl⟩
theorem or_low (u d : Nat) (hu : u < 72057594037927936) (hd : d < 256) : bits .or .u64 ((u : Int) * 256) (d : Int) = ((u * 256 + d : Nat) : Int) := by
  have e1 := u64_or8 (y := (d : Int)) (x := (u : Int) * 256) (by omega) (by omega) (by omega) (by omega) (by omega)
  have ec : bits .or .u64 ((u : Int) * 256) (d : Int) = bits .or .u64 (d : Int) ((u : Int) * 256) := by simp only [bits, BitVec.or_comm]
  rw [ec, e1]; simp; omega
end Go.Proofs.YtndeolcamgnmdaaGreatDoor
namespace Go.Proofs.YtndeolcamgnmdaaGreatDoor
open Go.RowKit
theorem bit_shift (x i k : Nat) (hx : x < 256) (hk : k = i % 8) : bits .and .i64 ((x : Int) / 2 ^ (i % 8)) 1 = ((x / 2 ^ k % 2 : Nat) : Int) := by
  rw [← hk]
  have hk : k < 8 := by omega
  rw [show (x : Int) / 2 ^ k = ((x / 2 ^ k : Nat) : Int) by simp]
  have hc : k = 0 ∨ k = 1 ∨ k = 2 ∨ k = 3 ∨ k = 4 ∨ k = 5 ∨ k = 6 ∨ k = 7 := by omega
  have hall : ∀ y : Fin 256, bits .and .i64 ((y.val : Nat) : Int) 1 = ((y.val % 2 : Nat) : Int) := by decide +kernel
  have h1 : x / 2 ^ k < 256 := Nat.lt_of_le_of_lt (Nat.div_le_self _ _) hx
  exact hall ⟨x / 2 ^ k, h1⟩
theorem bit_any (B g n c : Nat) (l : List Nat) (i : Nat) (w : World) (h : OB w B (.slice (some ⟨g, 0, none⟩) n c) l) (hn : n = l.length) (hi : i ≤ 8000000) (hm : n ≤ 1000000) :
    Calls Tryz.prog 21 #[.slice (some ⟨g, 0, none⟩) n c, .int .i64 (i : Int)] w (IntPost ((bitAt (natOf l) i : Nat) : Int) w) := by
  have HC := Lib.hid (digit_any B g n c l (i / 8) w h hn (by omega) (by omega))
  have hb : bitAt (natOf l) i = dig (natOf l) (i / 8) / 2 ^ (i % 8) % 2 := (bit_dig _ _).symm
  obtain ⟨d, hd⟩ : ∃ d, d = dig (natOf l) (i / 8) := ⟨_, rfl⟩
  rw [← hd] at hb
  rw [hb]
  have hdl : d < 256 := by rw [hd]; exact dig_lt _ _
  have HC2 : Hid (Calls Tryz.prog 23 #[.slice (some ⟨g, 0, none⟩) n c, .int .i64 ((i / 8 : Nat) : Int)] w (IntPost (d : Int) w)) := by rw [hd]; exact HC
  obtain ⟨k, hk⟩ : ∃ k, k = i % 8 := ⟨_, rfl⟩
  have hk8 : k < 8 := by omega
  rw [← hk]
  have HB := Lib.hid (bit_shift d i k hdl hk)
  clear HC hb hd h hn hk
  go_enter Tryz.func21, Tryz.ntmps21
  go_wp2_with fail
  refine HC2.out.mono ?_
  unfold IntPost
  rintro e w' ⟨rfl, rfl⟩
  go_wp2
  go_ret
  exact ⟨ret_int HB.out, rfl⟩
def LenPost (n : Nat) (w : World) (e : Ending) (w' : World) : Prop := ∃ k : Nat, e = .returned (.int .i64 (k : Int)) ∧ IsLen n k ∧ Below w.heap.size w w'
end Go.Proofs.YtndeolcamgnmdaaGreatDoor
