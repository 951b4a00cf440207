/- Joined texts: Small, IntLen, Be. -/
import Derived.Test.YteibkaonofkcbaaGreatTupJoinC
import Derived.Lib.EndianBits
set_option linter.unusedSimpArgs false
set_option linter.unusedVariables false
namespace Go.Proofs.YteibkaonofkcbaaGreat
open Go.RowKit
theorem wrap64_pos (n : Int) (h0 : 0 ≤ n) (h1 : n.natAbs < W64) : IntKind.u64.wrap n = ((n.natAbs : Nat) : Int) := by
  unfold W64 at h1
  simp [IntKind.wrap, IntKind.bits, IntKind.signed]
  omega
theorem wrap64_neg (n : Int) (h0 : n < 0) (h1 : n.natAbs < W64) : IntKind.u64.wrap n = ((W64 - n.natAbs : Nat) : Int) := by
  unfold W64 at *
  simp [IntKind.wrap, IntKind.bits, IntKind.signed]
  omega
theorem wrap64_back (m : Nat) (h0 : 0 < m) (h1 : m < W64) : IntKind.u64.wrap (-((W64 - m : Nat) : Int)) = (m : Int) := by
  unfold W64 at *
  simp [IntKind.wrap, IntKind.bits, IntKind.signed]
  omega
def NumPost (n : Int) (w : World) (e : Ending) (w' : World) : Prop := ∃ v neg l, e = .returned v ∧ SInt w' w.heap.size v neg l ∧ (∀ x ∈ l, x < 256) ∧ intOf2 neg l = n ∧ Below w.heap.size w w'
theorem SInt.only {w w' : World} {B : Nat} {S : Nat → Prop} {v : Value} {neg : Bool} {l : List Nat} (h : SInt w B v neg l) (k : Only S w w') (hs : ∀ g, B ≤ g → ¬ S g) : SInt w' B v neg l := by
  obtain ⟨vs, hv, h1, h2⟩ := h
  exact ⟨vs, hv, h1.only k hs, h2⟩
theorem small_fin {n : Int} {neg : Bool} {lb : List Nat} (hneg : neg = decide (n < 0)) (hl : natOf lb = n.natAbs) : intOf2 (negOf neg lb) (strip lb) = n := by
  unfold intOf2
  rw [natOf_strip, hl]
  by_cases h : n < 0
  · have hs : strip lb ≠ [] := fun e => by
      have := natOf_strip lb
      rw [e, hl] at this
      simp [natOf] at this
      omega
    have : negOf neg lb = true := by
      subst hneg
      unfold negOf
      cases hq : strip lb with
      | nil => exact absurd hq hs
      | cons x r => simp [h]
    rw [this]
    simp
    omega
  · have : negOf neg lb = false := by subst hneg; simp [negOf, h]
    rw [this]
    simp
    omega
set_option maxHeartbeats 2000000 in
theorem small_any (n : Int) (hn : n.natAbs < W64) (w : World) :
    Calls Tryz.prog 34 #[.int .i64 n] w (NumPost n w) := by
  have hK := Lib.hid (Blk.new w 68 #[.bool false, .slice none 0 0])
  have HN := Lib.hid hn
  by_cases h0 : n < 0
  · obtain ⟨U, hU⟩ : ∃ U, U = W64 - n.natAbs := ⟨_, rfl⟩
    obtain ⟨m, hm⟩ : ∃ m, m = n.natAbs := ⟨_, rfl⟩
    have hw1 := wrap64_neg n h0 hn
    have hw2 := wrap64_back n.natAbs (by omega) hn
    rw [← hU] at hw1 hw2
    rw [← hm] at hw2
    have hd : decide (n < 0) = true := by simp [h0]
    have HU := Lib.hid hU
    have HM := Lib.hid hm
    have H0 := Lib.hid h0
    clear hU hm h0 hn
    go_enter Tryz.func34, Tryz.ntmps34
    go_wp2_with fail
    refine (bytes_of m (by have := HM.out; have := HN.out; omega) _).mono ?_
    rintro e w1 ⟨v1, lb, rfl, hob, h8, hnat, hb1⟩
    obtain ⟨g, c, hv1, hg1, _, _, _⟩ := hob.form
    rw [h8] at hv1
    subst hv1
    have HOB := Lib.hid hob
    have HNAT := Lib.hid hnat
    have H8 := Lib.hid h8
    have HB1 := Lib.hid hb1
    have k1 := Lib.hid (hK.out.below hb1 (by simp))
    clear hob hnat h8 hb1 hg1
    go_wp2_with fail
    refine (of_any true _ _ _ lb _ HOB.out.bsl (by have := H8.out; omega)).mono ?_
    rintro e w2 ⟨v2, rfl, hsi, hb2⟩
    have hfin := small_fin (n := n) (neg := true) (lb := lb) (by simp [H0.out]) (by rw [HNAT.out, HM.out])
    have HFIN := Lib.hid hfin
    have hbw : Below w.heap.size w w2 := ((Below.refl _ w).alloc (Nat.le_refl _) _).trans ((HB1.out.mono (by simp)).trans (hb2.mono (by have := HB1.out.size; simp at this; omega)))
    obtain ⟨c0, c1, f0, f1⟩ := blk2 (k1.out.below hb2 k1.out.lt)
    have hsz : w.heap.size + 1 ≤ w1.heap.size := by have := HB1.out.size; simpa using this
    have hsi' := Lib.hid (hsi.base (C := w.heap.size + 1) hsz)
    obtain ⟨vs, rfl, ho, hh, hn2⟩ := hsi
    obtain ⟨g2, c2, hvs, hg2, _, _, _⟩ := ho.form
    obtain ⟨r, hr⟩ : ∃ r, r = (strip lb).length := ⟨_, rfl⟩
    rw [← hr] at hvs
    subst hvs
    obtain ⟨nb, hnb⟩ : ∃ nb, nb = negOf true lb := ⟨_, rfl⟩
    rw [← hnb] at hsi' ⊢
    have HNB := Lib.hid hnb
    have HBS := Lib.hid ho.2.2
    have hbw' := Lib.hid hbw
    clear hb2 ho hh hn2 hr hnb hfin hbw
    go_wp2
    refine bodyPost_ret (v := .agg #[.bool nb, .slice (some ⟨g2, 0, none⟩) r c2]) (by simp [results, Tryz.results34, go_sem, c0, c1]) rfl ⟨_, nb, strip lb, rfl, ?_, HBS.out, by rw [HNB.out]; exact HFIN.out, (hbw'.out.setCell (p := ⟨w.heap.size, 0, none⟩) (Nat.le_refl _) _).setCell (p := ⟨w.heap.size, 1, none⟩) (Nat.le_refl _) _⟩
    exact (hsi'.out.only (two_set w2 w.heap.size (.bool nb) (.slice (some ⟨g2, 0, none⟩) r c2)) (fun k hk e => by omega)).base (by omega)
  · obtain ⟨m, hm⟩ : ∃ m, m = n.natAbs := ⟨_, rfl⟩
    have hw1 := wrap64_pos n (by omega) hn
    rw [← hm] at hw1
    have hd : decide (n < 0) = false := by simp [h0]
    have HM := Lib.hid hm
    have H0 := Lib.hid h0
    clear hm h0 hn
    go_enter Tryz.func34, Tryz.ntmps34
    go_wp2_with fail
    refine (bytes_of m (by have := HM.out; have := HN.out; omega) _).mono ?_
    rintro e w1 ⟨v1, lb, rfl, hob, h8, hnat, hb1⟩
    obtain ⟨g, c, hv1, hg1, _, _, _⟩ := hob.form
    rw [h8] at hv1
    subst hv1
    have HOB := Lib.hid hob
    have HNAT := Lib.hid hnat
    have H8 := Lib.hid h8
    have HB1 := Lib.hid hb1
    have k1 := Lib.hid (hK.out.below hb1 (by simp))
    clear hob hnat h8 hb1 hg1
    go_wp2_with fail
    refine (of_any false _ _ _ lb _ HOB.out.bsl (by have := H8.out; omega)).mono ?_
    rintro e w2 ⟨v2, rfl, hsi, hb2⟩
    have hfin := small_fin (n := n) (neg := false) (lb := lb) (by simp [H0.out]) (by rw [HNAT.out, HM.out])
    have HFIN := Lib.hid hfin
    have hbw : Below w.heap.size w w2 := ((Below.refl _ w).alloc (Nat.le_refl _) _).trans ((HB1.out.mono (by simp)).trans (hb2.mono (by have := HB1.out.size; simp at this; omega)))
    obtain ⟨c0, c1, f0, f1⟩ := blk2 (k1.out.below hb2 k1.out.lt)
    have hsz : w.heap.size + 1 ≤ w1.heap.size := by have := HB1.out.size; simpa using this
    have hsi' := Lib.hid (hsi.base (C := w.heap.size + 1) hsz)
    obtain ⟨vs, rfl, ho, hh, hn2⟩ := hsi
    obtain ⟨g2, c2, hvs, hg2, _, _, _⟩ := ho.form
    obtain ⟨r, hr⟩ : ∃ r, r = (strip lb).length := ⟨_, rfl⟩
    rw [← hr] at hvs
    subst hvs
    obtain ⟨nb, hnb⟩ : ∃ nb, nb = negOf false lb := ⟨_, rfl⟩
    rw [← hnb] at hsi' ⊢
    have HNB := Lib.hid hnb
    have HBS := Lib.hid ho.2.2
    have hbw' := Lib.hid hbw
    clear hb2 ho hh hn2 hr hnb hfin hbw
    go_wp2
    refine bodyPost_ret (v := .agg #[.bool nb, .slice (some ⟨g2, 0, none⟩) r c2]) (by simp [results, Tryz.results34, go_sem, c0, c1]) rfl ⟨_, nb, strip lb, rfl, ?_, HBS.out, by rw [HNB.out]; exact HFIN.out, (hbw'.out.setCell (p := ⟨w.heap.size, 0, none⟩) (Nat.le_refl _) _).setCell (p := ⟨w.heap.size, 1, none⟩) (Nat.le_refl _) _⟩
    exact (hsi'.out.only (two_set w2 w.heap.size (.bool nb) (.slice (some ⟨g2, 0, none⟩) r c2)) (fun k hk e => by omega)).base (by omega)
end Go.Proofs.YteibkaonofkcbaaGreat
namespace Go.Proofs.YteibkaonofkcbaaGreat
theorem natOf_lenle {l : List Nat} (hh : l.head? ≠ some 0) (k : Nat) (h : natOf l < 256 ^ k) : l.length ≤ k := by
  cases l with
  | nil => simp
  | cons x r =>
    have hx : x ≠ 0 := fun e => hh (by simp [e])
    have h1 : 256 ^ r.length ≤ natOf (x :: r) := by
      simp only [natOf]
      have := Nat.mul_le_mul_right (256 ^ r.length) (Nat.pos_of_ne_zero hx)
      omega
    have h2 := (Nat.pow_lt_pow_iff_right (a := 256) (by omega)).1 (Nat.lt_of_le_of_lt h1 h)
    simp; omega
theorem sint_head {w : World} {B : Nat} {v : Value} {neg : Bool} {l : List Nat} (h : SInt w B v neg l) : l.head? ≠ some 0 := by
  obtain ⟨_, _, _, h, _⟩ := h
  exact h
theorem intOf2_len {neg : Bool} {l : List Nat} {n : Int} (hh : l.head? ≠ some 0) (hn : intOf2 neg l = n) (h1 : -9223372036854775808 ≤ n) (h2 : n < 18446744073709551616) : l.length ≤ 8 := by
  refine natOf_lenle hh 8 ?_
  have : (256 : Nat) ^ 8 = 18446744073709551616 := by decide
  rw [this]
  cases neg <;> simp [intOf2] at hn <;> omega
end Go.Proofs.YteibkaonofkcbaaGreat
namespace Go.Proofs.YteibkaonofkcbaaGreat
open Go.RowKit
set_option maxRecDepth 20000 in
set_option maxHeartbeats 2000000 in
theorem be32 (g o n c b0 b1 b2 b3 : Nat) (h0 : b0 < 256) (h1 : b1 < 256) (h2 : b2 < 256) (h3 : b3 < 256) (hn : 4 ≤ n) (w : World)
    (c0 : w.cell? ⟨g, o, none⟩ = some (.int .u8 (b0 : Int))) (c1 : w.cell? ⟨g, o + 1, none⟩ = some (.int .u8 (b1 : Int))) (c2 : w.cell? ⟨g, o + 2, none⟩ = some (.int .u8 (b2 : Int))) (c3 : w.cell? ⟨g, o + 3, none⟩ = some (.int .u8 (b3 : Int))) :
    Calls Tryz.prog 98 #[.slice (some ⟨g, o, none⟩) n c] w fun e w' => e = .returned (.int .u32 ((natOf [b0, b1, b2, b3] : Nat) : Int)) ∧ ∃ q, w' = w.drewN q := by
  have hn' : (3 : Int) < (n : Int) := by omega
  have hn2 : (2 : Int) < (n : Int) := by omega
  have hn1 : (1 : Int) < (n : Int) := by omega
  have hn0 : (0 : Int) < (n : Int) := by omega
  go_enter Tryz.func98, Tryz.ntmps98
  go_wp2_with fail
  go_quiet (fail)
  go_wp2
  go_ret
  refine ⟨ret_int ?_, _, rfl⟩
  have e1 := u32_or8 (y := (b3 : Int)) (x := (b2 : Int) * 256) (by omega) (by omega) (by omega) (by omega) (by omega)
  have e2 := u32_or16 (y := (b3 : Int) + (b2 : Int) * 256) (x := (b1 : Int) * 65536) (by omega) (by omega) (by omega) (by omega) (by omega)
  have e3 := u32_or24 (y := (b3 : Int) + (b2 : Int) * 256 + (b1 : Int) * 65536) (x := (b0 : Int) * 16777216) (by omega) (by omega) (by omega) (by omega) (by omega)
  rw [e1, e2, e3]
  simp only [natOf, List.length_cons, List.length_nil]
  omega
theorem slice_from_at (w : World) (g o n cap k : Nat) (hk : k < n) (hc : n ≤ cap) :
    (Instr.slice 30 (.slice (some ⟨g, o, none⟩) n cap) (some (.int .i64 (k : Int))) none none).run Tryz.prog w = .ok (.slice (some ⟨g, o + k, none⟩) (n - k) (cap - k)) w := by
  rw [slice_from w _ n cap k (by omega), if_neg (by omega)]
  simp [Addr.add_lit]
set_option maxRecDepth 20000 in
set_option maxHeartbeats 600000 in
theorem be64 (g o n c b0 b1 b2 b3 b4 b5 b6 b7 : Nat) (h0 : b0 < 256) (h1 : b1 < 256) (h2 : b2 < 256) (h3 : b3 < 256) (h4 : b4 < 256) (h5 : b5 < 256) (h6 : b6 < 256) (h7 : b7 < 256) (hn : 8 ≤ n) (hc : n ≤ c) (w : World)
    (c0 : w.cell? ⟨g, o, none⟩ = some (.int .u8 (b0 : Int))) (c1 : w.cell? ⟨g, o + 1, none⟩ = some (.int .u8 (b1 : Int))) (c2 : w.cell? ⟨g, o + 2, none⟩ = some (.int .u8 (b2 : Int))) (c3 : w.cell? ⟨g, o + 3, none⟩ = some (.int .u8 (b3 : Int)))
    (c4 : w.cell? ⟨g, o + 4, none⟩ = some (.int .u8 (b4 : Int))) (c5 : w.cell? ⟨g, o + 4 + 1, none⟩ = some (.int .u8 (b5 : Int))) (c6 : w.cell? ⟨g, o + 4 + 2, none⟩ = some (.int .u8 (b6 : Int))) (c7 : w.cell? ⟨g, o + 4 + 3, none⟩ = some (.int .u8 (b7 : Int))) (c7' : w.cell? ⟨g, o + 7, none⟩ = some (.int .u8 (b7 : Int))) :
    Calls Tryz.prog 97 #[.slice (some ⟨g, o, none⟩) n c] w fun e w' => e = .returned (.int .u64 ((natOf [b0, b1, b2, b3, b4, b5, b6, b7] : Nat) : Int)) ∧ ∃ q, w' = w.drewN q := by
  have hn' : (7 : Int) < (n : Int) := by omega
  have hsl := fun W => slice_from_at W g o n c 4 (by omega) hc
  obtain ⟨hi, hhi⟩ : ∃ hi, hi = natOf [b0, b1, b2, b3] := ⟨_, rfl⟩
  obtain ⟨lo, hlo⟩ : ∃ lo, lo = natOf [b4, b5, b6, b7] := ⟨_, rfl⟩
  have hhi4 : hi < 4294967296 := by rw [hhi]; simp only [natOf, List.length_cons, List.length_nil]; omega
  have hlo4 : lo < 4294967296 := by rw [hlo]; simp only [natOf, List.length_cons, List.length_nil]; omega
  have k1 := Lib.hid (fun q => be32 g o n c b0 b1 b2 b3 h0 h1 h2 h3 (by omega) (w.drewN q) (by simpa using c0) (by simpa using c1) (by simpa using c2) (by simpa using c3))
  have k2 := Lib.hid (fun q => be32 g (o + 4) (n - 4) (c - 4) b4 b5 b6 b7 h4 h5 h6 h7 (by omega) (w.drewN q) (by simpa using c4) (by simpa using c5) (by simpa using c6) (by simpa using c7))
  rw [← hhi] at k1
  rw [← hlo] at k2
  have HF : Hid (natOf [b0, b1, b2, b3, b4, b5, b6, b7] = lo + hi * 4294967296) := by
    unfold Hid
    rw [hhi, hlo]
    simp only [natOf, List.length_cons, List.length_nil]
    omega
  clear hhi hlo c0 c1 c2 c3 c4 c5 c6 c7
  go_enter Tryz.func97, Tryz.ntmps97
  go_wp2_with fail
  go_quiet ((go_at_call 98; first | (with_reducible exact Calls.quiet_of (k1.out _)) | (with_reducible exact Calls.quiet_of (k2.out _))))
  go_wp2
  go_ret
  refine ⟨ret_int ?_, _, rfl⟩
  have e1 := u64_or32 (y := (lo : Int)) (x := (hi : Int) * 4294967296) (by omega) (by omega) (by omega) (by omega) (by omega)
  have ec : bits .or .u64 ((hi : Int) * 4294967296) (lo : Int) = bits .or .u64 (lo : Int) ((hi : Int) * 4294967296) := by simp only [bits, BitVec.or_comm]
  rw [ec, e1, HF.out]
  omega
theorem be_word (g o n c : Nat) (l : List Nat) (hl : l.length = 8) (hb : ∀ x ∈ l, x < 256) (hn : 8 ≤ n) (hc : n ≤ c) (w : World) (hcell : ∀ j (h : j < l.length), w.cell? ⟨g, o + j, none⟩ = some (.int .u8 ((l[j]'h : Nat) : Int))) :
    Calls Tryz.prog 91 #[.slice (some ⟨g, o, none⟩) n c] w fun e w' => e = .returned (.int .u64 ((natOf l : Nat) : Int)) ∧ ∃ q, w' = w.drewN q := by
  match l, hl with
  | [b0, b1, b2, b3, b4, b5, b6, b7], _ =>
    have k := Lib.hid (be64 g o n c b0 b1 b2 b3 b4 b5 b6 b7 (hb _ (by simp)) (hb _ (by simp)) (hb _ (by simp)) (hb _ (by simp)) (hb _ (by simp)) (hb _ (by simp)) (hb _ (by simp)) (hb _ (by simp)) hn hc w
      (by simpa using hcell 0 (by simp)) (by simpa using hcell 1 (by simp)) (by simpa using hcell 2 (by simp)) (by simpa using hcell 3 (by simp)) (by simpa using hcell 4 (by simp)) (by simpa [Nat.add_assoc] using hcell 5 (by simp)) (by simpa [Nat.add_assoc] using hcell 6 (by simp)) (by simpa [Nat.add_assoc] using hcell 7 (by simp)) (by simpa using hcell 7 (by simp)))
    clear hcell hb
    obtain ⟨N, hN⟩ : ∃ N, N = natOf [b0, b1, b2, b3, b4, b5, b6, b7] := ⟨_, rfl⟩
    rw [← hN] at k ⊢
    clear hN
    go_enter Tryz.func91, Tryz.ntmps91
    go_wp2_with fail
    refine k.out.mono ?_
    rintro e w1 ⟨rfl, q, rfl⟩
    go_wp2
    go_ret
    exact ⟨rfl, q, rfl⟩
end Go.Proofs.YteibkaonofkcbaaGreat
