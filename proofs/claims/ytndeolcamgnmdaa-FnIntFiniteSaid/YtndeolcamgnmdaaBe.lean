/- Words out of bytes, the highest first. -/
import Derived.Test.YtndeolcamgnmdaaSmall
import Derived.Lib.EndianBits
namespace Go.Proofs.Ytndeolcamgnmdaa
open Go.RowKit
set_option maxRecDepth 20000 in
set_option maxHeartbeats 2000000 in
theorem be32 (g o n c b0 b1 b2 b3 : Nat) (h0 : b0 < 256) (h1 : b1 < 256) (h2 : b2 < 256) (h3 : b3 < 256) (hn : 4 ≤ n) (w : World)
    (c0 : w.cell? ⟨g, o, none⟩ = some (.int .u8 (b0 : Int))) (c1 : w.cell? ⟨g, o + 1, none⟩ = some (.int .u8 (b1 : Int))) (c2 : w.cell? ⟨g, o + 2, none⟩ = some (.int .u8 (b2 : Int))) (c3 : w.cell? ⟨g, o + 3, none⟩ = some (.int .u8 (b3 : Int))) :
    Calls Try.prog 73 #[.slice (some ⟨g, o, none⟩) n c] w fun e w' => e = .returned (.int .u32 ((natOf [b0, b1, b2, b3] : Nat) : Int)) ∧ ∃ q, w' = w.drewN q := by
  have hn' : (3 : Int) < (n : Int) := by omega
  have hn2 : (2 : Int) < (n : Int) := by omega
  have hn1 : (1 : Int) < (n : Int) := by omega
  have hn0 : (0 : Int) < (n : Int) := by omega
  go_enter Try.func73, Try.ntmps73
  go_wp2_with fail
  go_quiet (fail)
  go_wp2
  go_ret
  refine ⟨ret_int ?_, _, rfl⟩
  have e1 := u32_or8 (y := (b3 : Int)) (x := (b2 : Int) * 256) (by omega) (by omega) (by omega) (by omega) (by omega)
  have e2 := u32_or16 (y := (b3 : Int) + (b2 : Int) * 256) (x := (b1 : Int) * 65536) (by omega) (by omega) (by omega) (by omega) (by omega)
  have e3 := u32_or24 (y := (b3 : Int) + (b2 : Int) * 256 + (b1 : Int) * 65536) (x := (b0 : Int) * 16777216) (by omega) (by omega) (by omega) (by omega) (by omega)
  rw [e1, e2, e3]
  simp only [natOf, List.length_cons, List.length_nil]
  omega
theorem slice_from_at (w : World) (g o n cap k : Nat) (hk : k < n) (hc : n ≤ cap) :
    (Instr.slice 22 (.slice (some ⟨g, o, none⟩) n cap) (some (.int .i64 (k : Int))) none none).run Try.prog w = .ok (.slice (some ⟨g, o + k, none⟩) (n - k) (cap - k)) w := by
  rw [slice_from w _ n cap k (by omega), if_neg (by omega)]
  simp [Addr.add_lit]
set_option maxRecDepth 20000 in
set_option maxHeartbeats 600000 in
theorem be64 (g o n c b0 b1 b2 b3 b4 b5 b6 b7 : Nat) (h0 : b0 < 256) (h1 : b1 < 256) (h2 : b2 < 256) (h3 : b3 < 256) (h4 : b4 < 256) (h5 : b5 < 256) (h6 : b6 < 256) (h7 : b7 < 256) (hn : 8 ≤ n) (hc : n ≤ c) (w : World)
    (c0 : w.cell? ⟨g, o, none⟩ = some (.int .u8 (b0 : Int))) (c1 : w.cell? ⟨g, o + 1, none⟩ = some (.int .u8 (b1 : Int))) (c2 : w.cell? ⟨g, o + 2, none⟩ = some (.int .u8 (b2 : Int))) (c3 : w.cell? ⟨g, o + 3, none⟩ = some (.int .u8 (b3 : Int)))
    (c4 : w.cell? ⟨g, o + 4, none⟩ = some (.int .u8 (b4 : Int))) (c5 : w.cell? ⟨g, o + 4 + 1, none⟩ = some (.int .u8 (b5 : Int))) (c6 : w.cell? ⟨g, o + 4 + 2, none⟩ = some (.int .u8 (b6 : Int))) (c7 : w.cell? ⟨g, o + 4 + 3, none⟩ = some (.int .u8 (b7 : Int))) (c7' : w.cell? ⟨g, o + 7, none⟩ = some (.int .u8 (b7 : Int))) :
    Calls Try.prog 72 #[.slice (some ⟨g, o, none⟩) n c] w fun e w' => e = .returned (.int .u64 ((natOf [b0, b1, b2, b3, b4, b5, b6, b7] : Nat) : Int)) ∧ ∃ q, w' = w.drewN q := by
  have hn' : (7 : Int) < (n : Int) := by omega
  have hsl := fun W => slice_from_at W g o n c 4 (by omega) hc
  obtain ⟨hi, hhi⟩ : ∃ hi, hi = natOf [b0, b1, b2, b3] := ⟨_, rfl⟩
  obtain ⟨lo, hlo⟩ : ∃ lo, lo = natOf [b4, b5, b6, b7] := ⟨_, rfl⟩
  have hhi4 : hi < 4294967296 := by rw [hhi]; simp only [natOf, List.length_cons, List.length_nil]; omega
  have hlo4 : lo < 4294967296 := by rw [hlo]; simp only [natOf, List.length_cons, List.length_nil]; omega
  have k1 := Lib.hid (fun q => be32 g o n c b0 b1 b2 b3 h0 h1 h2 h3 (by omega) (w.drewN q) (by simpa using c0) (by simpa using c1) (by simpa using c2) (by simpa using c3))
  have k2 := Lib.hid (fun q => be32 g (o + 4) (n - 4) (c - 4) b4 b5 b6 b7 h4 h5 h6 h7 (by omega) (w.drewN q) (by simpa using c4) (by simpa using c5) (by simpa using c6) (by simpa using c7))
  rw [← hhi] at k1
  rw [← hlo] at k2
  have HF : Hid (natOf [b0, b1, b2, b3, b4, b5, b6, b7] = lo + hi * 4294967296) := by
    unfold Hid
    rw [hhi, hlo]
    simp only [natOf, List.length_cons, List.length_nil]
    omega
  clear hhi hlo c0 c1 c2 c3 c4 c5 c6 c7
  go_enter Try.func72, Try.ntmps72
  go_wp2_with fail
  go_quiet ((go_at_call 73; first | (with_reducible exact Calls.quiet_of (k1.out _)) | (with_reducible exact Calls.quiet_of (k2.out _))))
  go_wp2
  go_ret
  refine ⟨ret_int ?_, _, rfl⟩
  have e1 := u64_or32 (y := (lo : Int)) (x := (hi : Int) * 4294967296) (by omega) (by omega) (by omega) (by omega) (by omega)
  have ec : bits .or .u64 ((hi : Int) * 4294967296) (lo : Int) = bits .or .u64 (lo : Int) ((hi : Int) * 4294967296) := by simp only [bits, BitVec.or_comm]
  rw [ec, e1, HF.out]
  omega
theorem be_word (g o n c : Nat) (l : List Nat) (hl : l.length = 8) (hb : ∀ x ∈ l, x < 256) (hn : 8 ≤ n) (hc : n ≤ c) (w : World) (hcell : ∀ j (h : j < l.length), w.cell? ⟨g, o + j, none⟩ = some (.int .u8 ((l[j]'h : Nat) : Int))) :
    Calls Try.prog 62 #[.slice (some ⟨g, o, none⟩) n c] w fun e w' => e = .returned (.int .u64 ((natOf l : Nat) : Int)) ∧ ∃ q, w' = w.drewN q := by
  match l, hl with
  | [b0, b1, b2, b3, b4, b5, b6, b7], _ =>
    have k := Lib.hid (be64 g o n c b0 b1 b2 b3 b4 b5 b6 b7 (hb _ (by simp)) (hb _ (by simp)) (hb _ (by simp)) (hb _ (by simp)) (hb _ (by simp)) (hb _ (by simp)) (hb _ (by simp)) (hb _ (by simp)) hn hc w
      (by simpa using hcell 0 (by simp)) (by simpa using hcell 1 (by simp)) (by simpa using hcell 2 (by simp)) (by simpa using hcell 3 (by simp)) (by simpa using hcell 4 (by simp)) (by simpa [Nat.add_assoc] using hcell 5 (by simp)) (by simpa [Nat.add_assoc] using hcell 6 (by simp)) (by simpa [Nat.add_assoc] using hcell 7 (by simp)) (by simpa using hcell 7 (by simp)))
    clear hcell hb
    obtain ⟨N, hN⟩ : ∃ N, N = natOf [b0, b1, b2, b3, b4, b5, b6, b7] := ⟨_, rfl⟩
    rw [← hN] at k ⊢
    clear hN
    go_enter Try.func62, Try.ntmps62
    go_wp2_with fail
    refine k.out.mono ?_
    rintro e w1 ⟨rfl, q, rfl⟩
    go_wp2
    go_ret
    exact ⟨rfl, q, rfl⟩
end Go.Proofs.Ytndeolcamgnmdaa
