/- The floor's remainder, the package's and the reference's. -/
import Derived.Test.YtkddmiamdpbgiaaFltMod
import Derived.Deep.Draws
namespace Go.Proofs.Ytkddmiamdpbgiaa
open Go.RowKit
def nanW : Nat := 9221120237041090561
theorem ord_nan {a : Bool} {r : Nat} (h : infR < r) (h2 : r < S63) (y : Nat) : Ieee.double.order (FW a r) y = none := by
  unfold Ieee.Format.order
  rw [read_nan a h h2]
  unfold Ieee.Datum.order
  simp
theorem ord_nan_r {b : Bool} {s : Nat} (h : infR < s) (h2 : s < S63) (x : Nat) : Ieee.double.order x (FW b s) = none := by
  unfold Ieee.Format.order
  rw [read_nan b h h2]
  unfold Ieee.Datum.order
  split <;> simp_all
theorem ord_nz {b : Bool} {s : Nat} (h0 : 0 < s) (hs : s < S63) : (FloatKind.f64.format.order (FW b s) 0 == some .eq) = false := by
  rcases Nat.lt_or_ge infR s with h | h
  · show (Ieee.double.order (FW b s) 0 == _) = _
    rw [ord_nan h hs]; rfl
  · exact ord_zero_fw b h h0
theorem mod_bad (a b : Bool) (r s : Nat) (hr : r < S63) (h0 : 0 < s) (hs : s < S63) (hbad : infR ≤ r ∨ infR < s) (w : World) : Calls Try.prog 32 #[.float .f64 (FW a r), .float .f64 (FW b s)] w (FPost nanW w) := by
  have hy0 := ord_nz (b := b) h0 hs
  have hS : infR < S63 := by decide
  have hmax : (9218868437227405311 : Nat) = infR - 1 := by decide
  have HNAN := Lib.hid nan_any
  rcases Nat.lt_trichotomy r infR with h | h | h
  · have hsn : infR < s := by omega
    have hgt : (FloatKind.f64.format.order r 9218868437227405311 == some .gt) = false := by
      rw [hmax, ord_gt h (by omega)]; simp; omega
    have HI := Lib.hid (isinf_any a r hr false hgt)
    have HN := Lib.hid (isnan_any (FW a r) false (ord_self_fw a (by omega)))
    have HM := Lib.hid (isnan_any (FW b s) true (by show (Ieee.double.order _ _ != _) = _; rw [ord_nan hsn hs]; rfl))
    obtain ⟨x, hx⟩ : ∃ x, x = FW a r := ⟨_, rfl⟩
    obtain ⟨y, hy⟩ : ∃ y, y = FW b s := ⟨_, rfl⟩
    rw [← hx] at HI HN
    rw [← hy] at HM hy0
    rw [← hx, ← hy]
    clear hx hy hmax hgt hS hr h0 hs hbad h hsn
    go_enter Try.func32, Try.ntmps32
    go_wp2_with fail
    refine (HI.out _).mono ?_
    unfold BPost
    rintro e w' ⟨rfl, rfl⟩
    go_wp2_with fail
    refine (HN.out _).mono ?_
    unfold BPost
    rintro e w' ⟨rfl, rfl⟩
    go_wp2_with fail
    refine (HM.out _).mono ?_
    unfold BPost
    rintro e w' ⟨rfl, rfl⟩
    go_wp2_with fail
    refine (HNAN.out _).mono ?_
    unfold FPost
    rintro e w' ⟨rfl, rfl⟩
    go_wp2
    go_ret
    exact ⟨rfl, rfl⟩
  · have hgt : (FloatKind.f64.format.order r 9218868437227405311 == some .gt) = true := by rw [h]; exact ord_infmax
    have HI := Lib.hid (isinf_any a r hr true hgt)
    obtain ⟨x, hx⟩ : ∃ x, x = FW a r := ⟨_, rfl⟩
    obtain ⟨y, hy⟩ : ∃ y, y = FW b s := ⟨_, rfl⟩
    rw [← hx] at HI
    rw [← hy] at hy0
    rw [← hx, ← hy]
    clear hx hy hmax hgt hS hr h0 hs hbad h
    go_enter Try.func32, Try.ntmps32
    go_wp2_with fail
    refine (HI.out _).mono ?_
    unfold BPost
    rintro e w' ⟨rfl, rfl⟩
    go_wp2_with fail
    refine (HNAN.out _).mono ?_
    unfold FPost
    rintro e w' ⟨rfl, rfl⟩
    go_wp2
    go_ret
    exact ⟨rfl, rfl⟩
  · have hgt : (FloatKind.f64.format.order r 9218868437227405311 == some .gt) = false := by
      have := ord_nan (a := false) h hr 9218868437227405311
      rw [fw_false] at this
      show (Ieee.double.order _ _ == _) = _
      rw [this]; rfl
    have HI := Lib.hid (isinf_any a r hr false hgt)
    have HN := Lib.hid (isnan_any (FW a r) true (by show (Ieee.double.order _ _ != _) = _; rw [ord_nan h hr]; rfl))
    obtain ⟨x, hx⟩ : ∃ x, x = FW a r := ⟨_, rfl⟩
    obtain ⟨y, hy⟩ : ∃ y, y = FW b s := ⟨_, rfl⟩
    rw [← hx] at HI HN
    rw [← hy] at hy0
    rw [← hx, ← hy]
    clear hx hy hmax hgt hS hr h0 hs hbad h
    go_enter Try.func32, Try.ntmps32
    go_wp2_with fail
    refine (HI.out _).mono ?_
    unfold BPost
    rintro e w' ⟨rfl, rfl⟩
    go_wp2_with fail
    refine (HN.out _).mono ?_
    unfold BPost
    rintro e w' ⟨rfl, rfl⟩
    go_wp2_with fail
    refine (HNAN.out _).mono ?_
    unfold FPost
    rintro e w' ⟨rfl, rfl⟩
    go_wp2
    go_ret
    exact ⟨rfl, rfl⟩
theorem Mod_bad (a b : Bool) (r s : Nat) (hr : r < S63) (h0 : 0 < s) (hs : s < S63) (hbad : infR ≤ r ∨ infR < s) (w : World) : Calls Try.prog 23 #[.float .f64 (FW a r), .float .f64 (FW b s)] w (FPost nanW w) := by
  have H := Lib.hid (mod_bad a b r s hr h0 hs hbad)
  clear hr h0 hs hbad
  go_enter Try.func23, Try.ntmps23
  go_wp2_with fail
  refine (H.out _).mono ?_
  unfold FPost
  rintro e w' ⟨rfl, rfl⟩
  go_wp2
  go_ret
  exact ⟨rfl, rfl⟩
/-- A word of what is no number. -/
def IsNan (n : Nat) : Prop := ∃ (a : Bool) (r : Nat), n = FW a r ∧ infR < r ∧ r < S63
theorem nanW_nan : IsNan nanW := ⟨false, nanW, rfl, by decide, by decide⟩
/-- The sum with what is no number: some word of what is none. -/
theorem run_add_nan {P : Program} (t : TypeId) {x : Nat} (y : Nat) (hx : IsNan x) (w : World) : ∃ n, IsNan n ∧ (binOp .add t (.float .f64 x) (.float .f64 y)).run P w = .ok (.float .f64 n) w.drew := by
  obtain ⟨a, r, rfl, h1, h2⟩ := hx
  have hnone : Ieee.double.add (FW a r) y = none := by
    unfold Ieee.Format.add
    rw [read_nan a h1 h2]
    simp [Ieee.Datum.sum]
  have hrun : (binOp .add t (.float .f64 (FW a r)) (.float .f64 y)).run P w = .ok (.float .f64 (Question.cut (.nanBits .f64 (FW a r) y) (w.tape w.drawn (.nanBits .f64 (FW a r) y)))) w.drew := by
    have hn2 : FloatKind.f64.format.add (FW a r) y = none := hnone
    simp [binOp, Op.floatArith, hn2]
    intro h
    simp [Question.forced] at h
  refine ⟨_, ?_, hrun⟩
  generalize w.tape w.drawn (.nanBits .f64 (FW a r) y) = q
  unfold Question.cut
  have e1 : infR = 9218868437227405312 := rfl
  have e2 : S63 = 9223372036854775808 := rfl
  have h3 : q / 2 % (2 ^ 52 - 1) < 2 ^ 52 - 1 := Nat.mod_lt _ (by decide)
  have h4 : q % 2 = 0 ∨ q % 2 = 1 := by omega
  have h5 : (2 : Nat) ^ 52 = 4503599627370496 := by decide
  have h6 : (2 : Nat) ^ 63 = 9223372036854775808 := by decide
  rcases h4 with h | h
  · exact ⟨false, 0x7ff0000000000000 + 1 + q / 2 % (2 ^ 52 - 1), by show _ = _; simp only [h]; unfold FW; simp, by omega, by omega⟩
  · exact ⟨true, 0x7ff0000000000000 + 1 + q / 2 % (2 ^ 52 - 1), by show _ = _; simp only [h]; unfold FW; simp; omega, by omega, by omega⟩
theorem add_some (a b : Bool) {c s : Nat} (hc : c < infR) (hs : s ≤ infR) : ∃ t, Ieee.double.add (FW a c) (FW b s) = some t := by
  unfold Ieee.Format.add
  rw [read_fw a hc]
  rcases Nat.lt_or_ge s infR with h | h
  · rw [read_fw b h]
    simp [Ieee.Datum.sum]
  · have : s = infR := by omega
    subst this
    rw [read_inf b]
    simp [Ieee.Datum.sum]
end Go.Proofs.Ytkddmiamdpbgiaa
