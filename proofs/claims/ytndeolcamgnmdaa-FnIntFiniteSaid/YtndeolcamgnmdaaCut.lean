/- The reference's copy of bytes without leading zeros. -/
import Derived.Test.YtndeolcamgnmdaaBytes
namespace Go.Proofs.Ytndeolcamgnmdaa
open Go.RowKit
theorem slice_at {w : World} {a : Option Addr} {n cap : Nat} {k : Int} {sv : Value} (h : (Instr.slice 22 (.slice a n cap) (some (.int .i64 k)) none none).run Try.prog w = .ok sv w) (hk0 : ∃ m : Nat, k = m ∧ m ≤ n) (w' : World) :
    (Instr.slice 22 (.slice a n cap) (some (.int .i64 k)) none none).run Try.prog w' = .ok sv w' := by
  have hk : ∃ m : Nat, k = m ∧ m ≤ n := hk0
  obtain ⟨m, rfl, hm⟩ := hk
  rw [slice_from w' a n cap m hm]
  rw [slice_from w a n cap m hm] at h
  injection h with h1 h2
  rw [h1]
def CutPost (l : List Nat) (w : World) (e : Ending) (w' : World) : Prop := ∃ v, e = .returned v ∧ OB w' w.heap.size v (strip l) ∧ Below w.heap.size w w'
set_option maxRecDepth 20000 in
set_option maxHeartbeats 2000000 in
theorem cut_any (a : Option Addr) (n cap : Nat) (l : List Nat) (w : World) (hb : BSl w (.slice a n cap) l) (hl : l.length ≤ 70368744177664) :
    Calls Try.prog 27 #[.slice a n cap] w (CutPost l w) := by
  have hn : n = l.length := by obtain ⟨_, _, hv, _⟩ := hb; injection hv
  have hB := Lib.hid hb
  have HN := Lib.hid hn
  cases a with
  | none =>
    have h0 : l = [] ∧ cap = 0 := by obtain ⟨a', c', hv, _, _, _, h4, _⟩ := hb; injection hv with e1 e2 e3; subst e1 e3; exact h4 rfl
    obtain ⟨rfl, rfl⟩ := h0
    obtain rfl : n = 0 := hn
    clear hb HN
    have hob := ob_new w w.heap.size (Nat.le_refl _)
    have hbn := Lib.hid (hB.out.old ((Below.refl _ w).alloc (Nat.le_refl _) (.cells #[] 5)))
    clear hob
    go_enter Try.func27, Try.ntmps27
    go_wp2_with fail
    refine wp_loop_rounds 1 ?_
    rw [rounds_succ]
    go_wp2_with (at_builtin; refine wpList_app_bsl rfl _ _ rfl w.heap.size rfl rfl (ob_new w w.heap.size (Nat.le_refl _)) hbn.out (by simp) (by simp) ?_; intro v' w' hob hbw _)
    go_ret
    exact ⟨v', rfl, by simpa [strip] using hob, ((Below.refl _ w).alloc (Nat.le_refl _) _).trans hbw⟩
  | some p =>
    have h5 : ∀ j (h : j < l.length), w.cell? (p.add j) = some (.int .u8 ((l[j]'h : Nat) : Int)) := by obtain ⟨a', c', hv, _, _, _, _, h5⟩ := hb; injection hv with e1 e2 e3; subst e1; exact h5 p rfl
    have hncap : n ≤ cap ∧ cap ≤ maxLen := by obtain ⟨a', c', hv, h1, h2, _⟩ := hb; injection hv with e1 e2 e3; subst e3; omega
    obtain ⟨hnc, hcm⟩ := hncap
    unfold maxLen at hcm
    have H5 := Lib.hid h5
    have hn60 : n ≤ 70368744177664 := by omega
    clear hb hn h5 hl
    go_enter Try.func27, Try.ntmps27
    go_wp2_with fail
    go_loop [3] (fun i => ∃ k : Nat, k ≤ n ∧ i = .int .i64 k ∧ Hid (∀ j (hj : j < l.length), j < k → l[j]'hj = 0)) (fun i => n - (intOf i).toNat)
    case atStart => exact ⟨0, by omega, rfl, fun j hj h => by omega⟩
    case round =>
      obtain ⟨k, hk, rfl, hz⟩ := hrel
      by_cases hkn : k < n
      · have hkl : k < l.length := by have := HN.out; omega
        have hc := H5.out k hkl
        have hd : decide ((k : Int) < (n : Int)) = true := by simp; omega
        by_cases h0 : l[k]'hkl = 0
        · have hb0 : (((l[k]'hkl : Nat) : Int) == 0) = true := by rw [beq_iff_eq]; omega
          have H0 := Lib.hid h0
          clear h0
          go_wp2
          go_round
          case rel => exact ⟨k + 1, by omega, by go_num, fun j hj hjk => by
            by_cases e : j = k
            · subst e; exact H0.out
            · exact hz.out j hj (by omega)⟩
          case measure => simp [intOf]; omega
        · have hb0 : (((l[k]'hkl : Nat) : Int) == 0) = false := by rw [beq_eq_false_iff_ne]; omega
          have HNE : Hid (∀ h : k < l.length, l[k]'h ≠ 0) := fun _ => h0
          have HL : Hid (n = l.length) := HN
          clear h0
          have HSL := Lib.hid (slice_from w (some p) n cap k (by have := HN.out; omega))
          have HB := Lib.hid (hB.out.from k (by have := HN.out; omega))
          have HST := Lib.hid (strip_drop l k (by have := HN.out; omega) (fun j hj hjk => hz.out j hj hjk) HNE.out)
          obtain ⟨sv, hsv⟩ : ∃ sv, sv = Value.slice (if cap = k then some p else (some p).map (·.add (k * 1))) (n - k) (cap - k) := ⟨_, rfl⟩
          have hsl := HSL.out
          have hbsl := HB.out
          rw [← hsv] at hsl hbsl
          have hbsl' := Lib.hid (BSl.old hbsl ((Below.refl _ w).alloc (Nat.le_refl _) (.cells #[] 5)))
          clear hsv hbsl
          have hsl2 := slice_at hsl ⟨k, rfl, by omega⟩ (w.alloc (.cells #[] 5))
          clear hsl
          go_wp2_with (at_builtin; refine wpList_app_bsl rfl _ _ rfl w.heap.size rfl rfl (ob_new w w.heap.size (Nat.le_refl _)) hbsl'.out (by have := HN.out; rw [List.length_drop]; simp; omega) (by simp) ?_; intro v' w' hob hbw _)
          go_ret
          refine ⟨v', rfl, ?_, ((Below.refl _ w).alloc (Nat.le_refl _) _).trans hbw⟩
          rw [HST.out]
          simpa using hob
      · obtain rfl : k = n := by omega
        have hd : decide ((k : Int) < (k : Int)) = false := by simp
        have HNE : Hid (∀ h : k < l.length, l[k]'h ≠ 0) := fun h => by have := HN.out; omega
        have HSL := Lib.hid (slice_from w (some p) k cap k (by have := HN.out; omega))
        have HB := Lib.hid (hB.out.from k (by have := HN.out; omega))
        have HST := Lib.hid (strip_drop l k (by have := HN.out; omega) (fun j hj hjk => hz.out j hj hjk) HNE.out)
        obtain ⟨sv, hsv⟩ : ∃ sv, sv = Value.slice (if cap = k then some p else (some p).map (·.add (k * 1))) (k - k) (cap - k) := ⟨_, rfl⟩
        have hsl := HSL.out
        have hbsl := HB.out
        rw [← hsv] at hsl hbsl
        have hbsl' := Lib.hid (BSl.old hbsl ((Below.refl _ w).alloc (Nat.le_refl _) (.cells #[] 5)))
        clear hsv hbsl
        have hsl2 := slice_at hsl ⟨k, rfl, by omega⟩ (w.alloc (.cells #[] 5))
        clear hsl
        go_wp2_with (at_builtin; refine wpList_app_bsl rfl _ _ rfl w.heap.size rfl rfl (ob_new w w.heap.size (Nat.le_refl _)) hbsl'.out (by have := HN.out; rw [List.length_drop]; simp; omega) (by simp) ?_; intro v' w' hob hbw _)
        go_ret
        refine ⟨v', rfl, ?_, ((Below.refl _ w).alloc (Nat.le_refl _) _).trans hbw⟩
        rw [HST.out]
        simpa using hob
end Go.Proofs.Ytndeolcamgnmdaa
