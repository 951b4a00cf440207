/- One word alone: a sum in place, a shift to the right in place. -/
import Derived.Test.YtndeolcamgnmdaaRoundK
import Derived.Test.YtndeolcamgnmdaaBitsAdd
namespace Go.Proofs.Ytndeolcamgnmdaa
open Go.RowKit
theorem OW.hp {w w' : World} {B : Nat} {v : Value} {l : List Nat} (h : OW w B v l) (e : w'.heap = w.heap) : OW w' B v l := by
  refine ⟨⟨h.1.1, ?_⟩, h.2⟩
  rcases h.1.2 with h0 | ⟨g, cap, cur, hv, hb, hh, hr⟩
  · exact .inl h0
  · exact .inr ⟨g, cap, cur, hv, hb, by rw [e]; exact hh, hr⟩
set_option maxRecDepth 20000 in
set_option maxHeartbeats 1000000 in
theorem add_one (B gz c x y : Nat) (w : World) (hz : OW w B (.slice (some ⟨gz, 0, none⟩) 1 c) [x]) (hx : x < W64) (hy : y < W64) :
    Calls Try.prog 84 #[.slice (some ⟨gz, 0, none⟩) 1 c, .slice (some ⟨gz, 0, none⟩) 1 c, .int .u64 (y : Int)] w fun e w' => e = .returned (.int .u64 (((x + y) / W64 : Nat) : Int)) ∧ OW w' B (.slice (some ⟨gz, 0, none⟩) 1 c) [(x + y) % W64] ∧ Only (· = gz) w w' := by
  have cz := hz.cell 0 (by simp)
  simp only [List.getElem_cons_zero] at cz
  have fz := hz.free 0
  obtain ⟨r, hr⟩ : ∃ r, r = (x + y) % W64 := ⟨_, rfl⟩
  obtain ⟨d, hd⟩ : ∃ d, d = (x + y) / W64 := ⟨_, rfl⟩
  have hd1 : d = 0 ∨ d = 1 := by
    have : (x + y) / W64 < 2 := (Nat.div_lt_iff_lt_mul W64_pos).2 (by omega)
    omega
  have hr64 : r < W64 := by rw [hr]; exact Nat.mod_lt _ W64_pos
  have HADD := Lib.hid (fun W => bits_add x y 0 (by omega) W)
  rw [Nat.add_zero, ← hr, ← hd, show ((0 : Nat) : Int) = 0 from rfl] at HADD
  have hst := hz.store 0 r hr64
  simp only [List.set_cons_zero] at hst
  have HST := Lib.hid hst
  have hgz : gz < w.heap.size := (hz.1.lt _ rfl).2
  rw [← hr, ← hd]
  have hne := fun W => Lib.run_neq_ptr_same (P := Try.prog) (w := W) (te := 106) (tp := 127) (j := (Try.prog.info? 106).get (by kernel_rfl)) ⟨gz, 0, none⟩ Try.underlying127 (by kernel_rfl)
  clear hr hd hz hx hy hst hr64
  rcases hd1 with rfl | rfl
  · rw [show ((0 : Nat) : Int) = 0 from rfl] at HADD ⊢
    go_enter Try.func84, Try.ntmps84
    go_wp2_with fail
    refine (HADD.out _).mono ?_
    rintro e w' ⟨rfl, rfl⟩
    go_wp2_with fail
    go_quiet (fail)
    go_wp2
    go_ret
    exact ⟨rfl, HST.out.hp rfl, ((Only.refl (· = gz) w).setCell (p := ⟨gz, 0, none⟩) (.inl rfl) _).drewN _⟩
  · rw [show ((1 : Nat) : Int) = 1 from rfl] at HADD ⊢
    go_enter Try.func84, Try.ntmps84
    go_wp2_with fail
    refine (HADD.out _).mono ?_
    rintro e w' ⟨rfl, rfl⟩
    go_wp2_with fail
    refine wp_loop_rounds 1 ?_
    rw [rounds_succ]
    go_wp2
    go_ret
    exact ⟨rfl, HST.out, (Only.refl (· = gz) w).setCell (p := ⟨gz, 0, none⟩) (.inl rfl) _⟩
set_option maxRecDepth 20000 in
set_option maxHeartbeats 1000000 in
theorem rsh_one_g (B gz c x : Nat) (w : World) (hz : OW w B (.slice (some ⟨gz, 0, none⟩) 1 c) [x]) (hx : x < W64) :
    Calls Try.prog 87 #[.slice (some ⟨gz, 0, none⟩) 1 c, .slice (some ⟨gz, 0, none⟩) 1 c, .int .u64 1] w fun e w' => (∃ v, e = .returned v) ∧ OW w' B (.slice (some ⟨gz, 0, none⟩) 1 c) [x / 2] ∧ Only (· = gz) w w' := by
  have cz := hz.cell 0 (by simp)
  simp only [List.getElem_cons_zero] at cz
  have fz := hz.free 0
  obtain ⟨y, hy⟩ : ∃ y, y = x / 2 := ⟨_, rfl⟩
  have hst := hz.store 0 y (by omega)
  simp only [List.set_cons_zero] at hst
  have HST := Lib.hid hst
  have hy2 : (x : Int) / 2 = (y : Int) := by omega
  have hgz : gz < w.heap.size := (hz.1.lt _ rfl).2
  have h63 : bits .and .u64 1 63 = 1 := by decide
  have h63' : bits .and .u64 63 63 = 63 := by decide
  rw [← hy]
  clear hz hst hy
  go_enter Try.func87, Try.ntmps87
  go_wp2_with fail
  refine wp_loop_rounds 1 ?_
  rw [rounds_succ]
  go_wp2
  go_ret
  exact ⟨⟨_, rfl⟩, HST.out, (Only.refl (· = gz) w).setCell (p := ⟨gz, 0, none⟩) (.inl rfl) _⟩
theorem rsh_one (B gz c x : Nat) (w : World) (hz : OW w B (.slice (some ⟨gz, 0, none⟩) 1 c) [x]) (hx : x < W64) :
    Calls Try.prog 85 #[.slice (some ⟨gz, 0, none⟩) 1 c, .slice (some ⟨gz, 0, none⟩) 1 c, .int .u64 1] w fun e w' => (∃ v, e = .returned v) ∧ OW w' B (.slice (some ⟨gz, 0, none⟩) 1 c) [x / 2] ∧ Only (· = gz) w w' := by
  have HC := Lib.hid (rsh_one_g B gz c x w hz hx)
  clear hz hx
  go_enter Try.func85, Try.ntmps85
  go_wp2_with fail
  refine HC.out.mono ?_
  rintro e w' ⟨⟨v, rfl⟩, h3, h4⟩
  have H3 := Lib.hid h3
  have H4 := Lib.hid h4
  clear h3 h4
  go_wp2
  go_ret
  exact ⟨⟨_, rfl⟩, H3.out, H4.out⟩
end Go.Proofs.Ytndeolcamgnmdaa
