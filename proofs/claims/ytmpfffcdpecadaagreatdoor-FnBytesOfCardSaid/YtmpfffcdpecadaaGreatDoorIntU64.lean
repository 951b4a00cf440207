/- An int as a number without a sign. -/
import Derived.Test.YtmpfffcdpecadaaGreatDoorIntGet
import Derived.Test.YtmpfffcdpecadaaGreatDoorLow
namespace Go.Proofs.YtmpfffcdpecadaaGreatDoor
open Go.RowKit
def U64Post (n : Int) (w : World) (e : Ending) (w' : World) : Prop := ∃ (u : Nat) (b : Bool), e = .returned (.tuple #[.int .u64 (u : Int), .bool b]) ∧ ((b = true ∧ (u : Int) = n ∧ u < W64) ∨ (b = false ∧ (n < 0 ∨ (W64 : Int) ≤ n))) ∧ Below w.heap.size w w'
theorem int_uint64 (B b : Nat) (neg : Bool) (ws : List Nat) (w : World) (h : BigI w B b neg ws) :
    Calls Tryz.prog 77 #[.pointer (some ⟨b, 0, none⟩)] w fun e w' => e = .returned (.int .u64 ((valW ws % W64 : Nat) : Int)) ∧ w = w' := by
  obtain ⟨v, hz, how, htop, _, hlen⟩ := h
  obtain ⟨a, c, hv⟩ := how.shape
  obtain ⟨r, hr⟩ : ∃ r, r = ws.length := ⟨_, rfl⟩
  rw [← hr] at hv
  subst hv
  obtain ⟨c0, c1, f0, f1⟩ := blk2 hz
  have HOW := Lib.hid how
  clear hz how hr
  go_enter Tryz.func77, Tryz.ntmps77
  go_wp2_with fail
  refine (low_64 B _ ws _ HOW.out).mono ?_
  rintro e w1 ⟨rfl, rfl⟩
  go_wp2
  go_ret
  exact ⟨rfl, rfl⟩
def U64APost (n : Int) (w : World) (e : Ending) (w' : World) : Prop := ∃ (u : Nat) (b : Int), e = .returned (.tuple #[.int .u64 (u : Int), .int .i8 b]) ∧ ((b = 0 ∧ (u : Int) = n ∧ u < W64) ∨ ((b = 1 ∨ b = -1) ∧ (n < 0 ∨ (W64 : Int) ≤ n))) ∧ w = w'
theorem blen_64 (ws : List Nat) (ht : TopNZ ws) (hw : ∀ x ∈ ws, x < W64) : blen ws ≤ 64 ↔ valW ws < W64 := by
  rw [W64_two]; exact blen_le ws 64 ht hw
theorem valW_pos {ws : List Nat} (ht : TopNZ ws) (h : ws ≠ []) : 0 < valW ws := by
  obtain ⟨init, last, rfl⟩ : ∃ init last, ws = init ++ [last] := ⟨ws.dropLast, ws.getLast h, (List.dropLast_concat_getLast h).symm⟩
  have hl0 : last ≠ 0 := by unfold TopNZ at ht; simpa using ht
  have h1 := valW_top init last hl0
  have h2 : 0 < W64 ^ init.length := Nat.pow_pos W64_pos
  omega
set_option maxHeartbeats 1000000 in
theorem big_to_u64 (B b : Nat) (neg : Bool) (ws : List Nat) (w : World) (h : BigI w B b neg ws) :
    Calls Tryz.prog 61 #[.pointer (some ⟨b, 0, none⟩)] w (U64APost (valI neg ws) w) := by
  have H := Lib.hid h
  obtain ⟨v, hz, how, htop, hneg, hlen⟩ := h
  have h64 := blen_64 ws htop how.2
  have hbd := blen_bound ws hlen how.2
  have hpos := fun h0 => valW_pos (ws := ws) htop h0
  obtain ⟨n, hn⟩ : ∃ n, n = blen ws := ⟨_, rfl⟩
  rw [← hn] at h64 hbd
  have HN := Lib.hid hn
  have H64 := Lib.hid h64
  have HP := Lib.hid hpos
  clear hz how htop hlen hn h64 hpos
  cases neg with
  | true =>
    have hne : ws ≠ [] := hneg rfl
    have hsg : signW true ws = -1 := by unfold signW; rw [if_neg hne]; rfl
    have HS := Lib.hid hsg
    have HNE := Lib.hid hne
    clear hsg hne hneg
    go_enter Tryz.func61, Tryz.ntmps61
    go_wp2_with fail
    refine (big_sign B b true ws _ H.out).mono ?_
    unfold SignWPost
    rw [HS.out]
    rintro e w1 ⟨rfl, rfl⟩
    go_wp2
    go_ret2
    exact ⟨0, 1, rfl, .inr ⟨.inl rfl, .inl (by have := HP.out HNE.out; simp [valI]; omega)⟩, rfl⟩
  | false =>
    clear hneg
    by_cases hne : ws = []
    · have hsg : signW false ws = 0 := by unfold signW; rw [if_pos hne]
      have HS := Lib.hid hsg
      have HNE := Lib.hid hne
      clear hsg hne
      go_enter Tryz.func61, Tryz.ntmps61
      go_wp2_with fail
      refine (big_sign B b false ws _ H.out).mono ?_
      unfold SignWPost
      rw [HS.out]
      rintro e w1 ⟨rfl, rfl⟩
      go_wp2_with fail
      refine (int_uint64 B b false ws _ H.out).mono ?_
      rintro e w1 ⟨rfl, rfl⟩
      go_wp2
      go_ret2
      exact ⟨valW ws % W64, 0, rfl, .inl ⟨rfl, by rw [HNE.out]; simp [valI, valW], Nat.mod_lt _ W64_pos⟩, rfl⟩
    · have hsg : signW false ws = 1 := by unfold signW; rw [if_neg hne]; rfl
      have HS := Lib.hid hsg
      have HNE := Lib.hid hne
      clear hsg hne
      by_cases hb : n ≤ 64
      · have hd1 : decide (64 < n) = false := by simp; omega
        have hd2 : decide ((64 : Int) < (n : Int)) = false := by simp; omega
        go_enter Tryz.func61, Tryz.ntmps61
        go_wp2_with fail
        refine (big_sign B b false ws _ H.out).mono ?_
        unfold SignWPost
        rw [HS.out]
        rintro e w1 ⟨rfl, rfl⟩
        go_wp2_with fail
        refine (int_bitLen B b false ws _ H.out).mono ?_
        unfold BLenPost
        rw [← HN.out]
        rintro e w1 ⟨rfl, rfl⟩
        go_wp2_with fail
        refine (int_uint64 B b false ws _ H.out).mono ?_
        rintro e w1 ⟨rfl, rfl⟩
        go_wp2
        go_ret2
        have hlt := H64.out.1 hb
        exact ⟨valW ws % W64, 0, rfl, .inl ⟨rfl, by rw [Nat.mod_eq_of_lt hlt]; simp [valI], Nat.mod_lt _ W64_pos⟩, rfl⟩
      · have hd1 : decide (64 < n) = true := by simp; omega
        have hd2 : decide ((64 : Int) < (n : Int)) = true := by simp; omega
        go_enter Tryz.func61, Tryz.ntmps61
        go_wp2_with fail
        refine (big_sign B b false ws _ H.out).mono ?_
        unfold SignWPost
        rw [HS.out]
        rintro e w1 ⟨rfl, rfl⟩
        go_wp2_with fail
        refine (int_bitLen B b false ws _ H.out).mono ?_
        unfold BLenPost
        rw [← HN.out]
        rintro e w1 ⟨rfl, rfl⟩
        go_wp2
        go_ret2
        have hlt : W64 ≤ valW ws := Nat.not_lt.1 fun h => hb (H64.out.2 h)
        exact ⟨18446744073709551615, -1, rfl, .inr ⟨.inr rfl, .inr (by simp [valI]; omega)⟩, rfl⟩
set_option maxRecDepth 20000 in
set_option maxHeartbeats 1000000 in
theorem star_uint64 (B : Nat) (v : Value) (n : Int) (w : World) (hv : SI w B v n) :
    Calls Tryz.prog 47 #[v] w (U64Post n w) := by
  rcases hv with ⟨hs, rfl⟩ | ⟨hs, b, neg, ws, rfl, _, hbi, hval⟩
  · have h1 := of_decide_eq_true hs
    have ha : n < 2147483648 := h1.2
    have hb : -2147483648 ≤ n := h1.1
    clear hs h1
    by_cases hn : n < 0
    · go_enter Tryz.func47, Tryz.ntmps47
      go_wp2_with fail
      refine (int_get n none _).mono ?_
      rintro e w1 ⟨rfl, hb1⟩
      have hbw := ((Below.refl _ w).alloc (Nat.le_refl _) _).trans (hb1.mono (by simp))
      clear hb1
      go_wp2
      go_ret2
      exact ⟨0, false, rfl, .inr ⟨rfl, .inl hn⟩, hbw⟩
    · obtain ⟨k, rfl⟩ : ∃ k : Nat, n = (k : Int) := ⟨n.toNat, by omega⟩
      have hw : IntKind.u64.wrap (k : Int) = (k : Int) := wrap64_small _ (by omega) (by omega)
      have hd : decide ((k : Int) < 0) = false := by simp
      have HA := Lib.hid ha
      clear hn hb ha
      go_enter Tryz.func47, Tryz.ntmps47
      go_wp2_with fail
      refine (int_get (k : Int) none _).mono ?_
      rintro e w1 ⟨rfl, hb1⟩
      have hbw := ((Below.refl _ w).alloc (Nat.le_refl _) _).trans (hb1.mono (by simp))
      clear hb1
      go_wp2
      go_ret2
      exact ⟨k, true, rfl, .inl ⟨rfl, rfl, by have := HA.out; unfold W64; omega⟩, hbw⟩
  · have HV := Lib.hid hval
    have HBI := Lib.hid (hbi.below ((Below.refl _ w).alloc (Nat.le_refl _) (.cells #[.int .i64 0, .pointer (some ⟨b, 0, none⟩)] 103)))
    clear hs hval hbi
    go_enter Tryz.func47, Tryz.ntmps47
    go_wp2_with fail
    refine (int_get 0 (some ⟨b, 0, none⟩) _).mono ?_
    rintro e w1 ⟨rfl, hb1⟩
    have HBI1 := Lib.hid (HBI.out.below hb1)
    have hbw := ((Below.refl _ w).alloc (Nat.le_refl _) _).trans (hb1.mono (by simp))
    clear hb1
    go_wp2_with fail
    refine (big_to_u64 B b neg ws _ HBI1.out).mono ?_
    unfold U64APost
    rw [HV.out]
    rintro e w2 ⟨u, acc, rfl, hacc, rfl⟩
    rcases hacc with ⟨rfl, h1, h2⟩ | ⟨hacc, h1⟩
    · have H1 := Lib.hid h1
      have H2 := Lib.hid h2
      clear h1 h2
      go_wp2
      go_ret2
      exact ⟨u, true, rfl, .inl ⟨rfl, H1.out, H2.out⟩, hbw⟩
    · have H1 := Lib.hid h1
      clear h1
      rcases hacc with rfl | rfl
      all_goals
        go_wp2
        go_ret2
        exact ⟨0, false, rfl, .inr ⟨rfl, H1.out⟩, hbw⟩
end Go.Proofs.YtmpfffcdpecadaaGreatDoor
