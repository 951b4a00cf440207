/- An int as a number without a sign. -/
import Derived.Test.YtbdnmfabmdbamaaSpecLen
namespace Go.Proofs.Ytbdnmfabmdbamaa
open Go.RowKit
theorem int_uint64 (B b : Nat) (neg : Bool) (ws : List Nat) (w : World) (h : BigI w B b neg ws) :
    Calls Try.prog 81 #[.pointer (some ⟨b, 0, none⟩)] w fun e w' => e = .returned (.int .u64 ((valW ws % W64 : Nat) : Int)) ∧ w = w' := by
  obtain ⟨v, hz, how, htop, _, hlen⟩ := h
  obtain ⟨a, c, hv⟩ := how.shape
  obtain ⟨r, hr⟩ : ∃ r, r = ws.length := ⟨_, rfl⟩
  rw [← hr] at hv
  subst hv
  obtain ⟨c0, c1, f0, f1⟩ := blk2 hz
  have HOW := Lib.hid how
  clear hz how hr
  go_enter Try.func81, Try.ntmps81
  go_wp2_with fail
  refine (low_64 B _ ws _ HOW.out).mono ?_
  rintro e w1 ⟨rfl, rfl⟩
  go_wp2
  go_ret
  exact ⟨rfl, rfl⟩
/-- The number and whether it is exact. -/
def U64APost (n : Int) (w : World) (e : Ending) (w' : World) : Prop := ∃ (u : Nat) (b : Int), e = .returned (.tuple #[.int .u64 (u : Int), .int .i8 b]) ∧ ((b = 0 ∧ (u : Int) = n ∧ u < W64) ∨ ((b = 1 ∨ b = -1) ∧ (n < 0 ∨ (W64 : Int) ≤ n))) ∧ w = w'
theorem blen_64 (ws : List Nat) (ht : TopNZ ws) (hw : ∀ x ∈ ws, x < W64) : blen ws ≤ 64 ↔ valW ws < W64 := by
  rw [W64_two]; exact blen_le ws 64 ht hw
theorem valW_pos {ws : List Nat} (ht : TopNZ ws) (h : ws ≠ []) : 0 < valW ws := by
  obtain ⟨init, last, rfl⟩ : ∃ init last, ws = init ++ [last] := ⟨ws.dropLast, ws.getLast h, (List.dropLast_concat_getLast h).symm⟩
  have hl0 : last ≠ 0 := by unfold TopNZ at ht; simpa using ht
  have h1 := valW_top init last hl0
  have h2 : 0 < W64 ^ init.length := Nat.pow_pos W64_pos
  omega
set_option maxHeartbeats 1000000 in
theorem big_to_u64 (B b : Nat) (neg : Bool) (ws : List Nat) (w : World) (h : BigI w B b neg ws) :
    Calls Try.prog 60 #[.pointer (some ⟨b, 0, none⟩)] w (U64APost (valI neg ws) w) := by
  have H := Lib.hid h
  obtain ⟨v, hz, how, htop, hneg, hlen⟩ := h
  have h64 := blen_64 ws htop how.2
  have hbd := blen_bound ws hlen how.2
  have hpos := fun h0 => valW_pos (ws := ws) htop h0
  obtain ⟨n, hn⟩ : ∃ n, n = blen ws := ⟨_, rfl⟩
  rw [← hn] at h64 hbd
  have HN := Lib.hid hn
  have H64 := Lib.hid h64
  have HP := Lib.hid hpos
  clear hz how htop hlen hn h64 hpos
  cases neg with
  | true =>
    have hne : ws ≠ [] := hneg rfl
    have hsg : signW true ws = -1 := by unfold signW; rw [if_neg hne]; rfl
    have HS := Lib.hid hsg
    have HNE := Lib.hid hne
    clear hsg hne hneg
    go_enter Try.func60, Try.ntmps60
    go_wp2_with fail
    refine (big_sign B b true ws _ H.out).mono ?_
    unfold SignWPost
    rw [HS.out]
    rintro e w1 ⟨rfl, rfl⟩
    go_wp2
    go_ret2
    exact ⟨0, 1, rfl, .inr ⟨.inl rfl, .inl (by have := HP.out HNE.out; simp [valI]; omega)⟩, rfl⟩
  | false =>
    clear hneg
    by_cases hne : ws = []
    · have hsg : signW false ws = 0 := by unfold signW; rw [if_pos hne]
      have HS := Lib.hid hsg
      have HNE := Lib.hid hne
      clear hsg hne
      go_enter Try.func60, Try.ntmps60
      go_wp2_with fail
      refine (big_sign B b false ws _ H.out).mono ?_
      unfold SignWPost
      rw [HS.out]
      rintro e w1 ⟨rfl, rfl⟩
      go_wp2_with fail
      refine (int_uint64 B b false ws _ H.out).mono ?_
      rintro e w1 ⟨rfl, rfl⟩
      go_wp2
      go_ret2
      exact ⟨valW ws % W64, 0, rfl, .inl ⟨rfl, by rw [HNE.out]; simp [valI, valW], Nat.mod_lt _ W64_pos⟩, rfl⟩
    · have hsg : signW false ws = 1 := by unfold signW; rw [if_neg hne]; rfl
      have HS := Lib.hid hsg
      have HNE := Lib.hid hne
      clear hsg hne
      by_cases hb : n ≤ 64
      · have hd1 : decide (64 < n) = false := by simp; omega
        have hd2 : decide ((64 : Int) < (n : Int)) = false := by simp; omega
        go_enter Try.func60, Try.ntmps60
        go_wp2_with fail
        refine (big_sign B b false ws _ H.out).mono ?_
        unfold SignWPost
        rw [HS.out]
        rintro e w1 ⟨rfl, rfl⟩
        go_wp2_with fail
        refine (int_bitLen B b false ws _ H.out).mono ?_
        unfold BLenPost
        rw [← HN.out]
        rintro e w1 ⟨rfl, rfl⟩
        go_wp2_with fail
        refine (int_uint64 B b false ws _ H.out).mono ?_
        rintro e w1 ⟨rfl, rfl⟩
        go_wp2
        go_ret2
        have hlt := H64.out.1 hb
        exact ⟨valW ws % W64, 0, rfl, .inl ⟨rfl, by rw [Nat.mod_eq_of_lt hlt]; simp [valI], Nat.mod_lt _ W64_pos⟩, rfl⟩
      · have hd1 : decide (64 < n) = true := by simp; omega
        have hd2 : decide ((64 : Int) < (n : Int)) = true := by simp; omega
        go_enter Try.func60, Try.ntmps60
        go_wp2_with fail
        refine (big_sign B b false ws _ H.out).mono ?_
        unfold SignWPost
        rw [HS.out]
        rintro e w1 ⟨rfl, rfl⟩
        go_wp2_with fail
        refine (int_bitLen B b false ws _ H.out).mono ?_
        unfold BLenPost
        rw [← HN.out]
        rintro e w1 ⟨rfl, rfl⟩
        go_wp2
        go_ret2
        have hlt : W64 ≤ valW ws := Nat.not_lt.1 fun h => hb (H64.out.2 h)
        exact ⟨18446744073709551615, -1, rfl, .inr ⟨.inr rfl, .inr (by simp [valI]; omega)⟩, rfl⟩
set_option maxRecDepth 20000 in
set_option maxHeartbeats 1000000 in
theorem star_uint64 (B : Nat) (v : Value) (n : Int) (w : World) (hv : SI w B v n) :
    Calls Try.prog 35 #[v] w (U64Post n w) := by
  rcases hv with ⟨hs, rfl⟩ | ⟨hs, b, neg, ws, rfl, _, hbi, hval⟩
  · have h1 := of_decide_eq_true hs
    have ha : n < 2147483648 := h1.2
    have hb : -2147483648 ≤ n := h1.1
    clear hs h1
    by_cases hn : n < 0
    · go_enter Try.func35, Try.ntmps35
      go_wp2_with fail
      refine (int_get n none _).mono ?_
      rintro e w1 ⟨rfl, hb1⟩
      have hbw := ((Below.refl _ w).alloc (Nat.le_refl _) _).trans (hb1.mono (by simp))
      clear hb1
      go_wp2
      go_ret2
      exact ⟨0, false, rfl, .inr ⟨rfl, .inl hn⟩, hbw⟩
    · obtain ⟨k, rfl⟩ : ∃ k : Nat, n = (k : Int) := ⟨n.toNat, by omega⟩
      have hw : IntKind.u64.wrap (k : Int) = (k : Int) := wrap64_small _ (by omega) (by omega)
      have hd : decide ((k : Int) < 0) = false := by simp
      have HA := Lib.hid ha
      clear hn hb ha
      go_enter Try.func35, Try.ntmps35
      go_wp2_with fail
      refine (int_get (k : Int) none _).mono ?_
      rintro e w1 ⟨rfl, hb1⟩
      have hbw := ((Below.refl _ w).alloc (Nat.le_refl _) _).trans (hb1.mono (by simp))
      clear hb1
      go_wp2
      go_ret2
      exact ⟨k, true, rfl, .inl ⟨rfl, rfl, by have := HA.out; unfold W64; omega⟩, hbw⟩
  · have HV := Lib.hid hval
    have HBI := Lib.hid (hbi.below ((Below.refl _ w).alloc (Nat.le_refl _) (.cells #[.int .i64 0, .pointer (some ⟨b, 0, none⟩)] 56)))
    clear hs hval hbi
    go_enter Try.func35, Try.ntmps35
    go_wp2_with fail
    refine (int_get 0 (some ⟨b, 0, none⟩) _).mono ?_
    rintro e w1 ⟨rfl, hb1⟩
    have HBI1 := Lib.hid (HBI.out.below hb1)
    have hbw := ((Below.refl _ w).alloc (Nat.le_refl _) _).trans (hb1.mono (by simp))
    clear hb1
    go_wp2_with fail
    refine (big_to_u64 B b neg ws _ HBI1.out).mono ?_
    unfold U64APost
    rw [HV.out]
    rintro e w2 ⟨u, acc, rfl, hacc, rfl⟩
    rcases hacc with ⟨rfl, h1, h2⟩ | ⟨hacc, h1⟩
    · have H1 := Lib.hid h1
      have H2 := Lib.hid h2
      clear h1 h2
      go_wp2
      go_ret2
      exact ⟨u, true, rfl, .inl ⟨rfl, H1.out, H2.out⟩, hbw⟩
    · have H1 := Lib.hid h1
      clear h1
      rcases hacc with rfl | rfl
      all_goals
        go_wp2
        go_ret2
        exact ⟨0, false, rfl, .inr ⟨rfl, H1.out⟩, hbw⟩
set_option maxHeartbeats 1000000 in
theorem impl_uint64 (B : Nat) (v : Value) (neg : Bool) (l : List Nat) (w : World) (hv : IVal w B v neg l) (hl : l.length ≤ 1000) :
    Calls Try.prog 16 #[v] w (U64Post (intOf2 neg l) w) := by
  have hv' := hv
  obtain ⟨vs, rfl, hob, hh, hn⟩ := hv'
  obtain ⟨g, c, hvs, _, _, _, _⟩ := hob.form
  obtain ⟨m, hm⟩ : ∃ m, m = l.length := ⟨_, rfl⟩
  rw [← hm] at hvs
  subst hvs
  have HI := Lib.hid (hv.below ((Below.refl _ w).alloc (Nat.le_refl _) (.cells #[.int .i64 2, .bool neg, .slice (some ⟨g, 0, none⟩) m c, .int .u64 0, .string ⟨#[]⟩, .slice none 0 0] 28)))
  have HL := Lib.hid hl
  clear hv hob hh hn hm hl
  go_enter Try.func16, Try.ntmps16
  go_wp2_with fail
  refine (impl_whole B _ neg l _ HI.out HL.out).mono ?_
  rintro e w1 ⟨v1, rfl, hsi, hb1⟩
  obtain ⟨x, p, hv1⟩ := si_fin (w' := w1) hsi
  have HSI := Lib.hid hsi
  subst hv1
  have hbw := ((Below.refl _ w).alloc (Nat.le_refl _) _).trans (hb1.mono (by simp))
  clear hsi hb1
  go_wp2_with fail
  refine (star_uint64 _ _ (intOf2 neg l) _ HSI.out).mono ?_
  rintro e w2 ⟨u, ok, rfl, hu, hb2⟩
  have hbw2 := hbw.trans (hb2.mono hbw.size)
  clear hb2 hbw
  rcases hu with ⟨rfl, h1, h2⟩ | ⟨rfl, h1⟩
  · have H1 := Lib.hid h1
    have H2 := Lib.hid h2
    clear h1 h2
    go_wp2
    go_ret2
    exact ⟨u, true, rfl, .inl ⟨rfl, H1.out, H2.out⟩, hbw2⟩
  · have H1 := Lib.hid h1
    clear h1
    go_wp2
    go_ret2
    exact ⟨0, false, rfl, .inr ⟨rfl, H1.out⟩, hbw2⟩
theorem star_int64_small (n : Int) (w : World) :
    Calls Try.prog 61 #[.agg #[.int .i64 n, .pointer none]] w fun e w' => e = .returned (.tuple #[.int .i64 n, .bool true]) ∧ Below w.heap.size w w' := by
  go_enter Try.func61, Try.ntmps61
  go_wp2_with fail
  refine (int_get n none _).mono ?_
  rintro e w1 ⟨rfl, hb1⟩
  have hbw := ((Below.refl _ w).alloc (Nat.le_refl _) _).trans (hb1.mono (by simp))
  clear hb1
  go_wp2
  go_ret2
  exact ⟨rfl, hbw⟩
def I64Post (n : Int) (w : World) (e : Ending) (w' : World) : Prop := e = .returned (.tuple #[.int .i64 n, .bool true]) ∧ Below w.heap.size w w'
set_option maxHeartbeats 1000000 in
theorem impl_int64_small (B : Nat) (v : Value) (neg : Bool) (l : List Nat) (w : World) (hv : IVal w B v neg l) (hl : l.length ≤ 1000) (hs : smallB (intOf2 neg l) = true) :
    Calls Try.prog 36 #[v] w (I64Post (intOf2 neg l) w) := by
  have hv' := hv
  obtain ⟨vs, rfl, hob, hh, hn⟩ := hv'
  obtain ⟨g, c, hvs, _, _, _, _⟩ := hob.form
  obtain ⟨m, hm⟩ : ∃ m, m = l.length := ⟨_, rfl⟩
  rw [← hm] at hvs
  subst hvs
  have HI := Lib.hid (hv.below ((Below.refl _ w).alloc (Nat.le_refl _) (.cells #[.int .i64 2, .bool neg, .slice (some ⟨g, 0, none⟩) m c, .int .u64 0, .string ⟨#[]⟩, .slice none 0 0] 28)))
  have HL := Lib.hid hl
  have HS := Lib.hid hs
  clear hv hob hh hn hm hl hs
  obtain ⟨n, hn⟩ : ∃ n, n = intOf2 neg l := ⟨_, rfl⟩
  have HSI0 : Hid (∀ (w w1 : World) (v1 : Value) (B : Nat), SI w1 B v1 (intOf2 neg l) → v1 = .agg #[.int .i64 n, .pointer none]) := fun w w1 v1 B h => by
    rcases h with ⟨_, e⟩ | ⟨h, _⟩
    · rw [e, hn]
    · rw [HS.out] at h; simp at h
  have HNN := Lib.hid hn
  rw [← hn]
  clear hn
  go_enter Try.func36, Try.ntmps36
  go_wp2_with fail
  refine (impl_whole B _ neg l _ HI.out HL.out).mono ?_
  rintro e w1 ⟨v1, rfl, hsi, hb1⟩
  have hv1 := HSI0.out w w1 v1 _ hsi
  subst hv1
  have hbw := ((Below.refl _ w).alloc (Nat.le_refl _) _).trans (hb1.mono (by simp))
  clear hsi hb1
  go_wp2_with fail
  refine (star_int64_small n _).mono ?_
  rintro e w2 ⟨rfl, hb2⟩
  have hbw2 := hbw.trans (hb2.mono hbw.size)
  clear hb2 hbw
  go_wp2
  go_ret2
  exact ⟨rfl, hbw2⟩
end Go.Proofs.Ytbdnmfabmdbamaa
