/- An int of the language with all bits turned. -/
import Derived.Test.YtbdnmfabmdbamaaNumber
namespace Go.Proofs.Ytbdnmfabmdbamaa
open Go.RowKit
theorem xor_neg1 (n : Int) (h0 : -2147483648 ≤ n) (h1 : n < 2147483648) : bits .xor .i64 (-1) n = -1 - n := by
  show IntKind.i64.wrap ((BitVec.ofInt 64 (-1) ^^^ BitVec.ofInt 64 n).toNat : Int) = _
  have e : (BitVec.ofInt 64 (-1) : BitVec 64) = BitVec.allOnes 64 := by decide
  rw [e, BitVec.allOnes_xor, BitVec.toNat_not, BitVec.toNat_ofInt, IntKind.wrap_i64]
  omega
theorem small_not {n : Int} (h : smallB n = true) : smallB (-1 - n) = true := by
  have h1 := of_decide_eq_true h
  unfold smallB
  exact decide_eq_true (by omega)
theorem valI_abs {neg : Bool} {ws : List Nat} {n : Int} (h : valI neg ws = n) : valW ws = n.natAbs := by
  unfold valI at h
  cases neg <;> simp at h <;> omega
set_option maxRecDepth 20000 in
set_option maxHeartbeats 2000000 in
theorem star_not (B K : Nat) (v : Value) (n : Int) (w : World) (hv : SI w B v n) (hK : K ≤ 900) (hn : n.natAbs < W64 ^ K) :
    Calls Try.prog 38 #[v] w (SIPost (-n - 1) w) := by
  rcases hv with ⟨hs, rfl⟩ | ⟨hs, b, neg, ws, rfl, _, hbi, hval⟩
  · have h1 := of_decide_eq_true hs
    obtain ⟨nn, hnn⟩ : ∃ nn : Int, nn = -1 - n := ⟨_, rfl⟩
    have hx := xor_neg1 n h1.1 h1.2
    rw [← hnn] at hx
    have HSM : Hid (smallB (-n - 1) = true) := by unfold Hid; rw [show -n - 1 = -1 - n by omega]; exact small_not hs
    have HNN := Lib.hid hnn
    have HK := Lib.hid (Blk.new_at (w.alloc (.cells #[.int .i64 n, .pointer none] 56)) 56 #[.int .i64 0, .pointer none] (n := w.heap.size + 1) (by simp))
    have HB0 : Hid (∀ a b : Obj, Below w.heap.size w ((w.alloc a).alloc b)) := fun a b => ((Below.refl _ w).alloc (Nat.le_refl _) a).alloc (by simp) b
    clear hs h1 hn hnn
    go_enter Try.func38, Try.ntmps38
    go_wp2_with fail
    refine (int_get n none _).mono ?_
    rintro e w1 ⟨rfl, hb1⟩
    have HB1 := Lib.hid ((HB0.out _ _).trans (hb1.mono (HB0.out _ _).size))
    have k1 := Lib.hid (HK.out.below hb1 (by simp))
    clear hb1
    go_wp2_with fail
    refine (make_small nn _).mono ?_
    rintro e w2 ⟨rfl, hb2⟩
    have HB2 := Lib.hid (HB1.out.trans (hb2.mono HB1.out.size))
    obtain ⟨e0, e1, f0, f1⟩ := blk2 (k1.out.below hb2 k1.out.lt)
    clear hb2
    go_wp2
    refine bodyPost_ret (v := .agg #[.int .i64 nn, .pointer none]) (by simp [results, Try.results38, go_sem, e0, e1]) rfl ⟨_, rfl, .inl ⟨HSM.out, by rw [HNN.out]; rw [show (-1 : Int) - n = -n - 1 by omega]⟩, (HB2.out.setCell (p := ⟨w.heap.size + 1, 0, none⟩) (by simp) _).setCell (p := ⟨w.heap.size + 1, 1, none⟩) (by simp) _⟩
  · have HV := Lib.hid hval
    have HVW : Hid (valW ws < W64 ^ K) := by unfold Hid; rw [valI_abs hval]; exact hn
    have HBI := Lib.hid hbi
    have HK := Lib.hid (Blk.new_at (w.alloc (.cells #[.int .i64 0, .pointer (some ⟨b, 0, none⟩)] 56)) 56 #[.int .i64 0, .pointer none] (n := w.heap.size + 1) (by simp))
    have HB0 : Hid (∀ a b : Obj, Below w.heap.size w ((w.alloc a).alloc b)) := fun a b => ((Below.refl _ w).alloc (Nat.le_refl _) a).alloc (by simp) b
    clear hs hval hbi hn
    go_enter Try.func38, Try.ntmps38
    go_wp2_with fail
    refine (int_get 0 (some ⟨b, 0, none⟩) _).mono ?_
    rintro e w1 ⟨rfl, hb1⟩
    have HB1 := Lib.hid ((HB0.out _ _).trans (hb1.mono (HB0.out _ _).size))
    have k1 := Lib.hid (HK.out.below hb1 (by simp))
    have hb3 := HBI.out.below HB1.out
    have hlt := hb3.blk
    have HX := Lib.hid (hb3.below ((Below.refl _ w1).alloc (Nat.le_refl _) (.cells #[.bool false, .slice none 0 0] 82)))
    have k2 := Lib.hid (Blk.alloc k1.out (.cells #[.bool false, .slice none 0 0] 82))
    have hzlt : w.heap.size + 1 < w1.heap.size := k1.out.lt
    clear hb1 hb3
    go_wp2_with fail
    refine (int_not B w1.heap.size b K neg ws _ (Blk.new w1 82 #[.bool false, .slice none 0 0]) HX.out (by omega) hK HVW.out).mono ?_
    rw [HV.out]
    rintro e w2 ⟨neg2, ws2, rfl, hbi2, hval2, hO⟩
    have HBI2 := Lib.hid hbi2
    have HV2 := Lib.hid hval2
    have k3 := Lib.hid (k2.out.only hO (by omega))
    have HB2 : Hid (Below w.heap.size w w2) := HB1.out.trans (((Below.refl _ w1).alloc (Nat.le_refl _) _ |>.trans (hO.to_below (B := w1.heap.size) (by simp) (fun k hk e => by omega))).mono HB1.out.size)
    have hz2 : w1.heap.size < w2.heap.size := by have := hO.size; simp at this; omega
    clear hbi2 hval2 hO
    go_wp2_with fail
    refine (make_bigint _ w1.heap.size neg2 ws2 _ HBI2.out).mono ?_
    rw [HV2.out]
    rintro e w3 ⟨v3, rfl, hsi, hb3⟩
    obtain ⟨x, p, hv3⟩ := si_fin (w' := w3) hsi
    have HSI := Lib.hid (hsi.base (C := w.heap.size + 2) (by omega))
    subst hv3
    obtain ⟨e0, e1, f0, f1⟩ := blk2 (k3.out.below hb3 k3.out.lt)
    have HB3 := Lib.hid (HB2.out.trans (hb3.mono HB2.out.size))
    clear hsi hb3
    go_wp2
    refine bodyPost_ret (v := .agg #[.int .i64 x, .pointer p]) (by simp [results, Try.results38, go_sem, e0, e1]) rfl ⟨_, rfl, ?_, (HB3.out.setCell (p := ⟨w.heap.size + 1, 0, none⟩) (by simp) _).setCell (p := ⟨w.heap.size + 1, 1, none⟩) (by simp) _⟩
    exact (HSI.out.only (two_set w3 (w.heap.size + 1) (.int .i64 x) (.pointer p)) (fun k hk e => by omega)).base (by omega)
end Go.Proofs.Ytbdnmfabmdbamaa
