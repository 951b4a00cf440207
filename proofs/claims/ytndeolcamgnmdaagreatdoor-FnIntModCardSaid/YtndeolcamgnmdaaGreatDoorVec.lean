/- Sums and differences of words in a row. -/
import Derived.Test.YtndeolcamgnmdaaGreatDoorBitsAdd
import Derived.Test.YtndeolcamgnmdaaGreatDoorModBaseD
set_option linter.unusedVariables false
set_option linter.unusedSimpArgs false
set_option linter.unnecessarySimpa false
namespace Go.Proofs.YtndeolcamgnmdaaGreatDoor
open Go.RowKit
theorem quiet_l {P : Program} {f : FuncId} {args : Array Value} {w : World} {n : Nat} {v : Value} (h : Calls P f args (w.drewN n) fun e w' => e = .returned v ∧ w.drewN n = w') : Calls P f args (w.drewN n) fun e w'' => e = .returned v ∧ ∃ m, w'' = w.drewN m :=
  h.mono fun _ _ ⟨he, hw⟩ => ⟨he, n, hw.symm⟩
theorem add_step (X Y R i carry x y s : Nat) (h : R + W64 ^ i * carry = X + Y) (hs : s = x + y + carry) : (R + W64 ^ i * (s % W64)) + W64 ^ (i + 1) * (s / W64) = (X + W64 ^ i * x) + (Y + W64 ^ i * y) := by
  rw [Nat.pow_succ]
  generalize W64 ^ i = P at *
  have e1 : P * s = P * W64 * (s / W64) + P * (s % W64) := by rw [Nat.mul_assoc, ← Nat.mul_add, Nat.div_add_mod]
  have e2 : P * s = P * x + P * y + P * carry := by rw [hs, Nat.mul_add, Nat.mul_add]
  omega
theorem sub_step (X Y R i b x y : Nat) (hx : x < W64) (hy : y < W64) (hb : b ≤ 1) (h : R + Y = X + W64 ^ i * b) : (R + W64 ^ i * ((x + W64 - y - b) % W64)) + (Y + W64 ^ i * y) = (X + W64 ^ i * x) + W64 ^ (i + 1) * bor x y b := by
  rw [Nat.pow_succ]
  have hw := W64_pos
  have e : (x + W64 - y - b) % W64 + y + b = x + W64 * bor x y b := by
    unfold bor
    split
    · rw [Nat.mod_eq_of_lt (by omega)]; omega
    · have : x + W64 - y - b = (x - y - b) + W64 := by omega
      rw [this, Nat.add_mod_right, Nat.mod_eq_of_lt (by omega)]; omega
  generalize W64 ^ i = P at *
  have e1 : P * ((x + W64 - y - b) % W64 + y + b) = P * (x + W64 * bor x y b) := by rw [e]
  rw [Nat.mul_add, Nat.mul_add, Nat.mul_add, ← Nat.mul_assoc] at e1
  omega
theorem set_mid {rs zs : List Nat} {i x : Nat} (hr : rs.length = i) (hi : i < zs.length) : (rs ++ zs.drop i).set i x = (rs ++ [x]) ++ zs.drop (i + 1) := by
  subst hr
  rw [List.drop_eq_getElem_cons hi, List.set_append_right _ _ (Nat.le_refl _), Nat.sub_self, List.set_cons_zero, List.append_assoc]
  rfl
/-- What a sum of words in a row leaves. -/
def VecPost (B gz N cz n : Nat) (zs : List Nat) (P : Nat → List Nat → Prop) (w : World) (e : Ending) (w' : World) : Prop :=
  ∃ (c : Nat) (rs : List Nat), e = .returned (.int .u64 (c : Int)) ∧ c ≤ 1 ∧ rs.length = n ∧ P c rs ∧ OW w' B (.slice (some ⟨gz, 0, none⟩) N cz) (rs ++ zs.drop n) ∧ Only (· = gz) w w'
set_option maxRecDepth 20000 in
set_option maxHeartbeats 2000000 in
theorem add_vv (B gz N cz n cz2 gx cx gy cy : Nat) (zs xs ys : List Nat) (w : World) (hz : OW w B (.slice (some ⟨gz, 0, none⟩) N cz) zs) (hn : n ≤ zs.length) (hxl : xs.length = n) (hyl : ys.length = n) (hnb : n ≤ 100000)
    (hx : ∀ W', Only (· = gz) w W' → ∀ j (h : j < xs.length), W'.cell? ⟨gx, j, none⟩ = some (.int .u64 ((xs[j]'h : Nat) : Int))) (hy : ∀ W', Only (· = gz) w W' → ∀ j (h : j < ys.length), W'.cell? ⟨gy, j, none⟩ = some (.int .u64 ((ys[j]'h : Nat) : Int)))
    (hxb : ∀ x ∈ xs, x < W64) (hyb : ∀ y ∈ ys, y < W64) :
    Calls Tryz.prog 76 #[.slice (some ⟨gz, 0, none⟩) n cz2, .slice (some ⟨gx, 0, none⟩) n cx, .slice (some ⟨gy, 0, none⟩) n cy] w (VecPost B gz N cz n zs (fun c rs => valW rs + W64 ^ n * c = valW xs + valW ys) w) := by
  have HZ := Lib.hid hz
  have HN := Lib.hid hn
  have HXL := Lib.hid hxl
  have HYL := Lib.hid hyl
  have HX := Lib.hid hx
  have HY := Lib.hid hy
  have HXB := Lib.hid hxb
  have HYB := Lib.hid hyb
  have hgz : gz < w.heap.size := (hz.1.lt _ rfl).2
  have HB : Hid (B ≤ gz) := (hz.1.lt _ rfl).1
  clear hz hn hxl hyl hx hy hxb hyb
  go_enter Tryz.func76, Tryz.ntmps76
  go_wp2_with fail
  go_loopw [6, 25] (fun cv iv wr => ∃ (i c : Nat) (rs : List Nat), i ≤ n ∧ iv = .int .i64 (i : Int) ∧ cv = .int .u64 (c : Int) ∧ c ≤ 1 ∧ Hid (rs.length = i) ∧ Hid (valW rs + W64 ^ i * c = valW (xs.take i) + valW (ys.take i)) ∧ Hid (OW wr B (.slice (some ⟨gz, 0, none⟩) N cz) (rs ++ zs.drop i)) ∧ Hid (Only (· = gz) w wr))
    (fun _ iv _ => n - (intOf iv).toNat)
  case atStart => exact ⟨0, 0, [], Nat.zero_le _, rfl, rfl, by omega, rfl, by simp [Hid, valW], HZ.out, Only.refl _ _⟩
  case round =>
    obtain ⟨i, c, rs, hi, rfl, rfl, hc, hrl, hval, how, hO⟩ := hrel
    by_cases hin : i < n
    · have hix : i < xs.length := by rw [HXL.out]; exact hin
      have hiy : i < ys.length := by rw [HYL.out]; exact hin
      obtain ⟨x, hxd⟩ : ∃ x, x = xs[i]'hix := ⟨_, rfl⟩
      obtain ⟨y, hyd⟩ : ∃ y, y = ys[i]'hiy := ⟨_, rfl⟩
      have cx0 := HX.out wr hO.out i hix
      have cy0 := HY.out wr hO.out i hiy
      rw [← hxd] at cx0
      rw [← hyd] at cy0
      have hx64 : x < W64 := by rw [hxd]; exact HXB.out _ (List.getElem_mem hix)
      have hy64 : y < W64 := by rw [hyd]; exact HYB.out _ (List.getElem_mem hiy)
      obtain ⟨s, hs⟩ : ∃ s, s = x + y + c := ⟨_, rfl⟩
      have HADD := Lib.hid (fun W => bits_add x y c hc W)
      rw [← hs] at HADD
      obtain ⟨r, hr⟩ : ∃ r, r = s % W64 := ⟨_, rfl⟩
      obtain ⟨d, hd⟩ : ∃ d, d = s / W64 := ⟨_, rfl⟩
      have hr64 : r < W64 := by rw [hr]; exact Nat.mod_lt _ W64_pos
      have hd1 : d ≤ 1 := by
        rw [hd]
        have : s / W64 < 2 := (Nat.div_lt_iff_lt_mul W64_pos).2 (by omega)
        omega
      have HST := Lib.hid (add_step (valW (xs.take i)) (valW (ys.take i)) (valW rs) i c x y s hval.out hs)
      rw [← hr, ← hd] at HADD HST
      have hiz : i < zs.length := by have := HN.out; omega
      have hzl : i < (rs ++ zs.drop i).length := by have := hrl.out; simp; omega
      have hcz := how.out.cell i hzl
      have hfz := how.out.free i
      have HXD := Lib.hid hxd
      have HYD := Lib.hid hyd
      have hin' : (i : Int) < (n : Int) := by omega
      have hgr : gz < wr.heap.size := Nat.lt_of_lt_of_le hgz hO.out.size
      have HR64 := Lib.hid hr64
      clear hxd hyd hs hr hd hval hx64 hy64 hr64
      go_wp2_with fail
      go_quiet ((go_at_call 77; exact quiet_l (HADD.out _)))
      go_wp2
      go_roundw
      case rel =>
        refine ⟨i + 1, d, rs ++ [r], by omega, by go_num, rfl, hd1, by simp [Hid, hrl.out], ?_, ?_, ?_⟩
        · unfold Hid
          rw [List.take_succ_eq_append_getElem hix, List.take_succ_eq_append_getElem hiy, valW_append, valW_append, valW_append, List.length_take, List.length_take, Nat.min_eq_left (by omega), Nat.min_eq_left (by omega), hrl.out, ← HXD.out, ← HYD.out]
          simp only [valW, Nat.mul_zero, Nat.add_zero]
          exact HST.out
        · exact (set_mid (x := r) hrl.out hiz) ▸ (how.out.below (below_dn (Below.refl _ _) _)).store i r HR64.out
        · exact (hO.out.drewN _).setCell (p := ⟨gz, i, none⟩) (.inl rfl) _
      case measure => simp [intOf]; omega
    · obtain rfl : i = n := by omega
      go_wp2
      go_ret
      exact ⟨c, rs, rfl, hc, hrl.out, by have := hval.out; rw [List.take_of_length_le (by have := HXL.out; omega), List.take_of_length_le (by have := HYL.out; omega)] at this; exact this, how.out, hO.out⟩
set_option maxRecDepth 20000 in
set_option maxHeartbeats 2000000 in
theorem sub_vv (B gz N cz n cz2 gx cx gy cy : Nat) (zs xs ys : List Nat) (w : World) (hz : OW w B (.slice (some ⟨gz, 0, none⟩) N cz) zs) (hn : n ≤ zs.length) (hxl : xs.length = n) (hyl : ys.length = n) (hnb : n ≤ 100000)
    (hx : ∀ W', Only (· = gz) w W' → ∀ j (h : j < xs.length), W'.cell? ⟨gx, j, none⟩ = some (.int .u64 ((xs[j]'h : Nat) : Int))) (hy : ∀ W', Only (· = gz) w W' → ∀ j (h : j < ys.length), W'.cell? ⟨gy, j, none⟩ = some (.int .u64 ((ys[j]'h : Nat) : Int)))
    (hxb : ∀ x ∈ xs, x < W64) (hyb : ∀ y ∈ ys, y < W64) :
    Calls Tryz.prog 78 #[.slice (some ⟨gz, 0, none⟩) n cz2, .slice (some ⟨gx, 0, none⟩) n cx, .slice (some ⟨gy, 0, none⟩) n cy] w (VecPost B gz N cz n zs (fun c rs => valW rs + valW ys = valW xs + W64 ^ n * c) w) := by
  have HZ := Lib.hid hz
  have HN := Lib.hid hn
  have HXL := Lib.hid hxl
  have HYL := Lib.hid hyl
  have HX := Lib.hid hx
  have HY := Lib.hid hy
  have HXB := Lib.hid hxb
  have HYB := Lib.hid hyb
  have hgz : gz < w.heap.size := (hz.1.lt _ rfl).2
  have HB : Hid (B ≤ gz) := (hz.1.lt _ rfl).1
  clear hz hn hxl hyl hx hy hxb hyb
  go_enter Tryz.func78, Tryz.ntmps78
  go_wp2_with fail
  go_loopw [6, 25] (fun cv iv wr => ∃ (i c : Nat) (rs : List Nat), i ≤ n ∧ iv = .int .i64 (i : Int) ∧ cv = .int .u64 (c : Int) ∧ c ≤ 1 ∧ Hid (rs.length = i) ∧ Hid (valW rs + valW (ys.take i) = valW (xs.take i) + W64 ^ i * c) ∧ Hid (OW wr B (.slice (some ⟨gz, 0, none⟩) N cz) (rs ++ zs.drop i)) ∧ Hid (Only (· = gz) w wr))
    (fun _ iv _ => n - (intOf iv).toNat)
  case atStart => exact ⟨0, 0, [], Nat.zero_le _, rfl, rfl, by omega, rfl, by simp [Hid, valW], HZ.out, Only.refl _ _⟩
  case round =>
    obtain ⟨i, c, rs, hi, rfl, rfl, hc, hrl, hval, how, hO⟩ := hrel
    by_cases hin : i < n
    · have hix : i < xs.length := by rw [HXL.out]; exact hin
      have hiy : i < ys.length := by rw [HYL.out]; exact hin
      obtain ⟨x, hxd⟩ : ∃ x, x = xs[i]'hix := ⟨_, rfl⟩
      obtain ⟨y, hyd⟩ : ∃ y, y = ys[i]'hiy := ⟨_, rfl⟩
      have cx0 := HX.out wr hO.out i hix
      have cy0 := HY.out wr hO.out i hiy
      rw [← hxd] at cx0
      rw [← hyd] at cy0
      have hx64 : x < W64 := by rw [hxd]; exact HXB.out _ (List.getElem_mem hix)
      have hy64 : y < W64 := by rw [hyd]; exact HYB.out _ (List.getElem_mem hiy)
      have HADD := Lib.hid (fun W => bits_sub x y c hx64 hy64 hc W)
      obtain ⟨r, hr⟩ : ∃ r, r = (x + W64 - y - c) % W64 := ⟨_, rfl⟩
      obtain ⟨d, hd⟩ : ∃ d, d = bor x y c := ⟨_, rfl⟩
      have hr64 : r < W64 := by rw [hr]; exact Nat.mod_lt _ W64_pos
      have hd1 : d ≤ 1 := by
        rw [hd]; unfold bor; split <;> omega
      have HST := Lib.hid (sub_step (valW (xs.take i)) (valW (ys.take i)) (valW rs) i c x y hx64 hy64 hc hval.out)
      rw [← hr, ← hd] at HADD HST
      have hiz : i < zs.length := by have := HN.out; omega
      have hzl : i < (rs ++ zs.drop i).length := by have := hrl.out; simp; omega
      have hcz := how.out.cell i hzl
      have hfz := how.out.free i
      have HXD := Lib.hid hxd
      have HYD := Lib.hid hyd
      have hin' : (i : Int) < (n : Int) := by omega
      have hgr : gz < wr.heap.size := Nat.lt_of_lt_of_le hgz hO.out.size
      have HR64 := Lib.hid hr64
      clear hxd hyd hr hd hval hx64 hy64 hr64
      go_wp2_with fail
      go_quiet ((go_at_call 79; exact quiet_l (HADD.out _)))
      go_wp2
      go_roundw
      case rel =>
        refine ⟨i + 1, d, rs ++ [r], by omega, by go_num, rfl, hd1, by simp [Hid, hrl.out], ?_, ?_, ?_⟩
        · unfold Hid
          rw [List.take_succ_eq_append_getElem hix, List.take_succ_eq_append_getElem hiy, valW_append, valW_append, valW_append, List.length_take, List.length_take, Nat.min_eq_left (by omega), Nat.min_eq_left (by omega), hrl.out, ← HXD.out, ← HYD.out]
          simp only [valW, Nat.mul_zero, Nat.add_zero]
          exact HST.out
        · exact (set_mid (x := r) hrl.out hiz) ▸ (how.out.below (below_dn (Below.refl _ _) _)).store i r HR64.out
        · exact (hO.out.drewN _).setCell (p := ⟨gz, i, none⟩) (.inl rfl) _
      case measure => simp [intOf]; omega
    · obtain rfl : i = n := by omega
      go_wp2
      go_ret
      exact ⟨c, rs, rfl, hc, hrl.out, by have := hval.out; rw [List.take_of_length_le (by have := HYL.out; omega), List.take_of_length_le (by have := HXL.out; omega)] at this; exact this, how.out, hO.out⟩
end Go.Proofs.YtndeolcamgnmdaaGreatDoor
