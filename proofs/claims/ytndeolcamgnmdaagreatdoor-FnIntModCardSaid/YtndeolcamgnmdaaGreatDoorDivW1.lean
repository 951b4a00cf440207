/- Words divided by one word; a word as a natural; rows of one's own as rows of words. -/
import Derived.Test.YtndeolcamgnmdaaGreatDoorVecS
import Derived.Test.YtndeolcamgnmdaaGreatDoorDivWX
import Derived.Test.YtndeolcamgnmdaaGreatDoorModBaseD
set_option linter.unusedVariables false
set_option linter.unusedSimpArgs false
set_option linter.unnecessarySimpa false
namespace Go.Proofs.YtndeolcamgnmdaaGreatDoor
open Go.RowKit
theorem OW.rowB {w : World} {B g n c : Nat} {l : List Nat} (h : OW w B (.slice (some ⟨g, 0, none⟩) n c) l) : RowB w g c := by
  rcases h.1.2 with ⟨hv, _⟩ | ⟨g', cap, cur, hv, hb, hh, h1, h2, h3, h4⟩
  · simp at hv
  · injection hv with e1 e2 e3
    have e4 := Option.some.inj e1
    injection e4 with e5
    subst e3 e5
    exact ⟨cur, hh, by simpa using h3⟩
theorem OW.wa {w : World} {B g n c : Nat} {l : List Nat} (h : OW w B (.slice (some ⟨g, 0, none⟩) n c) l) : WA w g 0 l := fun j hj => by
  rw [Nat.zero_add]; exact h.cell j hj
theorem ow_row {w : World} {B g c n : Nat} {l : List Nat} (hr : RowB w g c) (hw : WA w g 0 l) (hn : n = l.length) (hc : n ≤ c) (hm : c ≤ maxLen) (hB : B ≤ g) (hW : ∀ x ∈ l, x < W64) : OW w B (.slice (some ⟨g, 0, none⟩) n c) l := by
  obtain ⟨cur, hh, hs⟩ := hr
  subst hn
  refine ⟨⟨by simp [wcells], .inr ⟨g, c, cur, rfl, hB, hh, hc, hm, by simpa using hs, ?_⟩⟩, hW⟩
  apply List.ext_getElem
  · simp [wcells, hs]; omega
  · intro j h1 h2
    have hj : j < l.length := by simpa [wcells] using h2
    have h3 := hw j hj
    rw [Nat.zero_add] at h3
    have h4 : cur[j]? = some (.int .u64 ((l[j] : Nat) : Int)) := by
      unfold World.cell? at h3
      rw [hh] at h3
      simpa using h3
    rw [List.getElem_take]
    simp only [wcells, List.getElem_map, Array.getElem_toList]
    have h5 : j < cur.size := by omega
    rw [Array.getElem?_eq_getElem h5] at h4
    exact Option.some.inj h4
theorem valW_drop_at (xs : List Nat) (i : Nat) (hi : i < xs.length) : valW (xs.drop i) = xs[i]'hi + W64 * valW (xs.drop (i + 1)) := by
  rw [List.drop_eq_getElem_cons hi]
  rfl
theorem rem_step (a b y W : Nat) : (a % y * W + b) % y = (b + W * a) % y := by
  rw [Nat.add_comm b, Nat.mul_comm W a, Nat.add_mod, Nat.mul_mod, Nat.mod_mod, ← Nat.mul_mod, ← Nat.add_mod]
theorem bits_div (lo y : Nat) (hy : 0 < y) (hlo : lo < W64) (w : World) : Calls Tryz.prog 81 #[.int .u64 0, .int .u64 (lo : Int), .int .u64 (y : Int)] w fun e w' => e = .returned (.tuple #[.int .u64 ((lo / y : Nat) : Int), .int .u64 ((lo % y : Nat) : Int)]) ∧ ∃ n, w' = w.drewN n := by
  have H := Lib.hid (div64_zero lo y hy hlo w)
  obtain ⟨a, ha⟩ : ∃ a, a = lo / y := ⟨_, rfl⟩
  obtain ⟨b, hb⟩ : ∃ b, b = lo % y := ⟨_, rfl⟩
  rw [← ha, ← hb] at H ⊢
  clear ha hb hy hlo
  go_enter Tryz.func81, Tryz.ntmps81
  go_wp2_with fail
  refine H.out.mono ?_
  rintro e w' ⟨rfl, n, rfl⟩
  go_wp2
  go_ret2
  exact ⟨rfl, n, rfl⟩
/-- What a division of words by one leaves: the quotient's words, and what is left. -/
def DWPost (g n R : Nat) (w : World) (e : Ending) (w' : World) : Prop := ∃ rs : List Nat, e = .returned (.int .u64 (R : Int)) ∧ rs.length = n ∧ (∀ r ∈ rs, r < W64) ∧ WA w' g 0 rs ∧ Wr g 0 n w w'
set_option maxRecDepth 20000 in
set_option maxHeartbeats 2000000 in
theorem div_wvw (g c gx n cz cx y : Nat) (xs : List Nat) (w : World) (hr : RowB w g c) (hn : n ≤ c) (hn1 : 1 ≤ n) (hnb : n ≤ 1000) (hxl : xs.length = n) (hx : WA w gx 0 xs) (hne : gx ≠ g) (hxb : ∀ x ∈ xs, x < W64) (hy : 0 < y) (hyW : y < W64) :
    Calls Tryz.prog 65 #[.slice (some ⟨g, 0, none⟩) n cz, .int .u64 0, .slice (some ⟨gx, 0, none⟩) n cx, .int .u64 (y : Int)] w (DWPost g n (valW xs % y) w) := by
  have HR := Lib.hid hr
  have HXL := Lib.hid hxl
  have HX := Lib.hid hx
  have HXB := Lib.hid hxb
  have HNC := Lib.hid hn
  by_cases h1 : n = 1
  · subst h1
    obtain ⟨x, rfl⟩ : ∃ x, xs = [x] := List.length_eq_one_iff.1 hxl
    have cx0 := hx 0 (by simp)
    simp only [List.getElem_cons_zero, Nat.add_zero] at cx0
    have H := Lib.hid (bits_div x y hy (hxb x (by simp)) w)
    obtain ⟨a, ha⟩ : ∃ a, a = x / y := ⟨_, rfl⟩
    obtain ⟨b, hb⟩ : ∃ b, b = x % y := ⟨_, rfl⟩
    rw [← ha, ← hb] at H
    have hv : valW [x] % y = b := by simp [valW, hb]
    have haW : a < W64 := by rw [ha]; exact Nat.lt_of_le_of_lt (Nat.div_le_self _ _) (hxb x (by simp))
    rw [hv]
    have HAW := Lib.hid haW
    have hgl := hr.lt
    clear hr hxl hx hxb hn ha hb haW hv
    go_enter Tryz.func65, Tryz.ntmps65
    go_wp2_with fail
    refine H.out.mono ?_
    rintro e w' ⟨rfl, k, rfl⟩
    have hr2 : RowB (w.drewN k) g c := HR.out.hp rfl
    obtain ⟨u, hu⟩ := hr2.some (i := 0) (by have := HNC.out; omega)
    have hfz := hr2.free 0
    have HR2 := Lib.hid hr2
    have HWR := Lib.hid ((Wr.refl g 0 1 w).drewN k)
    have HP := Lib.hid ((WA.nil (w.drewN k) g 0).put (i := 0) (x := a) rfl hr2 (by have := HNC.out; omega))
    clear hr2
    obtain ⟨W, hW⟩ : ∃ W, W = w.drewN k := ⟨_, rfl⟩
    rw [← hW] at hu hfz HWR HP ⊢
    clear hW
    go_wp2
    go_ret
    exact ⟨[a], rfl, rfl, by simp; exact HAW.out, HP.out, HWR.out.set (Nat.le_refl _) (by omega) _⟩
  · have hd : ((n : Int) == 1) = false := by rw [beq_eq_false_iff_ne]; omega
    have HREC := Lib.hid (recip_w y hy hyW w)
    have HDW := Lib.hid (fun (r x : Nat) (h : r < y) (hx : x < W64) (W : World) => div_ww r x y h hx hyW W)
    obtain ⟨rc, hrc⟩ : ∃ rc, rc = recOf y := ⟨_, rfl⟩
    rw [← hrc] at HREC HDW
    have hsub : ∀ k : Nat, 0 < k → ((k : Int) - 1) = ((k - 1 : Nat) : Int) := fun k hk => by omega
    have HSUB := Lib.hid hsub
    clear hr hxl hx hxb hn hrc h1 hsub
    go_enter Tryz.func65, Tryz.ntmps65
    go_wp2_with fail
    refine HREC.out.mono ?_
    rintro e w' ⟨rfl, k, rfl⟩
    go_wp2_with fail
    go_loopw [8, 12] (fun rv iv wr => ∃ (i r : Nat) (rs : List Nat), i ≤ n ∧ iv = .int .i64 ((i : Int) - 1) ∧ rv = .int .u64 (r : Int) ∧ Hid (r = valW (xs.drop i) % y) ∧ Hid (rs.length = n - i ∧ ∀ z ∈ rs, z < W64) ∧ Hid (WA wr g i rs) ∧ Hid (Wr g 0 n w wr)) (fun _ iv _ => (intOf iv + 1).toNat)
    case atStart =>
      exact ⟨n, 0, [], Nat.le_refl _, rfl, rfl, by unfold Hid; rw [List.drop_of_length_le (by have := HXL.out; omega)]; simp [valW], ⟨by simp, by simp⟩, WA.nil _ _ _, (Wr.refl g 0 n w).drewN k⟩
    case round =>
      obtain ⟨i, r, rs, hi, rfl, rfl, hrv, hrs, hwa, hO⟩ := hrel
      by_cases h0 : i = 0
      · subst h0
        rw [show (((0 : Nat) : Int) - 1) = -1 from rfl]
        go_wp2
        go_ret
        have h2 := hrv.out
        rw [List.drop_zero] at h2
        rw [← h2]
        exact ⟨rs, rfl, by have := hrs.out.1; omega, hrs.out.2, hwa.out, hO.out⟩
      · obtain ⟨j, hj⟩ : ∃ j, i = j + 1 := ⟨i - 1, by omega⟩
        subst hj
        have hji : ((j + 1 : Nat) : Int) - 1 = (j : Int) := by omega
        rw [hji]
        have hdj : decide ((0 : Int) ≤ (j : Int)) = true := by simp
        have hjx : j < xs.length := by have := HXL.out; omega
        obtain ⟨x, hxe⟩ : ∃ x, x = xs[j]'hjx := ⟨_, rfl⟩
        have hx64 : x < W64 := by rw [hxe]; exact HXB.out _ (List.getElem_mem hjx)
        have cx0 := HX.out.keep hO.out (.inl hne) j hjx
        rw [← hxe, Nat.zero_add] at cx0
        have hry : r < y := by rw [hrv.out]; exact Nat.mod_lt _ hy
        have HD := Lib.hid (HDW.out r x hry hx64 wr)
        obtain ⟨q1, hq1⟩ : ∃ q, q = (r * W64 + x) / y := ⟨_, rfl⟩
        obtain ⟨r1, hr1⟩ : ∃ q, q = (r * W64 + x) % y := ⟨_, rfl⟩
        unfold QRPost at HD
        rw [← hq1, ← hr1] at HD
        have hq1W : q1 < W64 := by
          rw [hq1, Nat.div_lt_iff_lt_mul hy]
          have h1 : (r + 1) * W64 ≤ y * W64 := Nat.mul_le_mul_right _ hry
          rw [Nat.add_mul] at h1
          rw [Nat.mul_comm W64 y]
          omega
        have HR1 : Hid (r1 = valW (xs.drop j) % y) := by
          unfold Hid
          rw [hr1, valW_drop_at xs j hjx, ← hxe, hrv.out]
          exact rem_step _ _ _ _
        have HQ1 := Lib.hid hq1W
        have hrow := hO.out.rowB HR.out
        obtain ⟨u, hu⟩ := hrow.some (i := j) (by have := HNC.out; omega)
        have hfz := hrow.free j
        have HP := Lib.hid (hwa.out.cons (y := q1) hrow (by have := HNC.out; omega))
        have HO2 := Lib.hid (hO.out.set (Nat.zero_le j) (by omega) (.int .u64 (q1 : Int)))
        have hjn : (j : Int) < (n : Int) := by omega
        have HJ := Lib.hid hi
        have hgl := hrow.lt
        clear hrv hwa hO hjx hxe hx64 hry hq1 hr1 hq1W hrow h0 hi
        go_wp2_with fail
        refine HD.out.mono ?_
        rintro e w' ⟨rfl, rfl⟩
        go_wp2
        go_roundw
        case rel =>
          refine ⟨j, r1, q1 :: rs, by have := HJ.out; omega, rfl, rfl, HR1, ⟨by simp [hrs.out.1]; have := HJ.out; omega, ?_⟩, HP, HO2⟩
          intro z hz
          rcases List.mem_cons.1 hz with h | h
          · rw [h]; exact HQ1.out
          · exact hrs.out.2 z h
        case measure => simp [intOf]; try omega
end Go.Proofs.YtndeolcamgnmdaaGreatDoor
