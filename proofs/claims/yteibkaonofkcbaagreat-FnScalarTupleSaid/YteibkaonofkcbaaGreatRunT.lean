/- The reference's script over a list. -/
import Derived.Test.YteibkaonofkcbaaGreatRunS
import Derived.Deep.LoopGhost
import Derived.OrdersHeld
namespace Go.Proofs.YteibkaonofkcbaaGreat
open Go.RowKit
set_option linter.unusedSimpArgs false
set_option linter.unusedVariables false
attribute [local go_sem ↓] Go.wp_at_zero Go.wp_at_succ
/-- The cells of a step's two values and its row, if there is none. -/
def zz13 : List Value := [.int .i64 0, .bool false, .slice none 0 0, .int .u64 0, .string ⟨#[]⟩, .slice none 0 0, .int .i64 0, .bool false, .slice none 0 0, .int .u64 0, .string ⟨#[]⟩, .slice none 0 0, .slice none 0 0]
def RunPost (w : World) (e : Ending) (w' : World) : Prop := ∃ v1 qs v2 ss v3 al at', e = .returned (.tuple #[v1, v2, v3]) ∧ RowX w' w.heap.size v1 qs ∧ qs.length ≤ 8 ∧ RowSt w' w.heap.size v2 ss ∧ ss.length ≤ 60 ∧ (∀ s ∈ ss, s.r = zz13) ∧ RowA (fun _ => 6) w' w.heap.size v3 al ∧ Runs (qs.map (·.2)) ss (al.map (·.2)) at' ∧ Below w.heap.size w w'
set_option maxRecDepth 100000 in
set_option maxHeartbeats 16000000 in
theorem spec_runlist (B0 B1 n c : Nat) (a : Option Addr) (ps : List (Value × Sx)) (sv : Value) (st : List St) (w : World) (hx : RowX w B0 (.slice a n c) ps) (hn : ps.length = n) (hst : RowSt w B1 sv st) (hs60 : st.length ≤ 60) (hk : ∀ s ∈ st, s.k = 4 ∨ s.k ∈ [2, 27, 11, 5, 6, 7]) :
    Calls Tryz.prog 4 #[.slice a n c, sv] w (RunPost w) := by
  have HX := Lib.hid hx
  have HN := Lib.hid hn
  have HST := Lib.hid hst
  have HS6 := Lib.hid hs60
  have HK := Lib.hid hk
  obtain ⟨sa, sc, hsv⟩ := hst.form
  obtain ⟨nst, hnst⟩ : ∃ nst, nst = st.length := ⟨_, rfl⟩
  rw [← hnst] at hsv
  subst hsv
  have HNST := Lib.hid hnst
  have hn60 : nst ≤ 60 := by omega
  obtain ⟨L, hL⟩ : ∃ L, L = w.heap.size := ⟨_, rfl⟩
  have HL := Lib.hid hL
  have HLE : Hid (w.heap.size ≤ L) := by unfold Hid; omega
  have HB0 := Lib.hid ((Below.refl w.heap.size w).alloc (Nat.le_refl _) (.cells #[.slice none 0 0] 22))
  have HKL : Hid (Blk (w.alloc (.cells #[.slice none 0 0] 22)) L 22 #[.slice none 0 0]) := by rw [hL]; exact Blk.new _ _ _
  clear hx hn hst hs60 hk hnst
  go_enter Tryz.func4, Tryz.ntmps4
  go_wp2_with fail
  rw [← hL]
  clear hL
  go_loopg [8] 8 (fun k iv wr => ∃ (i : Nat) (qs : List (Value × Sx)) (lv : Value), iv = .int .i64 (i : Int) ∧ Hid (k + i = 8) ∧ i ≤ n ∧ Hid (Blk wr L 22 #[lv]) ∧ Hid (RowX wr w.heap.size lv qs ∧ qs.length = i) ∧ Hid (Below w.heap.size w wr))
  case atStart => exact ⟨0, [], _, rfl, (by show 8 + 0 = 8; rfl), Nat.zero_le _, HKL.out, ⟨RowX.nil _ _, rfl⟩, HB0.out⟩
  case round =>
    obtain ⟨i, qs, lv, rfl, hki, hil, hkl, hrow, hb⟩ := hrel
    by_cases hin : i < n ∧ i < 8
    · obtain ⟨h1, h2⟩ := hin
      have d1 : decide ((i : Int) < (n : Int)) = true := by simp; omega
      have d2 : decide ((i : Int) < 8) = true := by simp; omega
      have HKL9 := Lib.hid hkl.out
      have HRW9 := Lib.hid hrow.out
      have HBW9 := Lib.hid hb.out
      have HKI := Lib.hid hki.out
      have hilp : i < ps.length := by rw [HN.out]; exact h1
      obtain ⟨gA, cap, nA, aA, mA, cA, bA, xA, hve, hrest⟩ := HX.out.at i hilp
      clear hrest
      injection hve with ha hx2 hx3
      subst ha
      clear hx2 hx3 hki hkl hrow hb hilp
      go_upto_region 5 with fail
      refine run_region5 (fun _ _ _ _ _ h => h) w wr L i n c gA cap qs ps B0 lv HX.out HN.out h1 h2 HKL9.out HRW9.out.1 HRW9.out.2 HBW9.out HLE.out ?_
      intro v27 v28 v29 v30 v31 v32 v33 v34 v35 v36 wx hRR
      have HRR := Lib.hid hRR
      clear hRR
      go_wp2_with fail
      go_roundg (8 - (i + 1))
      case measure => have := HKI.out; omega
      case rel => obtain ⟨lv2, y, s, r1, r2, r3⟩ := HRR.out; exact ⟨i + 1, _, lv2, by go_num, (by have := HKI.out; show 8 - (i + 1) + (i + 1) = 8; omega), by omega, r1, ⟨r2, by rw [List.length_append, HRW9.out.2]; rfl⟩, r3⟩
    · have HRW9 := Lib.hid hrow.out
      have HKL9 := Lib.hid hkl.out
      have HBW9 := Lib.hid hb.out
      have hi8 : i ≤ 8 := by have := hki.out; omega
      clear hrow hkl hb hki
      go_upto_region 3 with fail
      go_cut [24] from 17 to 25 (fun s24 wx => s24 = .bool false ∧ Hid (wr = wx))
      case first =>
        by_cases h1 : i < n
        · have d1 : decide ((i : Int) < (n : Int)) = true := by simp; omega
          have d2 : decide ((i : Int) < 8) = false := by simp; omega
          go_wp2_with fail
          go_meet
          exact ⟨rfl, rfl⟩
        · have d1 : decide ((i : Int) < (n : Int)) = false := by simp; omega
          go_wp2_with fail
          go_meet
          exact ⟨rfl, rfl⟩
      case rest =>
        obtain ⟨rfl, hwc⟩ := hcut
        have hwc := hwc.out
        subst hwc
        clear hin
        obtain ⟨wo, hwo⟩ : ∃ wo, wo = wr := ⟨_, rfl⟩
        subst hwo
        obtain ⟨la, lc, hlv⟩ := RowX.form HRW9.out.1
        rw [HRW9.out.2] at hlv
        subst hlv
        have hLc : wo.cell? ⟨L, 0, none⟩ = some (.slice la i lc) := (HKL9.out.cell 0).trans rfl
        have hLlt := HKL9.out.lt
        obtain ⟨W0, hW0⟩ : ∃ W0, W0 = wo.alloc (.cells #[] 33) := ⟨_, rfl⟩
        have hb0 : Below wo.heap.size wo W0 := by rw [hW0]; exact (Below.refl _ wo).alloc (Nat.le_refl _) _
        have HSEG : Hid (Seg W0 la i lc qs) := by
          have h := HRW9.out.1.read
          rw [← HRW9.out.2] at h
          have h2 := (h.head qs.length (Nat.le_refl _)).1
          rw [List.take_length, HRW9.out.2] at h2
          exact h2.below hb0
        have HDST : Hid (RowR W0 w.heap.size (.slice (some ⟨wo.heap.size, 0, none⟩) 0 0) []) := by
          refine ⟨⟨rfl, .inr ⟨wo.heap.size, 0, #[], rfl, HBW9.out.size, by rw [hW0]; exact heap_alloc_new wo _, Nat.le_refl _, Nat.zero_le _, rfl, rfl⟩⟩, fun p hp => by simp at hp⟩
        have hb0' := hb0
        have HB0' := Lib.hid hb0
        have hB0 : w.heap.size ≤ W0.heap.size := Nat.le_trans HBW9.out.size hb0.size
        clear hb0 hb0'
        go_wp2_with (at_builtin; rw [← hW0]; refine wpList_append_seg rfl W0 (.tmp 37) (.tmp 38) rfl w.heap.size _ [] HDST.out rfl la i lc qs HSEG.out rfl (by simp) (by omega) hB0 ?_; intro v6 w6 hr6 hb6 hg6; have hr7 : RowR w6 w.heap.size v6 qs := hr6; have HF6 : Hid (RowX w6 w.heap.size v6 qs) := ⟨hr7.1, fun p hp => ((HRW9.out.1.2 p hp).below HB0'.out).grown HDST.out.1 (by decide) hg6⟩; have hO : Only (fun q => (Value.slice (some ⟨wo.heap.size, 0, none⟩) 0 0).ownBlock = some q) W0 w6 := (Only.refl _ W0).grown hg6 (fun k hk => .inl hk); have HL6 : Hid (Blk w6 L 22 #[.slice la i lc]) := (HKL9.out.below HB0'.out HKL9.out.lt).typ (typ_own HDST.out.1) hO (by decide); have HX6 : Hid (RowX w6 w.heap.size (.slice la i lc) qs) := ⟨own_only (own_below HRW9.out.1.1 HB0'.out) hO (fun q hq e => by simp only [Value.ownBlock, Option.some.injEq] at e; have := (HRW9.out.1.1.lt q hq).2; omega), HF6.out.2⟩; have HB6 := Lib.hid (HBW9.out.trans (HB0'.out.mono HBW9.out.size |>.trans hb6)); clear hr6 hb6 hg6 hr7 hO)
        clear hW0 hLc hLlt hB0
        obtain ⟨G, hG⟩ : ∃ G, G = w6.heap.size := ⟨_, rfl⟩
        have HGE : Hid (w.heap.size ≤ G) := by rw [hG]; exact HB6.out.size
        have HGB : Hid (GuardB (w6.alloc (.cells #[.bool false, .slice none 0 0, .int .i64 0] 46)) w.heap.size G (.slice none 0 0) []) := by
          rw [hG]
          exact ⟨Blk.new _ _ _, World.ownsRow_nil _ _ _ _⟩
        have HBA := Lib.hid ((Below.refl w6.heap.size w6).alloc (Nat.le_refl _) (.cells #[.bool false, .slice none 0 0, .int .i64 0] 46))
        rw [← hG]
        clear hG
        go_loopg [11, 12, 13] 60 (fun k ssv anv jv wz => ∃ (j : Nat) (ss : List St) (al : List (List Value × AA)) (at' : List (Option Nat)) (atv : Value), jv = .int .i64 (j : Int) ∧ Hid (k + j = 60) ∧ j ≤ nst ∧ Hid (GuardB wz w.heap.size G atv at' ∧ at'.length ≤ j) ∧ Hid (Blk wz L 22 #[.slice la i lc] ∧ RowX wz w.heap.size (.slice la i lc) qs) ∧ Hid (RowX wz w.heap.size v6 qs) ∧ Hid (RowSt wz w.heap.size ssv ss ∧ ss.length = j ∧ ∀ s ∈ ss, s.r = zz13) ∧ Hid (RowA (fun _ => 6) wz w.heap.size anv al ∧ al.length = j) ∧ Hid (Runs (qs.map (·.2)) ss (al.map (·.2)) at') ∧ Hid (Below w.heap.size w wz))
        case atStart => exact ⟨0, [], [], [], _, rfl, (by show 60 + 0 = 60; rfl), Nat.zero_le _, ⟨HGB.out, Nat.le_refl _⟩, ⟨HL6.out.below HBA.out HL6.out.lt, HX6.out.below HBA.out⟩, HF6.out.below HBA.out, ⟨RowSt.nil _ _, rfl, fun s hs => by simp at hs⟩, ⟨RowA.nil _ _ _, rfl⟩, Runs.nil _, HB6.out.trans (HBA.out.mono HB6.out.size)⟩
        case round =>
          obtain ⟨j, ss, al, at', atv, rfl, hkj, hjn, hg, hlx, hf, hss, hal, hrun, hbw⟩ := hrel
          by_cases hjin : j < nst ∧ j < 60
          · obtain ⟨h1, h2⟩ := hjin
            have d1 : decide ((j : Int) < (nst : Int)) = true := by simp; omega
            have d2 : decide ((j : Int) < 60) = true := by simp; omega
            have d3 : decide (j < nst) = true := by simp; omega
            have hj0 : (0 : Int) ≤ (j : Int) := by omega
            have hj1 : (j : Int) < (nst : Int) := by omega
            have hjl : j < st.length := by rw [← HNST.out]; exact h1
            obtain ⟨gS, capS, hve, hgS, _, hcs⟩ := HST.out.at j hjl
            injection hve with ha hx2 hx3
            subst ha
            have hkk := HK.out _ (List.getElem_mem hjl)
            have hok := HST.out.2 _ (List.getElem_mem hjl)
            obtain ⟨s0, hs0⟩ : ∃ s0, s0 = st[j]'hjl := ⟨_, rfl⟩
            rw [← hs0] at hcs hkk hok
            obtain ⟨k0, si, sj, sm, rr⟩ := s0
            obtain ⟨r0, r1, r2, r3, r4, r5, r6, r7, r8, r9, r10, r11, r12, hrr⟩ := list13 rr hok.1
            subst hrr
            have HC17 : Hid (∀ W, Below w.heap.size w W → W.cell? ⟨gS, j * 17, none⟩ = some (.int .i64 k0) ∧ W.cell? ⟨gS, j * 17 + 1, none⟩ = some (.int .i64 si) ∧ W.cell? ⟨gS, j * 17 + 2, none⟩ = some (.int .i64 sj) ∧ W.cell? ⟨gS, j * 17 + 3, none⟩ = some (.int .i64 sm) ∧ W.cell? ⟨gS, j * 17 + 4, none⟩ = some (r0) ∧ W.cell? ⟨gS, j * 17 + 5, none⟩ = some (r1) ∧ W.cell? ⟨gS, j * 17 + 6, none⟩ = some (r2) ∧ W.cell? ⟨gS, j * 17 + 7, none⟩ = some (r3) ∧ W.cell? ⟨gS, j * 17 + 8, none⟩ = some (r4) ∧ W.cell? ⟨gS, j * 17 + 9, none⟩ = some (r5) ∧ W.cell? ⟨gS, j * 17 + 10, none⟩ = some (r6) ∧ W.cell? ⟨gS, j * 17 + 11, none⟩ = some (r7) ∧ W.cell? ⟨gS, j * 17 + 12, none⟩ = some (r8) ∧ W.cell? ⟨gS, j * 17 + 13, none⟩ = some (r9) ∧ W.cell? ⟨gS, j * 17 + 14, none⟩ = some (r10) ∧ W.cell? ⟨gS, j * 17 + 15, none⟩ = some (r11) ∧ W.cell? ⟨gS, j * 17 + 16, none⟩ = some (r12)) := fun W h =>
              have key : ∀ q u, q < 17 → (St.cells ⟨k0, si, sj, sm, [r0, r1, r2, r3, r4, r5, r6, r7, r8, r9, r10, r11, r12]⟩)[q]? = some u → W.cell? ⟨gS, j * 17 + q, none⟩ = some u := fun q u hq hu => (h.cell (p := ⟨gS, j * 17 + q, none⟩) hgS).trans ((hcs q hq).trans hu)
              ⟨key 0 _ (by omega) rfl, key 1 _ (by omega) rfl, key 2 _ (by omega) rfl, key 3 _ (by omega) rfl, key 4 _ (by omega) rfl, key 5 _ (by omega) rfl, key 6 _ (by omega) rfl, key 7 _ (by omega) rfl, key 8 _ (by omega) rfl, key 9 _ (by omega) rfl, key 10 _ (by omega) rfl, key 11 _ (by omega) rfl, key 12 _ (by omega) rfl, key 13 _ (by omega) rfl, key 14 _ (by omega) rfl, key 15 _ (by omega) rfl, key 16 _ (by omega) rfl⟩
            have HC4 : Hid (∀ W, Below w.heap.size w W → W.cell? ⟨gS, j * 17, none⟩ = some (.int .i64 k0) ∧ W.cell? ⟨gS, j * 17 + 1, none⟩ = some (.int .i64 si) ∧ W.cell? ⟨gS, j * 17 + 2, none⟩ = some (.int .i64 sj) ∧ W.cell? ⟨gS, j * 17 + 3, none⟩ = some (.int .i64 sm)) := fun W h => ⟨(HC17.out W h).1, (HC17.out W h).2.1, (HC17.out W h).2.2.1, (HC17.out W h).2.2.2.1⟩
            have HKK := Lib.hid hkk
            have HG := Lib.hid hg.out
            have HLX := Lib.hid hlx.out
            have HF := Lib.hid hf.out
            have HSS := Lib.hid hss.out
            have HAL := Lib.hid hal.out
            have HRU := Lib.hid hrun.out
            have HBW := Lib.hid hbw.out
            have HKJ := Lib.hid hkj.out
            clear hx2 hx3 hkk hok hcs hs0 hg hlx hf hss hal hrun hbw hkj hjl hgS
            go_upto_region 13 with fail
            go_region_held3 (fun W => W.cell? ⟨gS, j * 17, none⟩ = some (.int .i64 k0) ∧ W.cell? ⟨gS, j * 17 + 1, none⟩ = some (.int .i64 si) ∧ W.cell? ⟨gS, j * 17 + 2, none⟩ = some (.int .i64 sj) ∧ W.cell? ⟨gS, j * 17 + 3, none⟩ = some (.int .i64 sm))
              (first | (with_reducible exact HC4.out _ HBW.out.drew) | (with_reducible exact HC4.out _ (HBW.out.drew.alloc HBW.out.drew.size _)) | (with_reducible exact HC4.out _ (HBW.out.alloc HBW.out.size _).drew) | go_keep) (fail)
            obtain ⟨Y, hY⟩ : ∃ Y, Y = (wr.alloc (.cells #[.int .i64 k0, .int .i64 si, .int .i64 sj, .int .i64 sm, .int .i64 0, .bool false, .slice none 0 0, .int .u64 0, .string ⟨#[]⟩, .slice none 0 0, .int .i64 0, .bool false, .slice none 0 0, .int .u64 0, .string ⟨#[]⟩, .slice none 0 0, .slice none 0 0] 35)).drew := ⟨_, rfl⟩
            rw [← hY]
            have hby : Below wr.heap.size wr Y := by rw [hY]; exact ((Below.refl _ wr).alloc (Nat.le_refl _) _).drew
            have hsy : Blk Y wr.heap.size 35 #[.int .i64 k0, .int .i64 si, .int .i64 sj, .int .i64 sm, .int .i64 0, .bool false, .slice none 0 0, .int .u64 0, .string ⟨#[]⟩, .slice none 0 0, .int .i64 0, .bool false, .slice none 0 0, .int .u64 0, .string ⟨#[]⟩, .slice none 0 0, .slice none 0 0] := by rw [hY]; exact (Blk.new wr _ _).drew
            clear hY
            obtain ⟨S, hS⟩ : ∃ S, S = wr.heap.size := ⟨_, rfl⟩
            rw [← hS] at hsy ⊢
            have HSW := Lib.hid hS
            have HBY := Lib.hid hby
            have HSY := Lib.hid hsy
            have HGY := Lib.hid (HG.out.1.below hby)
            have HLY := Lib.hid (HLX.out.1.below hby HLX.out.1.lt)
            have HXY := Lib.hid (HLX.out.2.below hby)
            have HBWY := Lib.hid (HBW.out.trans (hby.mono HBW.out.size))
            have hlY : Y.cell? ⟨L, 0, none⟩ = some (.slice la i lc) := (HLY.out.cell 0).trans rfl
            have HWK := Lib.hid (walk_all w.heap.size w.heap.size atv at' G S k0 si sj sm la i lc Y qs HXY.out HRW9.out.2 (by omega) HGY.out hsy (by have := HG.out.2; omega) HBWY.out.size HKK.out)
            clear hby hsy hS
            go_upto_if 80 with (go_at_call 12; refine HWK.out.mono ?_; rintro e w1 ⟨isB, ok, is, nn, k2, neg, aa, mm, cc, b, tx, ka, kn, kc, rfl, hcase⟩; have HCASE := Lib.hid hcase; clear hcase)
            obtain ⟨X, hX⟩ : ∃ X, X = w1.alloc (.cells #[.bool ok, .bool is, .int .i64 nn, .int .i64 k2, .bool neg, .slice aa mm cc, .int .u64 b, .string tx, .slice ka kn kc, .slice none 0 0] 37) := ⟨_, rfl⟩
            obtain ⟨A, hA⟩ : ∃ A, A = w1.heap.size := ⟨_, rfl⟩
            have hax : Blk X A 37 #[.bool ok, .bool is, .int .i64 nn, .int .i64 k2, .bool neg, .slice aa mm cc, .int .u64 b, .string tx, .slice ka kn kc, .slice none 0 0] := by rw [hX, hA]; exact Blk.new _ _ _
            have hbx : Below w1.heap.size w1 X := by rw [hX]; exact (Below.refl _ w1).alloc (Nat.le_refl _) _
            rw [← hX, ← hA]
            have HAX := Lib.hid hax
            have HBX := Lib.hid hbx
            have HAE := Lib.hid hA
            clear hX hA hax hbx HWK hlY
            go_cut [15] from 81 to 88 (fun s15 wx => s15 = .pointer (some ⟨A, 0, none⟩) ∧ Hid (StepQ w.heap.size G S A atv at' (qs.map (·.2)) Y wx))
            case first =>
              rcases HCASE.out with ⟨rfl, rfl, k', i', j', m', a2, at2, v2, hra, hst, hsS, hgg, hO⟩ | ⟨rfl, hk2, hb⟩
              · have HQ : Hid (StepQ w.heap.size G S A atv at' (qs.map (·.2)) Y X) := ⟨is, nn, k2, neg, aa, mm, cc, b, tx, ka, kn, kc, k', i', j', m', a2, at2, v2, HAX.out, hra.below HBX.out, hst, hsS.below HBX.out hsS.lt, hgg.below HBX.out, hO.below HBX.out⟩
                clear hra hst hsS hgg hO HCASE
                go_wp2_with fail
                go_meet
                exact ⟨rfl, HQ⟩
              · have hyx : Below Y.heap.size Y X := hb.trans (HBX.out.mono hb.size)
                have hAY : Y.heap.size ≤ A := by rw [HAE.out]; exact hb.size
                have HYX := Lib.hid hyx
                have HAY := Lib.hid hAY
                have HK2 := Lib.hid hk2
                have HSB : Hid (w.heap.size ≤ S) := by have := HBW.out.size; have := HSW.out; unfold Hid; omega
                clear hyx hAY HCASE hb hk2
                go_upto_region 16 with fail
                refine run_region16 (fun _ _ _ _ _ h => h) w Y X L G S A j nst sc gS i k0 si sj sm r0 r1 r2 r3 r4 r5 r6 r7 r8 r9 r10 r11 r12 la lc qs at' atv _ ⟨_, _, _, _, _, _, _, _, _, _, rfl⟩ HC17.out h1 HBWY.out HYX.out HGY.out HSY.out HSB.out HLY.out HXY.out HRW9.out.2 hi8 HK2.out HAX.out HAY.out ?_
                intro v81 v82 v83 v84 v85 v86 v87 wx hQQ
                have HQQ := Lib.hid hQQ
                clear hQQ
                go_step
                go_step
                go_meet
                exact ⟨rfl, HQQ⟩
            case rest =>
              obtain ⟨rfl, hq⟩ := hcut
              obtain ⟨is2, nn2, k3, neg2, aa2, mm2, cc2, b2, tx2, ka2, kn2, kc2, k', i', j', m', a2, at2, v2, hA, hra, hst, hS2, hg2, hO⟩ := hq.out
              have TY : Typ (fun b => b = S ∨ b = G ∨ atv.ownBlock = some b) Y [35, 46, 3] := fun q hq _ => by
                rcases hq with rfl | rfl | hq
                · exact ⟨_, _, HSY.out, by simp⟩
                · exact ⟨_, _, HGY.out.1, by simp⟩
                · obtain ⟨cs0, hb0⟩ := Blk.of_own (g := q) (n := 0) (c := 0) HGY.out.2 hq
                  exact ⟨_, cs0, hb0, by simp⟩
              have HL7 := Lib.hid (HLY.out.typ TY hO (by decide))
              have HX7 := Lib.hid (HXY.out.typ TY hO (by decide) (by decide))
              have HF7 := Lib.hid ((HF.out.below HBY.out).typ TY hO (by decide) (by decide))
              have HAL7 := Lib.hid ((HAL.out.1.below HBY.out).typ TY hO (by decide) (by decide) (by decide))
              have HSS7 : Hid (RowSt wc w.heap.size u11 ss) := ⟨own_only (own_below HSS.out.1.1 HBY.out) hO (fun q hq e => by
                rcases e with e | e | e
                · have h1 := (HSS.out.1.1.lt q hq).2
                  have h2 := HSW.out
                  omega
                · exact own_ne_blk (own_below HSS.out.1.1 HBY.out) HGY.out.1 (by decide) q hq e
                · obtain ⟨cs0, hb0⟩ := Blk.of_own (g := q) (n := 0) (c := 0) HGY.out.2 e
                  exact own_ne_blk (own_below HSS.out.1.1 HBY.out) hb0 (by decide) q hq rfl), HSS.out.1.2⟩
              have HBW7 : Hid (Below w.heap.size w wc) := HBWY.out.trans (hO.to_below HBWY.out.size (fun q _ e => by
                rcases e with e | e | e
                · have h1 := HBW.out.size
                  have h2 := HSW.out
                  omega
                · rw [e]; exact HGE.out
                · exact (HGY.out.2.lt q e).1))
              have HA7 := Lib.hid hA
              have HRA7 := Lib.hid hra
              have HST7 := Lib.hid hst
              have HG7 := Lib.hid hg2
              obtain ⟨z0, z1, z2, z3, z4, z5, z6', z7, z8, z9, z10, z11, z12, z13, z14, z15, z16, _⟩ := blk17 hS2
              have hq1000 : ss.length ≤ 1000 := by rw [HSS.out.2.1]; omega
              have ha1000 : al.length ≤ 1000 := by rw [HAL.out.2]; omega
              clear TY hA hra hst hS2 hg2 hO hq HCASE
              go_wp2_with (first
                | (at_builtin; refine wpList_append_st rfl (.tmp 88) (.tmp 90) rfl wc w.heap.size _ ss HSS7.out rfl ⟨k', i', j', m', [.int .i64 0, .bool false, .slice none 0 0, .int .u64 0, .string ⟨#[]⟩, .slice none 0 0, .int .i64 0, .bool false, .slice none 0 0, .int .u64 0, .string ⟨#[]⟩, .slice none 0 0, .slice none 0 0]⟩ (st_ok k' i' j' m' 0 false none 0 0 0 ⟨#[]⟩ 0 false none 0 0 0 ⟨#[]⟩) _ rfl rfl rfl hq1000 HBW7.out.size ?_; intro v7 w7 hr7 hb7 hg7; have hO7 : Only (fun q => Value.ownBlock u11 = some q) wc w7 := (Only.refl _ wc).grown hg7 (fun k hk => .inl hk); have hT7 := typ_own HSS7.out.1; have HL8 := Lib.hid (HL7.out.typ hT7 hO7 (by decide)); have HX8 := Lib.hid (HX7.out.typ hT7 hO7 (by decide) (by decide)); have HF8 := Lib.hid (HF7.out.typ hT7 hO7 (by decide) (by decide)); have HAL8 := Lib.hid (HAL7.out.typ hT7 hO7 (by decide) (by decide) (by decide)); have hA8 := HA7.out.typ hT7 hO7 (by decide); have HRA8 := Lib.hid (HRA7.out.typ hT7 hO7 (by decide) (by decide)); have HG8 := Lib.hid (HG7.out.typ hT7 hO7 (by decide) (by decide)); have HSS8 := Lib.hid hr7; have HBW8 := Lib.hid (HBW7.out.trans hb7); obtain ⟨p0, p1, p2, p3, p4, p5, p6, p7, p8, p9, _⟩ := blk_ten hA8; clear hr7 hb7 hg7 hO7 hT7 hA8)
                | (at_builtin; refine wpList_append_ans rfl (.tmp 92) (.tmp 94) rfl w7 w.heap.size _ (fun _ => 6) al HAL8.out rfl [.bool true, .bool is2, .int .i64 nn2, .int .i64 k3, .bool neg2, .slice aa2 mm2 cc2, .int .u64 b2, .string tx2, .slice ka2 kn2 kc2, .slice none 0 0] a2 HRA8.out _ rfl rfl rfl ha1000 HBW8.out.size ?_; intro v8 w8 hr8 hb8 hg8; have hO8 : Only (fun q => Value.ownBlock u12 = some q) w7 w8 := (Only.refl _ w7).grown hg8 (fun k hk => .inl hk); have hT8 := typ_own HAL8.out.1; have HL9 := Lib.hid (HL8.out.typ hT8 hO8 (by decide)); have HX9 := Lib.hid (HX8.out.typ hT8 hO8 (by decide) (by decide)); have HF9 := Lib.hid (HF8.out.typ hT8 hO8 (by decide) (by decide)); have HSS9 := Lib.hid (HSS8.out.typ hT8 hO8 (by decide)); have HG9 := Lib.hid (HG8.out.typ hT8 hO8 (by decide) (by decide)); have HAL9 := Lib.hid hr8; have HBW9' := Lib.hid (HBW8.out.trans hb8); clear hr8 hb8 hg8 hO8 hT8))
              go_roundg (60 - (j + 1))
              case measure => have := HKJ.out; omega
              case rel =>
                exact ⟨j + 1, _, _, at2, v2, by go_num, (by have := HKJ.out; show 60 - (j + 1) + (j + 1) = 60; omega), by omega, ⟨HG9.out, Nat.le_trans (StepR.length HST7.out) (by have := HG.out.2; omega)⟩, ⟨HL9.out, HX9.out⟩, HF9.out, ⟨HSS9.out, by rw [List.length_append, HSS.out.2.1]; rfl, fun s hs => by
                  rcases List.mem_append.1 hs with hs | hs
                  · exact HSS.out.2.2 s hs
                  · simp at hs; subst hs; rfl⟩, ⟨HAL9.out, by rw [List.length_append, HAL.out.2]; rfl⟩, by rw [List.map_append]; exact HRU.out.snoc HST7.out, HBW9'.out⟩
          · have HF9 := Lib.hid hf.out
            have HSS9 := Lib.hid hss.out
            have HAL9 := Lib.hid hal.out
            have HRU9 := Lib.hid hrun.out
            have HBW8 := Lib.hid hbw.out
            have hj60 : j ≤ 60 := by have := hkj.out; omega
            clear hf hss hal hrun hbw hg hlx hkj
            by_cases h1 : j < nst
            · have d1 : decide ((j : Int) < (nst : Int)) = true := by simp; omega
              have d2 : decide ((j : Int) < 60) = false := by simp; omega
              go_wp2
              exact bodyPost_ret (results_tmp3 Tryz.results4 _ _ _) rfl ⟨_, qs, _, ss, _, al, at', rfl, HF9.out, by rw [HRW9.out.2]; exact hi8, HSS9.out.1, by rw [HSS9.out.2.1]; exact hj60, HSS9.out.2.2, HAL9.out.1, HRU9.out, HBW8.out⟩
            · have d1 : decide ((j : Int) < (nst : Int)) = false := by simp; omega
              go_wp2
              exact bodyPost_ret (results_tmp3 Tryz.results4 _ _ _) rfl ⟨_, qs, _, ss, _, al, at', rfl, HF9.out, by rw [HRW9.out.2]; exact hi8, HSS9.out.1, by rw [HSS9.out.2.1]; exact hj60, HSS9.out.2.2, HAL9.out.1, HRU9.out, HBW8.out⟩
end Go.Proofs.YteibkaonofkcbaaGreat
