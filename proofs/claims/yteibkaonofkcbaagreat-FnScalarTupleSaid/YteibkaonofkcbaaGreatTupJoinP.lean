/- Joined texts: SameV, AnsT. -/
import Derived.Test.YteibkaonofkcbaaGreatTupJoinO
import Derived.Deep.LoopGhost
set_option linter.unusedSimpArgs false
set_option linter.unusedVariables false
namespace Go.Proofs.YteibkaonofkcbaaGreat
open Go.RowKit
set_option linter.unusedSimpArgs false
set_option linter.unusedVariables false
attribute [local go_sem ↓] Go.wp_at_zero Go.wp_at_succ
theorem RowR.below' {w w' : World} {B C : Nat} {v : Value} {ps : List (Value × Sx)} (h : RowR w B v ps) (hb : Below w.heap.size w w') (hC : C ≤ B) : RowR w' C v ps := ⟨own_base (h.below hb).1 hC, (h.below hb).2⟩
set_option maxRecDepth 100000 in
set_option maxHeartbeats 4000000 in
theorem same_rows (q1 q2 : Option Addr) (m1 m2 c1 c2 : Nat) (ps1 ps2 : List (Value × Sx)) (w : World) (h1 : RowR w 0 (.slice q1 m1 c1) ps1) (h2 : RowR w 0 (.slice q2 m2 c2) ps2) (e1 : ps1.length = m1) (e2 : ps2.length = m2) (he : ps1.map (·.2) = ps2.map (·.2)) (hs : ∀ p ∈ ps1, SmallX p.2) (hm : m1 ≤ 1000) :
    Calls Tryz.prog 19 #[pv 7 false none 0 0 0 ⟨#[]⟩ q1 m1 c1, pv 7 false none 0 0 0 ⟨#[]⟩ q2 m2 c2] w (SamePost w) := by
  have hmm : m2 = m1 := by
    have := congrArg List.length he
    rw [List.length_map, List.length_map] at this
    omega
  subst hmm
  have HB0 : Hid (Below w.heap.size w ((w.alloc (.cells #[.int .i64 7, .bool false, .slice none 0 0, .int .u64 0, .string ⟨#[]⟩, .slice q1 m2 c1] 33)).alloc (.cells #[.int .i64 7, .bool false, .slice none 0 0, .int .u64 0, .string ⟨#[]⟩, .slice q2 m2 c2] 33))) := ((Below.refl _ _).alloc (Nat.le_refl _) _).alloc (by simp) _
  have HS := Lib.hid (fun W (k : Below w.heap.size w W) => same_list W 0 0 q1 q2 m2 c1 c2 ps1 ps2 (h1.below k) (h2.below k) e1 e2 he hs hm)
  unfold pv
  clear h1 h2 e1 e2 he hs hm
  go_enter Tryz.func19, Tryz.ntmps19
  go_wp2_with fail
  refine (HS.out _ HB0.out).mono ?_
  rintro e w1 ⟨rfl, hb⟩
  have HB1 := Lib.hid (HB0.out.trans (hb.mono HB0.out.size))
  clear hb
  go_wp2
  go_ret
  exact ⟨rfl, HB1.out⟩
/-- An answer's value holds small values alone. -/
def AV.small : AV → Prop
  | .one s => SmallX s
  | .many l => l.length ≤ 1000 ∧ ∀ s ∈ l, SmallX s
theorem same_av (v1 v2 : Value) (a : AV) (w : World) (h1 : AVal 7 w v1 a) (h2 : AVal 7 w v2 a) (hs : a.small) : Calls Tryz.prog 19 #[v1, v2] w (SamePost w) := by
  cases a with
  | one s => exact same_x v1 v2 s w h1 h2 hs
  | many l =>
    obtain ⟨q1, m1, c1, ps1, rfl, r1, e1, l1⟩ := h1
    obtain ⟨q2, m2, c2, ps2, rfl, r2, e2, l2⟩ := h2
    refine same_rows q1 q2 m1 m2 c1 c2 ps1 ps2 w r1 r2 e1 e2 (by rw [l1, l2]) (fun p hp => ?_) ?_
    · exact hs.2 p.2 (by rw [← l1]; exact List.mem_map.2 ⟨p, hp, rfl⟩)
    · have := congrArg List.length l1
      rw [List.length_map] at this
      have := hs.1
      omega
end Go.Proofs.YteibkaonofkcbaaGreat
namespace Go.Proofs.YteibkaonofkcbaaGreat
open Go.RowKit
set_option linter.unusedSimpArgs false
set_option linter.unusedVariables false
attribute [local go_sem ↓] Go.wp_at_zero Go.wp_at_succ
set_option maxRecDepth 100000 in
set_option maxHeartbeats 8000000 in
theorem answered_same (B1 B2 B3 : Nat) (v1 v2 v3 : Value) (cs1 cs2 : List (List Value × AA)) (ss : List St) (w : World) (h1 : RowA (fun _ => 7) w B1 v1 cs1) (h2 : RowA (fun _ => 7) w B2 v2 cs2) (he : cs1.map (·.2) = cs2.map (·.2)) (h3 : RowSt w B3 v3 ss) (hl : ss.length = cs2.length) (hk : ∀ s ∈ ss, ¬ s.k = 23 ∧ ¬ s.k = 24) (hsm : ∀ c ∈ cs2, AV.small c.2.v) (h60 : cs2.length ≤ 60) :
    Calls Tryz.prog 7 #[v1, v2, v3] w (SamePost w) := by
  have hll : cs1.length = cs2.length := by
    have := congrArg List.length he
    rw [List.length_map, List.length_map] at this
    exact this
  obtain ⟨a1, c1, hv1⟩ := h1.form
  obtain ⟨a2, c2, hv2⟩ := h2.form
  obtain ⟨a3, c3, hv3⟩ := h3.form
  obtain ⟨n, hn⟩ : ∃ n, n = cs2.length := ⟨_, rfl⟩
  rw [hll, ← hn] at hv1
  rw [← hn] at hv2 h60
  rw [hl, ← hn] at hv3
  subst hv1 hv2 hv3
  have H1 := Lib.hid h1
  have H2 := Lib.hid h2
  have H3 := Lib.hid h3
  have HE := Lib.hid he
  have HL := Lib.hid hl
  have HLL := Lib.hid hll
  have HK := Lib.hid hk
  have HSM := Lib.hid hsm
  have HN := Lib.hid hn
  clear h1 h2 h3 he hl hk hsm hn hll
  go_enter Tryz.func7, Tryz.ntmps7
  go_wp2_with fail
  go_loopg [18] n (fun k jv wr => ∃ i : Nat, jv = .int .i64 (i : Int) ∧ Hid (k + i = n) ∧ Hid (Below w.heap.size w wr))
  case atStart => exact ⟨0, rfl, (by show n + 0 = n; rfl), Below.refl _ _⟩
  case round =>
    obtain ⟨i, rfl, hki, hb⟩ := hrel
    by_cases hin : i < n
    · have hd : decide ((i : Int) < (n : Int)) = true := by simp; omega
      have hd2 : decide (i < n) = true := by simp; omega
      have hi0 : (0 : Int) ≤ (i : Int) := by omega
      have hi1 : (i : Int) < (n : Int) := by omega
      have il1 : i < cs1.length := by rw [HLL.out, ← HN.out]; exact hin
      have il2 : i < cs2.length := by rw [← HN.out]; exact hin
      have il3 : i < ss.length := by rw [HL.out, ← HN.out]; exact hin
      obtain ⟨g1, k1, e1, l1, _, q1⟩ := (H1.out.below hb.out).at i il1
      obtain ⟨g2, k2, e2, l2, _, q2⟩ := (H2.out.below hb.out).at i il2
      obtain ⟨g3, k3, e3, l3, _, q3⟩ := (H3.out.below hb.out).at i il3
      injection e1 with e1 w1 w1'
      clear w1 w1'
      injection e2 with e2 w2 w2'
      clear w2 w2'
      injection e3 with e3 w3 w3'
      clear w3 w3'
      subst e1 e2 e3
      obtain ⟨va, hva, hca⟩ := (H1.out.below hb.out).2 i _ (List.getElem?_eq_getElem il1)
      obtain ⟨vb, hvb, hcb⟩ := (H2.out.below hb.out).2 i _ (List.getElem?_eq_getElem il2)
      have hae : (cs1[i]'il1).2 = (cs2[i]'il2).2 := by
        have := congrArg (fun l => l[i]?) HE.out
        simpa [il1, il2] using this
      have hkk := HK.out _ (List.getElem_mem il3)
      obtain ⟨y, hy⟩ : ∃ y, y = (cs2[i]'il2).2 := ⟨_, rfl⟩
      rw [hae] at hva hca
      have hsml := HSM.out _ (List.getElem_mem il2)
      rw [← hy] at hva hca hvb hcb hsml
      obtain ⟨is, nn, av⟩ := y
      have HSA := Lib.hid (fun W (k : Below wr.heap.size wr W) => same_av va vb av W (hva.below k) (hvb.below k) hsml)
      obtain ⟨ka, na, aa, ma, ca, ba, xa, pa, qa, ra, rfl⟩ := hva.form
      obtain ⟨kb, nb, ab, mb, cb, bb, xb, pb, qb, rb, rfl⟩ := hvb.form
      have key1 : ∀ q u, q < 10 → (cs1[i]'il1).1[q]? = some u → wr.cell? ⟨g1, i * 10 + q, none⟩ = some u := fun q u hq hu => (q1 q hq).trans hu
      have key2 : ∀ q u, q < 10 → (cs2[i]'il2).1[q]? = some u → wr.cell? ⟨g2, i * 10 + q, none⟩ = some u := fun q u hq hu => (q2 q hq).trans hu
      have key3 : wr.cell? ⟨g3, i * 17, none⟩ = some (.int .i64 (ss[i]'il3).k) := (q3 0 (by omega)).trans rfl
      rw [hca] at key1
      rw [hcb] at key2
      obtain ⟨x0, x1, x2, x3, x4, x5, x6, x7, x8, x9⟩ : wr.cell? ⟨g1, i * 10, none⟩ = some (.bool true) ∧ wr.cell? ⟨g1, i * 10 + 1, none⟩ = some (.bool is) ∧ wr.cell? ⟨g1, i * 10 + 2, none⟩ = some (.int .i64 nn) ∧ wr.cell? ⟨g1, i * 10 + 3, none⟩ = some (.int .i64 ka) ∧ wr.cell? ⟨g1, i * 10 + 4, none⟩ = some (.bool na) ∧ wr.cell? ⟨g1, i * 10 + 5, none⟩ = some (.slice aa ma ca) ∧ wr.cell? ⟨g1, i * 10 + 6, none⟩ = some (.int .u64 ba) ∧ wr.cell? ⟨g1, i * 10 + 7, none⟩ = some (.string xa) ∧ wr.cell? ⟨g1, i * 10 + 8, none⟩ = some (.slice pa qa ra) ∧ wr.cell? ⟨g1, i * 10 + 9, none⟩ = some (.slice none 0 0) :=
        ⟨key1 0 _ (by omega) rfl, key1 1 _ (by omega) rfl, key1 2 _ (by omega) rfl, key1 3 _ (by omega) rfl, key1 4 _ (by omega) rfl, key1 5 _ (by omega) rfl, key1 6 _ (by omega) rfl, key1 7 _ (by omega) rfl, key1 8 _ (by omega) rfl, key1 9 _ (by omega) rfl⟩
      obtain ⟨y0, y1, y2, y3, y4, y5, y6, y7, y8, y9⟩ : wr.cell? ⟨g2, i * 10, none⟩ = some (.bool true) ∧ wr.cell? ⟨g2, i * 10 + 1, none⟩ = some (.bool is) ∧ wr.cell? ⟨g2, i * 10 + 2, none⟩ = some (.int .i64 nn) ∧ wr.cell? ⟨g2, i * 10 + 3, none⟩ = some (.int .i64 kb) ∧ wr.cell? ⟨g2, i * 10 + 4, none⟩ = some (.bool nb) ∧ wr.cell? ⟨g2, i * 10 + 5, none⟩ = some (.slice ab mb cb) ∧ wr.cell? ⟨g2, i * 10 + 6, none⟩ = some (.int .u64 bb) ∧ wr.cell? ⟨g2, i * 10 + 7, none⟩ = some (.string xb) ∧ wr.cell? ⟨g2, i * 10 + 8, none⟩ = some (.slice pb qb rb) ∧ wr.cell? ⟨g2, i * 10 + 9, none⟩ = some (.slice none 0 0) :=
        ⟨key2 0 _ (by omega) rfl, key2 1 _ (by omega) rfl, key2 2 _ (by omega) rfl, key2 3 _ (by omega) rfl, key2 4 _ (by omega) rfl, key2 5 _ (by omega) rfl, key2 6 _ (by omega) rfl, key2 7 _ (by omega) rfl, key2 8 _ (by omega) rfl, key2 9 _ (by omega) rfl⟩
      obtain ⟨sk, hsk⟩ : ∃ sk, sk = (ss[i]'il3).k := ⟨_, rfl⟩
      rw [← hsk] at hkk key3
      have hk23 : (sk == 23) = false := by simp; exact hkk.1
      have hk24 : (sk == 24) = false := by simp; exact hkk.2
      have HB := Lib.hid hb.out
      have HKI := Lib.hid hki.out
      obtain ⟨W1, hW1⟩ : ∃ W1, W1 = ((wr.alloc (.cells #[.bool true, .bool is, .int .i64 nn, .int .i64 kb, .bool nb, .slice ab mb cb, .int .u64 bb, .string xb, .slice pb qb rb, .slice none 0 0] 37)).alloc (.cells #[.bool true, .bool is, .int .i64 nn, .int .i64 ka, .bool na, .slice aa ma ca, .int .u64 ba, .string xa, .slice pa qa ra, .slice none 0 0] 37)) := ⟨_, rfl⟩
      have hb1 : Below wr.heap.size wr W1 := by rw [hW1]; exact ((Below.refl _ wr).alloc (Nat.le_refl _) _).alloc (by simp) _
      have HX8 : Hid (Blk W1 wr.heap.size 37 #[.bool true, .bool is, .int .i64 nn, .int .i64 kb, .bool nb, .slice ab mb cb, .int .u64 bb, .string xb, .slice pb qb rb, .slice none 0 0]) := by rw [hW1]; exact (Blk.new wr _ _).alloc _
      have HX9 : Hid (Blk W1 (wr.heap.size + 1) 37 #[.bool true, .bool is, .int .i64 nn, .int .i64 ka, .bool na, .slice aa ma ca, .int .u64 ba, .string xa, .slice pa qa ra, .slice none 0 0]) := by rw [hW1]; exact Blk.new_at _ _ _ (by simp)
      have HB1 := Lib.hid hb1
      have HK3 := Lib.hid key3
      have HL3 := Lib.hid l3
      unfold pv at HSA
      clear key1 key2 hca hcb hva hvb hae hkk hsml hy hsk hb hki q1 q2 q3 il1 il2 il3 hb1
      go_upto_region 7 with fail
      rw [← hW1]
      clear hW1 x0 x1 x2 x3 x4 x5 x6 x7 x8 x9 y0 y1 y2 y3 y4 y5 y6 y7 y8 y9
      clear l1 l2 l3
      cases is with
      | false =>
        obtain ⟨x0, x1, x2, x3, x4, x5, x6, x7, x8, x9, _⟩ := blk_ten HX8.out
        obtain ⟨y0, y1, y2, y3, y4, y5, y6, y7, y8, y9, _⟩ := blk_ten HX9.out
        go_wp2_with (first
          | (go_at_call 17; refine (same_nil _).mono ?_; rintro e w2 ⟨rfl, hb2⟩; have HB2 := Lib.hid (HB1.out.trans (hb2.mono HB1.out.size)); obtain ⟨s0, s1, s2, s3, s4, s5, s6, s7, s8, s9, _⟩ := blk_ten (HX8.out.below hb2 HX8.out.lt); obtain ⟨t0, t1, t2, t3, t4, t5, t6, t7, t8, t9, _⟩ := blk_ten (HX9.out.below hb2 HX9.out.lt); have kc := (HB2.out.cell (p := ⟨g3, i * 17, none⟩) HL3.out).trans HK3.out; clear hb2)
          | (go_at_call 19; refine (HSA.out _ HB2.out).mono ?_; rintro e w3 ⟨rfl, hb3⟩; have HB3 := Lib.hid (HB.out.trans ((HB2.out.trans (hb3.mono HB2.out.size)).mono HB.out.size)); clear hb3))
        go_roundg (n - (i + 1))
        case measure => have := HKI.out; omega
        case rel => exact ⟨i + 1, by go_num, (by have := HKI.out; show n - (i + 1) + (i + 1) = n; omega), HB3.out⟩
      | true =>
        obtain ⟨x0, x1, x2, x3, x4, x5, x6, x7, x8, x9, _⟩ := blk_ten HX8.out
        obtain ⟨y0, y1, y2, y3, y4, y5, y6, y7, y8, y9, _⟩ := blk_ten HX9.out
        go_wp2_with (first
          | (go_at_call 17; refine (same_nil _).mono ?_; rintro e w2 ⟨rfl, hb2⟩; have HB2 := Lib.hid (HB1.out.trans (hb2.mono HB1.out.size)); obtain ⟨s0, s1, s2, s3, s4, s5, s6, s7, s8, s9, _⟩ := blk_ten (HX8.out.below hb2 HX8.out.lt); obtain ⟨t0, t1, t2, t3, t4, t5, t6, t7, t8, t9, _⟩ := blk_ten (HX9.out.below hb2 HX9.out.lt); have kc := (HB2.out.cell (p := ⟨g3, i * 17, none⟩) HL3.out).trans HK3.out; clear hb2)
          | (go_at_call 19; refine (HSA.out _ HB2.out).mono ?_; rintro e w3 ⟨rfl, hb3⟩; have HB3 := Lib.hid (HB.out.trans ((HB2.out.trans (hb3.mono HB2.out.size)).mono HB.out.size)); clear hb3))
        go_roundg (n - (i + 1))
        case measure => have := HKI.out; omega
        case rel => exact ⟨i + 1, by go_num, (by have := HKI.out; show n - (i + 1) + (i + 1) = n; omega), HB3.out⟩
    · obtain rfl : i = n := by have := hki.out; omega
      have HB9 := Lib.hid hb.out
      have hd : decide ((i : Int) < (i : Int)) = false := by simp
      clear hb
      go_wp2
      go_ret
      exact ⟨rfl, HB9.out⟩
end Go.Proofs.YteibkaonofkcbaaGreat
