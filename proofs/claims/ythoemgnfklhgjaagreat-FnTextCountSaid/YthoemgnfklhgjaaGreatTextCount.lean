/- impl.TextCount. -/
import Derived.Test.YthoemgnfklhgjaaGreatCountCall
namespace Go.Proofs.YthoemgnfklhgjaaGreat
open Go.RowKit
attribute [local go_sem ↓] Go.wp_at_zero Go.wp_at_succ
theorem PVal.base {w : World} {B C : Nat} {v : Value} {s : Sc} (h : PVal w B v s) (hC : C ≤ B) : PVal w C v s := by
  cases s with
  | none => exact h
  | int n => obtain ⟨neg, l, h1, h2⟩ := h; exact ⟨neg, l, h1.base hC, h2⟩
  | str t => exact h
theorem own_row {w : World} {B n : Nat} {e : TypeId} {v : Value} {xs : List Value} (h : w.ownsRow B e 1 v (n + 1) xs) : ∃ g c, v = .slice (some ⟨g, 0, none⟩) (n + 1) c ∧ g < w.heap.size ∧ ∀ k u, xs[k]? = some u → w.cell? ⟨g, k, none⟩ = some u := by
  rcases h.2 with ⟨_, h0⟩ | ⟨g, cap, cur, rfl, hb, hh, _⟩
  · exact absurd h0 (by omega)
  · refine ⟨g, cap, rfl, (Array.getElem?_eq_some_iff.1 hh).1, fun k u hk => ?_⟩
    have := h.cells (g := g) rfl k u hk
    rw [Addr.add_lit] at this
    simpa using this
def TcPost (r : Option Nat) (w : World) (e : Ending) (w' : World) : Prop :=
  (e = .returned (.tuple #[.int .i64 ((r.getD 0 : Nat) : Int), .bool r.isSome, .bool true])) ∧ Below w.heap.size w w'
set_option maxRecDepth 100000 in
set_option maxHeartbeats 4000000 in
theorem text_count (s t : ByteArray) (B1 B2 : Nat) (v1 v2 : Value) (s1 s2 : Sc) (w : World) (hs : AsciiT s) (ht : t.size ≤ 60) (h1 : s1.ok) (h2 : s2.ok) (hv1 : PVal w B1 v1 s1) (hv2 : PVal w B2 v2 s2) :
    Calls Tryz.prog 9 #[.string s, .string t, v1, v2] w (TcPost (countR s t s1 s2) w) := by
  have HP1 := Lib.hid hv1
  have HP2 := Lib.hid hv2
  obtain ⟨n1, a1, m1, c1, x1, rfl⟩ := hv1.pv
  obtain ⟨n2, a2, m2, c2, x2, rfl⟩ := hv2.pv
  obtain ⟨k1, hk1⟩ : ∃ k, k = kindOf s1 := ⟨_, rfl⟩
  obtain ⟨k2, hk2⟩ : ∃ k, k = kindOf s2 := ⟨_, rfl⟩
  rw [← hk1] at HP1 ⊢
  rw [← hk2] at HP2 ⊢
  have HK1 := Lib.hid hk1
  have HK2 := Lib.hid hk2
  clear hv1 hv2 hk1 hk2
  unfold pv
  go_enter Tryz.func9, Tryz.ntmps9
  go_wp2_with fail
  have HB0 := Lib.hid ((((Below.refl w.heap.size w).alloc (Nat.le_refl _) (.cells #[.int .i64 k1, .bool n1, .slice a1 m1 c1, .int .u64 0, .string x1, .slice none 0 0] 26)).alloc (by simp) (.cells #[.int .i64 k2, .bool n2, .slice a2 m2 c2, .int .u64 0, .string x2, .slice none 0 0] 26)).alloc (by simp; omega) (.cells #[.int .i64 k1, .bool n1, .slice a1 m1 c1, .int .u64 0, .string x1, .slice none 0 0, .int .i64 k2, .bool n2, .slice a2 m2 c2, .int .u64 0, .string x2, .slice none 0 0] 26))
  have hK := Blk.new_at ((w.alloc (.cells #[.int .i64 k1, .bool n1, .slice a1 m1 c1, .int .u64 0, .string x1, .slice none 0 0] 26)).alloc (.cells #[.int .i64 k2, .bool n2, .slice a2 m2 c2, .int .u64 0, .string x2, .slice none 0 0] 26)) 26 #[.int .i64 k1, .bool n1, .slice a1 m1 c1, .int .u64 0, .string x1, .slice none 0 0, .int .i64 k2, .bool n2, .slice a2 m2 c2, .int .u64 0, .string x2, .slice none 0 0] (n := w.heap.size + 1 + 1) (by simp)
  refine (bounds_any 0 (w.heap.size + 1 + 1) 2 2 [s1, s2] _ ⟨hK.lt, ?_⟩ rfl (by intro s hs; simp at hs; rcases hs with rfl | rfl <;> assumption) (by omega)).mono ?_
  · intro i hi
    match i, hi with
    | 0, _ =>
      refine ⟨n1, a1, m1, c1, x1, ?_, ?_, (hK.cell 1).trans rfl, (hK.cell 2).trans rfl, (hK.cell 3).trans rfl, (hK.cell 4).trans rfl, (hK.cell 5).trans rfl⟩
      · rw [HK1.out] at HP1; exact (HP1.out.base (Nat.zero_le _)).below HB0.out
      · exact (hK.cell 0).trans (congrArg (fun k => some (Value.int .i64 k)) HK1.out)
    | 1, _ =>
      refine ⟨n2, a2, m2, c2, x2, ?_, ?_, (hK.cell 7).trans rfl, (hK.cell 8).trans rfl, (hK.cell 9).trans rfl, (hK.cell 10).trans rfl, (hK.cell 11).trans rfl⟩
      · rw [HK2.out] at HP2; exact (HP2.out.base (Nat.zero_le _)).below HB0.out
      · exact (hK.cell 6).trans (congrArg (fun k => some (Value.int .i64 k)) HK2.out)
  rintro e w2 ⟨v, rfl, hown, hb2⟩
  obtain ⟨g, cg, hvg, hgl, hgc⟩ := own_row hown
  subst hvg
  obtain ⟨t1, u1, hu1⟩ := sv_iface s1
  obtain ⟨t2, u2, hu2⟩ := sv_iface s2
  have r0 : w2.cell? ⟨g, 0, none⟩ = some (.iface t1 u1) := hgc 0 _ (by simp [hu1])
  have r1 : w2.cell? ⟨g, 1, none⟩ = some (.iface t2 u2) := hgc 1 _ (by simp [hu2])
  have HB2 := Lib.hid (HB0.out.trans (hb2.mono HB0.out.size))
  have HU1 := Lib.hid hu1
  have HU2 := Lib.hid hu2
  clear hK hown hb2 hgc hu1 hu2
  go_wp2_with fail
  have HZ := Lib.hid (zz_count_pub s t w2.heap.size 3 s1 s2 ((w2.alloc (.cells #[.iface 58 (.string t), .iface t1 u1, .iface t2 u2] 53)).drew) hs ht h1 h2 (by
    have k := (Blk.new w2 53 #[.iface 58 (.string t), .iface t1 u1, .iface t2 u2]).drew
    rw [HU1.out, HU2.out]
    exact ⟨(k.cell 0).trans rfl, (k.cell 1).trans rfl, (k.cell 2).trans rfl⟩))
  have HC0 : Hid (Below w2.heap.size w2 ((w2.alloc (.cells #[.iface 58 (.string t), .iface t1 u1, .iface t2 u2] 53)).drew))   := ((Below.refl w2.heap.size w2).alloc (Nat.le_refl _) _).drew
  have HCL : Hid (∀ W, Below w2.heap.size w2 W → W.cell? ⟨g, 0, none⟩ = some (.iface t1 u1) ∧ W.cell? ⟨g, 1, none⟩ = some (.iface t2 u2)) := fun W hW => ⟨(hW.cell (p := ⟨g, 0, none⟩) hgl).trans r0, (hW.cell (p := ⟨g, 1, none⟩) hgl).trans r1⟩
  obtain ⟨r, hr0⟩ : ∃ r, r = countR s t s1 s2 := ⟨_, rfl⟩
  rw [← hr0] at HZ
  have HR0 := Lib.hid hr0
  clear hr0
  cases r with
  | some n =>
    have HY : Hid (Calls Tryz.prog 18 #[.string s, .slice (some ⟨w2.heap.size, 0, none⟩) 3 3] ((w2.alloc (.cells #[.iface 58 (.string t), .iface t1 u1, .iface t2 u2] 53)).drew) fun e w' => e = .returned (.tuple #[.iface 72 (.agg #[.int .i64 (n : Int), .pointer none]), .nilIface]) ∧ Below w2.heap.size w2 w') := by
      refine HZ.out.mono ?_
      rintro e w3 ⟨hr, hb3⟩
      rcases hr with ⟨n', hn, h⟩ | ⟨hn, h⟩
      · obtain rfl := Option.some.inj hn; exact ⟨h, HC0.out.trans (hb3.mono HC0.out.size)⟩
      · exact absurd hn (by simp)
    have tok1 : True := trivial
    clear HZ
    go_region_held3 (fun W => W.cell? ⟨g, 0, none⟩ = some (.iface t1 u1) ∧ W.cell? ⟨g, 1, none⟩ = some (.iface t2 u2)) (first | go_keep | exact HCL.out _ HB4.out | exact HCL.out _ HB3.out)
      (first
      | (go_at_call 18; have _t := tok1; refine HY.out.mono ?_; rintro e w3 ⟨rfl, hb3⟩; have HB3 := Lib.hid hb3; clear _t tok1 hb3)
      | (go_at_call 17; refine (of_number (n : Int) _).mono ?_; rintro e w4 ⟨rfl, hb4⟩; have HB4 := Lib.hid (HB3.out.trans (hb4.mono HB3.out.size)); clear hb4))
    all_goals
      have HBF := Lib.hid (HB2.out.trans (HB4.out.mono HB2.out.size))
      go_wp2
      refine bodyPost_ret (v := .tuple #[.int .i64 (n : Int), .bool true, .bool true]) (by simp [results, Tryz.results9, go_sem]) rfl ⟨by rw [← HR0.out]; rfl, HBF.out⟩
  | none =>
    have HY : Hid (Calls Tryz.prog 18 #[.string s, .slice (some ⟨w2.heap.size, 0, none⟩) 3 3] ((w2.alloc (.cells #[.iface 58 (.string t), .iface t1 u1, .iface t2 u2] 53)).drew) fun e w' => (∃ v, e = .returned (.tuple #[.nilIface, v]) ∧ ErrV v) ∧ Below w2.heap.size w2 w') := by
      refine HZ.out.mono ?_
      rintro e w3 ⟨hr, hb3⟩
      rcases hr with ⟨n', hn, h⟩ | ⟨hn, h⟩
      · exact absurd hn (by simp)
      · exact ⟨h, HC0.out.trans (hb3.mono HC0.out.size)⟩
    have tok1 : True := trivial
    clear HZ
    go_region_held3 (fun W => W.cell? ⟨g, 0, none⟩ = some (.iface t1 u1) ∧ W.cell? ⟨g, 1, none⟩ = some (.iface t2 u2)) (first | go_keep | exact HCL.out _ HB4.out | exact HCL.out _ HB3.out)
      (first
      | (go_at_call 18; have _t := tok1; refine HY.out.mono ?_; rintro e w3 ⟨⟨v3, rfl, hv3⟩, hb3⟩; have HV3 := Lib.hid hv3; obtain ⟨k3, hk3⟩ := hv3; subst hk3; have HB3 := Lib.hid hb3; clear _t tok1 hb3)
      | (go_at_call 17; refine (of_number_no _ HV3.out _).mono ?_; rintro e w4 ⟨rfl, hb4⟩; have HB4 := Lib.hid (HB3.out.trans (hb4.mono HB3.out.size)); clear hb4))
    all_goals
      have HBF := Lib.hid (HB2.out.trans (HB4.out.mono HB2.out.size))
      go_wp2
      refine bodyPost_ret (v := .tuple #[.int .i64 0, .bool false, .bool true]) (by simp [results, Tryz.results9, go_sem]) rfl ⟨by rw [← HR0.out]; rfl, HBF.out⟩
end Go.Proofs.YthoemgnfklhgjaaGreat
