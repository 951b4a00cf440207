/- The thin package's split. -/
import Derived.Test.YteibkaonofkcbaaGreatDoorZzSplit
import Derived.Test.YteibkaonofkcbaaGreatDoorBoundsT
namespace Go.Proofs.YteibkaonofkcbaaGreatDoor
open Go.RowKit
attribute [local go_sem ↓] Go.wp_at_zero Go.wp_at_succ
theorem joinL_many (p : List UInt8) (hp : p ≠ []) : ∀ ts : List ByteArray, ts.length ≤ (joinL p ts).length + 1
  | [] => by simp
  | [x] => by simp
  | x :: y :: r => by
    have ih := joinL_many p hp (y :: r)
    have h1 : 1 ≤ p.length := by
      cases p with
      | nil => exact absurd rfl hp
      | cons a l => simp
    rw [show joinL p (x :: y :: r) = x.data.toList ++ (p ++ joinL p (y :: r)) from rfl]
    simp only [List.length_append, List.length_cons] at ih ⊢
    omega
def nameOf (back : Bool) : ByteArray := if back then ⟨#[114, 115, 112, 108, 105, 116]⟩ else ⟨#[115, 112, 108, 105, 116]⟩
def newsOf : Option Int → List Value
  | none => []
  | some n => [.iface 107 (.agg #[.int .i64 n, .pointer none])]
def TextSPost (s p : ByteArray) (c : Option Int) (w : World) (e : Ending) (w' : World) : Prop :=
  ∃ v ts, e = .returned (.tuple #[v, .bool true, .bool true]) ∧ RowT w' w.heap.size v ts ∧ joinL p.data.toList ts = s.data.toList ∧ ts ≠ [] ∧ ts.length ≤ 1001 ∧ (∀ n, c = some n → 0 ≤ n → (ts.length : Int) ≤ n + 1) ∧ Below w.heap.size w w'
theorem TextSPost.from {s p : ByteArray} {c : Option Int} {w w1 w' : World} {v : Value} {ts : List ByteArray} (hr : RowT w' w1.heap.size v ts) (h1 : joinL p.data.toList ts = s.data.toList) (h2 : ts ≠ []) (h3 : ts.length ≤ 1001) (h4 : ∀ n, c = some n → 0 ≤ n → (ts.length : Int) ≤ n + 1) (hb : Below w.heap.size w w1) (hb2 : Below w1.heap.size w1 w') : TextSPost s p c w (.returned (.tuple #[v, .bool true, .bool true])) w' := by
  refine ⟨v, ts, rfl, ⟨hr.1, ?_⟩, h1, h2, h3, h4, hb.trans (hb2.mono hb.size)⟩
  rcases hr.2 with h0 | ⟨g, cap, cur, hv, hbb, hr⟩
  · exact .inl h0
  · exact .inr ⟨g, cap, cur, hv, Nat.le_trans hb.size hbb, hr⟩
set_option maxRecDepth 100000 in
set_option maxHeartbeats 4000000 in
theorem text_split (back : Bool) (s p : ByteArray) (D cD B : Nat) (v : Value) (c : Option Int) (w : World) (hs : s.size ≤ 1000) (hp : p.size ≤ 1000) (hp1 : 1 ≤ p.size) (hc : ∀ n, c = some n → -1000 ≤ n ∧ n ≤ 999)
    (hD : w.cell? ⟨D, 0, none⟩ = some (.string p)) (hv : CntV w B v c) :
    Calls Tryz.prog 7 #[.bool back, .string s, .slice (some ⟨D, 0, none⟩) 1 cD, v] w (TextSPost s p c w) := by
  have hDl : D < w.heap.size := World.block_lt_of_cell? w _ hD
  have HBN := Lib.hid (bounds_cnt B v c w hv (fun n hn => by have := hc n hn; omega))
  have HC := Lib.hid hc
  have HD := Lib.hid hD
  have HNAME : Hid (nameOf back = ⟨#[115, 112, 108, 105, 116]⟩ ∨ nameOf back = ⟨#[114, 115, 112, 108, 105, 116]⟩) := by
    cases back
    · exact .inl rfl
    · exact .inr rfl
  clear hv hc hD
  go_enter Tryz.func7, Tryz.ntmps7
  go_upto_if 15 with fail
  go_cut [11] (fun x wx => x = .string (nameOf back) ∧ wx = w)
  case first =>
    cases back
    · go_wp2
      go_meet
      exact ⟨rfl, rfl⟩
    · go_wp2
      go_meet
      exact ⟨rfl, rfl⟩
  case rest =>
    obtain ⟨rfl, rfl⟩ := hcut
    go_wp2_with fail
    refine HBN.out.mono ?_
    rintro e w1 ⟨g, m, cc, rfl, hm, hcell, hg, hb1⟩
    have HM := Lib.hid hm
    have HCELL := Lib.hid hcell
    have HB1 := Lib.hid hb1
    have hd1 : w1.cell? ⟨D, 0, none⟩ = some (.string p) := (hb1.cell (p := ⟨D, 0, none⟩) hDl).trans HD.out
    have HTX := Lib.hid (texts_any (some ⟨D, 0, none⟩) 1 cD [p] w1 (fun j x hx => by
      match j, hx with
      | 0, hx =>
        simp at hx
        subst hx
        exact ⟨D, rfl, hd1⟩) rfl (by omega))
    clear hm hcell hb1 hd1 HBN
    go_wp2_with fail
    refine HTX.out.mono ?_
    rintro e w2 ⟨v2, rfl, hr2, hb2⟩
    have HR2 := Lib.hid hr2
    have HB2 := Lib.hid hb2
    clear hr2 hb2 HTX
    have HNS : Hid ((newsOf c).length = m) := by
      have := HM.out
      unfold Hid
      cases c <;> (unfold cntPN at this; simp at this; unfold newsOf; simp; omega)
    have HSRC : Hid (∀ j u, (newsOf c)[j]? = some u → w2.cell? ((⟨g, 0, none⟩ : Addr).add j) = some u) := by
      intro j u hj
      cases c with
      | none => simp [newsOf] at hj
      | some n =>
        match j, hj with
        | 0, hj =>
          simp [newsOf] at hj
          subst hj
          rw [Addr.add_lit]
          exact (HB2.out.cell (p := ⟨g, 0, none⟩) hg).trans (HCELL.out n rfl)
    have hone : ∀ u ∈ newsOf c, u.oneCell' = true := by
      intro u hu
      cases c with
      | none => simp [newsOf] at hu
      | some n =>
        simp [newsOf] at hu
        subst hu
        rfl
    obtain ⟨i0, hi0, hz0, hz1, hz2⟩ := Tryz.infoTV
    have hm1 : m ≤ 1 := by have := HM.out; unfold cntPN at this; split at this <;> omega
    go_wp2_with (at_builtin; refine wpList_append_own _ rfl (.tmp 40) (.tmp 41) _ rfl w1.heap.size 49 i0 _ 1 16 Tryz.underlying41 hi0 hz0 hz1 hz2 rfl (by decide) v2 1 [txV p] rfl HR2.out ⟨g, 0, none⟩ m cc (newsOf c) rfl (by rw [HNS.out, Nat.mul_one]) HSRC.out hone (by unfold maxLen; omega) (by omega) HB2.out.size ?_; intro v3 w3 hown3 hg3 _; rw [Nat.add_comm 1 m] at hown3; obtain ⟨A, ca, hv3, _, hA3, hc3⟩ := own_row hown3; have HB3 := Lib.hid (HB2.out.grown hg3 HB2.out.size (fun k hk => ((show w2.ownsRow w1.heap.size 49 1 v2 1 [txV p] from HR2.out).lt k hk).1)); subst hv3; clear hg3)
    have HARGS : Hid (SplitArgs w3 A p c) := by
      refine ⟨hA3, hc3 0 _ rfl, fun n hn => hc3 1 _ ?_⟩
      subst hn
      rfl
    rw [HM.out]
    clear hown3 hA3 hc3 hone HSRC
    refine (zz_split_pub s p _ A ca c _ hs hp hp1 HC.out HARGS.out HNAME.out).mono ?_
    rintro e w4 ⟨L, a, n, c4, ts, rfl, h1, h2, h3, h4, h5, h6, h7, hb4⟩
    have HR4 := Lib.hid (And.intro h5 (And.intro h6 h7))
    have hnl : n ≤ 1001 := by
      have := joinL_many p.data.toList (by intro h; have hz : p.data.toList.length = p.size := (by simp); rw [h] at hz; change 0 = p.size at hz; omega) ts
      rw [h5] at this
      simp at this
      omega
    have HOF := Lib.hid (of_texts L n c4 a ts w4 h1 h2 h3 (by omega))
    have HB4 := Lib.hid (HB3.out.trans (hb4.mono HB3.out.size))
    have HLN := Lib.hid (And.intro h3 hnl)
    clear h1 h2 h3 h4 h5 h6 h7 hb4 hnl
    go_wp2_with fail
    refine HOF.out.mono ?_
    rintro e w5 ⟨v5, rfl, hr5, hb5⟩
    have HR5 := Lib.hid hr5
    have HB5 := Lib.hid hb5
    clear hr5 hb5
    go_wp2
    exact bodyPost_ret (v := .tuple #[v5, .bool true, .bool true]) (by simp [results, Tryz.results7, go_sem]) rfl <| TextSPost.from HR5.out HR4.out.1 HR4.out.2.1 (by rw [HLN.out.1]; exact HLN.out.2) HR4.out.2.2 (HB1.out.trans (HB4.out.mono HB1.out.size)) HB5.out
end Go.Proofs.YteibkaonofkcbaaGreatDoor
