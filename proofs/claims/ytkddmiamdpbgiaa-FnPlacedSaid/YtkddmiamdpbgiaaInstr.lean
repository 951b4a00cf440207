/- The reference's instructions of code; which of them bear an operand, which jump. -/
import Derived.Test.YtkddmiamdpbgiaaRead
namespace Go.Proofs.Ytkddmiamdpbgiaa
open Go.RowKit
theorem ci_len (ts : List (Nat × Nat)) : ∀ n, n ≤ ts.length → (ciCells ts n).length = 4 * n := by
  intro n
  induction n with
  | zero => intro _; rfl
  | succ n ih =>
    intro h
    rw [ci_next ts n (by omega), List.length_append, ih (by omega)]; simp; omega
theorem ci_at (ts : List (Nat × Nat)) : ∀ n, n ≤ ts.length → ∀ t (ht : t < n) (h : t < ts.length), (ciCells ts n)[t * 4]? = some (.int .i64 ((ts[t]'h).1 : Int)) ∧ (ciCells ts n)[t * 4 + 1]? = some (.int .i64 ((ts[t]'h).2 : Int)) ∧ (ciCells ts n)[t * 4 + 2]? = some (.int .i64 (tokAt ts t : Int)) ∧ (ciCells ts n)[t * 4 + 3]? = some (.int .i64 (tokAt ts (t + 1) : Int)) := by
  intro n
  induction n with
  | zero => intro _ t ht; omega
  | succ n ih =>
    intro hn t ht h
    have hl := ci_len ts n (by omega)
    rw [ci_next ts n (by omega)]
    by_cases e : t = n
    · subst e
      refine ⟨?_, ?_, ?_, ?_⟩
      · rw [List.getElem?_append_right (by omega), hl, show t * 4 - 4 * t = 0 by omega]; rfl
      · rw [List.getElem?_append_right (by omega), hl, show t * 4 + 1 - 4 * t = 1 by omega]; rfl
      · rw [List.getElem?_append_right (by omega), hl, show t * 4 + 2 - 4 * t = 2 by omega]; rfl
      · rw [List.getElem?_append_right (by omega), hl, show t * 4 + 3 - 4 * t = 3 by omega]; rfl
    · obtain ⟨h0, h1, h2, h3⟩ := ih (by omega) t (by omega) h
      refine ⟨?_, ?_, ?_, ?_⟩
      · rw [List.getElem?_append_left (by omega)]; exact h0
      · rw [List.getElem?_append_left (by omega)]; exact h1
      · rw [List.getElem?_append_left (by omega)]; exact h2
      · rw [List.getElem?_append_left (by omega)]; exact h3
/-- The cells of the instructions: operation, operand, size. -/
def inCells (ts : List (Nat × Nat)) : List Value := (ts.map fun t => [Value.int .i64 (t.1 : Int), .int .i64 (t.2 : Int), .int .i64 ((tokBytes t).length : Int)]).flatten
theorem in_next (ts : List (Nat × Nat)) (t : Nat) (h : t < ts.length) : inCells (ts.take (t + 1)) = inCells (ts.take t) ++ [Value.int .i64 ((ts[t]'h).1 : Int), .int .i64 ((ts[t]'h).2 : Int), .int .i64 ((tokBytes (ts[t]'h)).length : Int)] := by
  unfold inCells
  rw [List.take_succ_eq_append_getElem h, List.map_append, List.flatten_append]
  simp only [List.map_cons, List.map_nil, List.flatten_cons, List.flatten_nil, List.append_nil]
theorem Try.infoInstr : (Try.prog.info? 50).map (fun i => (i.zero, i.size, i.bytes)) = some (some (.agg #[.int .i64 0, .int .i64 0, .int .i64 0]), 3, 24) := by kernel_rfl
def InstrPost (ts : List (Nat × Nat)) (w : World) (e : Ending) (w' : World) : Prop :=
  ∃ vl, e = .returned (.tuple #[vl, .bool true]) ∧ w'.ownsRow w.heap.size 50 3 vl ts.length (inCells ts) ∧ Below w.heap.size w w'
set_option maxRecDepth 100000 in
set_option maxHeartbeats 4000000 in
theorem instr_any (B g c m : Nat) (ts : List (Nat × Nat)) (w : World) (hb : OB w B (.slice (some ⟨g, 0, none⟩) m c) (readOf ts)) (hm : m = (readOf ts).length) (hm2 : m ≤ 2000) (hts : ∀ t ∈ ts, t.1 ≤ 67 ∧ t.2 < 268435456 ∧ (t.1 < 43 → t.2 = 0)) :
    Calls Try.prog 13 #[.slice (some ⟨g, 0, none⟩) m c] w (InstrPost ts w) := by
  obtain ⟨i0, hi0, hz0, hz1, hz2⟩ := info_parts Try.infoInstr
  have HRD := Lib.hid (code_read B g c m ts w hb hm hm2 hts)
  obtain ⟨n, hn⟩ : ∃ n, n = ts.length := ⟨_, rfl⟩
  have hn2 : n ≤ 2000 := by rw [hn]; have := toks_len_le ts; omega
  have HN := Lib.hid hn
  have HM := Lib.hid hm
  clear hb hts hn hm
  go_enter Try.func13, Try.ntmps13
  go_wp2_with fail
  refine HRD.out.mono ?_
  rintro e w1 ⟨vl, va, rfl, hrow, hb1⟩
  rw [← HN.out] at hrow
  have HROW := Lib.hid hrow
  have HB1 := Lib.hid hb1
  obtain ⟨al, cl, hvl⟩ := own_form hrow
  subst hvl
  have HCELL : Hid (∀ t (h : t < ts.length), ∃ I, al = some ⟨I, 0, none⟩ ∧ I < w1.heap.size ∧ w1.cell? ⟨I, t * 4, none⟩ = some (.int .i64 ((ts[t]'h).1 : Int)) ∧ w1.cell? ⟨I, t * 4 + 1, none⟩ = some (.int .i64 ((ts[t]'h).2 : Int)) ∧ w1.cell? ⟨I, t * 4 + 2, none⟩ = some (.int .i64 (tokAt ts t : Int)) ∧ w1.cell? ⟨I, t * 4 + 3, none⟩ = some (.int .i64 (tokAt ts (t + 1) : Int))) := by
    intro t h
    rcases hrow.2 with ⟨hv, h0⟩ | ⟨I, cap, cur, hv, hb, hh, _⟩
    · exfalso; rw [HN.out] at h0; omega
    · injection hv with e1 e2 e3
      obtain ⟨f0, f1, f2, f3⟩ := ci_at ts n (by rw [HN.out]; exact Nat.le_refl _) t (by rw [HN.out]; exact h) h
      have hc := fun k u (hk : (ciCells ts n)[k]? = some u) => hrow.cells (g := I) (by rw [e1]; simp [Value.ownBlock]) k u hk
      refine ⟨I, e1, (Array.getElem?_eq_some_iff.1 hh).1, ?_, ?_, ?_, ?_⟩
      · have := hc _ _ f0; rw [Addr.add_lit] at this; simpa using this
      · have := hc _ _ f1; rw [Addr.add_lit] at this; simpa using this
      · have := hc _ _ f2; rw [Addr.add_lit] at this; simpa using this
      · have := hc _ _ f3; rw [Addr.add_lit] at this; simpa using this
  clear hrow hb1
  go_wp2_with fail
  go_loopg [7, 18] n (fun k vi jv wr => ∃ t : Nat, jv = .int .i64 (t : Int) ∧ k + t = n ∧ Hid (wr.ownsRow w1.heap.size 50 3 vi t (inCells (ts.take t))) ∧ Hid (Below w1.heap.size w1 wr))
  case atStart => exact ⟨0, rfl, by omega, World.ownsRow_nil _ _ _ _, Below.refl _ _⟩
  case round =>
    obtain ⟨t, rfl, hk, hrow, hbw⟩ := hrel
    have HK := Lib.hid hk
    clear hk
    by_cases htn : t < n
    · have htl : t < ts.length := by rw [← HN.out]; exact htn
      have hd : decide ((t : Int) < (n : Int)) = true := by simp; omega
      obtain ⟨I, rfl, hI, c0, c1, c2, c3⟩ := HCELL.out t htl
      have q0 := (hbw.out.cell (p := ⟨I, t * 4, none⟩) hI).trans c0
      have q1 := (hbw.out.cell (p := ⟨I, t * 4 + 1, none⟩) hI).trans c1
      have q2 := (hbw.out.cell (p := ⟨I, t * 4 + 2, none⟩) hI).trans c2
      have q3 := (hbw.out.cell (p := ⟨I, t * 4 + 3, none⟩) hI).trans c3
      have HNX := Lib.hid (in_next ts t htl)
      have hta := tokAt_succ ts t htl
      have htb := tokAt_le ts (t + 1)
      obtain ⟨tk, htk⟩ : ∃ tk, tk = ts[t]'htl := ⟨_, rfl⟩
      rw [← htk] at HNX hta
      simp only [← htk] at q0 q1
      obtain ⟨op, arg⟩ := tk
      obtain ⟨sz, hsz⟩ : ∃ sz, sz = (tokBytes (op, arg)).length := ⟨_, rfl⟩
      rw [← hsz] at HNX hta
      obtain ⟨a, ha⟩ : ∃ a, a = tokAt ts t := ⟨_, rfl⟩
      obtain ⟨b, hb⟩ : ∃ b, b = tokAt ts (t + 1) := ⟨_, rfl⟩
      rw [← ha, ← hb] at hta
      rw [← ha] at q2
      rw [← hb] at q3 htb
      have hab : (b : Int) - (a : Int) = (sz : Int) := by omega
      have hb2 : b ≤ 2000 := by have := HM.out; omega
      have ha2 : a ≤ 2000 := by omega
      simp only at q0 q1
      have HR2 := Lib.hid (hrow.out.alloc (.cells #[.int .i64 (op : Int), .int .i64 (arg : Int), .int .i64 (a : Int), .int .i64 (b : Int)] 96))
      have hszw := HB1.out.size
      have hszw2 := hbw.out.size
      have HB2 := Lib.hid (hbw.out.alloc hszw2 (.cells #[.int .i64 (op : Int), .int .i64 (arg : Int), .int .i64 (a : Int), .int .i64 (b : Int)] 96))
      clear c0 c1 c2 c3 htk hsz ha hb hta htb
      go_wp2_with (at_builtin; refine wpList_append_row_at rfl (.tmp 22) (.tmp 33) 45 rfl (wr.alloc (.cells #[.int .i64 (op : Int), .int .i64 (arg : Int), .int .i64 (a : Int), .int .i64 (b : Int)] 96)) (wr.heap.size + 1) (by simp) w1.heap.size 50 i0 _ 24 3 Try.underlying45 hi0 hz0 hz1 hz2 rfl (by decide) _ t (inCells (ts.take t)) HR2.out rfl [.int .i64 (op : Int), .int .i64 (arg : Int), .int .i64 (sz : Int)] rfl (by simp [Value.oneCell']) rfl rfl (by unfold maxLen; omega) (by omega) (by omega) ?_; intro v6 w6 hown6 hb6 hg6)
      have HR6 : Hid (w6.ownsRow w1.heap.size 50 3 v6 (t + 1) (inCells (ts.take (t + 1)))) := by unfold Hid; rw [HNX.out]; exact hown6
      have HB6 := Lib.hid (HB2.out.trans hb6)
      clear hown6 hb6 hg6
      go_roundg (n - (t + 1))
      case measure => have := HK.out; omega
      case rel => exact ⟨t + 1, by go_num, by have := HK.out; omega, HR6.out, HB6.out⟩
    · obtain rfl : t = n := by have := HK.out; omega
      have HR := Lib.hid hrow.out
      have HB9 := Lib.hid (HB1.out.trans (hbw.out.mono HB1.out.size))
      clear hrow hbw
      go_wp2
      go_ret2
      refine ⟨_, rfl, ?_, HB9.out⟩
      have h := own_base HR.out HB1.out.size
      rw [HN.out, List.take_length] at h
      exact h
end Go.Proofs.Ytkddmiamdpbgiaa
