/- The place of an instruction: the search in the table. -/
import Derived.Test.YtkddmiamdpbgiaaOnce
namespace Go.Proofs.Ytkddmiamdpbgiaa
open Go.RowKit
/-- The table is read: it lies in block R. -/
def DoneAt (w : World) (G R : Nat) (fa : Option Addr) (ln c : Int) (v6 v7 : Value) (rows : List Nat) : Prop :=
  Blk w G 90 (funCells fa ln c v6 v7 (.int .u32 1) (.int .i32 0) (.int .u32 0) (.slice (some ⟨R, 0, none⟩) (undelta rows 0 ln c).length rows.length)) ∧ LntAt w R rows.length (undelta rows 0 ln c) ∧ G < R
def FnState (w : World) (G : Nat) (fa : Option Addr) (ln c : Int) (v6 v7 : Value) (rows : List Nat) : Prop :=
  Blk w G 90 (funCells fa ln c v6 v7 (.int .u32 0) (.int .i32 0) (.int .u32 0) (.slice none 0 0)) ∨ ∃ R, DoneAt w G R fa ln c v6 v7 rows
theorem DoneAt.below {w w' : World} {G R : Nat} {fa : Option Addr} {ln c : Int} {v6 v7 : Value} {rows : List Nat} (h : DoneAt w G R fa ln c v6 v7 rows) (hb : Below w.heap.size w w') : DoneAt w' G R fa ln c v6 v7 rows := by
  obtain ⟨h1, ⟨cur, a1, a2⟩, h3⟩ := h
  exact ⟨h1.below hb h1.lt, ⟨cur, a1.below hb a1.lt, a2⟩, h3⟩
theorem FnState.below {w w' : World} {G : Nat} {fa : Option Addr} {ln c : Int} {v6 v7 : Value} {rows : List Nat} (h : FnState w G fa ln c v6 v7 rows) (hb : Below w.heap.size w w') : FnState w' G fa ln c v6 v7 rows := by
  rcases h with h | ⟨R, h⟩
  · exact .inl (h.below hb h.lt)
  · exact .inr ⟨R, h.below hb⟩
theorem FnState.lt {w : World} {G : Nat} {fa : Option Addr} {ln c : Int} {v6 v7 : Value} {rows : List Nat} (h : FnState w G fa ln c v6 v7 rows) : G < w.heap.size := by
  rcases h with h | ⟨R, h⟩
  · exact h.lt
  · exact h.1.lt
theorem do_any (B G : Nat) (fa : Option Addr) (ln c : Int) (v6 v7 : Value) (rows : List Nat) (w : World)
    (hG : FnState w G fa ln c v6 v7 rows) (hT : NH B w v7 rows) (hr : rows.length ≤ 50000000) (hx : ∀ x ∈ rows, x < 65536) (hln : -100000 ≤ ln ∧ ln ≤ 100000) (hc : -100000 ≤ c ∧ c ≤ 100000) :
    Calls Try.prog 35 #[.pointer (some ⟨G, 16, none⟩), .func (.func 36) #[.pointer (some ⟨G, 0, none⟩)] #[]] w fun e w' => e = .returned (.tuple #[]) ∧ ∃ R, DoneAt w' G R fa ln c v6 v7 rows ∧ Only (· = G) w w' := by
  rcases hG with hG | ⟨R, hG⟩
  · have hl := hG.lt
    refine (do_first B G fa ln c v6 v7 rows w hG hT hr hx hln hc).mono ?_
    rintro e w' ⟨rfl, R, h1, h2, h3, h4⟩
    exact ⟨rfl, R, ⟨h2, h3, by omega⟩, h4⟩
  · have a := hG.1.cell 16
    refine (do_done ⟨G, 16, none⟩ 1 (by omega) _ w (by simpa [funCells] using a)).mono ?_
    rintro e w' ⟨rfl, rfl⟩
    exact ⟨rfl, R, hG, Only.refl _ _⟩
def IsLast (l : List (Nat × Int × Int)) (pc q : Nat) : Prop := ∃ h : q < l.length, (l[q]'h).1 ≤ pc ∧ ∀ m (hm : m < l.length), q < m → pc < (l[m]'hm).1
def Sorted (l : List (Nat × Int × Int)) : Prop := ∀ i j (hi : i < l.length) (hj : j < l.length), i < j → (l[i]'hi).1 < (l[j]'hj).1
def PosPost (G : Nat) (fa : Option Addr) (ln c : Int) (v6 v7 : Value) (rows : List Nat) (pc : Nat) (w : World) (e : Ending) (w' : World) : Prop :=
  ∃ line col : Int, e = .returned (.agg #[.pointer fa, .int .i32 line, .int .i32 col]) ∧ (∀ q (h : q < (undelta rows 0 ln c).length), IsLast (undelta rows 0 ln c) pc q → ((undelta rows 0 ln c)[q]'h).2 = (line, col)) ∧ (∃ R, DoneAt w' G R fa ln c v6 v7 rows) ∧ Only (· = G) w w'
theorem pos_end {w w1 : World} {G R : Nat} {fa : Option Addr} {ln c : Int} {v6 v7 : Value} {rows : List Nat} {a b d : Value} {o0 : Obj} (hD : DoneAt w1 G R fa ln c v6 v7 rows) (hO : Only (· = G) (w.alloc o0) w1) (hwl : w.heap.size < w1.heap.size)
    (hK : Blk w1 w.heap.size 71 #[a, b, d]) (y z : Value) (o : Obj) :
    Blk ((((w1.setCell ⟨w.heap.size, 0, none⟩ (.pointer fa)).setCell ⟨w.heap.size, 1, none⟩ y).setCell ⟨w.heap.size, 2, none⟩ z).alloc o) w.heap.size 71 #[.pointer fa, y, z] ∧
    DoneAt ((((w1.setCell ⟨w.heap.size, 0, none⟩ (.pointer fa)).setCell ⟨w.heap.size, 1, none⟩ y).setCell ⟨w.heap.size, 2, none⟩ z).alloc o) G R fa ln c v6 v7 rows ∧
    Only (· = G) w ((((w1.setCell ⟨w.heap.size, 0, none⟩ (.pointer fa)).setCell ⟨w.heap.size, 1, none⟩ y).setCell ⟨w.heap.size, 2, none⟩ z).alloc o) := by
  obtain ⟨k, hk⟩ := keeps_three hK (.pointer fa) y z
  obtain ⟨h1, ⟨cur, a1, a2⟩, h3⟩ := hD
  refine ⟨hk.alloc _, ⟨(k.blk h1 (by decide)).alloc _, ⟨cur, (k.blk a1 (by decide)).alloc _, a2⟩, h3⟩, ?_⟩
  exact (((((((Only.refl (· = G) w).alloc o0).trans hO).setCell (p := ⟨w.heap.size, 0, none⟩) (.inr (Nat.le_refl _)) _).setCell (p := ⟨w.heap.size, 1, none⟩) (.inr (Nat.le_refl _)) _).setCell (p := ⟨w.heap.size, 2, none⟩) (.inr (Nat.le_refl _)) _).alloc _)
set_option maxRecDepth 100000 in
set_option maxHeartbeats 4000000 in
theorem position_any (B G : Nat) (fa : Option Addr) (ln c : Int) (v6 v7 : Value) (rows : List Nat) (pc : Nat) (w : World)
    (hG : FnState w G fa ln c v6 v7 rows) (hT : NH B w v7 rows) (hr : rows.length ≤ 50000000) (hx : ∀ x ∈ rows, x < 65536) (hln : -100000 ≤ ln ∧ ln ≤ 100000) (hc : -100000 ≤ c ∧ c ≤ 100000)
    (hs : Sorted (undelta rows 0 ln c)) :
    Calls Try.prog 26 #[.pointer (some ⟨G, 0, none⟩), .int .u32 (pc : Int)] w (PosPost G fa ln c v6 v7 rows pc w) := by
  have hmf : ∀ (fn : Fn) (first cap : Array Value) (w : World), (Instr.makeFunc fn first cap).run Try.prog w = .ok (.func fn first cap) w := fun _ _ _ _ => rfl
  have hGl := hG.lt
  have HDO := Lib.hid (do_any B G fa ln c v6 v7 rows (w.alloc (.cells #[.pointer none, .int .i32 0, .int .i32 0] 71)) (hG.below ((Below.refl _ w).alloc (Nat.le_refl _) _)) (own_below hT ((Below.refl _ w).alloc (Nat.le_refl _) _)) hr hx hln hc)
  have HK := Lib.hid (Blk.new w 71 #[.pointer none, .int .i32 0, .int .i32 0])
  have HS := Lib.hid hs
  clear hG hT hx hs hln hc
  go_enter Try.func26, Try.ntmps26
  go_wp2_with fail
  refine HDO.out.mono ?_
  rintro e w1 ⟨rfl, R, hD, hO⟩
  have HD := Lib.hid hD
  have HO := Lib.hid hO
  have HK1 := Lib.hid (HK.out.only hO (by omega))
  have g19 := hD.1.cell 19
  have g1 := hD.1.cell 1
  have g2 := hD.1.cell 2
  have g3 := hD.1.cell 3
  simp only [funCells, List.getElem?_toArray, List.getElem?_cons_zero, List.getElem?_cons_succ] at g19 g1 g2 g3
  obtain ⟨pl, hpl⟩ : ∃ pl, pl = undelta rows 0 ln c := ⟨_, rfl⟩
  obtain ⟨n, hn⟩ : ∃ n, n = pl.length := ⟨_, rfl⟩
  rw [← hpl, ← hn] at g19
  have hn1 : n ≤ rows.length := by rw [hn, hpl]; obtain ⟨_, _, _, _, h⟩ := hD.2.1; exact h
  have HPL := Lib.hid hpl
  have HN := Lib.hid hn
  have hRG := hD.2.2
  have hn5 : n ≤ 50000000 := by omega
  have HLC : Hid (∀ i (h : i < pl.length), w1.cell? ⟨R, i * 3, none⟩ = some (.int .u32 ((pl[i]'h).1 : Int)) ∧ w1.cell? ⟨R, i * 3 + 1, none⟩ = some (.int .i32 (pl[i]'h).2.1) ∧ w1.cell? ⟨R, i * 3 + 2, none⟩ = some (.int .i32 (pl[i]'h).2.2)) := by
    rw [hpl]; exact fun i h => hD.2.1.cells i h
  rw [← hpl] at HS
  clear hD hO hpl hn hn1
  go_wp2_with fail
  go_loop [6, 7] (fun iv jv => ∃ i j : Nat, iv = .int .i64 (i : Int) ∧ jv = .int .i64 (j : Int) ∧ i ≤ j ∧ j ≤ n ∧ Hid (∀ q, IsLast pl pc q → i ≤ q ∧ (q < j ∨ q < n ∧ q ≤ j))) (fun iv jv => (intOf jv - intOf iv).toNat)
  case atStart => exact ⟨0, n, rfl, rfl, Nat.zero_le _, Nat.le_refl _, fun q h => ⟨Nat.zero_le _, .inl (by obtain ⟨h, _⟩ := h; have := HN.out; omega)⟩⟩
  case round =>
    obtain ⟨i, j, rfl, rfl, hij, hjn, hq⟩ := hrel
    by_cases hlt : i < j
    · have hd : decide ((i : Int) < (j : Int)) = true := by simp; omega
      obtain ⟨h, hh⟩ : ∃ h : Nat, h = (i + j) / 2 := ⟨_, rfl⟩
      have hhi : ((i : Int) + (j : Int)) / 2 = (h : Int) := by omega
      have hh1 : i ≤ h := by omega
      have hh2 : h < j := by omega
      clear hh
      obtain ⟨h1, hh3⟩ : ∃ h1 : Nat, (h : Int) + 1 = (h1 : Int) := ⟨h + 1, by omega⟩
      have HH3 := Lib.hid (show h1 = h + 1 by omega)
      by_cases hA : n ≤ h + 1
      · have hdA : decide ((n : Int) - 1 ≤ (h : Int)) = true := by simp; omega
        have hdA2 : decide ((n : Int) ≤ (h1 : Int)) = true := by simp; omega
        clear hA
        go_wp2
        go_round
        case rel => exact ⟨i, h, rfl, rfl, hh1, by omega, fun q hl => by have h5 := hq.out q hl; have h6 := HH3.out; simp at hdA2; exact ⟨h5.1, .inr (by omega)⟩⟩
        case measure => simp [intOf]; omega
      · have hdA : decide ((n : Int) - 1 ≤ (h : Int)) = false := by simp; omega
        have hdA2 : decide ((n : Int) ≤ (h1 : Int)) = false := by simp; omega
        have hh1n : h1 < n := by omega
        have hh1l : h1 < pl.length := by rw [← HN.out]; exact hh1n
        obtain ⟨x, hx⟩ : ∃ x, x = (pl[h1]'hh1l).1 := ⟨_, rfl⟩
        have hc0 := (HLC.out h1 hh1l).1
        rw [← hx] at hc0
        have HX := Lib.hid hx
        clear hA hx
        by_cases hB : pc < x
        · have hdB : decide (pc < x) = true := by simp; omega
          have hdB2 : decide ((pc : Int) < (x : Int)) = true := by simp; omega
          have HBB := Lib.hid hB
          clear hB
          go_wp2
          go_round
          case rel => exact ⟨i, h, rfl, rfl, hh1, by omega, fun q hl => by
            have h5 := hq.out q hl
            refine ⟨h5.1, .inr ⟨by omega, ?_⟩⟩
            apply Nat.le_of_not_lt
            intro hqh
            obtain ⟨hql, hq1, hq2⟩ := hl
            have h6 := HH3.out
            have h7 := HX.out
            have h8 := HBB.out
            have h9 : (pl[h1]'hh1l).1 ≤ (pl[q]'hql).1 := by
              by_cases e : h1 = q
              · subst e; exact Nat.le_refl _
              · exact Nat.le_of_lt (HS.out h1 q hh1l hql (by omega))
            omega⟩
          case measure => simp [intOf]; omega
        · have hdB : decide (pc < x) = false := by simp; omega
          have hdB2 : decide ((pc : Int) < (x : Int)) = false := by simp; omega
          have HBB := Lib.hid hB
          clear hB
          go_wp2
          go_round
          case rel => exact ⟨h1, j, rfl, rfl, by have := HH3.out; omega, hjn, fun q hl => by
            have h5 := hq.out q hl
            refine ⟨?_, h5.2⟩
            apply Nat.le_of_not_lt
            intro hqh
            obtain ⟨hql, hq1, hq2⟩ := hl
            have h7 := HX.out
            have h8 := HBB.out
            have h9 := hq2 h1 hh1l hqh
            omega⟩
          case measure => have := HH3.out; simp [intOf]; omega
    · obtain rfl : i = j := by omega
      have hd : decide ((i : Int) < (i : Int)) = false := by simp
      by_cases hin : i < n
      · have hil : i < pl.length := by rw [← HN.out]; exact hin
        have hdn : decide ((i : Int) < (n : Int)) = true := by simp; omega
        have hci := HLC.out i hil
        obtain ⟨line, col, hlc⟩ : ∃ line col, (pl[i]'hil).2 = (line, col) := ⟨_, _, rfl⟩
        rw [hlc] at hci
        obtain ⟨_, c1, c2⟩ := hci
        simp only at c1 c2
        have HLCE := Lib.hid hlc
        obtain ⟨k0, k1, k2, z0, z1, z2⟩ := blk3 HK1.out
        have hwl := HK1.out.lt
        clear hlc hr
        go_wp2
        obtain ⟨hd1, hd2, hd3⟩ := pos_end HD.out HO.out hwl HK1.out (.int .i32 line) (.int .i32 col) (.cells #[.pointer fa, (.int .i32 line), (.int .i32 col)] 71)
        obtain ⟨d0, d1, d2, _, _, _⟩ := blk3 hd1
        refine bodyPost_ret (v := .agg #[.pointer fa, (.int .i32 line), (.int .i32 col)]) (by simp [results, Try.results26, go_sem, d0, d1, d2]) rfl ⟨line, col, rfl, ?_, ⟨R, hd2⟩, hd3⟩
        intro q hql hl
        have h5 := hq.out q (by rw [HPL.out]; exact hl)
        obtain rfl : q = i := by omega
        have h6 := HLCE.out
        simp only [HPL.out] at h6
        exact h6
      · have hdn : decide ((i : Int) < (n : Int)) = false := by simp; omega
        have hwl := HK1.out.lt
        obtain ⟨k0, k1, k2, z0, z1, z2⟩ := blk3 HK1.out
        clear hr
        go_wp2
        obtain ⟨hd1, hd2, hd3⟩ := pos_end HD.out HO.out hwl HK1.out (.int .i32 0) (.int .i32 0) (.cells #[.pointer fa, (.int .i32 0), (.int .i32 0)] 71)
        obtain ⟨d0, d1, d2, _, _, _⟩ := blk3 hd1
        refine bodyPost_ret (v := .agg #[.pointer fa, (.int .i32 0), (.int .i32 0)]) (by simp [results, Try.results26, go_sem, d0, d1, d2]) rfl ⟨0, 0, rfl, ?_, ⟨R, hd2⟩, hd3⟩
        intro q hql hl
        have h5 := hq.out q (by rw [HPL.out]; exact hl)
        omega
end Go.Proofs.Ytkddmiamdpbgiaa
