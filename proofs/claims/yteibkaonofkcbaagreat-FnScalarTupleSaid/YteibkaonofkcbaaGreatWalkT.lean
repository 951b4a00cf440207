/- The reference's steps that all objects have: walk. -/
import Derived.Test.YteibkaonofkcbaaGreatTupJoinN
import Derived.Test.YteibkaonofkcbaaGreatSameL
namespace Go.Proofs.YteibkaonofkcbaaGreat
open Go.RowKit
set_option linter.unusedSimpArgs false
set_option linter.unusedVariables false
attribute [local go_sem ↓] Go.wp_at_zero Go.wp_at_succ
theorem only_setCells {S : Nat → Prop} {a : World} {g : Nat} (hg : S g ∨ a.heap.size ≤ g) : ∀ (us : List Value) (i : Nat) (w : World), Only S a w → Only S a (w.setCells g i us)
  | [], _, _, h => h
  | u :: r, i, w, h => by
    rw [World.setCells]
    exact only_setCells hg r (i + 1) _ (h.setCell (p := ⟨g, i, none⟩) hg u)
theorem ten_keep {S : Nat → Prop} {a w : World} {g : Nat} {d0 d1 d2 d3 d4 d5 d6 d7 d8 d9 : Value} (h : Only S a w) (hg : S g ∨ a.heap.size ≤ g) : Only S a ((((((((((w.setCell ⟨g, 0, none⟩ d0).setCell ⟨g, 1, none⟩ d1).setCell ⟨g, 2, none⟩ d2).setCell ⟨g, 3, none⟩ d3).setCell ⟨g, 4, none⟩ d4).setCell ⟨g, 5, none⟩ d5).setCell ⟨g, 6, none⟩ d6).setCell ⟨g, 7, none⟩ d7).setCell ⟨g, 8, none⟩ d8).setCell ⟨g, 9, none⟩ d9) :=
  only_setCells hg [d0, d1, d2, d3, d4, d5, d6, d7, d8, d9] 0 w h
theorem ten_blk {w : World} {b g : Nat} {t : TypeId} {cs : Array Value} {d0 d1 d2 d3 d4 d5 d6 d7 d8 d9 : Value} (h : Blk w b t cs) (hn : ¬ b = g) : Blk ((((((((((w.setCell ⟨g, 0, none⟩ d0).setCell ⟨g, 1, none⟩ d1).setCell ⟨g, 2, none⟩ d2).setCell ⟨g, 3, none⟩ d3).setCell ⟨g, 4, none⟩ d4).setCell ⟨g, 5, none⟩ d5).setCell ⟨g, 6, none⟩ d6).setCell ⟨g, 7, none⟩ d7).setCell ⟨g, 8, none⟩ d8).setCell ⟨g, 9, none⟩ d9) b t cs :=
  h.only (ten_keep (Only.refl (· = g) w) (.inl rfl)) hn
theorem ten_own {w : World} {g B size n : Nat} {e : TypeId} {v : Value} {xs : List Value} {d0 d1 d2 d3 d4 d5 d6 d7 d8 d9 : Value} (h : w.ownsRow B e size v n xs) (hn : ∀ k, v.ownBlock = some k → k ≠ g) : World.ownsRow ((((((((((w.setCell ⟨g, 0, none⟩ d0).setCell ⟨g, 1, none⟩ d1).setCell ⟨g, 2, none⟩ d2).setCell ⟨g, 3, none⟩ d3).setCell ⟨g, 4, none⟩ d4).setCell ⟨g, 5, none⟩ d5).setCell ⟨g, 6, none⟩ d6).setCell ⟨g, 7, none⟩ d7).setCell ⟨g, 8, none⟩ d8).setCell ⟨g, 9, none⟩ d9) B e size v n xs :=
  own_only h (ten_keep (Only.refl (· = g) w) (.inl rfl)) hn
theorem blk_ten {w : World} {g : Nat} {t : TypeId} {d0 d1 d2 d3 d4 d5 d6 d7 d8 d9 : Value} (h : Blk w g t #[d0, d1, d2, d3, d4, d5, d6, d7, d8, d9]) :
    w.cell? ⟨g, 0, none⟩ = some d0 ∧ w.cell? ⟨g, 1, none⟩ = some d1 ∧ w.cell? ⟨g, 2, none⟩ = some d2 ∧ w.cell? ⟨g, 3, none⟩ = some d3 ∧ w.cell? ⟨g, 4, none⟩ = some d4 ∧ w.cell? ⟨g, 5, none⟩ = some d5 ∧ w.cell? ⟨g, 6, none⟩ = some d6 ∧ w.cell? ⟨g, 7, none⟩ = some d7 ∧ w.cell? ⟨g, 8, none⟩ = some d8 ∧ w.cell? ⟨g, 9, none⟩ = some d9 ∧ w.frozen? ⟨g, 0, none⟩ = false ∧ w.frozen? ⟨g, 1, none⟩ = false ∧ w.frozen? ⟨g, 2, none⟩ = false ∧ w.frozen? ⟨g, 3, none⟩ = false ∧ w.frozen? ⟨g, 4, none⟩ = false ∧ w.frozen? ⟨g, 5, none⟩ = false ∧ w.frozen? ⟨g, 6, none⟩ = false ∧ w.frozen? ⟨g, 7, none⟩ = false ∧ w.frozen? ⟨g, 8, none⟩ = false ∧ w.frozen? ⟨g, 9, none⟩ = false :=
  ⟨(h.cell 0).trans rfl, (h.cell 1).trans rfl, (h.cell 2).trans rfl, (h.cell 3).trans rfl, (h.cell 4).trans rfl, (h.cell 5).trans rfl, (h.cell 6).trans rfl, (h.cell 7).trans rfl, (h.cell 8).trans rfl, (h.cell 9).trans rfl, h.frozen 0, h.frozen 1, h.frozen 2, h.frozen 3, h.frozen 4, h.frozen 5, h.frozen 6, h.frozen 7, h.frozen 8, h.frozen 9⟩
set_option maxRecDepth 100000 in
set_option maxHeartbeats 8000000 in
theorem walk_len (G S : Nat) (si sj sm : Int) (ia : Option Addr) (n ic : Nat) (w : World) (hs : Blk w S 35 #[.int .i64 4, .int .i64 si, .int .i64 sj, .int .i64 sm, .int .i64 0, .bool false, .slice none 0 0, .int .u64 0, .string ⟨#[]⟩, .slice none 0 0, .int .i64 0, .bool false, .slice none 0 0, .int .u64 0, .string ⟨#[]⟩, .slice none 0 0, .slice none 0 0]) :
    Calls Tryz.prog 12 #[.pointer (some ⟨G, 0, none⟩), .pointer (some ⟨S, 0, none⟩), .slice ia n ic] w fun e w' => e = .returned (.tuple #[.agg #[.bool true, .bool false, .int .i64 (n : Int), .int .i64 0, .bool false, .slice none 0 0, .int .u64 0, .string ⟨#[]⟩, .slice none 0 0, .slice none 0 0], .bool true]) ∧ Below w.heap.size w w' := by
  have c0 : w.cell? ⟨S, 0, none⟩ = some (.int .i64 4) := (hs.cell 0).trans rfl
  have hl := hs.lt
  clear hs
  go_enter Tryz.func12, Tryz.ntmps12
  go_wp2
  exact bodyPost_ret (v := .tuple #[.agg #[.bool true, .bool false, .int .i64 (n : Int), .int .i64 0, .bool false, .slice none 0 0, .int .u64 0, .string ⟨#[]⟩, .slice none 0 0, .slice none 0 0], .bool true]) (by simp [results, Tryz.results12, go_sem]) rfl ⟨rfl, ((Below.refl w.heap.size w).alloc (Nat.le_refl _) _).alloc (by simp) _⟩
set_option maxRecDepth 100000 in
set_option maxHeartbeats 8000000 in
theorem walk_truth0 (G S : Nat) (si sj sm : Int) (ia : Option Addr) (n ic : Nat) (w : World) (hs : Blk w S 35 #[.int .i64 11, .int .i64 si, .int .i64 sj, .int .i64 sm, .int .i64 0, .bool false, .slice none 0 0, .int .u64 0, .string ⟨#[]⟩, .slice none 0 0, .int .i64 0, .bool false, .slice none 0 0, .int .u64 0, .string ⟨#[]⟩, .slice none 0 0, .slice none 0 0]) (hn : n = 0) :
    Calls Tryz.prog 12 #[.pointer (some ⟨G, 0, none⟩), .pointer (some ⟨S, 0, none⟩), .slice ia n ic] w fun e w' => e = .returned (.tuple #[.agg #[.bool true, .bool false, .int .i64 0, .int .i64 0, .bool false, .slice none 0 0, .int .u64 0, .string ⟨#[]⟩, .slice none 0 0, .slice none 0 0], .bool true]) ∧ Below w.heap.size w w' := by
  have c0 : w.cell? ⟨S, 0, none⟩ = some (.int .i64 11) := (hs.cell 0).trans rfl
  have hl := hs.lt
  clear hs
  subst hn
  go_enter Tryz.func12, Tryz.ntmps12
  go_wp2
  exact bodyPost_ret (v := .tuple #[.agg #[.bool true, .bool false, .int .i64 0, .int .i64 0, .bool false, .slice none 0 0, .int .u64 0, .string ⟨#[]⟩, .slice none 0 0, .slice none 0 0], .bool true]) (by simp [results, Tryz.results12, go_sem]) rfl ⟨rfl, ((Below.refl w.heap.size w).alloc (Nat.le_refl _) _).alloc (by simp) _⟩
set_option maxRecDepth 100000 in
set_option maxHeartbeats 8000000 in
theorem walk_truth1 (G S : Nat) (si sj sm : Int) (ia : Option Addr) (n ic : Nat) (w : World) (hs : Blk w S 35 #[.int .i64 11, .int .i64 si, .int .i64 sj, .int .i64 sm, .int .i64 0, .bool false, .slice none 0 0, .int .u64 0, .string ⟨#[]⟩, .slice none 0 0, .int .i64 0, .bool false, .slice none 0 0, .int .u64 0, .string ⟨#[]⟩, .slice none 0 0, .slice none 0 0]) (hn : 0 < n) :
    Calls Tryz.prog 12 #[.pointer (some ⟨G, 0, none⟩), .pointer (some ⟨S, 0, none⟩), .slice ia n ic] w fun e w' => e = .returned (.tuple #[.agg #[.bool true, .bool true, .int .i64 0, .int .i64 0, .bool false, .slice none 0 0, .int .u64 0, .string ⟨#[]⟩, .slice none 0 0, .slice none 0 0], .bool true]) ∧ Below w.heap.size w w' := by
  have c0 : w.cell? ⟨S, 0, none⟩ = some (.int .i64 11) := (hs.cell 0).trans rfl
  have hl := hs.lt
  clear hs
  have d1 : decide (0 < (n : Int)) = true := by simp; omega
  have d2 : decide (0 < n) = true := by simp; omega
  go_enter Tryz.func12, Tryz.ntmps12
  go_wp2
  exact bodyPost_ret (v := .tuple #[.agg #[.bool true, .bool true, .int .i64 0, .int .i64 0, .bool false, .slice none 0 0, .int .u64 0, .string ⟨#[]⟩, .slice none 0 0, .slice none 0 0], .bool true]) (by simp [results, Tryz.results12, go_sem]) rfl ⟨rfl, ((Below.refl w.heap.size w).alloc (Nat.le_refl _) _).alloc (by simp) _⟩
set_option maxRecDepth 100000 in
set_option maxHeartbeats 8000000 in
theorem walk_index (G S : Nat) (si sj sm : Int) (ia : Option Addr) (n ic : Nat) (w : World) (hs : Blk w S 35 #[.int .i64 2, .int .i64 si, .int .i64 sj, .int .i64 sm, .int .i64 0, .bool false, .slice none 0 0, .int .u64 0, .string ⟨#[]⟩, .slice none 0 0, .int .i64 0, .bool false, .slice none 0 0, .int .u64 0, .string ⟨#[]⟩, .slice none 0 0, .slice none 0 0]) :
    Calls Tryz.prog 12 #[.pointer (some ⟨G, 0, none⟩), .pointer (some ⟨S, 0, none⟩), .slice ia n ic] w fun e w' => e = .returned (.tuple #[.agg #[.bool false, .bool false, .int .i64 0, .int .i64 0, .bool false, .slice none 0 0, .int .u64 0, .string ⟨#[]⟩, .slice none 0 0, .slice none 0 0], .bool false]) ∧ Below w.heap.size w w' := by
  have c0 : w.cell? ⟨S, 0, none⟩ = some (.int .i64 2) := (hs.cell 0).trans rfl
  have hl := hs.lt
  clear hs
  go_enter Tryz.func12, Tryz.ntmps12
  go_wp2
  exact bodyPost_ret (v := .tuple #[.agg #[.bool false, .bool false, .int .i64 0, .int .i64 0, .bool false, .slice none 0 0, .int .u64 0, .string ⟨#[]⟩, .slice none 0 0, .slice none 0 0], .bool false]) (by simp [results, Tryz.results12, go_sem]) rfl ⟨rfl, ((Below.refl w.heap.size w).alloc (Nat.le_refl _) _).alloc (by simp) _⟩
set_option maxRecDepth 100000 in
set_option maxHeartbeats 8000000 in
theorem walk_slice (G S : Nat) (si sj sm : Int) (ia : Option Addr) (n ic : Nat) (w : World) (hs : Blk w S 35 #[.int .i64 27, .int .i64 si, .int .i64 sj, .int .i64 sm, .int .i64 0, .bool false, .slice none 0 0, .int .u64 0, .string ⟨#[]⟩, .slice none 0 0, .int .i64 0, .bool false, .slice none 0 0, .int .u64 0, .string ⟨#[]⟩, .slice none 0 0, .slice none 0 0]) :
    Calls Tryz.prog 12 #[.pointer (some ⟨G, 0, none⟩), .pointer (some ⟨S, 0, none⟩), .slice ia n ic] w fun e w' => e = .returned (.tuple #[.agg #[.bool false, .bool false, .int .i64 0, .int .i64 0, .bool false, .slice none 0 0, .int .u64 0, .string ⟨#[]⟩, .slice none 0 0, .slice none 0 0], .bool false]) ∧ Below w.heap.size w w' := by
  have c0 : w.cell? ⟨S, 0, none⟩ = some (.int .i64 27) := (hs.cell 0).trans rfl
  have hl := hs.lt
  clear hs
  go_enter Tryz.func12, Tryz.ntmps12
  go_wp2
  exact bodyPost_ret (v := .tuple #[.agg #[.bool false, .bool false, .int .i64 0, .int .i64 0, .bool false, .slice none 0 0, .int .u64 0, .string ⟨#[]⟩, .slice none 0 0, .slice none 0 0], .bool false]) (by simp [results, Tryz.results12, go_sem]) rfl ⟨rfl, ((Below.refl w.heap.size w).alloc (Nat.le_refl _) _).alloc (by simp) _⟩
def walk_next0P (S : Nat) (sj sm : Int) (n : Nat) (w : World) (e : Ending) (w' : World) : Prop := ∃ si : Int, e = .returned (.tuple #[.agg #[.bool true, .bool false, .int .i64 (n : Int), .int .i64 0, .bool false, .slice none 0 0, .int .u64 0, .string ⟨#[]⟩, .slice none 0 0, .slice none 0 0], .bool true]) ∧ Blk w' S 35 #[.int .i64 4, .int .i64 si, .int .i64 sj, .int .i64 sm, .int .i64 0, .bool false, .slice none 0 0, .int .u64 0, .string ⟨#[]⟩, .slice none 0 0, .int .i64 0, .bool false, .slice none 0 0, .int .u64 0, .string ⟨#[]⟩, .slice none 0 0, .slice none 0 0] ∧ Only (· = S) w w'
set_option maxRecDepth 100000 in
set_option maxHeartbeats 8000000 in
theorem walk_next0 (B : Nat) (v : Value) (at' : List (Option Nat)) (G S : Nat) (si sj sm : Int) (ia : Option Addr) (n ic : Nat) (w : World) (hg : GuardB w B G v at') (hs : Blk w S 35 #[.int .i64 6, .int .i64 si, .int .i64 sj, .int .i64 sm, .int .i64 0, .bool false, .slice none 0 0, .int .u64 0, .string ⟨#[]⟩, .slice none 0 0, .int .i64 0, .bool false, .slice none 0 0, .int .u64 0, .string ⟨#[]⟩, .slice none 0 0, .slice none 0 0]) (h0 : openN at' = 0) :
    Calls Tryz.prog 12 #[.pointer (some ⟨G, 0, none⟩), .pointer (some ⟨S, 0, none⟩), .slice ia n ic] w (walk_next0P S sj sm n w) := by
  obtain ⟨w0, hw0⟩ : ∃ w0, w0 = ((w.alloc (.cells #[.bool false, .bool false, .int .i64 0, .int .i64 0, .bool false, .slice none 0 0, .int .u64 0, .string ⟨#[]⟩, .slice none 0 0, .slice none 0 0] 37)).alloc (.cells #[.bool true, .bool false, .int .i64 0, .int .i64 0, .bool false, .slice none 0 0, .int .u64 0, .string ⟨#[]⟩, .slice none 0 0, .slice none 0 0] 37)) := ⟨_, rfl⟩
  have HB0 : Hid (Below w.heap.size w w0) := by rw [hw0]; exact ((Below.refl w.heap.size w).alloc (Nat.le_refl _) _).alloc (by simp) _
  have HK6 : Hid (Blk w0 w.heap.size 37 #[.bool false, .bool false, .int .i64 0, .int .i64 0, .bool false, .slice none 0 0, .int .u64 0, .string ⟨#[]⟩, .slice none 0 0, .slice none 0 0]) := by rw [hw0]; exact (Blk.new w _ _).alloc _
  have HK8 : Hid (Blk w0 (w.heap.size + 1) 37 #[.bool true, .bool false, .int .i64 0, .int .i64 0, .bool false, .slice none 0 0, .int .u64 0, .string ⟨#[]⟩, .slice none 0 0, .slice none 0 0]) := by rw [hw0]; exact Blk.new_at _ _ _ (by simp)
  have HZ0 : Hid (w0.heap.size = w.heap.size + 2) := by rw [hw0]; simp [Hid]
  have hs0 := hs.below HB0.out hs.lt
  have hg0 := hg.1.below HB0.out hg.1.lt
  have hr0 := own_below hg.2 HB0.out
  have hl := hs.lt
  have hgl := hg.1.lt
  have hz := HZ0.out
  have b0 : w0.cell? ⟨S, 0, none⟩ = some (.int .i64 6) := (hs0.cell 0).trans rfl
  have b1 : w0.cell? ⟨S, 1, none⟩ = some (.int .i64 si) := (hs0.cell 1).trans rfl
  have c0 : w.cell? ⟨S, 0, none⟩ = some (.int .i64 6) := (hs.cell 0).trans rfl
  have c1 : w.cell? ⟨S, 1, none⟩ = some (.int .i64 si) := (hs.cell 1).trans rfl
  have f0 : w0.frozen? ⟨S, 0, none⟩ = false := hs0.frozen 0
  have f1 : w0.frozen? ⟨S, 1, none⟩ = false := hs0.frozen 1
  obtain ⟨g0, g1, g2, h0', h1', h2'⟩ := blk_grd hg0
  have n1 : ¬ S = w.heap.size := by omega
  have n2 : ¬ S = w.heap.size + 1 := by omega
  have n3 : ¬ G = w.heap.size := by omega
  have n4 : ¬ G = w.heap.size + 1 := by omega
  have n1' : ¬ w.heap.size = S := by omega
  have n2' : ¬ w.heap.size + 1 = S := by omega
  have n3' : ¬ w.heap.size = G := by omega
  have n4' : ¬ w.heap.size + 1 = G := by omega
  have n5 : ¬ G = S := by
    intro e
    subst e
    have := hs.symm.trans hg.1
    injection this with h
    injection h with _ h
    exact absurd h (by decide)
  have n5' : ¬ S = G := fun e => n5 e.symm
  have HP := Lib.hid (pick_none B G v at' si w0 ⟨hg0, hr0⟩ h0)
  have HS0 := Lib.hid hs0
  obtain ⟨p0, p1, p2, p3, p4, p5, p6, p7, p8, p9, q0, q1, q2, q3, q4, q5, q6, q7, q8, q9⟩ := blk_ten HK6.out
  obtain ⟨r0, r1, r2, r3, r4, r5, r6, r7, r8, r9, u0, u1, u2, u3, u4, u5, u6, u7, u8, u9⟩ := blk_ten HK8.out
  have HB9 := HB0
  clear hs hg h0 hs0 hg0 hr0 hz HK6 HK8
  go_enter Tryz.func12, Tryz.ntmps12
  go_wp2_with fail
  rw [← hw0]
  clear hw0
  refine HP.out.mono ?_
  rintro e w1 ⟨rfl, rfl⟩
  clear HP
  go_wp2
  refine bodyPost_ret (v := .tuple #[.agg #[.bool true, .bool false, .int .i64 (n : Int), .int .i64 0, .bool false, .slice none 0 0, .int .u64 0, .string ⟨#[]⟩, .slice none 0 0, .slice none 0 0], .bool true]) (by simp [results, Tryz.results12, go_sem, p0, p1, p2, p3, p4, p5, p6, p7, p8, p9]) rfl ⟨si, rfl, ?_, ?_⟩
  · exact ten_blk ((Blk.put HS0.out 0 _).far (p := ⟨_, 2, none⟩) n2 _) n1
  · exact ten_keep (((Only.of_below (S := (· = S)) HB9.out).setCell (p := ⟨S, 0, none⟩) (.inl rfl) _).setCell (p := ⟨_, 2, none⟩) (.inr (Nat.le_succ _)) _) (.inr (Nat.le_refl _))
def walk_done0P (S : Nat) (sj sm : Int) (n : Nat) (w : World) (e : Ending) (w' : World) : Prop := ∃ si : Int, e = .returned (.tuple #[.agg #[.bool true, .bool false, .int .i64 (n : Int), .int .i64 0, .bool false, .slice none 0 0, .int .u64 0, .string ⟨#[]⟩, .slice none 0 0, .slice none 0 0], .bool true]) ∧ Blk w' S 35 #[.int .i64 4, .int .i64 si, .int .i64 sj, .int .i64 sm, .int .i64 0, .bool false, .slice none 0 0, .int .u64 0, .string ⟨#[]⟩, .slice none 0 0, .int .i64 0, .bool false, .slice none 0 0, .int .u64 0, .string ⟨#[]⟩, .slice none 0 0, .slice none 0 0] ∧ Only (· = S) w w'
set_option maxRecDepth 100000 in
set_option maxHeartbeats 8000000 in
theorem walk_done0 (B : Nat) (v : Value) (at' : List (Option Nat)) (G S : Nat) (si sj sm : Int) (ia : Option Addr) (n ic : Nat) (w : World) (hg : GuardB w B G v at') (hs : Blk w S 35 #[.int .i64 7, .int .i64 si, .int .i64 sj, .int .i64 sm, .int .i64 0, .bool false, .slice none 0 0, .int .u64 0, .string ⟨#[]⟩, .slice none 0 0, .int .i64 0, .bool false, .slice none 0 0, .int .u64 0, .string ⟨#[]⟩, .slice none 0 0, .slice none 0 0]) (h0 : openN at' = 0) :
    Calls Tryz.prog 12 #[.pointer (some ⟨G, 0, none⟩), .pointer (some ⟨S, 0, none⟩), .slice ia n ic] w (walk_done0P S sj sm n w) := by
  obtain ⟨w0, hw0⟩ : ∃ w0, w0 = ((w.alloc (.cells #[.bool false, .bool false, .int .i64 0, .int .i64 0, .bool false, .slice none 0 0, .int .u64 0, .string ⟨#[]⟩, .slice none 0 0, .slice none 0 0] 37)).alloc (.cells #[.bool true, .bool false, .int .i64 0, .int .i64 0, .bool false, .slice none 0 0, .int .u64 0, .string ⟨#[]⟩, .slice none 0 0, .slice none 0 0] 37)) := ⟨_, rfl⟩
  have HB0 : Hid (Below w.heap.size w w0) := by rw [hw0]; exact ((Below.refl w.heap.size w).alloc (Nat.le_refl _) _).alloc (by simp) _
  have HK6 : Hid (Blk w0 w.heap.size 37 #[.bool false, .bool false, .int .i64 0, .int .i64 0, .bool false, .slice none 0 0, .int .u64 0, .string ⟨#[]⟩, .slice none 0 0, .slice none 0 0]) := by rw [hw0]; exact (Blk.new w _ _).alloc _
  have HK8 : Hid (Blk w0 (w.heap.size + 1) 37 #[.bool true, .bool false, .int .i64 0, .int .i64 0, .bool false, .slice none 0 0, .int .u64 0, .string ⟨#[]⟩, .slice none 0 0, .slice none 0 0]) := by rw [hw0]; exact Blk.new_at _ _ _ (by simp)
  have HZ0 : Hid (w0.heap.size = w.heap.size + 2) := by rw [hw0]; simp [Hid]
  have hs0 := hs.below HB0.out hs.lt
  have hg0 := hg.1.below HB0.out hg.1.lt
  have hr0 := own_below hg.2 HB0.out
  have hl := hs.lt
  have hgl := hg.1.lt
  have hz := HZ0.out
  have b0 : w0.cell? ⟨S, 0, none⟩ = some (.int .i64 7) := (hs0.cell 0).trans rfl
  have b1 : w0.cell? ⟨S, 1, none⟩ = some (.int .i64 si) := (hs0.cell 1).trans rfl
  have c0 : w.cell? ⟨S, 0, none⟩ = some (.int .i64 7) := (hs.cell 0).trans rfl
  have c1 : w.cell? ⟨S, 1, none⟩ = some (.int .i64 si) := (hs.cell 1).trans rfl
  have f0 : w0.frozen? ⟨S, 0, none⟩ = false := hs0.frozen 0
  have f1 : w0.frozen? ⟨S, 1, none⟩ = false := hs0.frozen 1
  obtain ⟨g0, g1, g2, h0', h1', h2'⟩ := blk_grd hg0
  have n1 : ¬ S = w.heap.size := by omega
  have n2 : ¬ S = w.heap.size + 1 := by omega
  have n3 : ¬ G = w.heap.size := by omega
  have n4 : ¬ G = w.heap.size + 1 := by omega
  have n1' : ¬ w.heap.size = S := by omega
  have n2' : ¬ w.heap.size + 1 = S := by omega
  have n3' : ¬ w.heap.size = G := by omega
  have n4' : ¬ w.heap.size + 1 = G := by omega
  have n5 : ¬ G = S := by
    intro e
    subst e
    have := hs.symm.trans hg.1
    injection this with h
    injection h with _ h
    exact absurd h (by decide)
  have n5' : ¬ S = G := fun e => n5 e.symm
  have HP := Lib.hid (pick_none B G v at' si w0 ⟨hg0, hr0⟩ h0)
  have HS0 := Lib.hid hs0
  obtain ⟨p0, p1, p2, p3, p4, p5, p6, p7, p8, p9, q0, q1, q2, q3, q4, q5, q6, q7, q8, q9⟩ := blk_ten HK6.out
  obtain ⟨r0, r1, r2, r3, r4, r5, r6, r7, r8, r9, u0, u1, u2, u3, u4, u5, u6, u7, u8, u9⟩ := blk_ten HK8.out
  have HB9 := HB0
  clear hs hg h0 hs0 hg0 hr0 hz HK6 HK8
  go_enter Tryz.func12, Tryz.ntmps12
  go_wp2_with fail
  rw [← hw0]
  clear hw0
  refine HP.out.mono ?_
  rintro e w1 ⟨rfl, rfl⟩
  clear HP
  go_wp2
  refine bodyPost_ret (v := .tuple #[.agg #[.bool true, .bool false, .int .i64 (n : Int), .int .i64 0, .bool false, .slice none 0 0, .int .u64 0, .string ⟨#[]⟩, .slice none 0 0, .slice none 0 0], .bool true]) (by simp [results, Tryz.results12, go_sem, p0, p1, p2, p3, p4, p5, p6, p7, p8, p9]) rfl ⟨si, rfl, ?_, ?_⟩
  · exact ten_blk ((Blk.put HS0.out 0 _).far (p := ⟨_, 2, none⟩) n2 _) n1
  · exact ten_keep (((Only.of_below (S := (· = S)) HB9.out).setCell (p := ⟨S, 0, none⟩) (.inl rfl) _).setCell (p := ⟨_, 2, none⟩) (.inr (Nat.le_succ _)) _) (.inr (Nat.le_refl _))
def walk_doneP (B G S : Nat) (v : Value) (at' : List (Option Nat)) (sj sm : Int) (w : World) (e : Ending) (w' : World) : Prop := ∃ (i c : Nat), e = .returned (.tuple #[.agg #[.bool true, .bool false, .int .i64 0, .int .i64 0, .bool false, .slice none 0 0, .int .u64 0, .string ⟨#[]⟩, .slice none 0 0, .slice none 0 0], .bool true]) ∧ at'[i]? = some (some c) ∧ Blk w' S 35 #[.int .i64 7, .int .i64 (i : Int), .int .i64 sj, .int .i64 sm, .int .i64 0, .bool false, .slice none 0 0, .int .u64 0, .string ⟨#[]⟩, .slice none 0 0, .int .i64 0, .bool false, .slice none 0 0, .int .u64 0, .string ⟨#[]⟩, .slice none 0 0, .slice none 0 0] ∧ GuardB w' B G v (at'.set i none) ∧ Only (fun b => b = S ∨ b = G ∨ v.ownBlock = some b) w w'
set_option maxRecDepth 100000 in
set_option maxHeartbeats 8000000 in
theorem walk_done (B : Nat) (v : Value) (at' : List (Option Nat)) (G S : Nat) (si sj sm : Int) (ia : Option Addr) (n ic : Nat) (w : World) (hg : GuardB w B G v at') (hs : Blk w S 35 #[.int .i64 7, .int .i64 si, .int .i64 sj, .int .i64 sm, .int .i64 0, .bool false, .slice none 0 0, .int .u64 0, .string ⟨#[]⟩, .slice none 0 0, .int .i64 0, .bool false, .slice none 0 0, .int .u64 0, .string ⟨#[]⟩, .slice none 0 0, .slice none 0 0]) (h0 : 0 < openN at') (hlen : at'.length ≤ 1000) :
    Calls Tryz.prog 12 #[.pointer (some ⟨G, 0, none⟩), .pointer (some ⟨S, 0, none⟩), .slice ia n ic] w (walk_doneP B G S v at' sj sm w) := by
  obtain ⟨w0, hw0⟩ : ∃ w0, w0 = ((w.alloc (.cells #[.bool false, .bool false, .int .i64 0, .int .i64 0, .bool false, .slice none 0 0, .int .u64 0, .string ⟨#[]⟩, .slice none 0 0, .slice none 0 0] 37)).alloc (.cells #[.bool true, .bool false, .int .i64 0, .int .i64 0, .bool false, .slice none 0 0, .int .u64 0, .string ⟨#[]⟩, .slice none 0 0, .slice none 0 0] 37)) := ⟨_, rfl⟩
  have HB0 : Hid (Below w.heap.size w w0) := by rw [hw0]; exact ((Below.refl w.heap.size w).alloc (Nat.le_refl _) _).alloc (by simp) _
  have HK6 : Hid (Blk w0 w.heap.size 37 #[.bool false, .bool false, .int .i64 0, .int .i64 0, .bool false, .slice none 0 0, .int .u64 0, .string ⟨#[]⟩, .slice none 0 0, .slice none 0 0]) := by rw [hw0]; exact (Blk.new w _ _).alloc _
  have HK8 : Hid (Blk w0 (w.heap.size + 1) 37 #[.bool true, .bool false, .int .i64 0, .int .i64 0, .bool false, .slice none 0 0, .int .u64 0, .string ⟨#[]⟩, .slice none 0 0, .slice none 0 0]) := by rw [hw0]; exact Blk.new_at _ _ _ (by simp)
  have HZ0 : Hid (w0.heap.size = w.heap.size + 2) := by rw [hw0]; simp [Hid]
  have hs0 := hs.below HB0.out hs.lt
  have hg0 := hg.1.below HB0.out hg.1.lt
  have hr0 := own_below hg.2 HB0.out
  have hl := hs.lt
  have hgl := hg.1.lt
  have hz := HZ0.out
  have b0 : w0.cell? ⟨S, 0, none⟩ = some (.int .i64 7) := (hs0.cell 0).trans rfl
  have b1 : w0.cell? ⟨S, 1, none⟩ = some (.int .i64 si) := (hs0.cell 1).trans rfl
  have c0 : w.cell? ⟨S, 0, none⟩ = some (.int .i64 7) := (hs.cell 0).trans rfl
  have c1 : w.cell? ⟨S, 1, none⟩ = some (.int .i64 si) := (hs.cell 1).trans rfl
  have f0 : w0.frozen? ⟨S, 0, none⟩ = false := hs0.frozen 0
  have f1 : w0.frozen? ⟨S, 1, none⟩ = false := hs0.frozen 1
  obtain ⟨g0, g1, g2, h0', h1', h2'⟩ := blk_grd hg0
  have n1 : ¬ S = w.heap.size := by omega
  have n2 : ¬ S = w.heap.size + 1 := by omega
  have n3 : ¬ G = w.heap.size := by omega
  have n4 : ¬ G = w.heap.size + 1 := by omega
  have n1' : ¬ w.heap.size = S := by omega
  have n2' : ¬ w.heap.size + 1 = S := by omega
  have n3' : ¬ w.heap.size = G := by omega
  have n4' : ¬ w.heap.size + 1 = G := by omega
  have n5 : ¬ G = S := by
    intro e
    subst e
    have := hs.symm.trans hg.1
    injection this with h
    injection h with _ h
    exact absurd h (by decide)
  have n5' : ¬ S = G := fun e => n5 e.symm
  have nG : ∀ q, v.ownBlock = some q → q ≠ G := own_ne_blk hg.2 hg.1 (by decide)
  have nS : ∀ q, v.ownBlock = some q → q ≠ S := own_ne_blk hg.2 hs (by decide)
  have nL : ∀ q, v.ownBlock = some q → q < w.heap.size := fun q hq => (hg.2.lt q hq).2
  have HP := Lib.hid (pick_some B G v at' si w0 ⟨hg0, hr0⟩ h0 hlen)
  have HS0 := Lib.hid hs0
  have HG0 := Lib.hid hg0
  have HR0 := Lib.hid hr0
  have HOP : Hid (openN at' ≤ 1000) := Nat.le_trans (openN_le at') hlen
  obtain ⟨p0, p1, p2, p3, p4, p5, p6, p7, p8, p9, q0, q1, q2, q3, q4, q5, q6, q7, q8, q9⟩ := blk_ten HK6.out
  obtain ⟨r0, r1, r2, r3, r4, r5, r6, r7, r8, r9, u0, u1, u2, u3, u4, u5, u6, u7, u8, u9⟩ := blk_ten HK8.out
  have HB9 := HB0
  have HNG := Lib.hid nG
  have HNS := Lib.hid nS
  have HNL := Lib.hid nL
  obtain ⟨op, hop⟩ : ∃ op, op = openN at' := ⟨_, rfl⟩
  have HOPE := Lib.hid hop
  rw [← hop] at g2
  have op0 : 0 < op := by omega
  clear hs hg h0 hlen hs0 hg0 hr0 hz HK6 HK8 hop nG nS nL
  go_enter Tryz.func12, Tryz.ntmps12
  go_wp2_with fail
  rw [← hw0]
  clear hw0
  refine HP.out.mono ?_
  rintro e w1 ⟨i, c, rfl, hi, rfl⟩
  have HI := Lib.hid hi
  have hform := HR0.out
  obtain ⟨va, vc, hvf⟩ := RowO.form (at' := at') hform
  subst hvf
  obtain ⟨g, rfl, hBg, hgw, hcell, hfz⟩ := RowO.at hform i (some c) hi
  unfold atV at hcell
  have hgG : ¬ g = G := HNG.out g rfl
  have hgS : ¬ g = S := HNS.out g rfl
  have hgL : g < w.heap.size := HNL.out g rfl
  have hgG' : ¬ G = g := fun e => hgG e.symm
  have hgS' : ¬ S = g := fun e => hgS e.symm
  have n6 : ¬ g = w.heap.size := by omega
  have n7 : ¬ g = w.heap.size + 1 := by omega
  have n6' : ¬ w.heap.size = g := by omega
  have n7' : ¬ w.heap.size + 1 = g := by omega
  obtain ⟨m, hm⟩ : ∃ m, m = at'.length := ⟨_, rfl⟩
  have him : i < m := by rw [hm]; exact (List.getElem?_eq_some_iff.1 hi).1
  have him' : (i : Int) < (m : Int) := by omega
  have hi0 : (0 : Int) ≤ (i : Int) := by omega
  have op1 : op ≤ 1000 := by have := HOP.out; have := HOPE.out; omega
  have hopi : (0 : Int) < (op : Int) := by omega
  rw [← hm] at g1
  have HM := Lib.hid hm
  clear hi hform hm hBg
  clear HP
  go_wp2
  refine bodyPost_ret (v := .tuple #[.agg #[.bool true, .bool false, .int .i64 0, .int .i64 0, .bool false, .slice none 0 0, .int .u64 0, .string ⟨#[]⟩, .slice none 0 0, .slice none 0 0], .bool true]) (by simp [results, Tryz.results12, go_sem, p0, p1, p2, p3, p4, p5, p6, p7, p8, p9]) rfl ⟨i, c, rfl, HI.out, ?_, ⟨?_, ?_⟩, ?_⟩
  · exact ten_blk (((Blk.put HS0.out 1 _).far (p := ⟨g, i, none⟩) hgS' _).far (p := ⟨G, 2, none⟩) n5' _) n1
  · have e := openN_set_none at' i c HI.out
    rw [← HOPE.out] at e
    have e2 : ((op : Int) - 1) = (openN (at'.set i none) : Int) := by omega
    rw [e2]
    have hk := ten_blk (d0 := .bool true) (d1 := .bool false) (d2 := .int .i64 0) (d3 := .int .i64 0) (d4 := .bool false) (d5 := .slice none 0 0) (d6 := .int .u64 0) (d7 := .string ⟨#[]⟩) (d8 := .slice none 0 0) (d9 := .slice none 0 0) (Blk.put (((HG0.out.far (p := ⟨S, 1, none⟩) n5 (.int .i64 (i : Int))).far (p := ⟨g, i, none⟩) hgG' (.int .i64 (-1)))) 2 (.int .i64 (openN (at'.set i none) : Int))) n3
    exact hk
  · have h1 := own_set (own_only HR0.out ((Only.refl (· = S) w0).setCell (p := ⟨S, 1, none⟩) (.inl rfl) (.int .i64 (i : Int))) (fun k hk e => HNS.out k hk e)) (g := g) rfl i (.int .i64 (-1))
    have h2 := own_only h1 ((Only.refl (· = G) _).setCell (p := ⟨G, 2, none⟩) (.inl rfl) (.int .i64 ((op : Int) - 1))) (fun k hk e => HNG.out k hk e)
    have h3 := ten_own (g := w.heap.size) (d0 := .bool true) (d1 := .bool false) (d2 := .int .i64 0) (d3 := .int .i64 0) (d4 := .bool false) (d5 := .slice none 0 0) (d6 := .int .u64 0) (d7 := .string ⟨#[]⟩) (d8 := .slice none 0 0) (d9 := .slice none 0 0) h2 (fun k hk => Nat.ne_of_lt (HNL.out k hk))
    unfold RowO
    rw [List.length_set, List.map_set, ← HM.out]
    rw [← HM.out] at h3
    exact h3
  · exact ten_keep ((((Only.of_below (S := (fun b => b = S ∨ b = G ∨ (Value.slice (some ⟨g, 0, none⟩) at'.length vc).ownBlock = some b)) HB9.out).setCell (p := ⟨S, 1, none⟩) (.inl (.inl rfl)) _).setCell (p := ⟨g, i, none⟩) (.inl (.inr (.inr rfl))) _).setCell (p := ⟨G, 2, none⟩) (.inl (.inr (.inl rfl))) _) (.inr (Nat.le_refl _))
def walk_nextP (B G S : Nat) (v : Value) (at' : List (Option Nat)) (ps : List (Value × Sx)) (sj sm : Int) (w : World) (e : Ending) (w' : World) : Prop :=
  ∃ (i c : Nat), at'[i]? = some (some c) ∧ Blk w' S 35 #[.int .i64 6, .int .i64 (i : Int), .int .i64 sj, .int .i64 sm, .int .i64 0, .bool false, .slice none 0 0, .int .u64 0, .string ⟨#[]⟩, .slice none 0 0, .int .i64 0, .bool false, .slice none 0 0, .int .u64 0, .string ⟨#[]⟩, .slice none 0 0, .slice none 0 0] ∧ Only (fun b => b = S ∨ b = G ∨ v.ownBlock = some b) w w' ∧
    ((ps.length ≤ c ∧ e = .returned (.tuple #[.agg #[.bool true, .bool false, .int .i64 0, .int .i64 0, .bool false, .slice none 0 0, .int .u64 0, .string ⟨#[]⟩, .slice none 0 0, .slice none 0 0], .bool true]) ∧ GuardB w' B G v at') ∨
     ∃ (h : c < ps.length) (k : Int) (neg : Bool) (aa : Option Addr) (mm cc : Nat) (b : Int) (tx : ByteArray), (ps[c]'h).1 = pv k neg aa mm cc b tx none 0 0 ∧ e = .returned (.tuple #[.agg #[.bool true, .bool true, .int .i64 0, .int .i64 k, .bool neg, .slice aa mm cc, .int .u64 b, .string tx, .slice none 0 0, .slice none 0 0], .bool true]) ∧ GuardB w' B G v (at'.set i (some (c + 1))))
set_option maxRecDepth 100000 in
set_option maxHeartbeats 8000000 in
theorem walk_next (B BL : Nat) (v : Value) (at' : List (Option Nat)) (G S : Nat) (si sj sm : Int) (ia : Option Addr) (n ic : Nat) (w : World) (ps : List (Value × Sx)) (hx : RowX w BL (.slice ia n ic) ps) (hn : ps.length = n) (hn8 : n ≤ 1000) (hg : GuardB w B G v at') (hs : Blk w S 35 #[.int .i64 6, .int .i64 si, .int .i64 sj, .int .i64 sm, .int .i64 0, .bool false, .slice none 0 0, .int .u64 0, .string ⟨#[]⟩, .slice none 0 0, .int .i64 0, .bool false, .slice none 0 0, .int .u64 0, .string ⟨#[]⟩, .slice none 0 0, .slice none 0 0]) (h0 : 0 < openN at') (hlen : at'.length ≤ 1000) :
    Calls Tryz.prog 12 #[.pointer (some ⟨G, 0, none⟩), .pointer (some ⟨S, 0, none⟩), .slice ia n ic] w (walk_nextP B G S v at' ps sj sm w) := by
  obtain ⟨w0, hw0⟩ : ∃ w0, w0 = ((w.alloc (.cells #[.bool false, .bool false, .int .i64 0, .int .i64 0, .bool false, .slice none 0 0, .int .u64 0, .string ⟨#[]⟩, .slice none 0 0, .slice none 0 0] 37)).alloc (.cells #[.bool true, .bool false, .int .i64 0, .int .i64 0, .bool false, .slice none 0 0, .int .u64 0, .string ⟨#[]⟩, .slice none 0 0, .slice none 0 0] 37)) := ⟨_, rfl⟩
  have HB0 : Hid (Below w.heap.size w w0) := by rw [hw0]; exact ((Below.refl w.heap.size w).alloc (Nat.le_refl _) _).alloc (by simp) _
  have HK6 : Hid (Blk w0 w.heap.size 37 #[.bool false, .bool false, .int .i64 0, .int .i64 0, .bool false, .slice none 0 0, .int .u64 0, .string ⟨#[]⟩, .slice none 0 0, .slice none 0 0]) := by rw [hw0]; exact (Blk.new w _ _).alloc _
  have HK8 : Hid (Blk w0 (w.heap.size + 1) 37 #[.bool true, .bool false, .int .i64 0, .int .i64 0, .bool false, .slice none 0 0, .int .u64 0, .string ⟨#[]⟩, .slice none 0 0, .slice none 0 0]) := by rw [hw0]; exact Blk.new_at _ _ _ (by simp)
  have HZ0 : Hid (w0.heap.size = w.heap.size + 2) := by rw [hw0]; simp [Hid]
  have hs0 := hs.below HB0.out hs.lt
  have hg0 := hg.1.below HB0.out hg.1.lt
  have hr0 := own_below hg.2 HB0.out
  have hl := hs.lt
  have hgl := hg.1.lt
  have hz := HZ0.out
  have b0 : w0.cell? ⟨S, 0, none⟩ = some (.int .i64 6) := (hs0.cell 0).trans rfl
  have b1 : w0.cell? ⟨S, 1, none⟩ = some (.int .i64 si) := (hs0.cell 1).trans rfl
  have c0 : w.cell? ⟨S, 0, none⟩ = some (.int .i64 6) := (hs.cell 0).trans rfl
  have c1 : w.cell? ⟨S, 1, none⟩ = some (.int .i64 si) := (hs.cell 1).trans rfl
  have f0 : w0.frozen? ⟨S, 0, none⟩ = false := hs0.frozen 0
  have f1 : w0.frozen? ⟨S, 1, none⟩ = false := hs0.frozen 1
  obtain ⟨g0, g1, g2, h0', h1', h2'⟩ := blk_grd hg0
  have n1 : ¬ S = w.heap.size := by omega
  have n2 : ¬ S = w.heap.size + 1 := by omega
  have n3 : ¬ G = w.heap.size := by omega
  have n4 : ¬ G = w.heap.size + 1 := by omega
  have n1' : ¬ w.heap.size = S := by omega
  have n2' : ¬ w.heap.size + 1 = S := by omega
  have n3' : ¬ w.heap.size = G := by omega
  have n4' : ¬ w.heap.size + 1 = G := by omega
  have n5 : ¬ G = S := by
    intro e
    subst e
    have := hs.symm.trans hg.1
    injection this with h
    injection h with _ h
    exact absurd h (by decide)
  have n5' : ¬ S = G := fun e => n5 e.symm
  have nG : ∀ q, v.ownBlock = some q → q ≠ G := own_ne_blk hg.2 hg.1 (by decide)
  have nS : ∀ q, v.ownBlock = some q → q ≠ S := own_ne_blk hg.2 hs (by decide)
  have nL : ∀ q, v.ownBlock = some q → q < w.heap.size := fun q hq => (hg.2.lt q hq).2
  have HP := Lib.hid (pick_some B G v at' si w0 ⟨hg0, hr0⟩ h0 hlen)
  have HS0 := Lib.hid hs0
  have HG0 := Lib.hid hg0
  have HR0 := Lib.hid hr0
  have HOP : Hid (openN at' ≤ 1000) := Nat.le_trans (openN_le at') hlen
  obtain ⟨p0, p1, p2, p3, p4, p5, p6, p7, p8, p9, q0, q1, q2, q3, q4, q5, q6, q7, q8, q9⟩ := blk_ten HK6.out
  obtain ⟨r0, r1, r2, r3, r4, r5, r6, r7, r8, r9, u0, u1, u2, u3, u4, u5, u6, u7, u8, u9⟩ := blk_ten HK8.out
  have HB9 := HB0
  have HNG := Lib.hid nG
  have HNS := Lib.hid nS
  have HNL := Lib.hid nL
  obtain ⟨op, hop⟩ : ∃ op, op = openN at' := ⟨_, rfl⟩
  have HOPE := Lib.hid hop
  rw [← hop] at g2
  have op0 : 0 < op := by omega
  have HX := Lib.hid hx
  have HX0 := Lib.hid (hx.below HB0.out)
  have HN := Lib.hid hn
  have nXS : ∀ q, (Value.slice ia n ic).ownBlock = some q → q ≠ S := own_ne_blk hx.1 hs (by decide)
  have nXG : ∀ q, (Value.slice ia n ic).ownBlock = some q → q ≠ G := own_ne_blk hx.1 hg.1 (by decide)
  have HNXS := Lib.hid nXS
  have HNXG := Lib.hid nXG
  have HGW := Lib.hid hg.2
  clear hx hn nXS nXG hs hg h0 hlen hs0 hg0 hr0 hz HK6 HK8 hop nG nS nL
  go_enter Tryz.func12, Tryz.ntmps12
  go_wp2_with fail
  rw [← hw0]
  clear hw0
  refine HP.out.mono ?_
  rintro e w1 ⟨i, c, rfl, hi, rfl⟩
  have HI := Lib.hid hi
  have hform := HR0.out
  obtain ⟨va, vc, hvf⟩ := RowO.form (at' := at') hform
  subst hvf
  obtain ⟨g, rfl, hBg, hgw, hcell, hfz⟩ := RowO.at hform i (some c) hi
  unfold atV at hcell
  have hgG : ¬ g = G := HNG.out g rfl
  have hgS : ¬ g = S := HNS.out g rfl
  have hgL : g < w.heap.size := HNL.out g rfl
  have hgG' : ¬ G = g := fun e => hgG e.symm
  have hgS' : ¬ S = g := fun e => hgS e.symm
  have n6 : ¬ g = w.heap.size := by omega
  have n7 : ¬ g = w.heap.size + 1 := by omega
  have n6' : ¬ w.heap.size = g := by omega
  have n7' : ¬ w.heap.size + 1 = g := by omega
  obtain ⟨m, hm⟩ : ∃ m, m = at'.length := ⟨_, rfl⟩
  have him : i < m := by rw [hm]; exact (List.getElem?_eq_some_iff.1 hi).1
  have him' : (i : Int) < (m : Int) := by omega
  have hi0 : (0 : Int) ≤ (i : Int) := by omega
  have op1 : op ≤ 1000 := by have := HOP.out; have := HOPE.out; omega
  have hopi : (0 : Int) < (op : Int) := by omega
  rw [← hm] at g1
  have HM := Lib.hid hm
  clear hi hform hm hBg
  clear HP
  by_cases hcn : n ≤ c
  · have d1 : decide ((c : Int) < (n : Int)) = false := by simp; omega
    have d2 : decide (c < n) = false := by simp; omega
    go_wp2
    refine bodyPost_ret (v := .tuple #[.agg #[.bool true, .bool false, .int .i64 0, .int .i64 0, .bool false, .slice none 0 0, .int .u64 0, .string ⟨#[]⟩, .slice none 0 0, .slice none 0 0], .bool true]) (by simp [results, Tryz.results12, go_sem, p0, p1, p2, p3, p4, p5, p6, p7, p8, p9]) rfl ⟨i, c, HI.out, ?_, ?_, .inl ⟨by rw [HN.out]; exact hcn, rfl, ?_, ?_⟩⟩
    · exact ten_blk (Blk.put HS0.out 1 _) n1
    · exact ten_keep ((Only.of_below (S := (fun b => b = S ∨ b = G ∨ (Value.slice (some ⟨g, 0, none⟩) at'.length vc).ownBlock = some b)) HB9.out).setCell (p := ⟨S, 1, none⟩) (.inl (.inl rfl)) _) (.inr (Nat.le_refl _))
    · exact ten_blk ((HG0.out.far (p := ⟨S, 1, none⟩) n5 _)) n3
    · have h1 := own_only HR0.out ((Only.refl (· = S) w0).setCell (p := ⟨S, 1, none⟩) (.inl rfl) (.int .i64 (i : Int))) (fun k hk e => HNS.out k hk e)
      exact ten_own (g := w.heap.size) (d0 := .bool true) (d1 := .bool false) (d2 := .int .i64 0) (d3 := .int .i64 0) (d4 := .bool false) (d5 := .slice none 0 0) (d6 := .int .u64 0) (d7 := .string ⟨#[]⟩) (d8 := .slice none 0 0) (d9 := .slice none 0 0) h1 (fun k hk => Nat.ne_of_lt (HNL.out k hk))
  · have hcl : c < ps.length := by rw [HN.out]; omega
    have d1 : decide ((c : Int) < (n : Int)) = true := by simp; omega
    have d2 : decide (c < n) = true := by simp; omega
    have hc0 : (0 : Int) ≤ (c : Int) := by omega
    have hc1 : (c : Int) < (n : Int) := by omega
    have hc2 : (c : Int) < 1000 := by omega
    have hc3 : c < 1000 := by omega
    obtain ⟨gi, icap, neg, aa, mm, cc, b, tx, hve, hgi, hpe, e0, e1, e2, e3, e4, e5⟩ := HX0.out.at c hcl
    obtain ⟨k, hk⟩ : ∃ k, k = kx (ps[c]'hcl).2 := ⟨_, rfl⟩
    rw [← hk] at hpe e0
    have hve2 := HX.out.at c hcl
    injection hve with ha hb1 hb2
    subst ha
    clear hb1 hb2
    have hgS2 : ¬ gi = S := HNXS.out gi rfl
    have hgG2 : ¬ gi = G := HNXG.out gi rfl
    have hgi' : gi < w.heap.size := by
      obtain ⟨_, _, _, _, _, _, _, _, hve3, h, _⟩ := hve2
      injection hve3 with ha _ _
      injection ha with ha
      injection ha with ha _ _
      omega
    have hgg : ¬ gi = g := by
      intro e
      subst e
      obtain ⟨_, hbk⟩ := Blk.of_own (g := gi) (n := 0) (c := 0) HGW.out rfl
      exact own_ne_blk HX.out.1 hbk (by decide) gi rfl rfl
    have hgS2' : ¬ S = gi := fun e => hgS2 e.symm
    have hgG2' : ¬ G = gi := fun e => hgG2 e.symm
    have hgg' : ¬ g = gi := fun e => hgg e.symm
    have m6 : ¬ gi = w.heap.size := by omega
    have m7 : ¬ gi = w.heap.size + 1 := by omega
    have m6' : ¬ w.heap.size = gi := by omega
    have m7' : ¬ w.heap.size + 1 = gi := by omega
    have HPE := Lib.hid hpe
    clear hve2 hpe hk hcn hgi hgi'
    go_wp2
    refine bodyPost_ret (v := .tuple #[.agg #[.bool true, .bool true, .int .i64 0, .int .i64 k, .bool neg, .slice aa mm cc, .int .u64 b, .string tx, .slice none 0 0, .slice none 0 0], .bool true]) (by simp [results, Tryz.results12, go_sem, p0, p1, p2, p3, p4, p5, p6, p7, p8, p9]) rfl ⟨i, c, HI.out, ?_, ?_, .inr ⟨hcl, k, neg, aa, mm, cc, b, tx, HPE.out, rfl, ?_, ?_⟩⟩
    · exact ten_blk (((((((((Blk.put HS0.out 1 _).far (p := ⟨_, 1, none⟩) n2 _).far (p := ⟨_, 3, none⟩) n2 _).far (p := ⟨_, 4, none⟩) n2 _).far (p := ⟨_, 5, none⟩) n2 _).far (p := ⟨_, 6, none⟩) n2 _).far (p := ⟨_, 7, none⟩) n2 _).far (p := ⟨_, 8, none⟩) n2 _).far (p := ⟨g, i, none⟩) hgS' _) n1
    · exact ten_keep ((((((((((Only.of_below (S := (fun b => b = S ∨ b = G ∨ (Value.slice (some ⟨g, 0, none⟩) at'.length vc).ownBlock = some b)) HB9.out).setCell (p := ⟨S, 1, none⟩) (.inl (.inl rfl)) _).setCell (p := ⟨w.heap.size + 1, 1, none⟩) (.inr (Nat.le_succ _)) _).setCell (p := ⟨w.heap.size + 1, 3, none⟩) (.inr (Nat.le_succ _)) _).setCell (p := ⟨w.heap.size + 1, 4, none⟩) (.inr (Nat.le_succ _)) _).setCell (p := ⟨w.heap.size + 1, 5, none⟩) (.inr (Nat.le_succ _)) _).setCell (p := ⟨w.heap.size + 1, 6, none⟩) (.inr (Nat.le_succ _)) _).setCell (p := ⟨w.heap.size + 1, 7, none⟩) (.inr (Nat.le_succ _)) _).setCell (p := ⟨w.heap.size + 1, 8, none⟩) (.inr (Nat.le_succ _)) _).setCell (p := ⟨g, i, none⟩) (.inl (.inr (.inr rfl))) _) (.inr (Nat.le_refl _))
    · have e := openN_set_some at' i c (c + 1) HI.out
      rw [e]
      exact ten_blk (((((((((HG0.out.far (p := ⟨S, 1, none⟩) n5 _).far (p := ⟨_, 1, none⟩) n4 _).far (p := ⟨_, 3, none⟩) n4 _).far (p := ⟨_, 4, none⟩) n4 _).far (p := ⟨_, 5, none⟩) n4 _).far (p := ⟨_, 6, none⟩) n4 _).far (p := ⟨_, 7, none⟩) n4 _).far (p := ⟨_, 8, none⟩) n4 _).far (p := ⟨g, i, none⟩) hgG' _) n3
    · have hO : Only (fun b => b = S ∨ b = w.heap.size + 1) w0 _ := (((((((((Only.refl (fun b => b = S ∨ b = w.heap.size + 1) w0).setCell (p := ⟨S, 1, none⟩) (.inl (.inl rfl)) (.int .i64 (i : Int))).setCell (p := ⟨w.heap.size + 1, 1, none⟩) (.inl (.inr rfl)) (.bool true)).setCell (p := ⟨w.heap.size + 1, 3, none⟩) (.inl (.inr rfl)) (.int .i64 k)).setCell (p := ⟨w.heap.size + 1, 4, none⟩) (.inl (.inr rfl)) (.bool neg)).setCell (p := ⟨w.heap.size + 1, 5, none⟩) (.inl (.inr rfl)) (.slice aa mm cc)).setCell (p := ⟨w.heap.size + 1, 6, none⟩) (.inl (.inr rfl)) (.int .u64 b)).setCell (p := ⟨w.heap.size + 1, 7, none⟩) (.inl (.inr rfl)) (.string tx)).setCell (p := ⟨w.heap.size + 1, 8, none⟩) (.inl (.inr rfl)) (.slice none 0 0))
      have h1 := own_set (own_only HR0.out hO (fun q hq e => by
        rcases e with e | e
        · exact HNS.out q hq e
        · have := HNL.out q hq; omega)) (g := g) rfl i (.int .i64 ((c : Int) + 1))
      have h3 := ten_own (g := w.heap.size) (d0 := .bool true) (d1 := .bool true) (d2 := .int .i64 0) (d3 := .int .i64 k) (d4 := .bool neg) (d5 := .slice aa mm cc) (d6 := .int .u64 b) (d7 := .string tx) (d8 := .slice none 0 0) (d9 := .slice none 0 0) h1 (fun q hq => Nat.ne_of_lt (HNL.out q hq))
      have e1 : Value.int .i64 ((c : Int) + 1) = atV (some (c + 1)) := by unfold atV; simp
      unfold RowO
      rw [List.length_set, List.map_set, ← e1]
      exact h3
theorem Tryz.infoInt : (Tryz.prog.info? 3).map (fun i => (i.zero, i.size, i.bytes)) = some (some (.int .i64 0), 1, 8) := by kernel_rfl
theorem row_snoc {w : World} {B : Nat} {v : Value} {at' : List (Option Nat)} (h : w.ownsRow B 3 1 v (at'.length + 1) (at'.map atV ++ [.int .i64 0])) : RowO w B v (at' ++ [some 0]) := by
  unfold RowO
  simpa [atV] using h
def walk_openP (B G : Nat) (v : Value) (at' : List (Option Nat)) (w : World) (e : Ending) (w' : World) : Prop := ∃ v2, e = .returned (.tuple #[.agg #[.bool true, .bool false, .int .i64 (at'.length : Int), .int .i64 0, .bool false, .slice none 0 0, .int .u64 0, .string ⟨#[]⟩, .slice none 0 0, .slice none 0 0], .bool true]) ∧ GuardB w' B G v2 (at' ++ [some 0]) ∧ Only (fun b => b = G ∨ v.ownBlock = some b) w w'
set_option maxRecDepth 100000 in
set_option maxHeartbeats 8000000 in
theorem walk_open (B : Nat) (v : Value) (at' : List (Option Nat)) (G S : Nat) (si sj sm : Int) (ia : Option Addr) (n ic : Nat) (w : World) (hg : GuardB w B G v at') (hs : Blk w S 35 #[.int .i64 5, .int .i64 si, .int .i64 sj, .int .i64 sm, .int .i64 0, .bool false, .slice none 0 0, .int .u64 0, .string ⟨#[]⟩, .slice none 0 0, .int .i64 0, .bool false, .slice none 0 0, .int .u64 0, .string ⟨#[]⟩, .slice none 0 0, .slice none 0 0]) (hlen : at'.length ≤ 1000) (hB : B ≤ w.heap.size) :
    Calls Tryz.prog 12 #[.pointer (some ⟨G, 0, none⟩), .pointer (some ⟨S, 0, none⟩), .slice ia n ic] w (walk_openP B G v at' w) := by
  obtain ⟨va, vc, hvf⟩ := hg.2.form
  obtain ⟨m, hm⟩ : ∃ m, m = at'.length := ⟨_, rfl⟩
  rw [← hm] at hvf hlen
  subst hvf
  obtain ⟨w0, hw0⟩ : ∃ w0, w0 = ((w.alloc (.cells #[.bool false, .bool false, .int .i64 0, .int .i64 0, .bool false, .slice none 0 0, .int .u64 0, .string ⟨#[]⟩, .slice none 0 0, .slice none 0 0] 37)).alloc (.cells #[.bool true, .bool false, .int .i64 (m : Int), .int .i64 0, .bool false, .slice none 0 0, .int .u64 0, .string ⟨#[]⟩, .slice none 0 0, .slice none 0 0] 37)) := ⟨_, rfl⟩
  have HB0 : Hid (Below w.heap.size w w0) := by rw [hw0]; exact ((Below.refl w.heap.size w).alloc (Nat.le_refl _) _).alloc (by simp) _
  have HK6 : Hid (Blk w0 w.heap.size 37 #[.bool false, .bool false, .int .i64 0, .int .i64 0, .bool false, .slice none 0 0, .int .u64 0, .string ⟨#[]⟩, .slice none 0 0, .slice none 0 0]) := by rw [hw0]; exact (Blk.new w _ _).alloc _
  have HK8 : Hid (Blk w0 (w.heap.size + 1) 37 #[.bool true, .bool false, .int .i64 (m : Int), .int .i64 0, .bool false, .slice none 0 0, .int .u64 0, .string ⟨#[]⟩, .slice none 0 0, .slice none 0 0]) := by rw [hw0]; exact Blk.new_at _ _ _ (by simp)
  have HZ0 : Hid (w0.heap.size = w.heap.size + 2) := by rw [hw0]; simp [Hid]
  have hs0 := hs.below HB0.out hs.lt
  have hg0 := hg.1.below HB0.out hg.1.lt
  have hr0 := own_below hg.2 HB0.out
  have hl := hs.lt
  have hgl := hg.1.lt
  have hz := HZ0.out
  have b0 : w0.cell? ⟨S, 0, none⟩ = some (.int .i64 5) := (hs0.cell 0).trans rfl
  have b1 : w0.cell? ⟨S, 1, none⟩ = some (.int .i64 si) := (hs0.cell 1).trans rfl
  have c0 : w.cell? ⟨S, 0, none⟩ = some (.int .i64 5) := (hs.cell 0).trans rfl
  have c1 : w.cell? ⟨S, 1, none⟩ = some (.int .i64 si) := (hs.cell 1).trans rfl
  have f0 : w0.frozen? ⟨S, 0, none⟩ = false := hs0.frozen 0
  have f1 : w0.frozen? ⟨S, 1, none⟩ = false := hs0.frozen 1
  obtain ⟨g0, g1, g2, h0', h1', h2'⟩ := blk_grd hg0
  have n1 : ¬ S = w.heap.size := by omega
  have n2 : ¬ S = w.heap.size + 1 := by omega
  have n3 : ¬ G = w.heap.size := by omega
  have n4 : ¬ G = w.heap.size + 1 := by omega
  have n1' : ¬ w.heap.size = S := by omega
  have n2' : ¬ w.heap.size + 1 = S := by omega
  have n3' : ¬ w.heap.size = G := by omega
  have n4' : ¬ w.heap.size + 1 = G := by omega
  have n5 : ¬ G = S := by
    intro e
    subst e
    have := hs.symm.trans hg.1
    injection this with h
    injection h with _ h
    exact absurd h (by decide)
  have n5' : ¬ S = G := fun e => n5 e.symm
  have nG : ∀ q, (Value.slice va m vc).ownBlock = some q → q ≠ G := own_ne_blk hg.2 hg.1 (by decide)
  have nL : ∀ q, (Value.slice va m vc).ownBlock = some q → q < w.heap.size := fun q hq => (hg.2.lt q hq).2
  have HNG := Lib.hid nG
  have HNL := Lib.hid nL
  have HG0 := Lib.hid hg0
  have HR0 := Lib.hid hr0
  have HM := Lib.hid hm
  have HOP : Hid (openN at' ≤ m) := by rw [hm]; exact openN_le at'
  obtain ⟨op, hop⟩ : ∃ op, op = openN at' := ⟨_, rfl⟩
  have HOPE := Lib.hid hop
  rw [← hop] at g2
  have op1 : op ≤ 1000 := by have := HOP.out; omega
  have HB := Lib.hid hB
  have HBW : Hid (B ≤ w0.heap.size) := by unfold Hid; omega
  have hk1 := hg.1.cell 1
  have y1 : w.cell? ⟨G, 1, none⟩ = some (.slice va m vc) := (hg.1.cell 1).trans rfl
  obtain ⟨i0, hi0, hz0, hz1, hz2⟩ := info_parts Tryz.infoInt
  have HZ9 := HZ0
  have HB9 := HB0
  clear hs hg hs0 hg0 hr0 hz nG nL hop hB hk1 hm
  go_enter Tryz.func12, Tryz.ntmps12
  go_wp2_with (at_builtin; rw [← hw0]; refine wpList_append_one rfl (.tmp 29) (.tmp 30) 24 rfl w0 B 3 i0 _ 8 Tryz.underlying24 hi0 hz0 hz1 hz2 rfl _ at'.length _ HR0.out rfl (.int .i64 0) rfl (by rw [HZ9.out]; rfl) rfl (by unfold maxLen; have := HM.out; omega) (by have := HM.out; omega) HBW.out ?_; intro v6 w6 hr6 hb6 hgr6; have hro : RowO w6 B v6 (at' ++ [some 0]) := row_snoc hr6; obtain ⟨a6, cp6, hv6⟩ := hro.form; obtain ⟨m6, hm6⟩ : ∃ m6, m6 = (at' ++ [some 0]).length := ⟨_, rfl⟩; rw [← hm6] at hv6; have HM6 := Lib.hid hm6; subst hv6; have HRO := Lib.hid hro; have HGR := Lib.hid hgr6; have HB6 := Lib.hid hb6; have hkG := HG0.out.grown hgr6 (fun e => HNG.out G e.symm rfl); have hk6 := HK6.out.grown hgr6 (fun e => Nat.lt_irrefl _ (HNL.out _ e.symm)); have hk8 := HK8.out.grown hgr6 (fun e => Nat.not_succ_lt_self (HNL.out _ e.symm)); have HKG := Lib.hid hkG; have HNR := Lib.hid (own_ne_blk hro hkG (by decide)); have HN6 := Lib.hid (own_ne_blk hro hk6 (by decide)); rw [← HOPE.out] at hkG; obtain ⟨x0, x1, x2, y0, y1, y2⟩ := blk_grd hkG; obtain ⟨p0, p1, p2, p3, p4, p5, p6, p7, p8, p9, q0, q1, q2, q3, q4, q5, q6, q7, q8, q9⟩ := blk_ten hk6; obtain ⟨r0, r1, r2, r3, r4, r5, r6, r7, r8, r9, u0, u1, u2, u3, u4, u5, u6, u7, u8, u9⟩ := blk_ten hk8; clear hr6 hb6 hgr6 hro hm6 hkG hk6 hk8)
  refine bodyPost_ret (v := .tuple #[.agg #[.bool true, .bool false, .int .i64 (m : Int), .int .i64 0, .bool false, .slice none 0 0, .int .u64 0, .string ⟨#[]⟩, .slice none 0 0, .slice none 0 0], .bool true]) (by simp [results, Tryz.results12, go_sem, p0, p1, p2, p3, p4, p5, p6, p7, p8, p9]) rfl ⟨.slice a6 m6 cp6, by rw [HM.out], ⟨?_, ?_⟩, ?_⟩
  · have e2 : ((op : Int) + 1) = (openN (at' ++ [some 0]) : Int) := by rw [openN_snoc, ← HOPE.out]; simp
    rw [← e2]
    exact ten_blk (Blk.put (Blk.put HKG.out 1 _) 2 _) n3
  · have hO : Only (· = G) w6 _ := ((Only.refl (· = G) w6).setCell (p := ⟨G, 1, none⟩) (.inl rfl) (.slice a6 m6 cp6)).setCell (p := ⟨G, 2, none⟩) (.inl rfl) (.int .i64 ((op : Int) + 1))
    have h1 := own_only HRO.out hO (fun k hk e => HNR.out k hk e)
    exact ten_own (g := w.heap.size) (d0 := .bool true) (d1 := .bool false) (d2 := .int .i64 (m : Int)) (d3 := .int .i64 0) (d4 := .bool false) (d5 := .slice none 0 0) (d6 := .int .u64 0) (d7 := .string ⟨#[]⟩) (d8 := .slice none 0 0) (d9 := .slice none 0 0) h1 HN6.out
  · refine ten_keep (((((Only.of_below (S := (fun b => b = G ∨ (Value.slice va m vc).ownBlock = some b)) HB9.out).grown HGR.out (fun k hk => .inl (.inr hk)))).setCell (p := ⟨G, 1, none⟩) (.inl (.inl rfl)) _).setCell (p := ⟨G, 2, none⟩) (.inl (.inl rfl)) _) (.inr (Nat.le_refl _))
end Go.Proofs.YteibkaonofkcbaaGreat
