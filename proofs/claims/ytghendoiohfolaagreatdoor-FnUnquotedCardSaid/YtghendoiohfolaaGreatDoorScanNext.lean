/- The reference's scanner: the next token, where a literal or the text's end stands; a line's beginning. -/
import Derived.Test.YtghendoiohfolaaGreatDoorScanWord
namespace Go.Proofs.YtghendoiohfolaaGreatDoor
set_option linter.unusedSimpArgs false
set_option linter.unusedVariables false
set_option linter.unnecessarySimpa false
open Go.RowKit
theorem only_trans {S : Nat → Prop} {w0 w w' : World} (h0 : Only S w0 w) (h4 : Only S w w') : Only S w0 w' :=
  ⟨h4.os.trans h0.os, h4.tape.trans h0.tape, h4.output.trans h0.output, Nat.le_trans h0.size h4.size, fun i hi hs => (h4.block i (Nat.lt_of_lt_of_le hi h0.size) hs).trans (h0.block i hi hs)⟩
def NLitPost (X B : Nat) (s : ByteArray) (n : Nat) (raw by_ bg : Bool) (bk ov : Value) (m : Nat) (xs : List Value) (t : List UInt8) (w : World) (e : Ending) (w' : World) : Prop :=
  e = .returned (.bool true) ∧ LitPost X B s n raw by_ bg bk ov m xs t w (.returned (.tuple #[])) w'
set_option maxRecDepth 20000 in
set_option maxHeartbeats 4000000 in
theorem next_q {w : World} {X B0 : Nat} {s : ByteArray} {ln cl : Int} {bg : Bool} {bk ov : Value} (wd : Nat) (hwd : wd = 1 ∨ wd = 3) (B : List UInt8) (q : UInt8) (m : Nat) (xs : List Value) (h : Sc w X s 0 ln cl bg bk ov 2) (ho : Outs w B0 ov m xs) (hBw : B0 ≤ w.heap.size) (hm : m ≤ 1000)
    (hL : s.data.toList = litL [] wd q B ++ [10]) (hq : q = 34 ∨ q = 39) (hB : Body q B) (hp : PlainL B) :
    Calls Tryz.prog 14 #[.pointer (some ⟨X, 0, none⟩)] w (NLitPost X B0 s (([] : List UInt8).length + 2 * wd + B.length) (([] : List UInt8).contains 114) (([] : List UInt8).contains 98) bg bk ov m xs B w) := by
  have HLIT : Hid (∀ W : World, Sc W X s 0 ln cl bg bk ov 2 → Outs W B0 ov m xs → B0 ≤ W.heap.size → Calls Tryz.prog 27 #[.pointer (some ⟨X, 0, none⟩), .int .i64 0] W (LitPost X B0 s (([] : List UInt8).length + 2 * wd + B.length) (([] : List UInt8).contains 114) (([] : List UInt8).contains 98) bg bk ov m xs B W)) :=
    fun W h1 h2 h3 => literal_any wd hwd [] B q m xs h1 h2 h3 hm hL (by decide) hq hB hp
  have HS := Lib.hid h
  have HO := Lib.hid ho
  have HBW := Lib.hid hBw
  have HQ := Lib.hid hq
  have hbl := hB.len
  have hsz : s.size = wd + wd + B.length + 1 := by
    have := congrArg List.length hL
    rw [List.length_append, litL_len] at this
    simp at this
    omega
  have hs1 : s.size ≤ 10000 := by omega
  have HP0 : Hid (pk s.data.toList (0 + 0) = q) := by unfold Hid; rw [hL]; exact pk_open (a := []) (j := 0) [10] (by omega) rfl
  have qn : q.toNat = 34 ∨ q.toNat = 39 := by rcases hq with rfl | rfl <;> simp
  have q1 : ((q.toNat : Int) == 32) = false := beq_lit q 32 (by omega) (by omega)
  have q2 : ((q.toNat : Int) == 9) = false := beq_lit q 9 (by omega) (by omega)
  have q3 : ((q.toNat : Int) == 10) = false := beq_lit q 10 (by omega) (by omega)
  have q4 : ((q.toNat : Int) == 35) = false := beq_lit q 35 (by omega) (by omega)
  have q5 : ((q.toNat : Int) == 92) = false := beq_lit q 92 (by omega) (by omega)
  have q6 : ((q.toNat : Int) == 46) = false := beq_lit q 46 (by omega) (by omega)
  have qd : ((q.toNat : Int) == 34) = true ∨ (((q.toNat : Int) == 34) = false ∧ ((q.toNat : Int) == 39) = true) := by
    rcases hq with rfl | rfl
    · exact .inl rfl
    · exact .inr ⟨rfl, rfl⟩
  clear h ho hBw hL hB hp hq hsz hwd qn
  rcases qd with qd | ⟨qd, qd2⟩
  all_goals
    go_enter Tryz.func14, Tryz.ntmps14
    go_wp2_with fail
    refine (peek_any 0 0 HS.out (by omega) (by omega) (by omega)).mono ?_
    rw [HP0.out]
    rintro e w' ⟨rfl, m1, rfl⟩
    go_wp2_with fail
    refine (digit_no q (HQ.out.elim .inl (fun h => .inr (.inl h))) _).mono ?_
    rintro e w' ⟨rfl, rfl⟩
    go_wp2_with fail
    refine (letter_no q HQ.out _).mono ?_
    rintro e w' ⟨rfl, rfl⟩
    go_wp2_with fail
    refine (HLIT.out _ (HS.out.drewN _) (own_below HO.out (below_dn (Below.refl _ _) _)) HBW.out).mono ?_
    rintro e w5 hpost
    obtain rfl := hpost.ends
    have HPOST := Lib.hid (hpost.only ((Only.refl _ w).drewN _))
    clear hpost
    go_wp2
    go_ret
    exact ⟨rfl, HPOST.out⟩
set_option maxRecDepth 20000 in
set_option maxHeartbeats 4000000 in
theorem next_word {w : World} {X B0 : Nat} {s : ByteArray} {ln cl : Int} {bg raw by_ : Bool} {bk ov : Value} {n : Nat} {B : List UInt8} (f : UInt8) (m : Nat) (xs : List Value) (h : Sc w X s 0 ln cl bg bk ov 2) (ho : Outs w B0 ov m xs) (hBw : B0 ≤ w.heap.size) (hs1 : s.size ≤ 10000)
    (hf : f = 114 ∨ f = 98) (hpk : pk s.data.toList 0 = f)
    (HLIT : Hid (∀ W : World, Sc W X s 0 ln cl bg bk ov 2 → Outs W B0 ov m xs → B0 ≤ W.heap.size → Calls Tryz.prog 26 #[.pointer (some ⟨X, 0, none⟩)] W (LitPost X B0 s n raw by_ bg bk ov m xs B W))) :
    Calls Tryz.prog 14 #[.pointer (some ⟨X, 0, none⟩)] w (NLitPost X B0 s n raw by_ bg bk ov m xs B w) := by
  have HS := Lib.hid h
  have HO := Lib.hid ho
  have HBW := Lib.hid hBw
  have HQ := Lib.hid hf
  have HP0 : Hid (pk s.data.toList (0 + 0) = f) := hpk
  have qn : f.toNat = 114 ∨ f.toNat = 98 := by rcases hf with rfl | rfl <;> simp
  have q1 : ((f.toNat : Int) == 32) = false := beq_lit f 32 (by omega) (by omega)
  have q2 : ((f.toNat : Int) == 9) = false := beq_lit f 9 (by omega) (by omega)
  have q3 : ((f.toNat : Int) == 10) = false := beq_lit f 10 (by omega) (by omega)
  have q4 : ((f.toNat : Int) == 35) = false := beq_lit f 35 (by omega) (by omega)
  have q5 : ((f.toNat : Int) == 92) = false := beq_lit f 92 (by omega) (by omega)
  have q6 : ((f.toNat : Int) == 46) = false := beq_lit f 46 (by omega) (by omega)
  clear h ho hBw hf hpk qn
  go_enter Tryz.func14, Tryz.ntmps14
  go_wp2_with fail
  refine (peek_any 0 0 HS.out (by omega) (by omega) (by omega)).mono ?_
  rw [HP0.out]
  rintro e w' ⟨rfl, m1, rfl⟩
  go_wp2_with fail
  refine (digit_no f (HQ.out.elim (fun h => .inr (.inr (.inl h))) (fun h => .inr (.inr (.inr h)))) _).mono ?_
  rintro e w' ⟨rfl, rfl⟩
  go_wp2_with fail
  refine (letter_yes f HQ.out _).mono ?_
  rintro e w' ⟨rfl, rfl⟩
  go_wp2_with fail
  refine (HLIT.out _ (HS.out.drewN _) (own_below HO.out (below_dn (Below.refl _ _) _)) HBW.out).mono ?_
  rintro e w5 hpost
  obtain rfl := hpost.ends
  have HPOST := Lib.hid (hpost.only ((Only.refl _ w).drewN _))
  clear hpost
  go_wp2
  go_ret
  exact ⟨rfl, HPOST.out⟩
def NnlPost (X B : Nat) (s : ByteArray) (a : Nat) (bk ov : Value) (m : Nat) (xs : List Value) (w : World) (e : Ending) (w' : World) : Prop :=
  e = .returned (.bool true) ∧ Only (fun k => k = X ∨ ov.ownBlock = some k) w w' ∧ ∃ l c el ec ov', Sc w' X s ((a + 1 : Nat) : Int) el ec true bk ov' 2 ∧ Outs w' B ov' (m + 1) (xs ++ pieceC 2 (s.extract a (a + 1)) 0 ⟨#[]⟩ l c el ec)
set_option maxRecDepth 20000 in
set_option maxHeartbeats 4000000 in
theorem next_nl {w : World} {X B0 : Nat} {s : ByteArray} {ln cl : Int} {bg : Bool} {bk ov : Value} (a m : Nat) (xs : List Value) (h : Sc w X s a ln cl bg bk ov 2) (ho : Outs w B0 ov m xs) (hBw : B0 ≤ w.heap.size) (hm : m ≤ 1000) (hs1 : s.size ≤ 10000)
    (ha : a + 1 ≤ s.size) (hpk : pk s.data.toList a = 10) :
    Calls Tryz.prog 14 #[.pointer (some ⟨X, 0, none⟩)] w (NnlPost X B0 s a bk ov m xs w) := by
  have HS := Lib.hid h
  have HO := Lib.hid ho
  have HBW := Lib.hid hBw
  obtain ⟨f, hf⟩ : ∃ f : UInt8, f = 10 := ⟨_, rfl⟩
  have HP0 : Hid (pk s.data.toList (a + 0) = f) := by rw [hf]; exact hpk
  have q1 : ((f.toNat : Int) == 32) = false := by rw [hf]; rfl
  have q2 : ((f.toNat : Int) == 9) = false := by rw [hf]; rfl
  have q3 : ((f.toNat : Int) == 10) = true := by rw [hf]; rfl
  obtain ⟨-, -, -, -, c4, c5, -, -, -⟩ := h.cells
  clear h ho hBw hpk hf
  go_enter Tryz.func14, Tryz.ntmps14
  go_wp2_with fail
  refine (peek_any a 0 HS.out (by omega) (by omega) (by omega)).mono ?_
  rw [HP0.out]
  rintro e w' ⟨rfl, m1, rfl⟩
  go_wp2_with fail
  refine (put_any a 1 m xs 2 0 ⟨#[]⟩ (HS.out.drewN _) (own_below HO.out (below_dn (Below.refl _ _) _)) HBW.out hm (by omega) ha).mono ?_
  rintro e w5 ⟨rfl, l, c, el, ec, ov', hsc5, ho5, hon5⟩
  have HSC5 := Lib.hid hsc5
  have HO5 := Lib.hid ho5
  have HON5 := Lib.hid (only_trans ((Only.refl _ w).drewN _) hon5)
  obtain ⟨-, -, -, -, d4, -, -, -, -⟩ := hsc5.cells
  have f4 := hsc5.fz 4
  clear hsc5 ho5 hon5
  go_wp2
  go_ret
  exact ⟨rfl, HON5.out.setCell (p := ⟨X, 4, none⟩) (.inl (.inl rfl)) _, l, c, el, ec, ov', HSC5.out.put4 _, own_only HO5.out ((Only.refl (· = X) w5).setCell (p := ⟨X, 4, none⟩) (.inl rfl) _) (fun g hg e => own_ne_blk HO5.out HSC5.out (by decide) g hg e)⟩
def BegPost (X : Nat) (s : ByteArray) (bk ov : Value) (w : World) (e : Ending) (w' : World) : Prop :=
  e = .returned (.tuple #[]) ∧ Only (· = X) w w' ∧ ∃ l c, Sc w' X s 0 l c false bk ov 2
set_option maxRecDepth 20000 in
set_option maxHeartbeats 4000000 in
theorem begin_any {w : World} {X K : Nat} {s : ByteArray} {ln cl : Int} {bg : Bool} {ov : Value} (f : UInt8) (h : Sc w X s 0 ln cl bg (.slice (some ⟨K, 0, none⟩) 1 1) ov 2) (hK : Blk w K 3 #[.int .i64 0]) (hs1 : s.size ≤ 10000) (hpk : pk s.data.toList 0 = f) (hf : f = 34 ∨ f = 39 ∨ f = 114 ∨ f = 98) :
    Calls Tryz.prog 13 #[.pointer (some ⟨X, 0, none⟩)] w (BegPost X s (.slice (some ⟨K, 0, none⟩) 1 1) ov w) := by
  have HS := Lib.hid h
  have HK := Lib.hid hK
  have HP0 : Hid (pk s.data.toList (0 + 0) = f) := hpk
  have qn : f.toNat = 34 ∨ f.toNat = 39 ∨ f.toNat = 114 ∨ f.toNat = 98 := by rcases hf with rfl | rfl | rfl | rfl <;> simp
  have q1 : ((f.toNat : Int) == 32) = false := beq_lit f 32 (by omega) (by omega)
  have q2 : ((f.toNat : Int) == 9) = false := beq_lit f 9 (by omega) (by omega)
  have q3 : ((f.toNat : Int) == 10) = false := beq_lit f 10 (by omega) (by omega)
  have q4 : ((f.toNat : Int) == 35) = false := beq_lit f 35 (by omega) (by omega)
  have q5 : ((f.toNat : Int) == 92) = false := beq_lit f 92 (by omega) (by omega)
  have hKX : K ≠ X := by
    intro e
    subst e
    unfold Sc Blk at h
    unfold Blk at hK
    rw [hK] at h
    injection h with h
    injection h with h1 _
    simp at h1
  have HKX := Lib.hid hKX
  clear h hK hpk hf qn hKX
  go_enter Tryz.func13, Tryz.ntmps13
  go_wp2_with fail
  refine wp_loop_rounds 1 ?_
  rw [rounds_succ]
  go_wp2_with fail
  refine (peek_any 0 0 HS.out (by omega) (by omega) (by omega)).mono ?_
  rw [HP0.out]
  rintro e w' ⟨rfl, m1, rfl⟩
  go_wp2_with fail
  refine (peek_any 0 0 (HS.out.drewN _) (by omega) (by omega) (by omega)).mono ?_
  rw [HP0.out]
  rintro e w' ⟨rfl, m2, rfl⟩
  go_wp2_with fail
  refine (move_any 0 0 (HS.out.drewN _) (by omega) (by omega)).mono ?_
  rintro e w5 ⟨rfl, ⟨l, c, hsc⟩, hon⟩
  have HSC5 := Lib.hid hsc
  have HON5 := Lib.hid (only_trans ((Only.refl _ w).drewN _) hon)
  have HK5 : Hid (Blk w5 K 3 #[.int .i64 0]) := Blk.only (Blk.drewN HK.out _) hon HKX.out
  obtain ⟨-, -, -, -, c4, -, c6, -, -⟩ := hsc.cells
  have f4 := hsc.fz 4
  have k0 : w5.cell? ⟨K, 0, none⟩ = some (.int .i64 0) := by rw [HK5.out.cell 0]; rfl
  clear hsc hon
  go_wp2_with fail
  obtain ⟨w6, hw6⟩ : ∃ w6, w6 = w5.setCell ⟨X, 4, none⟩ (.bool false) := ⟨_, rfl⟩
  have HSC6 : Hid (Sc w6 X s 0 l c false (.slice (some ⟨K, 0, none⟩) 1 1) ov 2) := by rw [hw6]; exact HSC5.out.put4 _
  have HK6 : Hid (Blk w6 K 3 #[.int .i64 0]) := by rw [hw6]; exact HK5.out.far (p := ⟨X, 4, none⟩) HKX.out _
  have HON6 : Hid (Only (· = X) w w6) := by rw [hw6]; exact HON5.out.setCell (p := ⟨X, 4, none⟩) (.inl rfl) _
  rw [← hw6]
  clear hw6 c4 c6 f4 k0
  obtain ⟨-, -, -, -, -, -, c6, -, -⟩ := HSC6.out.cells
  have k0 : w6.cell? ⟨K, 0, none⟩ = some (.int .i64 0) := by rw [HK6.out.cell 0]; rfl
  go_quiet (fail)
  go_wp2_with fail
  refine wp_loop_rounds 1 ?_
  rw [rounds_succ]
  go_wp2_with fail
  go_quiet (fail)
  go_wp2
  go_end0
  exact ⟨rfl, (HON6.out.drewN _).drewN _, l, c, (HSC6.out.drewN _).drewN _⟩
end Go.Proofs.YtghendoiohfolaaGreatDoor
