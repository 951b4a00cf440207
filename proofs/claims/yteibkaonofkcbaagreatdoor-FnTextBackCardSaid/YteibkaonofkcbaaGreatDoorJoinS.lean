/- join, over a tuple of texts. -/
import Derived.Test.YteibkaonofkcbaaGreatDoorTupIter
import Derived.Test.YteibkaonofkcbaaGreatDoorUnTup
import Derived.Test.YteibkaonofkcbaaGreatDoorWStr
import Derived.Test.YteibkaonofkcbaaGreatDoorOfTexts
import Derived.Test.YteibkaonofkcbaaGreatDoorRowEx
import Derived.Test.YteibkaonofkcbaaGreatDoorBuiltinB
import Derived.Deep.LoopGhost
import Derived.Deep.DeepCutAuto
import Derived.Tactics
import Derived.Defers
namespace Go.Proofs.YteibkaonofkcbaaGreatDoor
open Go.RowKit
attribute [local go_sem ↓] Go.wp_at_zero Go.wp_at_succ
@[go_sem] theorem Tryz.mIterT (a : Option Addr) (n c : Nat) (w : World) : (method 389 56 (.slice a n c) "Iterate").run Tryz.prog w = .ok (114, .slice a n c) w := by kernel_rfl
@[go_sem] theorem Tryz.mNextT (a : Addr) (w : World) : (method 389 220 (.pointer (some a)) "Next").run Tryz.prog w = .ok (169, .pointer (some a)) w := by kernel_rfl
@[go_sem] theorem Tryz.mDoneT (a : Addr) (w : World) : (method 389 220 (.pointer (some a)) "Done").run Tryz.prog w = .ok (168, .pointer (some a)) w := by kernel_rfl
theorem done_t (it : Nat) (u : FrameMode) (w : World) :
    CallsD Tryz.prog 168 #[.pointer (some ⟨it, 0, none⟩)] u w fun e u' w' => u' = u ∧ (e = .returned (.tuple #[]) ∧ w = w') := by
  go_enter_d Tryz.func168, Tryz.ntmps168
  go_wp2
  go_end0
  exact ⟨rfl, rfl⟩
set_option maxHeartbeats 1000000 in
theorem tup_end (it x k : Nat) (a : Option Addr) (w : World) (h : Blk w it 222 #[.slice a 0 k]) :
    Calls Tryz.prog 169 #[.pointer (some ⟨it, 0, none⟩), .pointer (some ⟨x, 0, none⟩)] w fun e w' => e = .returned (.bool false) ∧ w = w' := by
  obtain ⟨c0, f0⟩ := blk_one h
  clear h
  go_enter Tryz.func169, Tryz.ntmps169
  go_wp2
  go_ret
  exact ⟨rfl, rfl⟩
/-- A tuple of texts, at least one. -/
structure TupAt (w : World) (G n c : Nat) (ts : List ByteArray) : Prop where
  at_ : ∀ (j : Nat) x, ts[j]? = some x → w.cell? ⟨G, j, none⟩ = some (txV x)
  len : ts.length = n
  cap : n ≤ c
  one : 1 ≤ n
theorem TupAt.below {w w' : World} {G n c : Nat} {ts : List ByteArray} (h : TupAt w G n c ts) (hb : Below w.heap.size w w') : TupAt w' G n c ts :=
  ⟨fun j x hx => by
    have := h.at_ j x hx
    exact (hb.cell (p := ⟨G, j, none⟩) (World.block_lt_of_cell? w _ this)).trans this, h.len, h.cap, h.one⟩
theorem RowV.tup {w : World} {B : Nat} {v : Value} {ts : List ByteArray} (h : RowV w B v ts) (hne : ts ≠ []) : ∃ G c, v = .slice (some ⟨G, 0, none⟩) ts.length c ∧ TupAt w G ts.length c ts := by
  have hl : 1 ≤ ts.length := by
    cases ts with
    | nil => exact absurd rfl hne
    | cons x r => simp
  rcases h.2 with ⟨_, h0⟩ | ⟨g, cap, cur, rfl, hb, hh, h1, h2, h3, h4⟩
  · omega
  · refine ⟨g, cap, rfl, ⟨fun j x hx => ?_, rfl, h1, hl⟩⟩
    obtain ⟨g', e, hc⟩ := RowV.at (a := some ⟨g, 0, none⟩) (n := ts.length) (c := cap) h j x hx
    injection e with e
    injection e with e
    subst e
    exact hc
def JRel (w : World) (B it x b G n c : Nat) (ts : List ByteArray) (i : Nat) (xv : Value) (l : List UInt8) (wr : World) : Prop :=
  (∃ a' k', n - i ≤ k' ∧ (0 < n - i → a' = some ⟨G, i, none⟩) ∧ Blk wr it 222 #[.slice a' (n - i) k']) ∧ Blk wr x 49 #[xv] ∧ SB wr B b l ∧ TupAt wr G n c ts ∧ Below w.heap.size w wr
theorem joinL_step (p : List UInt8) (ts : List ByteArray) (i : Nat) (t : ByteArray) (hi : 0 < i) (ht : ts[i]? = some t) : joinL p (ts.take (i + 1)) = (joinL p (ts.take i) ++ p) ++ t.data.toList := by
  have hl : i < ts.length := (List.getElem?_eq_some_iff.1 ht).1
  have hx : ts[i] = t := (List.getElem?_eq_some_iff.1 ht).2
  rw [List.take_succ_eq_append_getElem hl, joinL_snoc, hx, List.append_assoc]
  intro h
  have := congrArg List.length h
  rw [List.length_take] at this
  simp at this
  rcases this with h | h
  · omega
  · rw [h] at hl; simp at hl
theorem SB.off {t : TypeId} {cs : Array Value} {w : World} {B b g : Nat} {l : List UInt8} (h : SB w B b l) (hk : Blk w g t cs) (ht : t ≠ 5) : Off w b g := by
  refine Classical.byContradiction fun e => ?_
  obtain ⟨cs, hk2⟩ := h.row_blk e
  have := hk.symm.trans hk2
  injection this with this
  injection this with _ this
  exact ht this
theorem JRel.write {w wr w' : World} {B it x b G n c i : Nat} {l l' : List UInt8} {xv : Value} {ts : List ByteArray} (h : JRel w B it x b G n c ts i xv l wr) (ho : Only (fun g => g = b ∨ ¬ Off wr b g) wr w') (hb : Below B wr w') (hs : SB w' B b l')
    (hw : w.heap.size ≤ B) (hG : G < B) (hx : it ≠ b) (hxb : x ≠ b) : JRel w B it x b G n c ts i xv l' w' := by
  obtain ⟨⟨a', k', h1, h2, h3⟩, h4, h5, h6, h7⟩ := h
  have o1 : Off wr b it := h5.off h3 (by decide)
  have o2 : Off wr b x := h5.off h4 (by decide)
  refine ⟨⟨a', k', h1, h2, h3.only ho ?_⟩, h4.only ho ?_, hs, ⟨fun j y hy => ?_, h6.len, h6.cap, h6.one⟩, h7.trans (hb.mono hw)⟩
  · rintro (e | e)
    · exact hx e
    · exact e o1
  · rintro (e | e)
    · exact hxb e
    · exact e o2
  · exact (hb.cell (p := ⟨G, j, none⟩) hG).trans (h6.at_ j y hy)
theorem JRel.next {w wr w' : World} {B it x b G n c i : Nat} {l : List UInt8} {xv u : Value} {ts : List ByteArray} (h : JRel w B it x b G n c ts i xv l wr) (ho : Only (fun q => q = it ∨ q = x) wr w')
    (hi : ∃ a' k', n - (i + 1) ≤ k' ∧ (0 < n - (i + 1) → a' = some ⟨G, i + 1, none⟩) ∧ Blk w' it 222 #[.slice a' (n - (i + 1)) k']) (hx : Blk w' x 49 #[u])
    (hw : w.heap.size ≤ it) (hwx : w.heap.size ≤ x) (hG : G < w.heap.size) (hib : it ≠ b) (hxb : x ≠ b) : JRel w B it x b G n c ts (i + 1) u l w' := by
  obtain ⟨⟨a', k', h1, h2, h3⟩, h4, h5, h6, h7⟩ := h
  refine ⟨hi, hx, SB.only h5 ho (by omega) ?_, ⟨fun j y hy => ?_, h6.len, h6.cap, h6.one⟩, h7.trans (ho.to_below h7.size (fun k _ e => by omega))⟩
  · rintro g (rfl | rfl)
    · exact h5.off h3 (by decide)
    · exact h5.off h4 (by decide)
  · have e : w'.cell? ⟨G, j, none⟩ = wr.cell? ⟨G, j, none⟩ := by
      have := h7.size
      simp only [World.cell?, ho.block G (by omega) (by omega)]
    exact e.trans (h6.at_ j y hy)
def JoinPost (p : ByteArray) (ts : List ByteArray) (w : World) (e : Ending) (w' : World) : Prop :=
  e = .returned (.tuple #[.iface 60 (.string ⟨(joinL p.data.toList ts).toArray⟩), .nilIface]) ∧ Below w.heap.size w w'
set_option maxRecDepth 100000 in
set_option maxHeartbeats 4000000 in
theorem string_join (p name : ByteArray) (fn : Value) (b0 A ca G n c : Nat) (ts : List ByteArray) (w : World) (hp : p.size ≤ 1000) (hn : n ≤ 2001) (hj : (joinL p.data.toList ts).length ≤ 1000)
    (hB : BuiltinAt w b0 name fn (.iface 60 (.string p))) (hA : w.cell? ⟨A, 0, none⟩ = some (.iface 56 (.slice (some ⟨G, 0, none⟩) n c))) (hT : TupAt w G n c ts) :
    Calls Tryz.prog 23 #[.pointer none, .pointer (some ⟨b0, 0, none⟩), .slice (some ⟨A, 0, none⟩) 1 ca, .slice none 0 0] w (JoinPost p ts w) := by
  have hAl : A < w.heap.size := World.block_lt_of_cell? w _ hA
  have hBl := hB.lt
  have HB := Lib.hid hB
  have HA := Lib.hid hA
  have HT := Lib.hid hT
  have HJ := Lib.hid hj
  have hGl : G < w.heap.size := by
    have h1 := hT.one
    rw [← hT.len] at h1
    exact World.block_lt_of_cell? w _ (hT.at_ 0 _ (List.getElem?_eq_getElem (by omega)))
  have HB0 := Lib.hid ((Below.refl w.heap.size w).alloc (Nat.le_refl _) (.cells #[.nilIface] 91))
  clear hB hA hT hj
  go_enter_defers Tryz.func23, Tryz.ntmps23
  go_wp2_with fail
  refine (recv_of b0 _ fn _ _ HB.out).mono ?_
  rintro e w' ⟨rfl, rfl⟩
  go_wp2_with fail
  refine (name_of b0 _ fn _ _ (HB.out.below HB0.out hBl)).mono ?_
  rintro e w' ⟨rfl, rfl⟩
  go_wp2_with fail
  have HB1 := Lib.hid (HB0.out.alloc (by simp) (.cells #[.iface 92 (.pointer (some ⟨w.heap.size, 0, none⟩))] 20))
  refine (unpack_one _ _ _ A ca (w.heap.size + 1) 1 w.heap.size _ ((HB1.out.cell (p := ⟨A, 0, none⟩) hAl).trans HA.out) (((Blk.new_at (w.alloc (.cells #[.nilIface] 91)) 20 #[.iface 92 (.pointer (some ⟨w.heap.size, 0, none⟩))] (n := w.heap.size + 1) (by simp)).cell 0).trans rfl) ((Blk.new w 91 #[.nilIface]).alloc _)).mono ?_
  rintro e w2 ⟨rfl, hk2, ho2⟩
  have HB2 := Lib.hid (HB1.out.trans (ho2.to_below HB1.out.size (fun k _ e => by omega)))
  obtain ⟨a0, a1⟩ := blk_one hk2
  clear hk2 ho2
  go_wp2_with fail
  refine (tup_iter _ n c _).mono ?_
  rintro e w3 ⟨he, hw3⟩
  obtain ⟨it, hit⟩ : ∃ it, it = w2.heap.size := ⟨_, rfl⟩
  have hi3 : Blk w3 it 222 #[.slice (some ⟨G, 0, none⟩) n c] := by rw [hw3, hit]; exact Blk.new _ _ _
  have hs3 : w3.heap.size = it + 1 := by rw [hw3, hit]; simp
  have hb3 : Below w.heap.size w w3 := by rw [hw3]; exact HB2.out.alloc HB2.out.size _
  have hiw : w.heap.size ≤ it := by rw [hit]; exact HB2.out.size
  rw [← hit] at he
  subst he
  obtain ⟨b, hbb⟩ : ∃ b, b = w3.heap.size := ⟨_, rfl⟩
  have hbi : it < b := by omega
  have hbw : w.heap.size ≤ b := by omega
  have HREL : Hid (JRel w b it (b + 1) b G n c ts 0 .nilIface [] ((w3.alloc (.cells #[.pointer none, .slice none 0 0] 98)).alloc (.cells #[.nilIface] 49))) := by
    have hT3 := HT.out.below hb3
    have hb4 : Below w3.heap.size w3 ((w3.alloc (.cells #[.pointer none, .slice none 0 0] 98)).alloc (.cells #[.nilIface] 49)) := ((Below.refl _ _).alloc (Nat.le_refl _) _).alloc (by simp) _
    refine ⟨⟨_, c, by have := HT.out.cap; omega, fun _ => rfl, (hi3.alloc _).alloc _⟩, by rw [hbb]; exact Blk.new_at _ _ _ (by simp), ?_, hT3.below hb4, hb3.trans (hb4.mono hb3.size)⟩
    rw [hbb]
    exact SB.only (sb_new w3) ((Only.refl (fun _ => False) _).alloc _) (fun h => h) (fun _ h => h.elim)
  have HBB := Lib.hid hbb
  have HB3 := Lib.hid hb3
  clear hi3 hs3 hb3 hit hw3 hbb
  go_wp2_with fail
  rw [← HBB.out]
  go_loopg [16, 17, 18] n (fun k iv _ _ wr => ∃ (i : Nat) (xv : Value), iv = .int .i64 (i : Int) ∧ k + i = n ∧ Hid (JRel w b it (b + 1) b G n c ts i xv (joinL p.data.toList (ts.take i)) wr))
  case atStart => exact ⟨0, _, rfl, rfl, HREL⟩
  case round =>
    obtain ⟨i, xv, rfl, hk0, hrel⟩ := hrel
    by_cases hin : i < n
    · have hil : i < ts.length := by rw [HT.out.len]; exact hin
      obtain ⟨t, ht⟩ : ∃ t, ts[i]? = some t := ⟨_, List.getElem?_eq_getElem hil⟩
      have HTI := Lib.hid ht
      obtain ⟨⟨a', k', h1, h2, h3⟩, h4, h5, h6, h7⟩ := hrel.out
      obtain ⟨m, hm⟩ : ∃ m, m = n - (i + 1) := ⟨_, rfl⟩
      have hnm : n - i = m + 1 := by omega
      obtain rfl := h2 (by omega)
      rw [hnm] at h3 h1
      have HNX := Lib.hid (tup_next it (b + 1) G i m k' xv t wr h3 h4 h1 (by omega) (h6.at_ i t ht))
      have HM := Lib.hid hm
      have hjl := joinL_take p.data.toList ts (i + 1)
      have hjl2 := joinL_take p.data.toList ts i
      have HL : Hid ((joinL p.data.toList (ts.take i)).length ≤ 1000 ∧ (joinL p.data.toList (ts.take (i + 1))).length ≤ 1000) := ⟨by have := HJ.out; omega, by have := HJ.out; omega⟩
      clear h1 h2 h3 h4 h5 h6 h7 ht hm hnm hjl hjl2
      go_wp2_with fail
      refine HNX.out.mono ?_
      rintro e w5 ⟨rfl, hit5, hx5, ho5⟩
      rw [HM.out] at hit5
      have HR5 := Lib.hid (hrel.out.next ho5 hit5 hx5 hiw (by omega) hGl (by omega) (by omega))
      clear hit5 hx5 ho5 HNX
      by_cases hi0 : i = 0
      · subst hi0
        have HE : Hid (joinL p.data.toList (ts.take (0 + 1)) = joinL p.data.toList (ts.take 0) ++ t.data.toList) := by
          have hx : ts[0] = t := (List.getElem?_eq_some_iff.1 HTI.out).2
          unfold Hid
          rw [List.take_succ_eq_append_getElem hil, hx]
          simp [joinL]
        obtain ⟨x0, x1⟩ := blk_one HR5.out.2.1
        unfold txV at x0
        go_wp2_with fail
        refine (as_string t _).mono ?_
        unfold AsStrPost
        rintro e w' ⟨rfl, rfl⟩
        go_wp2_with fail
        refine (write_string2 b b _ t _ HR5.out.2.2.1 (by have := HL.out.2; rw [HE.out, List.length_append] at this; simp at this ⊢; omega) (by have := HR5.out.2.2.1.lt; omega)).mono ?_
        rintro e w6 ⟨rfl, hs6, hb6, ho6⟩
        rw [← HE.out] at hs6
        have HR6 := Lib.hid (HR5.out.write ho6 hb6 hs6 hbw (by omega) (by omega) (by omega))
        clear hs6 hb6 ho6 x0 x1
        go_wp2_with fail
        go_roundg (n - (0 + 1))
        case measure => omega
        case rel => exact ⟨0 + 1, _, by go_num, by omega, HR6⟩
      · have hd : decide (0 < i) = true := decide_eq_true (by omega)
        have hd2 : decide ((0 : Int) < (i : Int)) = true := decide_eq_true (by omega)
        have HE := Lib.hid (joinL_step p.data.toList ts i t (by omega) HTI.out)
        have HL2 : Hid ((joinL p.data.toList (ts.take i)).length + p.size + t.size ≤ 1000) := by
          have := HL.out.2
          rw [HE.out] at this
          simp at this
          unfold Hid
          omega
        go_wp2_with fail
        refine (write_string2 b b _ p _ HR5.out.2.2.1 (by have := HL2.out; omega) (by have := HR5.out.2.2.1.lt; omega)).mono ?_
        rintro e w6 ⟨rfl, hs6, hb6, ho6⟩
        have HR6 := Lib.hid (HR5.out.write ho6 hb6 hs6 hbw (by omega) (by omega) (by omega))
        clear hs6 hb6 ho6
        obtain ⟨x0, x1⟩ := blk_one HR6.out.2.1
        unfold txV at x0
        go_wp2_with fail
        refine (as_string t _).mono ?_
        unfold AsStrPost
        rintro e w' ⟨rfl, rfl⟩
        go_wp2_with fail
        refine (write_string2 b b _ t _ HR6.out.2.2.1 (by have := HL2.out; simp; omega) (by have := HR6.out.2.2.1.lt; omega)).mono ?_
        rintro e w7 ⟨rfl, hs7, hb7, ho7⟩
        rw [← HE.out] at hs7
        have HR7 := Lib.hid (HR6.out.write ho7 hb7 hs7 hbw (by omega) (by omega) (by omega))
        clear hs7 hb7 ho7 x0 x1
        go_wp2_with fail
        go_roundg (n - (i + 1))
        case measure => omega
        case rel => exact ⟨i + 1, _, by go_num, by omega, HR7⟩
    · obtain rfl : i = n := by omega
      have HEND : Hid (Calls Tryz.prog 169 #[.pointer (some ⟨it, 0, none⟩), .pointer (some ⟨b + 1, 0, none⟩)] wr fun e w' => e = .returned (.bool false) ∧ wr = w') := by
        obtain ⟨⟨a', k', h1, h2, h3⟩, _⟩ := hrel.out
        rw [Nat.sub_self] at h3
        exact tup_end it (b + 1) k' a' wr h3
      have HSB : Hid (SB wr b b (joinL p.data.toList ts)) := by
        have := hrel.out.2.2.1
        rw [← HT.out.len, List.take_length] at this
        exact this
      go_wp2_with fail
      refine HEND.out.mono ?_
      rintro e w' ⟨rfl, rfl⟩
      go_wp2_with fail
      refine (builder_text b b _ _ HSB.out (by have := HSB.out.lt; omega)).mono ?_
      rintro e w9 ⟨rfl, hb9⟩
      have HB9 := Lib.hid (hrel.out.2.2.2.2.trans (hb9.mono hbw))
      clear hb9
      go_wp2_with fail
      refine leaves_cons (f := 168) (args := #[.pointer (some ⟨it, 0, none⟩)]) (by simp) (by kernel_rfl) ?_
      refine (done_t it _ _).mono ?_
      rintro e u' w8 ⟨rfl, rfl, rfl⟩
      exact ⟨_, results_tmp2 rfl _ _ _, rfl, HB9.out⟩
end Go.Proofs.YteibkaonofkcbaaGreatDoor
