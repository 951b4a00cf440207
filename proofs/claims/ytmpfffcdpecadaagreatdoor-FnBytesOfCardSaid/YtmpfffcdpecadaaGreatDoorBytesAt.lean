/- bytes of a list: the package's function. -/
import Derived.Test.YtmpfffcdpecadaaGreatDoorDone
import Derived.Test.YtmpfffcdpecadaaGreatDoorBString
import Derived.Test.YtmpfffcdpecadaaGreatDoorAsByte
import Derived.Deep.LoopGhost
import Derived.Tactics
import Derived.Defers
namespace Go.Proofs.YtmpfffcdpecadaaGreatDoor
open Go.RowKit
attribute [local go_sem ↓] Go.wp_at_zero Go.wp_at_succ
@[go_sem] theorem Tryz.isIter (v : Value) (w : World) : (Instr.typeAssert (.iface 37 v) 41 80 true).run Tryz.prog w = .ok (.tuple #[.iface 37 v, .bool true]) w := by kernel_rfl
@[go_sem] theorem Tryz.noByt (v : Value) (w : World) : (Instr.typeAssert (.iface 37 v) 41 46 true).run Tryz.prog w = .ok (.tuple #[.string ⟨#[]⟩, .bool false]) w := by kernel_rfl
@[go_sem] theorem Tryz.noStr (v : Value) (w : World) : (Instr.typeAssert (.iface 37 v) 41 77 true).run Tryz.prog w = .ok (.tuple #[.string ⟨#[]⟩, .bool false]) w := by kernel_rfl
@[go_sem] theorem Tryz.isIdx (v : Value) (w : World) : (Instr.typeAssert (.iface 37 v) 41 115 true).run Tryz.prog w = .ok (.tuple #[.iface 37 v, .bool true]) w := by kernel_rfl
@[go_sem] theorem Tryz.mLen (a : Addr) (w : World) : (method 389 37 (.pointer (some a)) "Len").run Tryz.prog w = .ok (121, .pointer (some a)) w := by kernel_rfl
set_option maxRecDepth 20000 in
theorem len_any (L n c : Nat) (a : Option Addr) (k : Int) (w : World) (h : ListB w L (.slice a n c) k) :
    Calls Tryz.prog 32 #[.iface 37 (.pointer (some ⟨L, 0, none⟩))] w fun e w' => e = .returned (.int .i64 (n : Int)) ∧ w = w' := by
  have H := Lib.hid (list_len L n c a k w h)
  clear h
  go_enter Tryz.func32, Tryz.ntmps32
  go_wp2_with fail
  refine H.out.mono ?_
  rintro e w1 ⟨rfl, rfl⟩
  go_wp2
  go_ret
  exact ⟨rfl, rfl⟩
def BytesRes (l : List Sx) (e : Ending) : Prop :=
  (∃ acc, bX l = some acc ∧ e = .returned (.tuple #[.iface 46 (.string ⟨acc.toArray⟩), .nilIface])) ∨ (bX l = none ∧ ∃ v, ErrX v ∧ e = .returned (.tuple #[.nilIface, v]))
def BytesPost (l : List Sx) (L : Nat) (w : World) (e : Ending) (w' : World) : Prop := BytesRes l e ∧ Only (· = L) w w'
structure BRel (w : World) (B L b it x y : Nat) (v : Value) (ps : List (Value × Sx)) (i : Nat) (acc : List UInt8) (wr : World) : Prop where
  ri : IterB wr it L (i : Int)
  li : ListB wr L v 1
  bx : ∃ old, Blk wr x 41 #[old]
  by_ : ∃ old, Blk wr y 5 #[old]
  ro : RowT wr B v ps
  sb : SB wr w.heap.size b acc
  off : Off wr b y ∧ Off wr b x ∧ Off wr b it
  on : Only (· = L) w wr
  ac : (ps.take i).map (fun p => byteX p.2) = acc.map some
/-- Where the call's own blocks lie. -/
structure BPl (w : World) (L b it x y : Nat) (v : Value) : Prop where
  p1 : L < w.heap.size
  p2 : b = w.heap.size
  p3 : b < it
  p4 : it < x
  p5 : x < y
  p6 : ∀ g, v.ownBlock = some g → g < w.heap.size ∧ g ≠ L
/-- The element stands in x. -/
theorem BRel.next {w wr w5 : World} {B L b it x y i : Nat} {v u : Value} {ps : List (Value × Sx)} {acc : List UInt8} (h : BRel w B L b it x y v ps i acc wr) (hp : BPl w L b it x y v)
    (h1 : IterB w5 it L ((i + 1 : Nat) : Int)) (h2 : Blk w5 x 41 #[u]) (ho : Only (fun q => q = it ∨ q = x) wr w5) :
    ListB w5 L v 1 ∧ (∃ old, Blk w5 y 5 #[old]) ∧ RowT w5 B v ps ∧ SB w5 w.heap.size b acc ∧ (Off w5 b y ∧ Off w5 b x ∧ Off w5 b it) ∧ Only (· = L) w w5 ∧ ∀ s, TVal wr u s → TVal w5 u s := by
  obtain ⟨pa, pb, pc, pd, pe, pf⟩ := hp
  obtain ⟨o1, ho1⟩ := h.by_
  obtain ⟨o2, ho2⟩ := h.bx
  have hs : ∀ q, (fun q => q = it ∨ q = x) q → q < wr.heap.size → ∃ t cs, Blk wr q t cs ∧ 139 ≠ t ∧ 174 ≠ t := by
    rintro q (rfl | rfl) _
    · exact ⟨_, _, h.ri, by decide, by decide⟩
    · exact ⟨_, _, ho2, by decide, by decide⟩
  have hbl := h.sb.lt
  refine ⟨Blk.only h.li ho (by omega), ⟨o1, ho1.only ho (by omega)⟩, h.ro.apart (fun q hq e => ?_) hs ho, h.sb.only ho (by omega) (fun g e => ?_), ⟨h.off.1.only ho (by omega) hbl, h.off.2.1.only ho (by omega) hbl, h.off.2.2.only ho (by omega) hbl⟩, ?_, fun s h => h.apart hs ho⟩
  · have := pf q hq
    rcases e with e | e <;> omega
  · rcases e with e | e <;> subst e
    · exact h.off.2.2
    · exact h.off.2.1
  · exact ⟨ho.os.trans h.on.os, ho.tape.trans h.on.tape, ho.output.trans h.on.output, Nat.le_trans h.on.size ho.size, fun q hq hn => (ho.block q (by have := h.on.size; omega) (by omega)).trans (h.on.block q hq hn)⟩
/-- Its byte is put behind the others. -/
theorem BRel.put {w w5 w6 : World} {B L b it x y i : Nat} {v u : Value} {ps : List (Value × Sx)} {acc : List UInt8} {c : UInt8} {e : Ending} (hp : BPl w L b it x y v)
    (k1 : IterB w5 it L ((i + 1 : Nat) : Int)) (k2 : ListB w5 L v 1) (k3 : Blk w5 x 41 #[u]) (k4 : RowT w5 B v ps) (k5 : SB w5 w.heap.size b acc) (k6 : Off w5 b y ∧ Off w5 b x ∧ Off w5 b it) (k7 : Only (· = L) w w5)
    (k8 : ∃ old, Blk w5 y 5 #[old]) (hy : Blk w6 y 5 #[.int .u8 (c.toNat : Int)]) (ho : Only (· = y) w5 w6) :
    SB w6 w.heap.size b acc ∧ (∀ w7, WBPost w.heap.size b acc c w6 e w7 → (ps.take (i + 1)).map (fun p => byteX p.2) = (acc ++ [c]).map some → BRel w B L b it x y v ps (i + 1) (acc ++ [c]) w7) := by
  obtain ⟨pa, pb, pc, pd, pe, pf⟩ := hp
  obtain ⟨o1, ho1⟩ := k8
  have hbl := k5.lt
  have m1 : IterB w6 it L ((i + 1 : Nat) : Int) := Blk.only k1 ho (by omega)
  have m2 : ListB w6 L v 1 := Blk.only k2 ho (by omega)
  have m3 := Blk.only k3 ho (by omega)
  have m4 : RowT w6 B v ps := k4.apart (fun q hq e => by have := pf q hq; omega) (fun g e _ => ⟨_, _, by subst e; exact ho1, by decide, by decide⟩) ho
  have m5 : SB w6 w.heap.size b acc := k5.only ho (by omega) (fun g e => by subst e; exact k6.1)
  have m6 : Off w6 b y ∧ Off w6 b x ∧ Off w6 b it := ⟨k6.1.only ho (by omega) hbl, k6.2.1.only ho (by omega) hbl, k6.2.2.only ho (by omega) hbl⟩
  refine ⟨m5, ?_⟩
  rintro w7 ⟨_, n1, n2, n3, n4⟩ hac
  have n5 := n4 (fun g => g = b ∨ ¬ Off w6 b g) (.inl rfl) (fun g h => .inr h)
  have hne : ∀ g, g ≠ b → Off w6 b g → ¬ (g = b ∨ ¬ Off w6 b g) := fun g h1 h2 h => h.elim h1 (fun h => h h2)
  have hlt1 := m1.lt
  have hlt2 := m3.lt
  have hlt3 := hy.lt
  have hs : ∀ q, (fun g => g = b ∨ ¬ Off w6 b g) q → q < w6.heap.size → ∃ t cs, Blk w6 q t cs ∧ 139 ≠ t ∧ 174 ≠ t := by
    rintro q (rfl | hq) _
    · obtain ⟨cs, h⟩ := m5.blk
      exact ⟨_, _, h, by decide, by decide⟩
    · obtain ⟨cs, h⟩ := m5.row_blk hq
      exact ⟨_, _, h, by decide, by decide⟩
  refine ⟨Blk.only m1 n5 (hne _ (by omega) m6.2.2), Blk.only m2 n5 (hne _ (by omega) (m5.row_base _ (by omega))), ⟨_, Blk.only m3 n5 (hne _ (by omega) m6.2.1)⟩, ⟨_, Blk.only hy n5 (hne _ (by omega) m6.1)⟩, ?_, n1, ⟨n3 _ hlt3 m6.1, n3 _ hlt2 m6.2.1, n3 _ hlt1 m6.2.2⟩, ?_, hac⟩
  · refine m4.apart (fun q hq e => ?_) hs n5
    have := pf q hq
    exact hne q (by omega) (m5.row_base _ (by omega)) e
  · have e1 : Only (· = L) w w6 := ⟨ho.os.trans k7.os, ho.tape.trans k7.tape, ho.output.trans k7.output, Nat.le_trans k7.size ho.size, fun q hq hn => (ho.block q (by have := k7.size; omega) (by omega)).trans (k7.block q hq hn)⟩
    exact ⟨n2.os.trans e1.os, n2.tape.trans e1.tape, n2.output.trans e1.output, Nat.le_trans e1.size n2.size, fun q hq hn => (n2.block q hq).trans (e1.block q hq hn)⟩
set_option maxRecDepth 100000 in
set_option maxHeartbeats 4000000 in
theorem bytes_at (L A ca B : Nat) (v : Value) (ps : List (Value × Sx)) (w : World) (hA : w.cell? ⟨A, 0, none⟩ = some (.iface 37 (.pointer (some ⟨L, 0, none⟩)))) (hL : ListB w L v 0) (hR : RowT w B v ps) (hl : ps.length ≤ 1000) :
    Calls Tryz.prog 21 #[.pointer none, .pointer none, .slice (some ⟨A, 0, none⟩) 1 ca, .slice none 0 0] w (BytesPost (ps.map (·.2)) L w) := by
  have hAl : A < w.heap.size := World.block_lt_of_cell? w _ hA
  have hLl : L < w.heap.size := hL.lt
  have HVl := Lib.hid (fun g (hg : v.ownBlock = some g) => (hR.1.lt g hg).2)
  have HvL := Lib.hid (fun g (hg : v.ownBlock = some g) => own_ne_blk hR.1 hL (by decide) g hg)
  have HB0 := Lib.hid ((Below.refl w.heap.size w).alloc (Nat.le_refl _) (.cells #[.pointer none, .slice none 0 0] 83))
  have hrf : ∃ a c, v = .slice a ps.length c := by
    rcases hR.1.2 with ⟨rfl, h0⟩ | ⟨g, cap, cur, rfl, _⟩
    · exact ⟨none, 0, by rw [h0]⟩
    · exact ⟨_, _, rfl⟩
  have HLEN : Hid (∀ W, ListB W L v 0 → Calls Tryz.prog 32 #[.iface 37 (.pointer (some ⟨L, 0, none⟩))] W fun e w' => e = .returned (.int .i64 (ps.length : Int)) ∧ W = w') := by
    obtain ⟨a, c, rfl⟩ := hrf
    exact fun W hW => len_any L ps.length c a 0 W hW
  have HL := Lib.hid hL
  have HR := Lib.hid hR
  have HA := Lib.hid hA
  clear hA hL hR hrf
  go_enter_defers Tryz.func21, Tryz.ntmps21
  have c0 := HA.out
  go_wp2_with fail
  refine (HLEN.out _ (HL.out.alloc _)).mono ?_
  rintro e w1 ⟨rfl, rfl⟩
  go_wp2_with fail
  refine (Tryz.Builder_Grow_fresh w.heap.size w.heap.size ps.length _ (Nat.le_refl _) (Blk.new w 83 #[.pointer none, .slice none 0 0]) (by simp) (by omega)).mono ?_
  rintro e w2 ⟨rfl, hb2, hbe2⟩
  have HB2 := Lib.hid (HB0.out.trans hbe2)
  have HSB2 : Hid (SB w2 w.heap.size w.heap.size []) := .inr hb2
  clear hb2 hbe2
  go_wp2_with fail
  refine (iterate_any L v _ (HL.out.below HB2.out hLl)).mono ?_
  rintro e w3 ⟨it, rfl, hit, hi3, hl3, ho3⟩
  have hsz2 := HB2.out.size
  have hsz3 := hi3.lt
  obtain ⟨x, hx⟩ : ∃ x, x = w3.heap.size := ⟨_, rfl⟩
  have hr3 : RowT w3 B v ps := (HR.out.below HB2.out).apart (fun g hg => HvL.out g hg) (fun g hg _ => ⟨_, _, hg ▸ HL.out.below HB2.out hLl, by decide, by decide⟩) ho3
  have hb2l := HSB2.out.lt
  have hs3 : SB w3 w.heap.size w.heap.size [] := HSB2.out.only ho3 (by omega) (fun g e => by subst e; exact HSB2.out.row_base _ hLl)
  have hbit : w.heap.size < it := by omega
  have hitx : it < x := by omega
  have HPL : Hid (BPl w L w.heap.size it x (x + 1) v) := ⟨hLl, rfl, hbit, hitx, Nat.lt_succ_self _, fun g hg => ⟨HVl.out g hg, HvL.out g hg⟩⟩
  have HREL : Hid (BRel w B L w.heap.size it x (x + 1) v ps 0 [] ((w3.alloc (.cells #[.nilIface] 41)).alloc (.cells #[.int .u8 0] 5))) := by
    have hbb : Below w3.heap.size w3 ((w3.alloc (.cells #[.nilIface] 41)).alloc (.cells #[.int .u8 0] 5)) := ((Below.refl _ _).alloc (Nat.le_refl _) _).alloc (by simp) _
    have hff : ∀ y, Off w3 w.heap.size y → Off ((w3.alloc (.cells #[.nilIface] 41)).alloc (.cells #[.int .u8 0] 5)) w.heap.size y := fun y h => h.only (S := fun _ => False) (Only.of_below hbb) (fun h => h) hs3.lt
    exact ⟨hi3.below hbb hi3.lt, hl3.below hbb hl3.lt, ⟨_, (hx ▸ Blk.new w3 _ _).alloc _⟩, ⟨_, Blk.new_at _ _ _ (by simp [hx])⟩, hr3.below hbb, hs3.only (S := fun _ => False) (Only.of_below hbb) (fun h => h) (fun g h => h.elim), ⟨hff _ (hs3.row_lt _ (by omega)), hff _ (hs3.row_lt _ (by omega)), hff _ (HSB2.out.row_lt it hit |>.only ho3 (by omega) hb2l)⟩, (((Only.of_below HB2.out).trans (ho3.mono (fun k _ h => h))).alloc _).alloc _, rfl⟩
  have HX := Lib.hid hx
  clear hi3 hl3 ho3 hr3 hs3 hsz2 hsz3 hit hx hb2l hbit hitx
  go_wp2_with fail
  rw [← HX.out]
  go_loopg [18] ps.length (fun k iv wr => ∃ (i : Nat) (acc : List UInt8), iv = .int .i64 (i : Int) ∧ k + i ≤ ps.length ∧ ps.length ≤ k + i ∧ Hid (BRel w B L w.heap.size it x (x + 1) v ps i acc wr))
  case atStart => exact ⟨0, [], rfl, Nat.le_refl _, Nat.le_refl _, HREL⟩
  case round =>
    obtain ⟨i, acc, rfl, hk1, hk2, hrel⟩ := hrel
    have h := hrel.out
    by_cases hi : i < ps.length
    · obtain ⟨g, cap, hv, hgl, hBg, hcell⟩ := row_at h.ro i hi
      obtain ⟨p1, p2, p3, p4, p5, p6⟩ := HPL.out
      have hgw := p6 g (by rw [hv]; rfl)
      obtain ⟨u, s, hus⟩ : ∃ u s, ps[i] = (u, s) := ⟨_, _, rfl⟩
      have htv : TVal wr u s := by have := h.ro.2 _ (List.getElem_mem hi); rw [hus] at this; exact this
      rw [hus] at hcell
      obtain ⟨old, hxo⟩ := h.bx
      obtain ⟨tu, zu, huf⟩ := htv.iface
      have HNEXT := Lib.hid (next_yes it L x ps.length cap g i 1 u old wr h.ri (by rw [← hv]; exact h.li) hxo hcell htv.iface hi hl (by omega) (by omega) (by omega))
      have HTV := Lib.hid htv
      have HREL := Lib.hid h
      have HUS := Lib.hid hus
      have HUF := Lib.hid huf
      clear h hrel hv hgl hBg hcell p1 p2 p3 p4 p5 p6 hgw htv hxo hus
      subst huf
      go_wp2_with fail
      refine HNEXT.out.mono ?_
      rintro e w5 ⟨rfl, hi5, hx5, ho5⟩
      obtain ⟨k2, ⟨old2, k8⟩, k4, k5, k6, k7, k9⟩ := HREL.out.next HPL.out hi5 hx5 ho5
      have HTV5 := Lib.hid (k9 s HTV.out)
      have HI5 := Lib.hid hi5
      have HX5 := Lib.hid hx5
      have HL5 := Lib.hid k2
      have HY5 := Lib.hid k8
      have HR5 := Lib.hid k4
      have HS5 := Lib.hid k5
      have HF5 := Lib.hid k6
      have HON5 := Lib.hid k7
      obtain ⟨x0, x1⟩ := blk_one hx5
      clear hi5 hx5 ho5 k2 k8 k4 k5 k6 k7 k9 HNEXT
      cases hq : byteX s with
      | none =>
        have HNO := Lib.hid (as_byte_no _ s (x + 1) w5 HTV5.out hq)
        have HBN : Hid (bX (ps.map (·.2)) = none) := bX_none (x := s) (List.mem_map.2 ⟨ps[i], List.getElem_mem hi, by rw [HUS.out]⟩) hq
        clear hq
        go_wp2_with fail
        refine HNO.out.mono ?_
        rintro e w6 ⟨ve, rfl, ⟨eb, rfl⟩, hb6⟩
        have HB6 := Lib.hid hb6
        clear hb6
        go_wp2_with fail
        refine (err_new _ _).mono ?_
        rintro e w7 ⟨ve, rfl, ⟨eb2, rfl⟩, hb7⟩
        have hb57 := HB6.out.trans (hb7.mono HB6.out.size)
        have HI9 : Hid (IterB w7 it L ((i + 1 : Nat) : Int)) := HI5.out.below hb57 HI5.out.lt
        have HL9 : Hid (ListB w7 L v 1) := HL5.out.below hb57 HL5.out.lt
        have HON := Lib.hid (HON5.out.below hb57)
        clear hb57 hb7
        go_wp2_with fail
        refine leaves_cons (f := 174) (args := #[.pointer (some ⟨it, 0, none⟩)]) (by simp) (by kernel_rfl) ?_
        refine (done_d it L v _ _ _ HI9.out HL9.out).mono ?_
        rintro e u' w9 ⟨rfl, rfl, _, ho9⟩
        have HO9 := Lib.hid (HON.out.trans ho9)
        clear ho9
        exact ⟨_, results_tmp2 rfl _ _ _, .inr ⟨HBN.out, _, ⟨_, rfl⟩, rfl⟩, HO9.out⟩
      | some c =>
        have hac : (ps.take (i + 1)).map (fun p => byteX p.2) = (acc ++ [c]).map some := by
          rw [List.take_succ_eq_append_getElem hi, List.map_append, HREL.out.ac, List.map_append, HUS.out]
          simp [hq]
        have hal : acc.length ≤ 1000 := by
          have := congrArg List.length HREL.out.ac
          simp only [List.length_map, List.length_take] at this
          omega
        have HAC := Lib.hid hac
        have HYES := Lib.hid (as_byte_yes _ old2 s c (x + 1) w5 HTV5.out hq HY5.out)
        clear hq hac
        go_wp2_with fail
        refine HYES.out.mono ?_
        rintro e w6 ⟨rfl, hy6, ho6⟩
        obtain ⟨m5, hput⟩ := BRel.put (e := .returned .nilIface) HPL.out HI5.out HL5.out HX5.out HR5.out HS5.out HF5.out HON5.out ⟨_, HY5.out⟩ hy6 ho6
        have HW := Lib.hid (write_byte w.heap.size w.heap.size acc c w6 m5 (by omega) (Nat.le_trans HON5.out.size ho6.size))
        obtain ⟨y0, y1⟩ := blk_one hy6
        have HPUT := Lib.hid hput
        clear m5 hput hy6 ho6
        go_wp2_with fail
        refine HW.out.mono ?_
        rintro e w7 hw7
        obtain rfl := hw7.1
        have HREL7 := Lib.hid (HPUT.out w7 hw7 HAC.out)
        clear hw7
        go_wp2_with fail
        go_roundg (ps.length - (i + 1))
        case measure => omega
        case rel => exact ⟨i + 1, acc ++ [c], by go_num, by omega, by omega, HREL7⟩
    · have hin : i = ps.length := by omega
      subst hin
      obtain ⟨a, c, hv⟩ : ∃ a c, v = .slice a ps.length c := by
        rcases h.ro.1.2 with ⟨rfl, h0⟩ | ⟨g, cap, cur, rfl, _⟩
        · exact ⟨none, 0, by rw [h0]⟩
        · exact ⟨_, _, rfl⟩
      have HNEXT := Lib.hid (next_no it L x ps.length c a 1 wr h.ri (by rw [← hv]; exact h.li))
      have HBS : Hid (bX (ps.map (·.2)) = some acc) := by
        have := h.ac
        rw [List.take_of_length_le (Nat.le_refl _)] at this
        exact bX_all (by rw [List.map_map]; exact this)
      have HREL := Lib.hid h
      clear h hrel hv
      go_wp2_with fail
      refine HNEXT.out.mono ?_
      rintro e w5 ⟨rfl, hb5⟩
      have HB5 := Lib.hid hb5
      have HS5 : Hid (SB w5 w.heap.size w.heap.size acc) := HREL.out.sb.only (S := fun _ => False) (Only.of_below hb5) (fun h => h) (fun g h => h.elim)
      have hoff5 : Off w5 w.heap.size it := HREL.out.off.2.2.only (S := fun _ => False) (Only.of_below hb5) (fun h => h) HREL.out.sb.lt
      have HOF5 := Lib.hid hoff5
      clear hb5 hoff5
      go_wp2_with fail
      refine (builder_text2 w.heap.size w.heap.size acc w5 HS5.out).mono ?_
      rintro e w7 ⟨rfl, ho7⟩
      have hi5 : IterB w5 it L (ps.length : Int) := HREL.out.ri.below HB5.out HREL.out.ri.lt
      have hl5 : ListB w5 L v 1 := HREL.out.li.below HB5.out HREL.out.li.lt
      have HI9 : Hid (IterB w7 it L (ps.length : Int)) := Blk.only hi5 ho7 (fun h => h HOF5.out)
      have HL9 : Hid (ListB w7 L v 1) := Blk.only hl5 ho7 (fun h => h (HS5.out.row_base _ HPL.out.p1))
      have hon5 := HREL.out.on.below HB5.out
      have HON : Hid (Only (· = L) w w7) := ⟨ho7.os.trans hon5.os, ho7.tape.trans hon5.tape, ho7.output.trans hon5.output, Nat.le_trans hon5.size ho7.size, fun q hq hn => (ho7.block q (by have := hon5.size; omega) (fun h => h (HS5.out.row_base _ hq))).trans (hon5.block q hq hn)⟩
      clear ho7 hi5 hl5 hon5
      go_wp2_with fail
      refine leaves_cons (f := 174) (args := #[.pointer (some ⟨it, 0, none⟩)]) (by simp) (by kernel_rfl) ?_
      refine (done_d it L v _ _ _ HI9.out HL9.out).mono ?_
      rintro e u' w9 ⟨rfl, rfl, _, ho9⟩
      have HO9 := Lib.hid (HON.out.trans ho9)
      clear ho9
      exact ⟨_, results_tmp2 rfl _ _ _, .inl ⟨acc, HBS.out, rfl⟩, HO9.out⟩
end Go.Proofs.YtmpfffcdpecadaaGreatDoor
