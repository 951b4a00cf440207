/- An int of the language as a number of 64 bits with a sign. -/
import Derived.Test.YtmpfffcdpecadaaGreatBigCmp
import Derived.Test.YtmpfffcdpecadaaGreatIntGet
import Derived.Laws.OwnMore
namespace Go.Proofs.YtmpfffcdpecadaaGreat
open Go.RowKit
theorem set_word (m : Nat) (hm : m < W64) (h0 : m ≠ 0) (w : World) :
    Calls Tryz.prog 128 #[.slice none 0 0, .int .u64 (m : Int)] w fun e w' => (∃ g c, e = .returned (.slice (some ⟨g, 0, none⟩) 1 c) ∧ w.heap.size ≤ g ∧ OW w' w.heap.size (.slice (some ⟨g, 0, none⟩) 1 c) [m]) ∧ Below w.heap.size w w' := by
  have he : ((m : Int) == 0) = false := by rw [beq_eq_false_iff_ne]; omega
  have HM := Lib.hid hm
  clear h0 hm
  go_enter Tryz.func128, Tryz.ntmps128
  go_wp2_with fail
  refine (nat_make 1 (by omega) _).mono ?_
  rintro e w1 ⟨⟨v, rfl, how⟩, hb⟩
  obtain ⟨g, c, rfl, hg1, hg2, hc⟩ : ∃ g c, v = .slice (some ⟨g, 0, none⟩) 1 c ∧ w.heap.size ≤ g ∧ g < w1.heap.size ∧ 1 ≤ c := by
    rcases how.form with ⟨_, h⟩ | ⟨g, c, h1, h2, h3, h4⟩
    · simp at h
    · exact ⟨g, c, h1, h2, h3, h4.1⟩
  have c0 : w1.cell? ⟨g, 0, none⟩ = some (.int .u64 0) := by
    have := how.1.cells (g := g) rfl 0 (.int .u64 0) (by simp [wcells])
    rw [Addr.add_lit] at this
    simpa using this
  have f0 : w1.frozen? ⟨g, 0, none⟩ = false := World.ownsRow.frozenAt how.1 0
  have HST := Lib.hid (how.1.stored 0 (.int .u64 (m : Int)))
  have HB := Lib.hid hb
  clear how hb
  go_wp2
  go_ret
  refine ⟨⟨g, c, rfl, hg1, ?_, ?_⟩, HB.out.setCell (p := ⟨g, 0, none⟩) hg1 _⟩
  · have := HST.out.1
    simpa [wcells] using this
  · intro x hx
    simp at hx
    subst hx
    exact HM.out
theorem set_uint64 (m : Nat) (hm : m < W64) (h0 : m ≠ 0) (w : World) :
    Calls Tryz.prog 127 #[.slice none 0 0, .int .u64 (m : Int)] w fun e w' => (∃ g c, e = .returned (.slice (some ⟨g, 0, none⟩) 1 c) ∧ w.heap.size ≤ g ∧ OW w' w.heap.size (.slice (some ⟨g, 0, none⟩) 1 c) [m]) ∧ Below w.heap.size w w' := by
  go_enter Tryz.func127, Tryz.ntmps127
  go_wp2_with fail
  refine (set_word m hm h0 _).mono ?_
  rintro e w1 ⟨⟨g, c, rfl, hg, how⟩, hb⟩
  have HOW := Lib.hid how
  have HB := Lib.hid hb
  clear how hb
  go_wp2
  go_ret
  exact ⟨⟨g, c, rfl, hg, HOW.out⟩, HB.out⟩
def BigPost (neg : Bool) (ws : List Nat) (b : Nat) (w : World) (e : Ending) (w' : World) : Prop := e = .returned (.pointer (some ⟨b, 0, none⟩)) ∧ BigI w' 0 b neg ws ∧ Only (· = b) w w'
theorem set_int64 (neg : Bool) (x : Int) (m b : Nat) (hm : m < W64) (h0 : m ≠ 0) (hx : decide (x < 0) = neg) (hn : (if neg then IntKind.i64.wrap (-x) else x) = IntKind.i64.wrap (m : Int)) (hu : IntKind.u64.wrap (IntKind.i64.wrap (m : Int)) = (m : Int)) (w : World) (hk : Blk w b 138 #[.bool false, .slice none 0 0]) :
    Calls Tryz.prog 126 #[.pointer (some ⟨b, 0, none⟩), .int .i64 x] w (BigPost neg [m] b w) := by
  obtain ⟨c0, c1, f0, f1⟩ := blk2 hk
  have hbl := hk.lt
  have HK := Lib.hid hk
  obtain ⟨y, hy⟩ : ∃ y, y = IntKind.i64.wrap (m : Int) := ⟨_, rfl⟩
  rw [← hy] at hn hu
  have HY := Lib.hid hy
  clear hk hy
  have key : ∀ (w1 : World) (g c : Nat), w.heap.size ≤ g → OW w1 w.heap.size (.slice (some ⟨g, 0, none⟩) 1 c) [m] → Below w.heap.size w w1 → BigPost neg [m] b w (.returned (.pointer (some ⟨b, 0, none⟩))) ((w1.setCell ⟨b, 1, none⟩ (.slice (some ⟨g, 0, none⟩) 1 c)).setCell ⟨b, 0, none⟩ (.bool neg)) := by
    intro w1 g c hg how hb
    have k1 := HK.out.below hb hbl
    have o1 : Only (· = b) w1 ((w1.setCell ⟨b, 1, none⟩ (.slice (some ⟨g, 0, none⟩) 1 c)).setCell ⟨b, 0, none⟩ (.bool neg)) := ((Only.refl (· = b) w1).setCell (p := ⟨b, 1, none⟩) (.inl (rfl : b = b)) _).setCell (p := ⟨b, 0, none⟩) (.inl (rfl : b = b)) _
    refine ⟨rfl, ⟨_, ?_, (how.only o1 (fun q hq e => by subst e; omega)).base (Nat.zero_le _), by simp [TopNZ, h0], fun _ => by simp, by simp⟩, (Only.of_below hb).trans (o1.mono (fun k _ h => h))⟩
    have h := (k1.put 1 (.slice (some ⟨g, 0, none⟩) 1 c)).put 0 (.bool neg)
    simpa using h
  have HKEY := Lib.hid key
  clear key
  cases neg with
  | true =>
    have hx' : decide (x < 0) = true := hx
    have hn' : IntKind.i64.wrap (-x) = y := hn
    clear hx hn
    go_enter Tryz.func126, Tryz.ntmps126
    go_wp2_with fail
    refine (set_uint64 m hm h0 _).mono ?_
    rintro e w1 ⟨⟨g, c, rfl, hg, how⟩, hb⟩
    have HF := Lib.hid (HKEY.out w1 g c hg how hb)
    obtain ⟨d0, d1, e0, e1⟩ := blk2 (HK.out.below hb hbl)
    clear how hb
    go_wp2
    go_ret
    exact HF.out
  | false =>
    have hx' : decide (x < 0) = false := hx
    have hn' : x = y := hn
    subst hn'
    clear hx hn
    go_enter Tryz.func126, Tryz.ntmps126
    go_wp2_with fail
    refine (set_uint64 m hm h0 _).mono ?_
    rintro e w1 ⟨⟨g, c, rfl, hg, how⟩, hb⟩
    have HF := Lib.hid (HKEY.out w1 g c hg how hb)
    obtain ⟨d0, d1, e0, e1⟩ := blk2 (HK.out.below hb hbl)
    clear how hb
    go_wp2
    go_ret
    exact HF.out
theorem wrap_max : IntKind.i64.wrap ((9223372036854775807 : Nat) : Int) = 9223372036854775807 := by rw [IntKind.wrap_i64]; omega
theorem wrap_min : IntKind.i64.wrap ((9223372036854775808 : Nat) : Int) = -9223372036854775808 := by rw [IntKind.wrap_i64]; omega
theorem max_any (w : World) :
    Calls Tryz.prog 120 #[] w fun e w' => BigPost false [9223372036854775807] w.heap.size (w.alloc (.cells #[.bool false, .slice none 0 0] 138)) e w' := by
  have HS := Lib.hid (set_int64 false 9223372036854775807 9223372036854775807 w.heap.size (by unfold W64; omega) (by omega) (by decide) (by rw [wrap_max]; rfl) (by rw [wrap_max]; decide) _ (Blk.new w 138 #[.bool false, .slice none 0 0]))
  go_enter Tryz.func120, Tryz.ntmps120
  go_wp2_with fail
  refine HS.out.mono ?_
  rintro e w1 h
  obtain rfl := h.1
  have HF := Lib.hid h
  clear h
  go_wp2
  go_ret
  exact HF.out
theorem min_any (w : World) :
    Calls Tryz.prog 121 #[] w fun e w' => BigPost true [9223372036854775808] w.heap.size (w.alloc (.cells #[.bool false, .slice none 0 0] 138)) e w' := by
  have HS := Lib.hid (set_int64 true (-9223372036854775808) 9223372036854775808 w.heap.size (by unfold W64; omega) (by omega) (by decide) (by rw [wrap_min]; decide) (by rw [wrap_min]; decide) _ (Blk.new w 138 #[.bool false, .slice none 0 0]))
  go_enter Tryz.func121, Tryz.ntmps121
  go_wp2_with fail
  refine HS.out.mono ?_
  rintro e w1 h
  obtain rfl := h.1
  have HF := Lib.hid h
  clear h
  go_wp2
  go_ret
  exact HF.out
theorem cmp_one {xs : List Nat} {m : Nat} (hm : m < W64) (ht : TopNZ xs) (h0 : xs ≠ []) : 0 < cmpN xs [m] ↔ m < valW xs := by
  match xs, ht, h0 with
  | [x], _, _ =>
    simp only [cmpN, cmpRev, valW, List.length_cons, List.length_nil]
    by_cases h1 : x < m
    · simp [h1]; omega
    · by_cases h2 : m < x
      · simp [h1, h2]
      · simp [h1, h2]
  | x :: y :: r, ht, _ =>
    obtain ⟨init, last, he⟩ : ∃ init last, x :: y :: r = init ++ [last] := ⟨_, _, (List.dropLast_concat_getLast (by simp)).symm⟩
    have hl0 : last ≠ 0 := by unfold TopNZ at ht; rw [he] at ht; simpa using ht
    have h1 := valW_top init last hl0
    have hlen : 1 ≤ init.length := by have := congrArg List.length he; simp at this; omega
    have h2 : W64 ^ 1 ≤ W64 ^ init.length := Nat.pow_le_pow_right (by unfold W64; omega) hlen
    rw [← he, Nat.pow_one] at *
    simp [cmpN]
    omega
theorem int_int64_min (B b : Nat) (ws : List Nat) (w : World) (h : BigI w B b true ws) (hs : valW ws = 9223372036854775808) :
    Calls Tryz.prog 86 #[.pointer (some ⟨b, 0, none⟩)] w (IntPost (-9223372036854775808) w) := by
  obtain ⟨v, hz, how, htop, _, hlen⟩ := h
  obtain ⟨a, c, hv⟩ := how.shape
  obtain ⟨r, hr⟩ : ∃ r, r = ws.length := ⟨_, rfl⟩
  rw [← hr] at hv
  subst hv
  obtain ⟨c0, c1, f0, f1⟩ := blk2 hz
  have HOW := Lib.hid how
  obtain ⟨m, hm⟩ : ∃ m, m = valW ws % W64 := ⟨_, rfl⟩
  have hmv : m = 9223372036854775808 := by rw [hm, hs]; unfold W64; decide
  have hw1 : IntKind.i64.wrap (m : Int) = -9223372036854775808 := by rw [hmv]; exact wrap_min
  have hw2 : IntKind.i64.wrap (9223372036854775808 : Int) = -9223372036854775808 := by rw [IntKind.wrap_i64]; omega
  have HM := Lib.hid hm
  clear hz how hr hs hm hmv
  go_enter Tryz.func86, Tryz.ntmps86
  go_wp2_with fail
  refine (low_64 B _ ws _ HOW.out).mono ?_
  rw [← HM.out]
  rintro e w1 ⟨rfl, rfl⟩
  go_wp2
  go_ret
  exact ⟨rfl, rfl⟩
def Fits64 (n : Int) : Prop := -9223372036854775808 ≤ n ∧ n ≤ 9223372036854775807
def I64APost (n : Int) (w : World) (e : Ending) (w' : World) : Prop := ∃ u a : Int, e = .returned (.tuple #[.int .i64 u, .int .i8 a]) ∧ ((a = 0 ∧ u = n ∧ Fits64 n) ∨ ((a = 1 ∨ a = -1) ∧ ¬ Fits64 n)) ∧ Below w.heap.size w w'
set_option maxHeartbeats 1000000 in
theorem big_to_i64 (B b : Nat) (neg : Bool) (ws : List Nat) (w : World) (h : BigI w B b neg ws) :
    Calls Tryz.prog 114 #[.pointer (some ⟨b, 0, none⟩)] w (I64APost (valI neg ws) w) := by
  have H := Lib.hid h
  obtain ⟨v, hz, how, htop, hneg, hlen⟩ := h
  have hbl := hz.lt
  have HTOP := Lib.hid htop
  have HNEG := Lib.hid hneg
  have HBS := Lib.hid (fun W => big_sign B b neg ws W)
  clear hz how htop hneg hlen
  by_cases h0 : ws = []
  · subst h0
    have hn : neg = false := by
      cases neg with
      | false => rfl
      | true => exact absurd rfl (HNEG.out rfl)
    subst hn
    have HI := Lib.hid (int_int64 B b false [] w H.out (by simp [valW]))
    go_enter Tryz.func114, Tryz.ntmps114
    go_wp2_with fail
    refine (HBS.out _ H.out).mono ?_
    rintro e w1 ⟨rfl, rfl⟩
    unfold signW
    go_wp2_with fail
    refine HI.out.mono ?_
    rintro e w1 ⟨rfl, rfl⟩
    go_wp2
    go_ret2
    exact ⟨_, 0, rfl, .inl ⟨rfl, rfl, by simp [Fits64, valI, valW]⟩, Below.refl _ _⟩
  · cases neg with
    | false =>
      have hsg : signW false ws = 1 := by unfold signW; rw [if_neg h0]; rfl
      have HSG := Lib.hid hsg
      have HCO := Lib.hid (cmp_one (m := 9223372036854775807) (by unfold W64; omega) HTOP.out h0)
      obtain ⟨r, hr⟩ : ∃ r, r = cmpN ws [9223372036854775807] := ⟨_, rfl⟩
      have HR := Lib.hid hr
      have HBA := Lib.hid ((Below.refl w.heap.size w).alloc (Nat.le_refl _) (.cells #[.bool false, .slice none 0 0] 138))
      clear hr hsg h0
      go_enter Tryz.func114, Tryz.ntmps114
      go_wp2_with fail
      refine (HBS.out _ H.out).mono ?_
      rintro e w1 ⟨rfl, rfl⟩
      rw [HSG.out]
      go_wp2_with fail
      refine (max_any _).mono ?_
      rintro e w2 ⟨rfl, hbi, ho⟩
      have HB2 := Lib.hid (HBA.out.trans (ho.to_below HBA.out.size (fun k _ e => by omega)))
      have HC := Lib.hid (big_cmp B 0 b w.heap.size false false ws [9223372036854775807] w2 (by omega) (H.out.below HB2.out) hbi)
      clear hbi ho
      go_wp2_with fail
      refine HC.out.mono ?_
      rintro e w3 ⟨rfl, q, rfl⟩
      have HB3 := Lib.hid (below_dn HB2.out q)
      have hbr : bigR false false ws [9223372036854775807] = r := by unfold bigR; simp [HR.out]
      rw [hbr]
      by_cases hlt : 0 < r
      · have d1 : decide (0 < r) = true := decide_eq_true hlt
        have hnf : ¬ Fits64 (valI false ws) := by
          have := HCO.out.1 (HR.out ▸ hlt)
          simp [Fits64, valI]
          omega
        have HNF := Lib.hid hnf
        clear hlt hnf hbr
        go_wp2
        go_ret2
        exact ⟨_, -1, rfl, .inr ⟨.inr rfl, HNF.out⟩, HB3.out⟩
      · have d1 : decide (0 < r) = false := decide_eq_false hlt
        have hle : ¬ 9223372036854775807 < valW ws := fun h => hlt (by rw [HR.out]; exact HCO.out.2 h)
        have HI := Lib.hid (int_int64 B b false ws (w2.drewN q) (H.out.below HB3.out) (by omega))
        have HF : Hid (Fits64 (valI false ws)) := by unfold Hid; simp [Fits64, valI]; omega
        clear hlt hle hbr
        go_wp2_with fail
        refine HI.out.mono ?_
        rintro e w4 ⟨rfl, rfl⟩
        go_wp2
        go_ret2
        exact ⟨_, 0, rfl, .inl ⟨rfl, rfl, HF.out⟩, HB3.out⟩
    | true =>
      have hsg : signW true ws = -1 := by unfold signW; rw [if_neg h0]; rfl
      have HSG := Lib.hid hsg
      have HCO := Lib.hid (cmp_one (m := 9223372036854775808) (by unfold W64; omega) HTOP.out h0)
      obtain ⟨r, hr⟩ : ∃ r, r = cmpN ws [9223372036854775808] := ⟨_, rfl⟩
      have HR := Lib.hid hr
      have HBA := Lib.hid ((Below.refl w.heap.size w).alloc (Nat.le_refl _) (.cells #[.bool false, .slice none 0 0] 138))
      clear hr hsg h0
      go_enter Tryz.func114, Tryz.ntmps114
      go_wp2_with fail
      refine (HBS.out _ H.out).mono ?_
      rintro e w1 ⟨rfl, rfl⟩
      rw [HSG.out]
      go_wp2_with fail
      refine (min_any _).mono ?_
      rintro e w2 ⟨rfl, hbi, ho⟩
      have HB2 := Lib.hid (HBA.out.trans (ho.to_below HBA.out.size (fun k _ e => by omega)))
      have HC := Lib.hid (big_cmp B 0 b w.heap.size true true ws [9223372036854775808] w2 (by omega) (H.out.below HB2.out) hbi)
      clear hbi ho
      go_wp2_with fail
      refine HC.out.mono ?_
      rintro e w3 ⟨rfl, q, rfl⟩
      have HB3 := Lib.hid (below_dn HB2.out q)
      have hbr : bigR true true ws [9223372036854775808] = -r := by unfold bigR; simp [HR.out]
      rw [hbr]
      by_cases hlt : 0 < r
      · have d1 : decide (-r < 0) = true := decide_eq_true (by omega)
        have d2 : decide (0 < r) = true := decide_eq_true hlt
        have hnf : ¬ Fits64 (valI true ws) := by
          have := HCO.out.1 (HR.out ▸ hlt)
          simp [Fits64, valI]
          omega
        have HNF := Lib.hid hnf
        clear hlt hnf hbr
        go_wp2
        go_ret2
        exact ⟨_, 1, rfl, .inr ⟨.inl rfl, HNF.out⟩, HB3.out⟩
      · have d1 : decide (-r < 0) = false := decide_eq_false (by omega)
        have d2 : decide (0 < r) = false := decide_eq_false hlt
        have hle : ¬ 9223372036854775808 < valW ws := fun h => hlt (by rw [HR.out]; exact HCO.out.2 h)
        have HI : Hid (Calls Tryz.prog 86 #[.pointer (some ⟨b, 0, none⟩)] (w2.drewN q) (IntPost (valI true ws) (w2.drewN q))) := by
          by_cases he : valW ws = 9223372036854775808
          · have := int_int64_min B b ws (w2.drewN q) (H.out.below HB3.out) he
            have hv : valI true ws = -9223372036854775808 := by simp [valI, he]
            rw [hv]; exact this
          · exact int_int64 B b true ws (w2.drewN q) (H.out.below HB3.out) (by omega)
        have HF : Hid (Fits64 (valI true ws)) := by unfold Hid; simp [Fits64, valI]; omega
        clear hlt hle hbr
        go_wp2_with fail
        refine HI.out.mono ?_
        rintro e w4 ⟨rfl, rfl⟩
        go_wp2
        go_ret2
        exact ⟨_, 0, rfl, .inl ⟨rfl, rfl, HF.out⟩, HB3.out⟩
def SI64Post (n : Int) (w : World) (e : Ending) (w' : World) : Prop := ((Fits64 n ∧ e = .returned (.tuple #[.int .i64 n, .bool true])) ∨ (¬ Fits64 n ∧ e = .returned (.tuple #[.int .i64 0, .bool false]))) ∧ Below w.heap.size w w'
set_option maxRecDepth 20000 in
set_option maxHeartbeats 1000000 in
theorem star_int64 (B : Nat) (v : Value) (n : Int) (w : World) (hv : SI w B v n) :
    Calls Tryz.prog 103 #[v] w (SI64Post n w) := by
  rcases hv with ⟨hs, rfl⟩ | ⟨hs, b, neg, ws, rfl, _, hbi, hval⟩
  · have h1 := of_decide_eq_true hs
    have HF : Hid (Fits64 n) := ⟨by omega, by omega⟩
    clear hs h1
    go_enter Tryz.func103, Tryz.ntmps103
    go_wp2_with fail
    refine (int_get n none _).mono ?_
    rintro e w1 ⟨rfl, hb1⟩
    have hbw := ((Below.refl _ w).alloc (Nat.le_refl _) _).trans (hb1.mono (by simp))
    clear hb1
    go_wp2
    go_ret2
    exact ⟨.inl ⟨HF.out, rfl⟩, hbw⟩
  · have HV := Lib.hid hval
    have HBI := Lib.hid (hbi.below ((Below.refl _ w).alloc (Nat.le_refl _) (.cells #[.int .i64 0, .pointer (some ⟨b, 0, none⟩)] 96)))
    clear hs hval hbi
    go_enter Tryz.func103, Tryz.ntmps103
    go_wp2_with fail
    refine (int_get 0 (some ⟨b, 0, none⟩) _).mono ?_
    rintro e w1 ⟨rfl, hb1⟩
    have HBI1 := Lib.hid (HBI.out.below hb1)
    have hbw := ((Below.refl _ w).alloc (Nat.le_refl _) _).trans (hb1.mono (by simp))
    have HBW := Lib.hid hbw
    clear hb1 hbw
    go_wp2_with fail
    refine (big_to_i64 B b neg ws _ HBI1.out).mono ?_
    unfold I64APost
    rw [HV.out]
    rintro e w2 ⟨u, acc, rfl, hacc, hb2⟩
    have HBW2 := Lib.hid (HBW.out.trans (hb2.mono HBW.out.size))
    clear hb2
    rcases hacc with ⟨rfl, h1, h2⟩ | ⟨hacc, h1⟩
    · subst h1
      have H2 := Lib.hid h2
      clear h2
      go_wp2
      go_ret2
      exact ⟨.inl ⟨H2.out, rfl⟩, HBW2.out⟩
    · have H1 := Lib.hid h1
      clear h1
      rcases hacc with rfl | rfl
      all_goals
        go_wp2
        go_ret2
        exact ⟨.inr ⟨H1.out, rfl⟩, HBW2.out⟩
end Go.Proofs.YtmpfffcdpecadaaGreat
