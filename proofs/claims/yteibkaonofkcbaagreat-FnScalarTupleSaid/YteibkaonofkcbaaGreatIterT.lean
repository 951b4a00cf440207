/- A script's iterators over a tuple. -/
import Derived.Test.YteibkaonofkcbaaGreatTupN
import Derived.Test.YteibkaonofkcbaaGreatTupJoinO
import Derived.Deep.QuietTactic
import Derived.BigQuiet
import Derived.Deep.RegionHeld3
namespace Go.Proofs.YteibkaonofkcbaaGreat
open Go.RowKit
set_option linter.unusedSimpArgs false
set_option linter.unusedVariables false
attribute [local go_sem ↓] Go.wp_at_zero Go.wp_at_succ
theorem TVal.typ {S : Nat → Prop} {w w' : World} {T : List TypeId} {u : Value} {s : Sx} (h : TVal w u s) (hs : Typ S w T) (k : Only S w w') (h1 : 136 ∉ T) (h2 : 158 ∉ T) : TVal w' u s := by
  cases s with
  | int neg l =>
    obtain ⟨v, e, h⟩ := h
    refine ⟨v, e, ?_⟩
    rcases h with h | ⟨hs', b, ng, ws, hv, hb, ⟨x, hk, ho, hr⟩, he⟩
    · exact .inl h
    · exact .inr ⟨hs', b, ng, ws, hv, hb, ⟨x, hk.typ hs k h1, ⟨own_typ ho.1 hs k h2, ho.2⟩, hr⟩, he⟩
  | _ => exact h
/-- Values of the package that a slice of a row of them reads. -/
def SegV (w : World) (a : Option Addr) (m c : Nat) (ps : List (Value × Sx)) : Prop := SegT w a m c ps ∧ ∀ p, a = some p → ∃ cs, Blk w p.block 87 cs
theorem SegV.typ {S : Nat → Prop} {w w' : World} {T : List TypeId} {a : Option Addr} {m c : Nat} {ps : List (Value × Sx)} (h : SegV w a m c ps) (hs : Typ S w T) (k : Only S w w') (h0 : 87 ∉ T) (h1 : 136 ∉ T) (h2 : 158 ∉ T) : SegV w' a m c ps := by
  obtain ⟨⟨e1, e2, e3, e4, e5, e6⟩, hb⟩ := h
  refine ⟨⟨e1, e2, e3, e4, fun p hp j u hu => ?_, fun p hp => (e6 p hp).typ hs k h1 h2⟩, fun p hp => ?_⟩
  · obtain ⟨cs, hk⟩ := hb p hp
    have hk2 := hk.typ hs k h0
    have hc := e5 p hp j u hu
    rw [← hc]
    refine World.cell?_of_block ?_
    rw [block_add]
    exact hk2.trans hk.symm
  · obtain ⟨cs, hk⟩ := hb p hp
    exact ⟨cs, hk.typ hs k h0⟩
theorem SegV.below {w w' : World} {a : Option Addr} {m c : Nat} {ps : List (Value × Sx)} (h : SegV w a m c ps) (hb : Below w.heap.size w w') : SegV w' a m c ps :=
  h.typ (T := []) (S := fun _ => False) (fun g h _ => h.elim) (Only.of_below hb) (by simp) (by simp) (by simp)
theorem Tryz.infoIt : (Tryz.prog.info? 101).map (fun i => (i.zero, i.size, i.bytes)) = some (some .nilIface, 1, 16) := by kernel_rfl
/-- An iterator as the program keeps it: nil, if it is done. -/
def itV (b : Nat) : Option Nat → Value
  | none => .nilIface
  | some _ => .iface 124 (.pointer (some ⟨b, 0, none⟩))
/-- The program's iterators stand as these places say. -/
structure PS (W : World) (B P : Nat) (pv : Value) (bs : List Nat) (at' : List (Option Nat)) (ts : List (Value × Sx)) : Prop where
  hP : Blk W P 63 #[pv]
  hrow : W.ownsRow B 101 1 pv at'.length (List.zipWith itV bs at')
  hlen : bs.length = at'.length
  hnd : bs.Nodup
  hlt : ∀ b ∈ bs, b < W.heap.size ∧ B ≤ b
  hit : ∀ (i c : Nat), at'[i]? = some (some c) → ∃ (b : Nat) (q : Option Addr) (m d : Nat), bs[i]? = some b ∧ Blk W b 126 #[.slice q m d] ∧ SegV W q m d (ts.drop c)
theorem PS.typ {S : Nat → Prop} {w w' : World} {T : List TypeId} {B P : Nat} {pv : Value} {bs : List Nat} {at' : List (Option Nat)} {ts : List (Value × Sx)} (h : PS w B P pv bs at' ts) (hs : Typ S w T) (k : Only S w w')
    (h1 : 63 ∉ T) (h2 : 101 ∉ T) (h3 : 126 ∉ T) (h4 : 87 ∉ T) (h5 : 136 ∉ T) (h6 : 158 ∉ T) : PS w' B P pv bs at' ts where
  hP := h.hP.typ hs k h1
  hrow := own_typ h.hrow hs k h2
  hlen := h.hlen
  hnd := h.hnd
  hlt := fun b hb => ⟨Nat.lt_of_lt_of_le (h.hlt b hb).1 k.size, (h.hlt b hb).2⟩
  hit := fun i c hi => by
    obtain ⟨b, q, m, d, e1, e2, e3⟩ := h.hit i c hi
    exact ⟨b, q, m, d, e1, e2.typ hs k h3, e3.typ hs k h4 h5 h6⟩
theorem PS.below {w w' : World} {B P : Nat} {pv : Value} {bs : List Nat} {at' : List (Option Nat)} {ts : List (Value × Sx)} (h : PS w B P pv bs at' ts) (hb : Below w.heap.size w w') : PS w' B P pv bs at' ts :=
  h.typ (T := []) (S := fun _ => False) (fun g h _ => h.elim) (Only.of_below hb) (by simp) (by simp) (by simp) (by simp) (by simp) (by simp)
theorem PS.form {w : World} {B P : Nat} {pv : Value} {bs : List Nat} {at' : List (Option Nat)} {ts : List (Value × Sx)} (h : PS w B P pv bs at' ts) : ∃ a c, pv = .slice a at'.length c := by
  rcases h.hrow.2 with ⟨rfl, h0⟩ | ⟨g, cap, cur, rfl, _⟩
  · exact ⟨none, 0, by rw [h0]⟩
  · exact ⟨_, _, rfl⟩
theorem own_form {w : World} {B n size : Nat} {e : TypeId} {v : Value} {xs : List Value} (h : w.ownsRow B e size v n xs) : ∃ a c, v = .slice a n c := by
  rcases h.2 with ⟨rfl, h0⟩ | ⟨g, cap, cur, rfl, _⟩
  · exact ⟨none, 0, by rw [h0]⟩
  · exact ⟨_, _, rfl⟩
theorem PS.snoc {W0 w6 : World} {B P b n c : Nat} {a : Option Addr} {pv v6 : Value} {bs : List Nat} {at' : List (Option Nat)} {ts : List (Value × Sx)} (h : PS W0 B P pv bs at' ts) (hbk : Blk W0 b 126 #[.slice a n c]) (hseg : SegV W0 a n c ts) (hnb : b ∉ bs) (hBb : B ≤ b)
    (hr : w6.ownsRow B 101 1 v6 (at'.length + 1) (List.zipWith itV bs at' ++ [.iface 124 (.pointer (some ⟨b, 0, none⟩))])) (hO : Only (fun q => pv.ownBlock = some q) W0 w6) : PS (w6.setCell ⟨P, 0, none⟩ v6) B P v6 (bs ++ [b]) (at' ++ [some 0]) ts := by
  have hT := typ_own h.hrow
  have hp6 := h.hP.typ hT hO (by decide)
  have hO2 := (Only.refl (· = P) w6).setCell (p := ⟨P, 0, none⟩) (.inl rfl) v6
  have hT2 := typ_one hp6
  refine ⟨Blk.put hp6 0 _, ?_, by simp [h.hlen], ?_, fun q hq => ?_, fun i k hi => ?_⟩
  · rw [List.zipWith_append h.hlen, List.length_append]
    exact own_typ hr hT2 hO2 (by decide)
  · rw [List.nodup_append]
    exact ⟨h.hnd, by simp, fun x hx y hy => by simp at hy; subst hy; exact fun e => hnb (e ▸ hx)⟩
  · rcases List.mem_append.1 hq with hq | hq
    · exact ⟨Nat.lt_of_lt_of_le (h.hlt q hq).1 (Nat.le_trans hO.size hO2.size), (h.hlt q hq).2⟩
    · simp at hq; subst hq
      exact ⟨Nat.lt_of_lt_of_le hbk.lt (Nat.le_trans hO.size hO2.size), hBb⟩
  · by_cases hil : i < at'.length
    · rw [List.getElem?_append_left hil] at hi
      obtain ⟨b', q, m, d, e1, e2, e3⟩ := h.hit i k hi
      refine ⟨b', q, m, d, ?_, (e2.typ hT hO (by decide)).typ hT2 hO2 (by decide), (e3.typ hT hO (by decide) (by decide) (by decide)).typ hT2 hO2 (by decide) (by decide) (by decide)⟩
      rw [List.getElem?_append_left (by rw [h.hlen]; exact hil)]
      exact e1
    · have hil2 : i = at'.length := by
        have := (List.getElem?_eq_some_iff.1 hi).1
        simp at this
        omega
      subst hil2
      simp at hi
      subst hi
      refine ⟨b, a, n, c, by rw [← h.hlen]; simp, (hbk.typ hT hO (by decide)).typ hT2 hO2 (by decide), ?_⟩
      rw [List.drop_zero]
      exact (hseg.typ hT hO (by decide) (by decide) (by decide)).typ hT2 hO2 (by decide) (by decide) (by decide)
theorem Only.comp {S T : Nat → Prop} {a w w' : World} (h : Only S a w) (k : Only T w w') (hT : ∀ q, T q → S q ∨ a.heap.size ≤ q) : Only S a w' :=
  ⟨k.os.trans h.os, k.tape.trans h.tape, k.output.trans h.output, Nat.le_trans h.size k.size, fun i hi hs => (k.block i (Nat.lt_of_lt_of_le hi h.size) (fun e => by rcases hT i e with h1 | h1; exact hs h1; omega)).trans (h.block i hi hs)⟩
theorem SegV.apart {S : Nat → Prop} {w w' : World} {T : List TypeId} {a : Option Addr} {m c : Nat} {ps : List (Value × Sx)} (h : SegV w a m c ps) (hs : Typ S w T) (k : Only S w w') (hb : ∀ p, a = some p → ¬ S p.block) (h1 : 136 ∉ T) (h2 : 158 ∉ T) : SegV w' a m c ps := by
  obtain ⟨⟨e1, e2, e3, e4, e5, e6⟩, hbk⟩ := h
  refine ⟨⟨e1, e2, e3, e4, fun p hp j u hu => ?_, fun p hp => (e6 p hp).typ hs k h1 h2⟩, fun p hp => ?_⟩
  · obtain ⟨cs, hk⟩ := hbk p hp
    have hk2 := hk.only k (hb p hp)
    have hc := e5 p hp j u hu
    rw [← hc]
    refine World.cell?_of_block ?_
    rw [block_add]
    exact hk2.trans hk.symm
  · obtain ⟨cs, hk⟩ := hbk p hp
    exact ⟨cs, hk.only k (hb p hp)⟩
theorem nodup_at : ∀ (bs : List Nat) (i j b : Nat), bs.Nodup → bs[i]? = some b → bs[j]? = some b → i = j
  | [], _, _, _, _, h, _ => by simp at h
  | x :: r, 0, 0, b, _, _, _ => rfl
  | x :: r, 0, j + 1, b, hn, h1, h2 => by
    simp at h1
    subst h1
    exact absurd (List.mem_of_getElem? (by simpa using h2)) (List.nodup_cons.1 hn).1
  | x :: r, i + 1, 0, b, hn, h1, h2 => by
    simp at h2
    subst h2
    exact absurd (List.mem_of_getElem? (by simpa using h1)) (List.nodup_cons.1 hn).1
  | x :: r, i + 1, j + 1, b, hn, h1, h2 => by
    rw [nodup_at r i j b (List.nodup_cons.1 hn).2 (by simpa using h1) (by simpa using h2)]
theorem zip_set : ∀ (bs : List Nat) (at' : List (Option Nat)) (i b : Nat) (x : Option Nat), bs[i]? = some b → (List.zipWith itV bs at').set i (itV b x) = List.zipWith itV bs (at'.set i x)
  | [], _, _, _, _, h => by simp at h
  | _ :: _, [], _, _, _, _ => by simp
  | y :: r, z :: s, 0, b, x, h => by simp at h; subst h; simp
  | y :: r, z :: s, i + 1, b, x, h => by
    have ih := zip_set r s i b x (by simpa using h)
    simp [ih]
theorem zip_same : ∀ (bs : List Nat) (at' : List (Option Nat)) (i c d : Nat), at'[i]? = some (some c) → List.zipWith itV bs (at'.set i (some d)) = List.zipWith itV bs at'
  | [], _, _, _, _, _ => by simp
  | _ :: _, [], _, _, _, h => by simp at h
  | y :: r, z :: s, 0, c, d, h => by simp at h; subst h; simp [itV]
  | y :: r, z :: s, i + 1, c, d, h => by
    have ih := zip_same r s i c d (by simpa using h)
    simp [ih]
theorem PS.off {w : World} {B P i g n vc b : Nat} {bs : List Nat} {at' : List (Option Nat)} {ts : List (Value × Sx)} (h : PS w B P (.slice (some ⟨g, 0, none⟩) n vc) bs at' ts) (hb : bs[i]? = some b) : PS (w.setCell ⟨g, i, none⟩ .nilIface) B P (.slice (some ⟨g, 0, none⟩) n vc) bs (at'.set i none) ts := by
  have hT := typ_own h.hrow
  have hO := (Only.refl (fun q => (Value.slice (some ⟨g, 0, none⟩) n vc).ownBlock = some q) w).setCell (p := ⟨g, i, none⟩) (.inl rfl) .nilIface
  refine ⟨h.hP.typ hT hO (by decide), ?_, by rw [List.length_set]; exact h.hlen, h.hnd, fun q hq => ⟨Nat.lt_of_lt_of_le (h.hlt q hq).1 hO.size, (h.hlt q hq).2⟩, fun j c hj => ?_⟩
  · have h1 := own_set h.hrow (g := g) rfl i .nilIface
    rw [List.length_set, ← zip_set bs at' i b none hb]
    exact h1
  · by_cases hij : i = j
    · subst hij
      have hl := (List.getElem?_eq_some_iff.1 hj).1
      rw [List.length_set] at hl
      rw [List.getElem?_set_self hl] at hj
      simp at hj
    · rw [List.getElem?_set_ne hij] at hj
      obtain ⟨b', q, m, d, e1, e2, e3⟩ := h.hit j c hj
      exact ⟨b', q, m, d, e1, e2.typ hT hO (by decide), e3.typ hT hO (by decide) (by decide) (by decide)⟩
/-- An iterator that has gone on. -/
theorem PS.on {w w' : World} {B P i c b n' d' : Nat} {qa : Option Addr} {pv : Value} {bs : List Nat} {at' : List (Option Nat)} {ts : List (Value × Sx)} (h : PS w B P pv bs at' ts) (hb : bs[i]? = some b) (hi : at'[i]? = some (some c)) {cs : Array Value} (hbk : Blk w b 126 cs) (hO : Only (· = b) w w') (hbk' : Blk w' b 126 #[.slice qa n' d']) (hseg : SegV w' qa n' d' (ts.drop (c + 1))) : PS w' B P pv bs (at'.set i (some (c + 1))) ts := by
  have hT := typ_one hbk
  refine ⟨h.hP.typ hT hO (by decide), ?_, by rw [List.length_set]; exact h.hlen, h.hnd, fun q hq => ⟨Nat.lt_of_lt_of_le (h.hlt q hq).1 hO.size, (h.hlt q hq).2⟩, fun j k hj => ?_⟩
  · rw [List.length_set, zip_same bs at' i c (c + 1) hi]
    exact own_typ h.hrow hT hO (by decide)
  · by_cases hij : i = j
    · subst hij
      have hl := (List.getElem?_eq_some_iff.1 hj).1
      rw [List.length_set] at hl
      rw [List.getElem?_set_self hl] at hj
      simp at hj
      subst hj
      exact ⟨b, qa, n', d', hb, hbk', hseg⟩
    · rw [List.getElem?_set_ne hij] at hj
      obtain ⟨b', q, m, d, e1, e2, e3⟩ := h.hit j k hj
      have hne : ¬ b' = b := fun e => by
        subst e
        exact hij (nodup_at bs i j _ h.hnd hb e1)
      exact ⟨b', q, m, d, e1, e2.only hO hne, e3.typ hT hO (by decide) (by decide) (by decide)⟩
def OpenP (B P : Nat) (bs : List Nat) (b : Nat) (at' : List (Option Nat)) (ts : List (Value × Sx)) (pv : Value) (w : World) (e : Ending) (w' : World) : Prop := ∃ pv', e = .returned (.agg #[.bool true, .bool false, .int .i64 (at'.length : Int), .int .i64 0, .bool false, .slice none 0 0, .int .u64 0, .string ⟨#[]⟩, .slice none 0 0, .slice none 0 0]) ∧ PS w' B P pv' (bs ++ [b]) (at' ++ [some 0]) ts ∧ Only (fun q => q = P ∨ pv.ownBlock = some q) w w'
set_option maxRecDepth 100000 in
set_option maxHeartbeats 8000000 in
theorem it_open (B P b n c : Nat) (a : Option Addr) (pv : Value) (bs : List Nat) (at' : List (Option Nat)) (ts : List (Value × Sx)) (w : World) (h : PS w B P pv bs at' ts) (hl : at'.length ≤ 1000) (hB : B ≤ w.heap.size) (hbk : Blk w b 126 #[.slice a n c]) (hseg : SegV w a n c ts) (hnb : b ∉ bs) (hBb : B ≤ b) :
    Calls Tryz.prog 50 #[.pointer (some ⟨P, 0, none⟩), .iface 124 (.pointer (some ⟨b, 0, none⟩))] w (OpenP B P bs b at' ts pv w) := by
  obtain ⟨va, vc, hvf⟩ := h.form
  obtain ⟨m, hm⟩ : ∃ m, m = at'.length := ⟨_, rfl⟩
  rw [← hm] at hvf hl
  subst hvf
  have hPS := h
  obtain ⟨W0, hW0⟩ : ∃ W0, W0 = w.alloc (.cells #[.bool false, .bool false, .int .i64 0, .int .i64 0, .bool false, .slice none 0 0, .int .u64 0, .string ⟨#[]⟩, .slice none 0 0, .slice none 0 0] 37) := ⟨_, rfl⟩
  have hb0 : Below w.heap.size w W0 := by rw [hW0]; exact (Below.refl _ w).alloc (Nat.le_refl _) _
  have HK4 : Hid (Blk W0 w.heap.size 37 #[.bool false, .bool false, .int .i64 0, .int .i64 0, .bool false, .slice none 0 0, .int .u64 0, .string ⟨#[]⟩, .slice none 0 0, .slice none 0 0]) := by rw [hW0]; exact Blk.new w _ _
  have HZ0 : Hid (W0.heap.size = w.heap.size + 1) := by rw [hW0]; simp [Hid]
  have HPS0 := Lib.hid (h.below hb0)
  have HBK := Lib.hid (hbk.below hb0 hbk.lt)
  have HSEG := Lib.hid (hseg.below hb0)
  have HB0 := Lib.hid hb0
  have HM := Lib.hid hm
  have HNB := Lib.hid hnb
  have HBB := Lib.hid hBb
  have hBW : B ≤ W0.heap.size := Nat.le_trans hB hb0.size
  have hPl := h.hP.lt
  have c0 : w.cell? ⟨P, 0, none⟩ = some (.slice va m vc) := (h.hP.cell 0).trans rfl
  have n1 : ¬ P = w.heap.size := by omega
  have n1' : ¬ w.heap.size = P := by omega
  obtain ⟨i0, hi0, hz0, hz1, hz2⟩ := info_parts Tryz.infoIt
  clear h hPS hb0 hm hbk hseg hnb hBb
  go_enter Tryz.func50, Tryz.ntmps50
  go_wp2_with (at_builtin; rw [← hW0]; refine wpList_append_one rfl (.tmp 9) (.tmp 11) 61 rfl W0 B 101 i0 _ 16 Tryz.underlying61 hi0 hz0 hz1 hz2 rfl _ at'.length _ HPS0.out.hrow rfl (.iface 124 (.pointer (some ⟨b, 0, none⟩))) rfl (by rw [HZ0.out]; rfl) rfl (by unfold maxLen; have := HM.out; omega) (by have := HM.out; omega) hBW ?_; intro v6 w6 hr6 hb6 hg6; have hO6 : Only (fun q => (Value.slice va m vc).ownBlock = some q) W0 w6 := (Only.refl _ W0).grown hg6 (fun k hk => .inl hk); have hT6 := typ_own HPS0.out.hrow; obtain ⟨m6, hm6⟩ : ∃ m6, m6 = m + 1 := ⟨_, rfl⟩; obtain ⟨a6, cp6, hv6⟩ : ∃ a c, v6 = .slice a m6 c := (by obtain ⟨a, c, hv⟩ := own_form hr6; exact ⟨a, c, by rw [hv, hm6, HM.out]⟩); subst hv6; have HR6 := Lib.hid hr6; have HO6 := Lib.hid hO6; have HT6 := Lib.hid hT6; have HM6 := Lib.hid hm6; have hk4 := HK4.out.typ hT6 hO6 (by decide); have hkp := HPS0.out.hP.typ hT6 hO6 (by decide); have HKP := Lib.hid hkp; have HK46 := Lib.hid hk4; obtain ⟨p0, p1, p2, p3, p4, p5, p6, p7, p8, p9, q0, q1, q2, q3, q4, q5, q6, q7, q8, q9⟩ := blk_ten hk4; obtain ⟨x0, y0⟩ := blk_one hkp; have hm6' : (m6 : Int) - 1 = (m : Int) := (by omega); have hm61 : m6 ≤ 2000 := (by omega); clear hr6 hb6 hg6 hO6 hT6 hm6 hk4 hkp)
  refine bodyPost_ret (v := .agg #[.bool true, .bool false, .int .i64 (m : Int), .int .i64 0, .bool false, .slice none 0 0, .int .u64 0, .string ⟨#[]⟩, .slice none 0 0, .slice none 0 0]) (by simp [results, Tryz.results50, go_sem, p0, p1, p2, p3, p4, p5, p6, p7, p8, p9]) rfl ⟨.slice a6 m6 cp6, by rw [HM.out], ?_, ?_⟩
  · have hX := PS.snoc HPS0.out HBK.out HSEG.out HNB.out HBB.out HR6.out HO6.out
    have hk := HK46.out.far (p := ⟨P, 0, none⟩) n1' (.slice a6 m6 cp6)
    exact hX.typ (typ_one hk) (ten_keep (g := w.heap.size) (d0 := .bool true) (d1 := .bool false) (d2 := .int .i64 (m : Int)) (d3 := .int .i64 0) (d4 := .bool false) (d5 := .slice none 0 0) (d6 := .int .u64 0) (d7 := .string ⟨#[]⟩) (d8 := .slice none 0 0) (d9 := .slice none 0 0) (Only.refl (· = w.heap.size) _) (.inl rfl)) (by decide) (by decide) (by decide) (by decide) (by decide) (by decide)
  · exact ten_keep ((((Only.of_below (S := fun q => q = P ∨ (Value.slice va m vc).ownBlock = some q) HB0.out).trans (HO6.out.mono fun q _ hq => .inr hq))).setCell (p := ⟨P, 0, none⟩) (.inl (.inl rfl)) _) (.inr (Nat.le_refl _))
@[go_sem] theorem Tryz.mtDone (a : Addr) (w : World) : (method 288 124 (.pointer (some a)) "Done").run Tryz.prog w = .ok (152, .pointer (some a)) w := by kernel_rfl
@[go_sem] theorem Tryz.mtNext (a : Addr) (w : World) : (method 288 124 (.pointer (some a)) "Next").run Tryz.prog w = .ok (153, .pointer (some a)) w := by kernel_rfl
def StepP (B P i : Nat) (bs : List Nat) (at2 : List (Option Nat)) (ts : List (Value × Sx)) (pv : Value) (a : AA) (w : World) (e : Ending) (w' : World) : Prop :=
  ∃ (is : Bool) (nn k2 : Int) (neg : Bool) (aa : Option Addr) (mm cc : Nat) (b : Int) (tx : ByteArray) (ka : Option Addr) (kn kc : Nat), e = .returned (.agg #[.bool true, .bool is, .int .i64 nn, .int .i64 k2, .bool neg, .slice aa mm cc, .int .u64 b, .string tx, .slice ka kn kc, .slice none 0 0]) ∧ RAns 7 w' [.bool true, .bool is, .int .i64 nn, .int .i64 k2, .bool neg, .slice aa mm cc, .int .u64 b, .string tx, .slice ka kn kc, .slice none 0 0] a ∧ PS w' B P pv bs at2 ts ∧ Only (fun q => pv.ownBlock = some q ∨ bs[i]? = some q) w w'
set_option maxRecDepth 100000 in
set_option maxHeartbeats 8000000 in
theorem it_done (B P i c : Nat) (pv : Value) (bs : List Nat) (at' : List (Option Nat)) (ts : List (Value × Sx)) (sj sm : Int) (r0 r1 r2 r3 r4 r5 r6 r7 r8 r9 r10 r11 r12 : Value) (w : World) (h : PS w B P pv bs at' ts) (hl : at'.length ≤ 1000) (hi : at'[i]? = some (some c)) :
    Calls Tryz.prog 52 #[.pointer (some ⟨P, 0, none⟩), .agg #[.int .i64 7, .int .i64 (i : Int), .int .i64 sj, .int .i64 sm, r0, r1, r2, r3, r4, r5, r6, r7, r8, r9, r10, r11, r12]] w (StepP B P i bs (at'.set i none) ts pv ⟨false, 0, .one .none⟩ w) := by
  obtain ⟨b, q, m, d, hbi, hbk, hseg⟩ := h.hit i c hi
  obtain ⟨va, vc, hvf⟩ := h.form
  obtain ⟨n, hn⟩ : ∃ n, n = at'.length := ⟨_, rfl⟩
  rw [← hn] at hvf hl
  subst hvf
  have hil : i < n := by rw [hn]; exact (List.getElem?_eq_some_iff.1 hi).1
  have hzc : (List.zipWith itV bs at')[i]? = some (.iface 124 (.pointer (some ⟨b, 0, none⟩))) := by
    rw [List.getElem?_zipWith, hbi, hi]; rfl
  obtain ⟨g, hva, hBg, hgl, hrc, hrf⟩ : ∃ g, va = some ⟨g, 0, none⟩ ∧ B ≤ g ∧ g < w.heap.size ∧ w.cell? ⟨g, i, none⟩ = some (.iface 124 (.pointer (some ⟨b, 0, none⟩))) ∧ w.frozen? ⟨g, i, none⟩ = false := by
    rcases h.hrow.2 with ⟨hv, h0⟩ | ⟨g, cap, cur, hv, hb, hh, _⟩
    · omega
    · injection hv with e1 e2 e3
      have hc := h.hrow.cells (g := g) (by rw [e1]; rfl) i _ hzc
      rw [Addr.add_lit] at hc
      exact ⟨g, e1, hb, (Array.getElem?_eq_some_iff.1 hh).1, by simpa using hc, Blk.frozen hh i⟩
  subst hva
  obtain ⟨W0, hW0⟩ : ∃ W0, W0 = ((w.alloc (.cells #[.int .i64 7, .int .i64 (i : Int), .int .i64 sj, .int .i64 sm, r0, r1, r2, r3, r4, r5, r6, r7, r8, r9, r10, r11, r12] 35)).alloc (.cells #[.bool false, .bool false, .int .i64 0, .int .i64 0, .bool false, .slice none 0 0, .int .u64 0, .string ⟨#[]⟩, .slice none 0 0, .slice none 0 0] 37)) := ⟨_, rfl⟩
  have hb0 : Below w.heap.size w W0 := by rw [hW0]; exact ((Below.refl _ w).alloc (Nat.le_refl _) _).alloc (by simp) _
  have HK3 : Hid (Blk W0 w.heap.size 35 #[.int .i64 7, .int .i64 (i : Int), .int .i64 sj, .int .i64 sm, r0, r1, r2, r3, r4, r5, r6, r7, r8, r9, r10, r11, r12]) := by rw [hW0]; exact (Blk.new w _ _).alloc _
  have HK4 : Hid (Blk W0 (w.heap.size + 1) 37 #[.bool false, .bool false, .int .i64 0, .int .i64 0, .bool false, .slice none 0 0, .int .u64 0, .string ⟨#[]⟩, .slice none 0 0, .slice none 0 0]) := by rw [hW0]; exact Blk.new_at _ _ _ (by simp)
  have HZ0 : Hid (W0.heap.size = w.heap.size + 2) := by rw [hW0]; simp [Hid]
  have HPS0 := Lib.hid (h.below hb0)
  have HBK := Lib.hid (hbk.below hb0 hbk.lt)
  have HSEG := Lib.hid (hseg.below hb0)
  have HB0 := Lib.hid hb0
  have HN := Lib.hid hn
  have HI := Lib.hid hi
  have HBI := Lib.hid hbi
  have s0 : W0.cell? ⟨w.heap.size, 0, none⟩ = some (.int .i64 7) := (HK3.out.cell 0).trans rfl
  have s1 : W0.cell? ⟨w.heap.size, 1, none⟩ = some (.int .i64 (i : Int)) := (HK3.out.cell 1).trans rfl
  have pc : W0.cell? ⟨P, 0, none⟩ = some (.slice (some ⟨g, 0, none⟩) n vc) := (HPS0.out.hP.cell 0).trans rfl
  have rc : W0.cell? ⟨g, i, none⟩ = some (.iface 124 (.pointer (some ⟨b, 0, none⟩))) := (hb0.cell (p := ⟨g, i, none⟩) hgl).trans hrc
  have rf : W0.frozen? ⟨g, i, none⟩ = false := (hb0.frozen (p := ⟨g, i, none⟩) hgl).trans hrf
  have hPl := h.hP.lt
  have hbl := hbk.lt
  have hgP : ¬ g = P := fun e => own_ne_blk h.hrow h.hP (by decide) g rfl e
  have hgb : ¬ g = b := fun e => own_ne_blk h.hrow hbk (by decide) g rfl e
  have hi0 : (0 : Int) ≤ (i : Int) := by omega
  have hi1 : (i : Int) < (n : Int) := by omega
  have d1 : decide ((i : Int) < 0) = false := by simp
  have d2 : decide ((n : Int) ≤ (i : Int)) = false := by simp; omega
  have d3 : decide (n ≤ i) = false := by simp; omega
  have n1 : ¬ g = w.heap.size := by omega
  have n2 : ¬ g = w.heap.size + 1 := by omega
  have n3 : ¬ P = w.heap.size + 1 := by omega
  have n4 : ¬ b = w.heap.size + 1 := by omega
  clear h hl hi hbi hn hbk hseg hzc hrc hrf hb0 hBg
  go_enter Tryz.func52, Tryz.ntmps52
  go_upto_region 1 with fail
  rw [← hW0]
  clear hW0
  go_quiet (fail)
  obtain ⟨W1, hW1⟩ : ∃ W1, W1 = W0.drewN nq := ⟨_, rfl⟩
  rw [← hW1]
  have hb1 : Below W0.heap.size W0 W1 := by rw [hW1]; exact below_dn (Below.refl _ _) _
  replace s0 : W1.cell? ⟨w.heap.size, 0, none⟩ = some (.int .i64 7) := by rw [hW1]; exact s0
  replace s1 : W1.cell? ⟨w.heap.size, 1, none⟩ = some (.int .i64 (i : Int)) := by rw [hW1]; exact s1
  replace pc : W1.cell? ⟨P, 0, none⟩ = some (.slice (some ⟨g, 0, none⟩) n vc) := by rw [hW1]; exact pc
  replace rc : W1.cell? ⟨g, i, none⟩ = some (.iface 124 (.pointer (some ⟨b, 0, none⟩))) := by rw [hW1]; exact rc
  replace rf : W1.frozen? ⟨g, i, none⟩ = false := by rw [hW1]; exact rf
  clear hW1 nq
  go_upto_region 3 with fail
  go_quiet (fail)
  obtain ⟨W2, hW2⟩ : ∃ W2, W2 = W1.drewN nq := ⟨_, rfl⟩
  rw [← hW2]
  have HB2 : Hid (Below W0.heap.size W0 W2) := by rw [hW2]; exact below_dn hb1 _
  replace s0 : W2.cell? ⟨w.heap.size, 0, none⟩ = some (.int .i64 7) := by rw [hW2]; exact s0
  replace s1 : W2.cell? ⟨w.heap.size, 1, none⟩ = some (.int .i64 (i : Int)) := by rw [hW2]; exact s1
  replace pc : W2.cell? ⟨P, 0, none⟩ = some (.slice (some ⟨g, 0, none⟩) n vc) := by rw [hW2]; exact pc
  replace rc : W2.cell? ⟨g, i, none⟩ = some (.iface 124 (.pointer (some ⟨b, 0, none⟩))) := by rw [hW2]; exact rc
  replace rf : W2.frozen? ⟨g, i, none⟩ = false := by rw [hW2]; exact rf
  clear hW2 nq hb1
  have HPS2 := Lib.hid (HPS0.out.below HB2.out)
  have HK32 := Lib.hid (HK3.out.below HB2.out HK3.out.lt)
  have HK42 := Lib.hid (HK4.out.below HB2.out HK4.out.lt)
  have HBK2 := Lib.hid (HBK.out.below HB2.out HBK.out.lt)
  have HSEG2 := Lib.hid (HSEG.out.below HB2.out)
  have HW : Hid (∀ W, Only (fun x => x = g) W2 W → W.cell? ⟨P, 0, none⟩ = some (.slice (some ⟨g, 0, none⟩) n vc) ∧ W.cell? ⟨w.heap.size, 1, none⟩ = some (.int .i64 (i : Int))) := fun W hW => by
    have k1 : Blk W P _ _ := Blk.only HPS2.out.hP hW (fun e => hgP e.symm)
    have k2 : Blk W w.heap.size _ _ := Blk.only HK32.out hW (fun e => n1 e.symm)
    exact ⟨(k1.cell 0).trans rfl, (k2.cell 1).trans rfl⟩
  have HO1 := Lib.hid (Only.refl (fun x => x = g) W2).drew
  have HO2 := Lib.hid ((Only.refl (fun x => x = g) W2).setCell (p := ⟨g, i, none⟩) (.inl rfl) .nilIface).drew
  go_upto_region 6 with (go_at_call 152; refine (tup_done b _).mono ?_; rintro e w' ⟨rfl, rfl⟩)
  go_region_held3 (fun W => W.cell? ⟨P, 0, none⟩ = some (.slice (some ⟨g, 0, none⟩) n vc) ∧ W.cell? ⟨w.heap.size, 1, none⟩ = some (.int .i64 (i : Int)))
    (first | (with_reducible exact HW.out _ HO1.out) | (with_reducible exact HW.out _ HO2.out) | go_keep) (fail)
  obtain ⟨W3, hW3⟩ : ∃ W3, W3 = (W2.setCell ⟨g, i, none⟩ .nilIface).drew := ⟨_, rfl⟩
  have hO3 : Only (fun q => (Value.slice (some ⟨g, 0, none⟩) n vc).ownBlock = some q) W2 W3 := by rw [hW3]; exact ((Only.refl (fun q => (Value.slice (some ⟨g, 0, none⟩) n vc).ownBlock = some q) W2).setCell (p := ⟨g, i, none⟩) (.inl rfl) .nilIface).drew
  have HPS3 : Hid (PS W3 B P (.slice (some ⟨g, 0, none⟩) n vc) bs (at'.set i none) ts) := by rw [hW3]; exact (HPS2.out.off HBI.out).below (Below.refl _ _).drew
  rw [← hW3]
  have hk4 := HK42.out.typ (typ_own HPS2.out.hrow) hO3 (by decide)
  have HK43 := Lib.hid hk4
  have HO3 := Lib.hid hO3
  obtain ⟨p0, p1, p2, p3, p4, p5, p6, p7, p8, p9, q0, q1, q2, q3, q4, q5, q6, q7, q8, q9⟩ := blk_ten hk4
  clear hW3 hO3 hk4
  go_wp2
  refine bodyPost_ret (v := .agg #[.bool true, .bool false, .int .i64 0, .int .i64 0, .bool false, .slice none 0 0, .int .u64 0, .string ⟨#[]⟩, .slice none 0 0, .slice none 0 0]) (by simp [results, Tryz.results52, go_sem, p0, p1, p2, p3, p4, p5, p6, p7, p8, p9]) rfl ⟨false, 0, 0, false, none, 0, 0, 0, ⟨#[]⟩, none, 0, 0, rfl, rans_zero _ _ _ _, ?_, ?_⟩
  · exact HPS3.out.typ (typ_one HK43.out) (ten_keep (g := w.heap.size + 1) (d0 := .bool true) (d1 := .bool false) (d2 := .int .i64 0) (d3 := .int .i64 0) (d4 := .bool false) (d5 := .slice none 0 0) (d6 := .int .u64 0) (d7 := .string ⟨#[]⟩) (d8 := .slice none 0 0) (d9 := .slice none 0 0) (Only.refl (· = w.heap.size + 1) _) (.inl rfl)) (by decide) (by decide) (by decide) (by decide) (by decide) (by decide)
  · exact ten_keep (((Only.of_below (S := (fun q => (Value.slice (some ⟨g, 0, none⟩) n vc).ownBlock = some q ∨ bs[i]? = some q)) (HB0.out.trans (HB2.out.mono HB0.out.size))).trans (HO3.out.mono fun q _ hq => .inl hq))) (.inr (Nat.le_succ _))
end Go.Proofs.YteibkaonofkcbaaGreat
