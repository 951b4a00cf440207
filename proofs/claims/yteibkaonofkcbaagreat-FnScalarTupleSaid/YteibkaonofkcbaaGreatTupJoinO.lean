/- Joined texts: WalkU, Typ. -/
import Derived.Test.YteibkaonofkcbaaGreatStepS
import Derived.Test.YteibkaonofkcbaaGreatOnlyT
set_option linter.unusedSimpArgs false
set_option linter.unusedVariables false
namespace Go.Proofs.YteibkaonofkcbaaGreat
open Go.RowKit
set_option linter.unusedSimpArgs false
set_option linter.unusedVariables false
theorem rans_zero (kd : Int) (w : World) (is : Bool) (n : Int) : RAns kd w [.bool true, .bool is, .int .i64 n, .int .i64 0, .bool false, .slice none 0 0, .int .u64 0, .string ⟨#[]⟩, .slice none 0 0, .slice none 0 0] ⟨is, n, .one .none⟩ := ⟨pv 0 false none 0 0 0 ⟨#[]⟩ none 0 0, rfl, rfl⟩
theorem rans_one {kd : Int} {w : World} {is : Bool} {n k : Int} {neg : Bool} {aa : Option Addr} {mm cc : Nat} {b : Int} {tx : ByteArray} {s : Sx} (h : RVal w (pv k neg aa mm cc b tx none 0 0) s) : RAns kd w [.bool true, .bool is, .int .i64 n, .int .i64 k, .bool neg, .slice aa mm cc, .int .u64 b, .string tx, .slice none 0 0, .slice none 0 0] ⟨is, n, .one s⟩ := ⟨_, h, rfl⟩
def WalkP (B G S : Nat) (v : Value) (at' : List (Option Nat)) (l : List Sx) (w : World) (e : Ending) (w' : World) : Prop :=
  ∃ (is : Bool) (nn k2 : Int) (neg : Bool) (aa : Option Addr) (mm cc : Nat) (b : Int) (tx : ByteArray) (ka : Option Addr) (kn kc : Nat) (k' i' j' m' : Int) (a : AA) (at2 : List (Option Nat)) (v2 : Value), e = .returned (.tuple #[.agg #[.bool true, .bool is, .int .i64 nn, .int .i64 k2, .bool neg, .slice aa mm cc, .int .u64 b, .string tx, .slice ka kn kc, .slice none 0 0], .bool true]) ∧ RAns 6 w' [.bool true, .bool is, .int .i64 nn, .int .i64 k2, .bool neg, .slice aa mm cc, .int .u64 b, .string tx, .slice ka kn kc, .slice none 0 0] a ∧ StepR l at' ⟨k', i', j', m', [.int .i64 0, .bool false, .slice none 0 0, .int .u64 0, .string ⟨#[]⟩, .slice none 0 0, .int .i64 0, .bool false, .slice none 0 0, .int .u64 0, .string ⟨#[]⟩, .slice none 0 0, .slice none 0 0]⟩ a at2 ∧ Blk w' S 35 #[.int .i64 k', .int .i64 i', .int .i64 j', .int .i64 m', .int .i64 0, .bool false, .slice none 0 0, .int .u64 0, .string ⟨#[]⟩, .slice none 0 0, .int .i64 0, .bool false, .slice none 0 0, .int .u64 0, .string ⟨#[]⟩, .slice none 0 0, .slice none 0 0] ∧ GuardB w' B G v2 at2 ∧ Only (fun b => b = S ∨ b = G ∨ v.ownBlock = some b) w w'
theorem GuardB.below {w w' : World} {B G : Nat} {v : Value} {at' : List (Option Nat)} (h : GuardB w B G v at') (hb : Below w.heap.size w w') : GuardB w' B G v at' := ⟨h.1.below hb h.1.lt, own_below h.2 hb⟩
theorem GuardB.step {w w' : World} {B G S : Nat} {v : Value} {at' : List (Option Nat)} {cs : Array Value} (h : GuardB w B G v at') (hs : Blk w S 35 cs) (k : Only (· = S) w w') : GuardB w' B G v at' := by
  refine ⟨h.1.only k fun e => ?_, own_only h.2 k fun q hq e => own_ne_blk h.2 hs (by decide) q hq e⟩
  subst e
  have := hs.symm.trans h.1
  injection this with h
  injection h with _ h
  exact absurd h (by decide)
theorem walk_any (B BL : Nat) (v : Value) (at' : List (Option Nat)) (G S : Nat) (k si sj sm : Int) (ia : Option Addr) (n ic : Nat) (w : World) (ps : List (Value × Sx)) (hx : RowX w BL (.slice ia n ic) ps) (hn : ps.length = n) (hn8 : n ≤ 1000) (hg : GuardB w B G v at') (hs : Blk w S 35 #[.int .i64 k, .int .i64 si, .int .i64 sj, .int .i64 sm, .int .i64 0, .bool false, .slice none 0 0, .int .u64 0, .string ⟨#[]⟩, .slice none 0 0, .int .i64 0, .bool false, .slice none 0 0, .int .u64 0, .string ⟨#[]⟩, .slice none 0 0, .slice none 0 0]) (hlen : at'.length ≤ 1000) (hB : B ≤ w.heap.size)
    (hk : k = 4 ∨ k = 11 ∨ k = 5 ∨ k = 6 ∨ k = 7) : Calls Tryz.prog 12 #[.pointer (some ⟨G, 0, none⟩), .pointer (some ⟨S, 0, none⟩), .slice ia n ic] w (WalkP B G S v at' (ps.map (·.2)) w) := by
  have hll : (ps.map (·.2)).length = n := by rw [List.length_map]; exact hn
  have hle : ((ps.map (·.2)).length : Int) = (n : Int) := by rw [hll]
  rcases hk with rfl | rfl | rfl | rfl | rfl
  · refine (walk_len G S si sj sm ia n ic w hs).mono ?_
    rintro e w' ⟨rfl, hb⟩
    rw [← hle]
    exact ⟨_, _, _, _, _, _, _, _, _, _, _, _, _, _, _, _, _, _, _, rfl, rans_zero _ _ _ _, .len _ _ _ _ _, hs.below hb hs.lt, hg.below hb, Only.of_below hb⟩
  · by_cases h0 : n = 0
    · refine (walk_truth0 G S si sj sm ia n ic w hs h0).mono ?_
      rintro e w' ⟨rfl, hb⟩
      have h := StepR.truth (l := ps.map (·.2)) at' si sj sm [.int .i64 0, .bool false, .slice none 0 0, .int .u64 0, .string ⟨#[]⟩, .slice none 0 0, .int .i64 0, .bool false, .slice none 0 0, .int .u64 0, .string ⟨#[]⟩, .slice none 0 0, .slice none 0 0]
      rw [hll, h0] at h
      exact ⟨_, _, _, _, _, _, _, _, _, _, _, _, _, _, _, _, _, _, _, rfl, rans_zero _ _ _ _, h, hs.below hb hs.lt, hg.below hb, Only.of_below hb⟩
    · refine (walk_truth1 G S si sj sm ia n ic w hs (by omega)).mono ?_
      rintro e w' ⟨rfl, hb⟩
      have h := StepR.truth (l := ps.map (·.2)) at' si sj sm [.int .i64 0, .bool false, .slice none 0 0, .int .u64 0, .string ⟨#[]⟩, .slice none 0 0, .int .i64 0, .bool false, .slice none 0 0, .int .u64 0, .string ⟨#[]⟩, .slice none 0 0, .slice none 0 0]
      rw [hll, show decide (0 < n) = true by simp; omega] at h
      exact ⟨_, _, _, _, _, _, _, _, _, _, _, _, _, _, _, _, _, _, _, rfl, rans_zero _ _ _ _, h, hs.below hb hs.lt, hg.below hb, Only.of_below hb⟩
  · refine (walk_open B v at' G S si sj sm ia n ic w hg hs hlen hB).mono ?_
    rintro e w' ⟨v2, rfl, hg2, hO⟩
    have hnS : ¬ S = G := by
      intro e
      subst e
      have := hs.symm.trans hg.1
      injection this with h
      injection h with _ h
      exact absurd h (by decide)
    refine ⟨_, _, _, _, _, _, _, _, _, _, _, _, _, _, _, _, _, _, v2, rfl, rans_zero _ _ _ _, .opn _ _ _ _ _, hs.only hO ?_, hg2, hO.mono fun q _ hq => .inr hq⟩
    rintro (e | e)
    · exact hnS e
    · exact own_ne_blk hg.2 hs (by decide) _ e rfl
  · by_cases h0 : openN at' = 0
    · refine (walk_next0 B v at' G S si sj sm ia n ic w hg hs h0).mono ?_
      rintro e w' ⟨si', rfl, hs2, hO⟩
      rw [← hle]
      exact ⟨_, _, _, _, _, _, _, _, _, _, _, _, _, _, _, _, _, _, v, rfl, rans_zero _ _ _ _, .len _ _ _ _ _, hs2, hg.step hs hO, hO.mono fun q _ hq => .inl hq⟩
    · refine (walk_next B BL v at' G S si sj sm ia n ic w ps hx hn hn8 hg hs (by omega) hlen).mono ?_
      rintro e w' ⟨i, c, hi, hs2, hO, hcase⟩
      rcases hcase with ⟨hc, rfl, hg2⟩ | ⟨hc, k, neg, aa, mm, cc, b, tx, hpe, rfl, hg2⟩
      · exact ⟨_, _, _, _, _, _, _, _, _, _, _, _, _, _, _, _, _, _, v, rfl, rans_zero _ _ _ _, .nextN _ i c _ _ _ hi (by rw [List.length_map]; exact hc), hs2, hg2, hO⟩
      · have hst := StepR.nextY (l := ps.map (·.2)) at' i c sj sm [.int .i64 0, .bool false, .slice none 0 0, .int .u64 0, .string ⟨#[]⟩, .slice none 0 0, .int .i64 0, .bool false, .slice none 0 0, .int .u64 0, .string ⟨#[]⟩, .slice none 0 0, .slice none 0 0] hi (by rw [List.length_map]; exact hc)
        rw [List.getElem_map] at hst
        have hr := (hx.2 _ (List.getElem_mem hc)).read
        rw [hpe] at hr
        refine ⟨_, _, _, _, _, _, _, _, _, _, _, _, _, _, _, _, _, _, v, rfl, rans_one (hr.apart (fun g hS hgl => ?_) hO), hst, hs2, hg2, hO⟩
        rcases hS with rfl | rfl | hS
        · exact ⟨_, _, hs, by decide⟩
        · exact ⟨_, _, hg.1, by decide⟩
        · obtain ⟨cs0, hb0⟩ := Blk.of_own (g := g) (n := 0) (c := 0) hg.2 hS
          exact ⟨_, cs0, hb0, by decide⟩
  · by_cases h0 : openN at' = 0
    · refine (walk_done0 B v at' G S si sj sm ia n ic w hg hs h0).mono ?_
      rintro e w' ⟨si', rfl, hs2, hO⟩
      rw [← hle]
      exact ⟨_, _, _, _, _, _, _, _, _, _, _, _, _, _, _, _, _, _, v, rfl, rans_zero _ _ _ _, .len _ _ _ _ _, hs2, hg.step hs hO, hO.mono fun q _ hq => .inl hq⟩
    · refine (walk_done B v at' G S si sj sm ia n ic w hg hs (by omega) hlen).mono ?_
      rintro e w' ⟨i, c, rfl, hi, hs2, hg2, hO⟩
      exact ⟨_, _, _, _, _, _, _, _, _, _, _, _, _, _, _, _, _, _, v, rfl, rans_zero _ _ _ _, .done _ i c _ _ _ hi, hs2, hg2, hO⟩
def NoP (w : World) (e : Ending) (w' : World) : Prop := e = .returned (.tuple #[.agg #[.bool false, .bool false, .int .i64 0, .int .i64 0, .bool false, .slice none 0 0, .int .u64 0, .string ⟨#[]⟩, .slice none 0 0, .slice none 0 0], .bool false]) ∧ Below w.heap.size w w'
theorem walk_no (G S : Nat) (k si sj sm : Int) (ia : Option Addr) (n ic : Nat) (w : World) (hs : Blk w S 35 #[.int .i64 k, .int .i64 si, .int .i64 sj, .int .i64 sm, .int .i64 0, .bool false, .slice none 0 0, .int .u64 0, .string ⟨#[]⟩, .slice none 0 0, .int .i64 0, .bool false, .slice none 0 0, .int .u64 0, .string ⟨#[]⟩, .slice none 0 0, .slice none 0 0]) (hk : k = 2 ∨ k = 27) : Calls Tryz.prog 12 #[.pointer (some ⟨G, 0, none⟩), .pointer (some ⟨S, 0, none⟩), .slice ia n ic] w (NoP w) := by
  rcases hk with rfl | rfl
  · exact walk_index G S si sj sm ia n ic w hs
  · exact walk_slice G S si sj sm ia n ic w hs
def SlP (S : Nat) (at' : List (Option Nat)) (l : List Sx) (w : World) (e : Ending) (w' : World) : Prop :=
  ∃ (is : Bool) (nn k2 : Int) (neg : Bool) (aa : Option Addr) (mm cc : Nat) (b : Int) (tx : ByteArray) (ka : Option Addr) (kn kc : Nat) (k' i' j' m' : Int) (a : AA), e = .returned (.agg #[.bool true, .bool is, .int .i64 nn, .int .i64 k2, .bool neg, .slice aa mm cc, .int .u64 b, .string tx, .slice ka kn kc, .slice none 0 0]) ∧ RAns 6 w' [.bool true, .bool is, .int .i64 nn, .int .i64 k2, .bool neg, .slice aa mm cc, .int .u64 b, .string tx, .slice ka kn kc, .slice none 0 0] a ∧ StepR l at' ⟨k', i', j', m', [.int .i64 0, .bool false, .slice none 0 0, .int .u64 0, .string ⟨#[]⟩, .slice none 0 0, .int .i64 0, .bool false, .slice none 0 0, .int .u64 0, .string ⟨#[]⟩, .slice none 0 0, .slice none 0 0]⟩ a at' ∧ Blk w' S 35 #[.int .i64 k', .int .i64 i', .int .i64 j', .int .i64 m', .int .i64 0, .bool false, .slice none 0 0, .int .u64 0, .string ⟨#[]⟩, .slice none 0 0, .int .i64 0, .bool false, .slice none 0 0, .int .u64 0, .string ⟨#[]⟩, .slice none 0 0, .slice none 0 0] ∧ Only (· = S) w w'
theorem sl_any (S L : Nat) (k si sj sm : Int) (r0 r1 r2 r3 r4 r5 r6 r7 r8 r9 r10 r11 r12 r13 r14 r15 r16 : Value) (fx : Bool) (ia : Option Addr) (n ic : Nat) (w : World) (B : Nat) (at' : List (Option Nat)) (ps : List (Value × Sx)) (hx : RowX w B (.slice ia n ic) ps) (hn : ps.length = n) (hs : Blk w S 35 #[.int .i64 k, .int .i64 si, .int .i64 sj, .int .i64 sm, .int .i64 0, .bool false, .slice none 0 0, .int .u64 0, .string ⟨#[]⟩, .slice none 0 0, .int .i64 0, .bool false, .slice none 0 0, .int .u64 0, .string ⟨#[]⟩, .slice none 0 0, .slice none 0 0]) (hL : Blk w L 22 #[.slice ia n ic]) (hn8 : n ≤ 8) (hk : k = 2 ∨ k = 27) :
    Calls Tryz.prog 13 #[.pointer (some ⟨S, 0, none⟩), .agg #[r0, r1, r2, r3, r4, r5, r6, r7, r8, r9, r10, r11, r12, r13, r14, r15, r16], .pointer (some ⟨L, 0, none⟩), .bool fx] w (SlP S at' (ps.map (·.2)) w) := by
  have hll : (ps.map (·.2)).length = n := by rw [List.length_map]; exact hn
  have hread : ∀ (w' : World), Only (· = S) w w' → ∀ p ∈ ps, RVal w' p.1 p.2 := fun w' hO p hp => (hx.2 p hp).read.apart (fun g hS hgl => by subst hS; exact ⟨_, _, hs, by decide⟩) hO
  rcases hk with rfl | rfl
  · by_cases h0 : n = 0
    · refine (sl_zero S L si sj sm r0 r1 r2 r3 r4 r5 r6 r7 r8 r9 r10 r11 r12 r13 r14 r15 r16 fx ia n ic w hs hL h0).mono ?_
      rintro e w' ⟨si', rfl, hs2, hO⟩
      have h := StepR.len (l := ps.map (·.2)) at' si' sj sm [.int .i64 0, .bool false, .slice none 0 0, .int .u64 0, .string ⟨#[]⟩, .slice none 0 0, .int .i64 0, .bool false, .slice none 0 0, .int .u64 0, .string ⟨#[]⟩, .slice none 0 0, .slice none 0 0]
      rw [hll, h0] at h
      exact ⟨_, _, _, _, _, _, _, _, _, _, _, _, _, _, _, _, _, rfl, rans_zero _ _ _ _, h, hs2, hO⟩
    · refine (sl_index S L si sj sm r0 r1 r2 r3 r4 r5 r6 r7 r8 r9 r10 r11 r12 r13 r14 r15 r16 fx ia n ic w B ps hx hn hs hL (by omega) hn8).mono ?_
      rintro e w' ⟨i, hi, k, neg, aa, mm, cc, b, tx, hpe, rfl, hs2, hO⟩
      have hst := StepR.index (l := ps.map (·.2)) at' i sj sm [.int .i64 0, .bool false, .slice none 0 0, .int .u64 0, .string ⟨#[]⟩, .slice none 0 0, .int .i64 0, .bool false, .slice none 0 0, .int .u64 0, .string ⟨#[]⟩, .slice none 0 0, .slice none 0 0] (by rw [List.length_map]; exact hi)
      rw [List.getElem_map] at hst
      have hr := hread w' hO _ (List.getElem_mem hi)
      rw [hpe] at hr
      exact ⟨_, _, _, _, _, _, _, _, _, _, _, _, _, _, _, _, _, rfl, rans_one hr, hst, hs2, hO⟩
  · refine (sl_slice S L si sj sm r0 r1 r2 r3 r4 r5 r6 r7 r8 r9 r10 r11 r12 r13 r14 r15 r16 fx ia n ic w B ps hx hn hs hL hn8).mono ?_
    rintro e w' ⟨i, j, m, q, qm, qc, qs, hbd, rfl, hr, hqm, hq, hs2, hO⟩
    have hra : RAns 6 w' [.bool true, .bool false, .int .i64 0, .int .i64 6, .bool false, .slice none 0 0, .int .u64 0, .string ⟨#[]⟩, .slice q qm qc, .slice none 0 0] ⟨false, 0, .many (cutX (ps.map (·.2)) 9 i j m)⟩ := ⟨pv 6 false none 0 0 0 ⟨#[]⟩ q qm qc, ⟨q, qm, qc, qs, rfl, ⟨own_base hr.1 (Nat.zero_le _), fun p hp => (hr.2 p hp).read⟩, hqm, hq⟩, rfl⟩
    have hst := StepR.slice (l := ps.map (·.2)) at' i j m [.int .i64 0, .bool false, .slice none 0 0, .int .u64 0, .string ⟨#[]⟩, .slice none 0 0, .int .i64 0, .bool false, .slice none 0 0, .int .u64 0, .string ⟨#[]⟩, .slice none 0 0, .slice none 0 0] (by rw [hll]; exact hbd)
    exact ⟨_, _, _, _, _, _, _, _, _, _, _, _, _, _, _, _, _, rfl, hra, hst, hs2, hO⟩
def WalkE (k : Int) (B G S : Nat) (v : Value) (at' : List (Option Nat)) (l : List Sx) (w : World) (e : Ending) (w' : World) : Prop :=
  ∃ (isB ok : Bool) (is : Bool) (nn k2 : Int) (neg : Bool) (aa : Option Addr) (mm cc : Nat) (b : Int) (tx : ByteArray) (ka : Option Addr) (kn kc : Nat), e = .returned (.tuple #[.agg #[.bool ok, .bool is, .int .i64 nn, .int .i64 k2, .bool neg, .slice aa mm cc, .int .u64 b, .string tx, .slice ka kn kc, .slice none 0 0], .bool isB]) ∧ ((isB = true ∧ ok = true ∧ ∃ (k' i' j' m' : Int) (a : AA) (at2 : List (Option Nat)) (v2 : Value), RAns 6 w' [.bool true, .bool is, .int .i64 nn, .int .i64 k2, .bool neg, .slice aa mm cc, .int .u64 b, .string tx, .slice ka kn kc, .slice none 0 0] a ∧ StepR l at' ⟨k', i', j', m', [.int .i64 0, .bool false, .slice none 0 0, .int .u64 0, .string ⟨#[]⟩, .slice none 0 0, .int .i64 0, .bool false, .slice none 0 0, .int .u64 0, .string ⟨#[]⟩, .slice none 0 0, .slice none 0 0]⟩ a at2 ∧ Blk w' S 35 #[.int .i64 k', .int .i64 i', .int .i64 j', .int .i64 m', .int .i64 0, .bool false, .slice none 0 0, .int .u64 0, .string ⟨#[]⟩, .slice none 0 0, .int .i64 0, .bool false, .slice none 0 0, .int .u64 0, .string ⟨#[]⟩, .slice none 0 0, .slice none 0 0] ∧ GuardB w' B G v2 at2 ∧ Only (fun b => b = S ∨ b = G ∨ v.ownBlock = some b) w w') ∨ (isB = false ∧ (k = 2 ∨ k = 27) ∧ Below w.heap.size w w'))
theorem walk_all (B BL : Nat) (v : Value) (at' : List (Option Nat)) (G S : Nat) (k si sj sm : Int) (ia : Option Addr) (n ic : Nat) (w : World) (ps : List (Value × Sx)) (hx : RowX w BL (.slice ia n ic) ps) (hn : ps.length = n) (hn8 : n ≤ 1000) (hg : GuardB w B G v at') (hs : Blk w S 35 #[.int .i64 k, .int .i64 si, .int .i64 sj, .int .i64 sm, .int .i64 0, .bool false, .slice none 0 0, .int .u64 0, .string ⟨#[]⟩, .slice none 0 0, .int .i64 0, .bool false, .slice none 0 0, .int .u64 0, .string ⟨#[]⟩, .slice none 0 0, .slice none 0 0]) (hlen : at'.length ≤ 1000) (hB : B ≤ w.heap.size)
    (hk : k = 4 ∨ k ∈ ([2, 27, 11, 5, 6, 7] : List Int)) : Calls Tryz.prog 12 #[.pointer (some ⟨G, 0, none⟩), .pointer (some ⟨S, 0, none⟩), .slice ia n ic] w (WalkE k B G S v at' (ps.map (·.2)) w) := by
  by_cases h : k = 2 ∨ k = 27
  · refine (walk_no G S k si sj sm ia n ic w hs h).mono ?_
    rintro e w' ⟨rfl, hb⟩
    exact ⟨false, false, _, _, _, _, _, _, _, _, _, _, _, _, rfl, .inr ⟨rfl, h, hb⟩⟩
  · refine (walk_any B BL v at' G S k si sj sm ia n ic w ps hx hn hn8 hg hs hlen hB (by simp at hk; omega)).mono ?_
    rintro e w' ⟨is, nn, k2, neg, aa, mm, cc, b, tx, ka, kn, kc, k', i', j', m', a, at2, v2, rfl, h⟩
    exact ⟨true, true, is, nn, k2, neg, aa, mm, cc, b, tx, ka, kn, kc, rfl, .inl ⟨rfl, rfl, k', i', j', m', a, at2, v2, h⟩⟩
/-- What a step has made of the world: its box, its answer's box. -/
def StepQ (B G S A : Nat) (v : Value) (at' : List (Option Nat)) (l : List Sx) (w w' : World) : Prop :=
  ∃ (is : Bool) (nn k2 : Int) (neg : Bool) (aa : Option Addr) (mm cc : Nat) (b : Int) (tx : ByteArray) (ka : Option Addr) (kn kc : Nat) (k' i' j' m' : Int) (a : AA) (at2 : List (Option Nat)) (v2 : Value), Blk w' A 37 #[.bool true, .bool is, .int .i64 nn, .int .i64 k2, .bool neg, .slice aa mm cc, .int .u64 b, .string tx, .slice ka kn kc, .slice none 0 0] ∧ RAns 6 w' [.bool true, .bool is, .int .i64 nn, .int .i64 k2, .bool neg, .slice aa mm cc, .int .u64 b, .string tx, .slice ka kn kc, .slice none 0 0] a ∧ StepR l at' ⟨k', i', j', m', [.int .i64 0, .bool false, .slice none 0 0, .int .u64 0, .string ⟨#[]⟩, .slice none 0 0, .int .i64 0, .bool false, .slice none 0 0, .int .u64 0, .string ⟨#[]⟩, .slice none 0 0, .slice none 0 0]⟩ a at2 ∧ Blk w' S 35 #[.int .i64 k', .int .i64 i', .int .i64 j', .int .i64 m', .int .i64 0, .bool false, .slice none 0 0, .int .u64 0, .string ⟨#[]⟩, .slice none 0 0, .int .i64 0, .bool false, .slice none 0 0, .int .u64 0, .string ⟨#[]⟩, .slice none 0 0, .slice none 0 0] ∧ GuardB w' B G v2 at2 ∧ Only (fun b => b = S ∨ b = G ∨ v.ownBlock = some b) w w'
end Go.Proofs.YteibkaonofkcbaaGreat
namespace Go.Proofs.YteibkaonofkcbaaGreat
open Go.RowKit
/-- The blocks of S that are there are of these types. -/
def Typ (S : Nat → Prop) (w : World) (T : List TypeId) : Prop := ∀ g, S g → g < w.heap.size → ∃ t cs, Blk w g t cs ∧ t ∈ T
section
variable {S : Nat → Prop} {w w' : World} {T : List TypeId}
theorem typ_own {B size n : Nat} {e : TypeId} {v : Value} {xs : List Value} (h : w.ownsRow B e size v n xs) : Typ (fun g => v.ownBlock = some g) w [e] := fun g hg _ => by
  obtain ⟨cs, hb⟩ := Blk.of_own (g := g) (n := 0) (c := 0) h hg
  exact ⟨e, cs, hb, by simp⟩
theorem typ_one {g : Nat} {t : TypeId} {cs : Array Value} (h : Blk w g t cs) : Typ (· = g) w [t] := fun q hq _ => by
  subst hq
  exact ⟨t, cs, h, by simp⟩
theorem Blk.typ {g : Nat} {t : TypeId} {cs : Array Value} (h : Blk w g t cs) (hs : Typ S w T) (k : Only S w w') (ht : t ∉ T) : Blk w' g t cs := h.only k fun hS => by
  obtain ⟨t2, cs2, hb, hm⟩ := hs g hS h.lt
  have := h.symm.trans hb
  injection this with h1
  injection h1 with _ h1
  subst h1
  exact ht hm
theorem own_typ {B size n : Nat} {e : TypeId} {v : Value} {xs : List Value} (h : w.ownsRow B e size v n xs) (hs : Typ S w T) (k : Only S w w') (ht : e ∉ T) : w'.ownsRow B e size v n xs := own_only h k fun g hg hS => by
  obtain ⟨cs0, hb0⟩ := Blk.of_own (g := g) (n := 0) (c := 0) h hg
  obtain ⟨t2, cs2, hb, hm⟩ := hs g hS hb0.lt
  exact own_ne_blk h hb (fun e1 => ht (e1 ▸ hm)) g hg rfl
theorem XVal.typ {B : Nat} {v : Value} {s : Sx} (h : XVal w B v s) (hs : Typ S w T) (k : Only S w w') (ht : 5 ∉ T) : XVal w' B v s := by
  cases s with
  | int neg l =>
    obtain ⟨⟨vs, hv, ho, h1, h2⟩, h3⟩ := h
    exact ⟨⟨vs, hv, ⟨own_typ ho.1 hs k ht, ho.2⟩, h1, h2⟩, h3⟩
  | _ => exact h
theorem RowX.typ {B : Nat} {v : Value} {ps : List (Value × Sx)} (h : RowX w B v ps) (hs : Typ S w T) (k : Only S w w') (h1 : 5 ∉ T) (h2 : 33 ∉ T) : RowX w' B v ps :=
  ⟨own_typ h.1 hs k h2, fun p hp => (h.2 p hp).typ hs k h1⟩
theorem RowSt.typ {B : Nat} {v : Value} {ss : List St} (h : RowSt w B v ss) (hs : Typ S w T) (k : Only S w w') (h1 : 35 ∉ T) : RowSt w' B v ss := ⟨own_typ h.1 hs k h1, h.2⟩
theorem RAns.typ {kd : Int} {c : List Value} {a : AA} (h : RAns kd w c a) (hs : Typ S w T) (k : Only S w w') (h1 : 5 ∉ T) (h2 : 33 ∉ T) : RAns kd w' c a :=
  h.apart (fun g hS hg => by
    obtain ⟨t, cs, hb, hm⟩ := hs g hS hg
    exact ⟨t, cs, hb, fun e => h1 (e ▸ hm), fun e => h2 (e ▸ hm)⟩) k
theorem RowA.typ {kd : Nat → Int} {B : Nat} {v : Value} {al : List (List Value × AA)} (h : RowA kd w B v al) (hs : Typ S w T) (k : Only S w w') (h1 : 5 ∉ T) (h2 : 33 ∉ T) (h3 : 37 ∉ T) : RowA kd w' B v al :=
  h.apart (fun g hS hg => by
    obtain ⟨t, cs, hb, hm⟩ := hs g hS hg
    exact ⟨t, cs, hb, fun e => h1 (e ▸ hm), fun e => h2 (e ▸ hm), fun e => h3 (e ▸ hm)⟩) k
theorem GuardB.typ {B G : Nat} {v : Value} {at' : List (Option Nat)} (h : GuardB w B G v at') (hs : Typ S w T) (k : Only S w w') (h1 : 46 ∉ T) (h2 : 3 ∉ T) : GuardB w' B G v at' := ⟨h.1.typ hs k h1, own_typ h.2 hs k h2⟩
theorem RowX.below' {B C : Nat} {v : Value} {ps : List (Value × Sx)} (h : RowX w B v ps) (hb : Below w.heap.size w w') (hC : C ≤ B) : RowX w' C v ps := ⟨own_base (h.below hb).1 hC, (h.below hb).2⟩
end
theorem RowSt.form {w : World} {B : Nat} {v : Value} {ss : List St} (h : RowSt w B v ss) : ∃ a c, v = .slice a ss.length c := by
  rcases h.1.2 with ⟨rfl, h0⟩ | ⟨g, cap, cur, rfl, _⟩
  · exact ⟨none, 0, by rw [h0]⟩
  · exact ⟨_, _, rfl⟩
theorem RowA.form {kd : Nat → Int} {w : World} {B : Nat} {v : Value} {al : List (List Value × AA)} (h : RowA kd w B v al) : ∃ a c, v = .slice a al.length c := by
  rcases h.1.2 with ⟨rfl, h0⟩ | ⟨g, cap, cur, rfl, _⟩
  · exact ⟨none, 0, by rw [h0]⟩
  · exact ⟨_, _, rfl⟩
theorem list13 : ∀ (r : List Value), r.length = 13 → ∃ r0 r1 r2 r3 r4 r5 r6 r7 r8 r9 r10 r11 r12, r = [r0, r1, r2, r3, r4, r5, r6, r7, r8, r9, r10, r11, r12]
  | [r0, r1, r2, r3, r4, r5, r6, r7, r8, r9, r10, r11, r12], _ => ⟨r0, r1, r2, r3, r4, r5, r6, r7, r8, r9, r10, r11, r12, rfl⟩
theorem ten_put {w : World} {g : Nat} {t : TypeId} {cs : Array Value} {d0 d1 d2 d3 d4 d5 d6 d7 d8 d9 : Value} (h : Blk w g t cs) (hl : cs.size = 10) :
    Blk ((((((((((w.setCell ⟨g, 0, none⟩ d0).setCell ⟨g, 1, none⟩ d1).setCell ⟨g, 2, none⟩ d2).setCell ⟨g, 3, none⟩ d3).setCell ⟨g, 4, none⟩ d4).setCell ⟨g, 5, none⟩ d5).setCell ⟨g, 6, none⟩ d6).setCell ⟨g, 7, none⟩ d7).setCell ⟨g, 8, none⟩ d8).setCell ⟨g, 9, none⟩ d9) g t #[d0, d1, d2, d3, d4, d5, d6, d7, d8, d9] :=
  h.putAll [d0, d1, d2, d3, d4, d5, d6, d7, d8, d9] hl
theorem ten_below {B g : Nat} {a w : World} {d0 d1 d2 d3 d4 d5 d6 d7 d8 d9 : Value} (hb : Below B a w) (hg : B ≤ g) :
    Below B a ((((((((((w.setCell ⟨g, 0, none⟩ d0).setCell ⟨g, 1, none⟩ d1).setCell ⟨g, 2, none⟩ d2).setCell ⟨g, 3, none⟩ d3).setCell ⟨g, 4, none⟩ d4).setCell ⟨g, 5, none⟩ d5).setCell ⟨g, 6, none⟩ d6).setCell ⟨g, 7, none⟩ d7).setCell ⟨g, 8, none⟩ d8).setCell ⟨g, 9, none⟩ d9) :=
  below_putAll hb hg [d0, d1, d2, d3, d4, d5, d6, d7, d8, d9]
end Go.Proofs.YteibkaonofkcbaaGreat
