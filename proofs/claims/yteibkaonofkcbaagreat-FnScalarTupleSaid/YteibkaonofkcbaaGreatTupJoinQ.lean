/- Joined texts: FillA, AskT. -/
import Derived.Test.YteibkaonofkcbaaGreatTupJoinP
import Derived.Test.YteibkaonofkcbaaGreatTupR
set_option linter.unusedSimpArgs false
set_option linter.unusedVariables false
namespace Go.Proofs.YteibkaonofkcbaaGreat
open Go.RowKit
set_option linter.unusedSimpArgs false
set_option linter.unusedVariables false
theorem flat_set {α : Type} (f : α → List Value) (n : Nat) : ∀ (ss : List α), (∀ s ∈ ss, (f s).length = n) → ∀ (i j : Nat) (hi : i < ss.length), j < n → ∀ (y : α) (u : Value), f y = (f (ss[i]'hi)).set j u → (ss.set i y).flatMap f = (ss.flatMap f).set (i * n + j) u := by
  intro ss
  induction ss with
  | nil => intro _ i j hi; simp at hi
  | cons p r ih =>
    intro h i j hi hj y u he
    have hp := h p (by simp)
    cases i with
    | zero =>
      rw [List.set_cons_zero, List.flatMap_cons, List.flatMap_cons, List.set_append_left _ _ (by omega), he]
      simp
    | succ i =>
      have e : (i + 1) * n + j = n + (i * n + j) := by rw [Nat.succ_mul]; omega
      rw [List.set_cons_succ, List.flatMap_cons, List.flatMap_cons, List.set_append_right _ _ (by omega), hp, show (i + 1) * n + j - n = i * n + j by omega]
      rw [ih (fun q hq => h q (by simp [hq])) i j (by simpa using hi) hj y u (by simpa using he)]
theorem RowA.kinds {kd kd' : Nat → Int} {w : World} {B : Nat} {v : Value} {al : List (List Value × AA)} (h : RowA kd w B v al) (hk : ∀ i a, al[i]? = some a → RAns (kd i) w a.1 a.2 → RAns (kd' i) w a.1 a.2) : RowA kd' w B v al := ⟨h.1, fun i a ha => hk i a ha (h.2 i a ha)⟩
theorem RAns.kd_one {kd kd' : Int} {w : World} {c : List Value} {a : AA} (h : RAns kd w c a) (ho : ∃ x, a.v = .one x) : RAns kd' w c a := by
  obtain ⟨x, hx⟩ := ho
  obtain ⟨v, hv, hc⟩ := h
  rw [hx] at hv
  exact ⟨v, by rw [hx]; exact hv, hc⟩
theorem RowA.put7 {kd : Nat → Int} {w : World} {B g : Nat} {v : Value} {al : List (List Value × AA)} (h : RowA kd w B v al) (hg : v.ownBlock = some g) (i : Nat) (hi : i < al.length) (hm : ∃ r, (al[i]'hi).2.v = .many r) :
    RowA (fun j => if j = i then 7 else kd j) (w.setCell ⟨g, i * 10 + 3, none⟩ (.int .i64 7)) B v (al.set i ((al[i]'hi).1.set 3 (.int .i64 7), (al[i]'hi).2)) := by
  have hO : Only (· = g) w (w.setCell ⟨g, i * 10 + 3, none⟩ (.int .i64 7)) := (Only.refl (· = g) w).setCell (p := ⟨g, i * 10 + 3, none⟩) (.inl rfl) _
  have hS : ∀ q, q = g → q < w.heap.size → ∃ t cs, Blk w q t cs ∧ 5 ≠ t ∧ 33 ≠ t := fun q hq _ => by
    subst hq
    obtain ⟨cs0, hb0⟩ := Blk.of_own (g := q) (n := 0) (c := 0) h.1 hg
    exact ⟨_, cs0, hb0, by decide, by decide⟩
  refine ⟨?_, fun j a ha => ?_⟩
  · rw [List.length_set, flat_set (fun a : List Value × AA => a.1) 10 al (fun a ha => h.len a ha) i 3 hi (by decide) _ (.int .i64 7) rfl]
    exact own_set h.1 hg _ _
  · by_cases hj : j = i
    · subst hj
      rw [List.getElem?_set_self hi] at ha
      injection ha with ha
      subst ha
      simp only [if_pos]
      obtain ⟨x, hx, hc⟩ := (h.2 j _ (List.getElem?_eq_getElem hi)).apart hS hO
      obtain ⟨r, hr⟩ := hm
      rw [hr] at hx
      obtain ⟨q, m, c, ps, rfl, h1, h2, h3⟩ := hx
      refine ⟨pv 7 false none 0 0 0 ⟨#[]⟩ q m c, ?_, ?_⟩
      · show AVal 7 _ _ (al[j]'hi).2.v
        rw [hr]; exact ⟨q, m, c, ps, rfl, h1, h2, h3⟩
      · show (al[j]'hi).1.set 3 _ = _
        rw [hc]; rfl
    · rw [List.getElem?_set_ne (fun e => hj e.symm)] at ha
      simp only [if_neg hj]
      exact (h.2 j a ha).apart hS hO
theorem Runs.at {l : List Sx} {ss : List St} {al : List AA} {at' : List (Option Nat)} (h : Runs l ss al at') (i : Nat) (hi : i < ss.length) (hj : i < al.length) : ∃ b1 b2, StepR l b1 (ss[i]'hi) (al[i]'hj) b2 := by
  obtain ⟨_, f, _, _, f2⟩ := h
  exact ⟨_, _, f2 i _ _ (List.getElem?_eq_getElem hi) (List.getElem?_eq_getElem hj)⟩
theorem StepR.kind {l : List Sx} {b1 b2 : List (Option Nat)} {s : St} {a : AA} (h : StepR l b1 s a b2) : ((s.k = 27 ∧ ∃ r, a.v = .many r) ∨ (¬ s.k = 27 ∧ ∃ x, a.v = .one x)) ∧ ¬ s.k = 23 ∧ ¬ s.k = 24 := by
  cases h <;> simp
theorem AV.of.small {l : List Sx} {v : AV} (h : v.of l) (hs : ∀ s ∈ l, SmallX s) : v.small := by
  have hn : SmallX .none := by simp [SmallX]
  cases v with
  | one s =>
    rcases h with h | h
    · exact hs s h
    · subst h; exact hn
  | many r =>
    refine ⟨by have := h.1; omega, fun s h1 => ?_⟩
    rcases h.2 s h1 with h2 | h2
    · exact hs s h2
    · subst h2; exact hn
end Go.Proofs.YteibkaonofkcbaaGreat
namespace Go.Proofs.YteibkaonofkcbaaGreat
open Go.RowKit
set_option linter.unusedSimpArgs false
set_option linter.unusedVariables false
attribute [local go_sem ↓] Go.wp_at_zero Go.wp_at_succ
theorem own_block {w : World} {B g : Nat} {t : TypeId} {cs : Array Value} (h : Blk w g t cs) (hB : B ≤ g) : w.ownsRow B t cs.size (.slice (some ⟨g, 0, none⟩) 1 1) 1 cs.toList :=
  ⟨by simp, .inr ⟨g, 1, cs, rfl, hB, h, Nat.le_refl _, by decide, by simp, by rw [Nat.one_mul]; exact List.take_of_length_le (by simp)⟩⟩
set_option maxRecDepth 100000 in
set_option maxHeartbeats 4000000 in
theorem asked_any (w : World) : Calls Tryz.prog 10 #[] w fun e w' => ∃ v, e = .returned v ∧ RowSt w' w.heap.size v [⟨4, 0, 0, 0, zz13⟩] ∧ Below w.heap.size w w' := by
  go_enter Tryz.func10, Tryz.ntmps10
  go_wp2
  go_ret
  refine ⟨_, rfl, ⟨own_block (Blk.new w 35 #[.int .i64 4, .int .i64 0, .int .i64 0, .int .i64 0, .int .i64 0, .bool false, .slice none 0 0, .int .u64 0, .string ⟨#[]⟩, .slice none 0 0, .int .i64 0, .bool false, .slice none 0 0, .int .u64 0, .string ⟨#[]⟩, .slice none 0 0, .slice none 0 0]) (Nat.le_refl _), fun s hs => ?_⟩, (Below.refl _ w).alloc (Nat.le_refl _) _⟩
  rw [List.mem_singleton] at hs
  subst hs
  refine ⟨rfl, fun u hu => ?_⟩
  have : zz13.all (·.oneCell') = true := by kernel_rfl
  exact List.all_eq_true.1 this u hu
theorem Runs.asked (l : List Sx) : Runs l [⟨4, 0, 0, 0, zz13⟩] [⟨false, (l.length : Int), .one .none⟩] [] := (Runs.nil l).snoc (.len [] 0 0 0 zz13)
set_option maxRecDepth 100000 in
set_option maxHeartbeats 4000000 in
theorem length_one (B n : Nat) (v : Value) (cs : List (List Value × AA)) (w : World) (h : RowA (fun _ => 7) w B v cs) (he : cs.map (·.2) = [⟨false, (n : Int), .one .none⟩]) :
    Calls Tryz.prog 9 #[v, .int .i64 n] w fun e w' => e = .returned (.bool true) ∧ w' = w := by
  obtain ⟨c, rfl, hc⟩ := List.map_eq_singleton_iff.1 he
  obtain ⟨g, cap, hv, hl, _, q⟩ := h.at 0 (by simp)
  obtain ⟨x, hx, hcc⟩ := h.2 0 c rfl
  rw [hc] at hx hcc
  obtain ⟨k, neg, aa, m, cc, b, tx, ka, kn, kc, rfl⟩ := hx.form
  have k1 : w.cell? ⟨g, 1, none⟩ = some (.bool false) := (q 1 (by omega)).trans (by show c.1[1]? = _; rw [hcc]; rfl)
  have k2 : w.cell? ⟨g, 2, none⟩ = some (.int .i64 n) := (q 2 (by omega)).trans (by show c.1[2]? = _; rw [hcc]; rfl)
  have k0 : w.cell? ⟨g, 0, none⟩ = some (.bool true) := (q 0 (by omega)).trans (by show c.1[0]? = _; rw [hcc]; rfl)
  have hv1 : v = .slice (some ⟨g, 0, none⟩) 1 cap := hv
  subst hv1
  clear hv q hx hcc h he
  go_enter Tryz.func9, Tryz.ntmps9
  go_wp2
  go_ret
  exact ⟨rfl, rfl⟩
end Go.Proofs.YteibkaonofkcbaaGreat
