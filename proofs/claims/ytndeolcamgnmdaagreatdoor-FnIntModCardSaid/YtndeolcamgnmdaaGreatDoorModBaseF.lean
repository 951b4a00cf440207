/- Joined texts: NatCmp, BigCmp, StarBase. -/
import Derived.Test.YtndeolcamgnmdaaGreatDoorModBaseE
import Derived.Test.YtndeolcamgnmdaaGreatDoorModBaseB
set_option linter.unusedVariables false
set_option linter.unusedSimpArgs false
set_option linter.unnecessarySimpa false
namespace Go.Proofs.YtndeolcamgnmdaaGreatDoor
open Go.RowKit
/-- The words from the lowest on: the highest that differs decides. -/
def cmpRev : List Nat → List Nat → Int
  | x :: r, y :: t => if cmpRev r t = 0 then (if x < y then -1 else if y < x then 1 else 0) else cmpRev r t
  | _, _ => 0
def cmpN (xs ys : List Nat) : Int := if xs.length < ys.length then -1 else if ys.length < xs.length then 1 else cmpRev xs ys
theorem cmpRev_self : ∀ xs, cmpRev xs xs = 0
  | [] => rfl
  | x :: r => by simp [cmpRev, cmpRev_self r]
theorem cmpRev_eq : ∀ {xs ys : List Nat}, xs.length = ys.length → cmpRev xs ys = 0 → xs = ys
  | [], [], _, _ => rfl
  | [], _ :: _, h, _ => by simp at h
  | _ :: _, [], h, _ => by simp at h
  | x :: r, y :: t, h, e => by
    have hl : r.length = t.length := by simpa using h
    simp only [cmpRev] at e
    by_cases h0 : cmpRev r t = 0
    · rw [if_pos h0] at e
      have := cmpRev_eq hl h0
      subst this
      by_cases h1 : x < y
      · rw [if_pos h1] at e; simp at e
      · by_cases h2 : y < x
        · rw [if_neg h1, if_pos h2] at e; simp at e
        · rw [show x = y by omega]
    · rw [if_neg h0] at e
      exact absurd e h0
theorem cmpRev_bound : ∀ xs ys, -1 ≤ cmpRev xs ys ∧ cmpRev xs ys ≤ 1
  | [], _ => by simp [cmpRev]
  | _ :: _, [] => by simp [cmpRev]
  | x :: r, y :: t => by
    have := cmpRev_bound r t
    simp only [cmpRev]
    split
    · split
      · omega
      · split <;> omega
    · exact this
theorem cmpRev_at : ∀ {xs ys : List Nat} (i : Nat) (h1 : i < xs.length) (h2 : i < ys.length), xs.length = ys.length → (∀ j (hj : j < xs.length) (hk : j < ys.length), i < j → xs[j]'hj = ys[j]'hk) → ¬ xs[i]'h1 = ys[i]'h2 → cmpRev xs ys = if xs[i]'h1 < ys[i]'h2 then -1 else 1
  | [], _, i, h1, _, _, _, _ => by simp at h1
  | _ :: _, [], i, _, h2, _, _, _ => by simp at h2
  | x :: r, y :: t, 0, h1, h2, hl, ha, hne => by
    have hl' : r.length = t.length := by simpa using hl
    have hrt : r = t := List.ext_getElem hl' fun i hi hk => by
      have := ha (i + 1) (by simp; omega) (by simp; omega) (by omega)
      simpa using this
    subst hrt
    simp only [cmpRev, cmpRev_self, List.getElem_cons_zero] at *
    simp only [if_true]
    by_cases h : x < y
    · rw [if_pos h, if_pos h]
    · rw [if_neg h, if_neg h, if_pos (by omega)]
  | x :: r, y :: t, i + 1, h1, h2, hl, ha, hne => by
    have hl' : r.length = t.length := by simpa using hl
    have ih := cmpRev_at (xs := r) (ys := t) i (by simpa using h1) (by simpa using h2) hl' (fun j hj hk hij => by
      have := ha (j + 1) (by simp; omega) (by simp; omega) (by omega)
      simpa using this) (by simpa using hne)
    have hn0 : ¬ cmpRev r t = 0 := by rw [ih]; split <;> simp
    simp only [cmpRev, if_neg hn0, List.getElem_cons_succ]
    exact ih
theorem cmpN_bound (xs ys : List Nat) : -1 ≤ cmpN xs ys ∧ cmpN xs ys ≤ 1 := by
  have := cmpRev_bound xs ys
  unfold cmpN
  split
  · omega
  · split <;> omega
theorem cmpN_eq (xs ys : List Nat) : cmpN xs ys = 0 ↔ xs = ys := by
  refine ⟨fun e => ?_, fun e => by subst e; simp [cmpN, cmpRev_self]⟩
  unfold cmpN at e
  by_cases h1 : xs.length < ys.length
  · rw [if_pos h1] at e; simp at e
  · by_cases h2 : ys.length < xs.length
    · rw [if_neg h1, if_pos h2] at e; simp at e
    · rw [if_neg h1, if_neg h2] at e
      exact cmpRev_eq (by omega) e
theorem cmpN_at {xs ys : List Nat} (i : Nat) (h1 : i < xs.length) (h2 : i < ys.length) (hl : xs.length = ys.length) (ha : ∀ j (hj : j < xs.length) (hk : j < ys.length), i < j → xs[j]'hj = ys[j]'hk) {x y : Nat} (hx : x = xs[i]'h1) (hy : y = ys[i]'h2) (hne : ¬ x = y) : cmpN xs ys = if x < y then -1 else 1 := by
  subst hx hy
  unfold cmpN
  rw [if_neg (by omega), if_neg (by omega)]
  exact cmpRev_at i h1 h2 hl ha hne
def CmpPost (r : Int) (w : World) (e : Ending) (w' : World) : Prop := e = .returned (.int .i64 r) ∧ ∃ q, w' = w.drewN q
theorem dn0 (w : World) : ∃ q, w = w.drewN q := ⟨0, rfl⟩
theorem dn1 {w w1 : World} (h : ∃ q, w1 = w.drewN q) (n : Nat) : ∃ q, w1.drewN n = w.drewN q := by
  obtain ⟨q, rfl⟩ := h
  exact ⟨q + n, World.drewN_drewN _ _ _⟩
set_option maxRecDepth 20000 in
set_option maxHeartbeats 2000000 in
theorem nat_cmp (B1 B2 : Nat) (v1 v2 : Value) (xs ys : List Nat) (w : World) (h1 : OW w B1 v1 xs) (h2 : OW w B2 v2 ys) (hl : xs.length ≤ 1000) (hl2 : ys.length ≤ 1000) :
    Calls Tryz.prog 45 #[v1, v2] w (CmpPost (cmpN xs ys) w) := by
  have H1 := Lib.hid h1
  have H2 := Lib.hid h2
  obtain ⟨a1, c1, hv1⟩ := h1.shape
  obtain ⟨a2, c2, hv2⟩ := h2.shape
  obtain ⟨m1, hm1⟩ : ∃ m, m = xs.length := ⟨_, rfl⟩
  obtain ⟨m2, hm2⟩ : ∃ m, m = ys.length := ⟨_, rfl⟩
  rw [← hm1] at hv1
  rw [← hm2] at hv2
  have HM1 := Lib.hid hm1
  have HM2 := Lib.hid hm2
  have hk1 : m1 ≤ 1000 := by omega
  have hk2 : m2 ≤ 1000 := by omega
  by_cases hne : m1 = m2
  · subst hne
    by_cases h0 : m1 = 0
    · subst h0
      have he : xs = ys := by rw [List.eq_nil_of_length_eq_zero hm1.symm, List.eq_nil_of_length_eq_zero hm2.symm]
      have HE := Lib.hid he
      subst hv1 hv2
      clear h1 h2 hm1 hm2 he hl hl2
      go_enter Tryz.func45, Tryz.ntmps45
      go_wp2
      go_ret
      exact ⟨ret_int (by rw [(cmpN_eq _ _).2 HE.out]), dn0 w⟩
    · rcases h1.form with ⟨_, rfl⟩ | ⟨g1, c1', hv1', _, _, hc1, _⟩
      · simp at hm1; omega
      rcases h2.form with ⟨_, rfl⟩ | ⟨g2, c2', hv2', _, _, hc2, _⟩
      · simp at hm2; omega
      rw [← hm1] at hv1'
      rw [← hm2] at hv2'
      rw [hv1'] at hv1 H1 ⊢
      rw [hv2'] at hv2 H2 ⊢
      clear hv1 hv2 hv1' hv2' h1 h2 hm1 hm2 hl hl2
      obtain ⟨k, rfl⟩ : ∃ k, m1 = k + 1 := ⟨m1 - 1, by omega⟩
      have hb0 : (((k + 1 : Nat) : Int) == 0) = false := by rw [beq_eq_false_iff_ne]; omega
      have hs0 : ((k + 1 : Nat) : Int) - 1 = (k : Int) := by omega
      clear h0
      go_enter Tryz.func45, Tryz.ntmps45
      go_wp2_with fail
      go_loopw [7] (fun iv wr => ∃ i : Nat, i ≤ k ∧ iv = .int .i64 (i : Int) ∧ Hid (∀ j (hj : j < xs.length) (hk : j < ys.length), i < j → xs[j]'hj = ys[j]'hk) ∧ Hid (OW wr B1 (.slice (some ⟨g1, 0, none⟩) (k + 1) c1') xs) ∧ Hid (OW wr B2 (.slice (some ⟨g2, 0, none⟩) (k + 1) c2') ys) ∧ ∃ q, wr = w.drewN q)
        (fun iv _ => (intOf iv).toNat)
      case atStart => exact ⟨k, Nat.le_refl _, by go_num, fun j hj hk h => by have := HM1.out; omega, H1.out, H2.out, dn0 w⟩
      case round =>
        obtain ⟨i, hi, rfl, hall, ho1, ho2, hb⟩ := hrel
        have hix : i < xs.length := by rw [← HM1.out]; omega
        have hiy : i < ys.length := by rw [← HM2.out]; omega
        have hc1 := ho1.out.cell i hix
        have hc2 := ho2.out.cell i hiy
        obtain ⟨x, hx⟩ : ∃ x, x = xs[i]'hix := ⟨_, rfl⟩
        obtain ⟨y, hy⟩ : ∃ y, y = ys[i]'hiy := ⟨_, rfl⟩
        rw [← hx] at hc1
        rw [← hy] at hc2
        have HX := Lib.hid hx
        have HY := Lib.hid hy
        have hlt1 : i < c1' := by omega
        have hlt2 : i < c2' := by omega
        clear hx hy
        by_cases hxy : x = y
        · subst hxy
          by_cases hp : 0 < i
          · have hd0 : decide ((0 : Int) < (i : Int)) = true := by simp; omega
            have hd1 : decide (0 < i) = true := by simpa using hp
            obtain ⟨j, rfl⟩ : ∃ j, i = j + 1 := ⟨i - 1, by omega⟩
            have hsub : ((j + 1 : Nat) : Int) - 1 = (j : Int) := by omega
            clear hp
            go_wp2_with fail
            go_quiet (fail)
            go_wp2
            go_roundw
            case rel =>
              refine ⟨j, by omega, by go_num, fun q hq hq2 h => ?_, ho1.out.below (below_dn (Below.refl _ _) _), ho2.out.below (below_dn (Below.refl _ _) _), dn1 hb _⟩
              by_cases e : q = j + 1
              · subst e; rw [← HX.out, ← HY.out]
              · exact hall.out q hq hq2 (by omega)
            case measure => simp [intOf]
          · obtain rfl : i = 0 := by omega
            have hee : xs = ys := eq_of_all HM1.out HM2.out (fun q hq hq2 _ => by
              by_cases e : q = 0
              · subst e; rw [← HX.out, ← HY.out]
              · exact hall.out q hq hq2 (by omega))
            have HEE := Lib.hid hee
            clear hee hp
            go_wp2_with fail
            go_quiet (fail)
            go_wp2_with fail
            go_quiet (fail)
            go_wp2_with fail
            go_quiet (fail)
            go_wp2
            go_ret
            exact ⟨ret_int (by rw [(cmpN_eq _ _).2 HEE.out]), dn1 (dn1 (dn1 hb _) _) _⟩
        · have hb1 : ((x : Int) == (y : Int)) = false := by rw [beq_eq_false_iff_ne]; omega
          have HC := Lib.hid (cmpN_at i hix hiy (by rw [← HM1.out, ← HM2.out]) hall.out HX.out HY.out hxy)
          obtain ⟨b0, hb0'⟩ : ∃ b0, decide ((0 : Int) < (i : Int)) = b0 := ⟨_, rfl⟩
          obtain ⟨b0n, hb0n⟩ : ∃ b0, decide (0 < i) = b0 := ⟨_, rfl⟩
          have hbb : b0n = b0 := by rw [← hb0', ← hb0n]; simp
          subst hbb
          rcases Nat.lt_or_gt_of_ne hxy with hlt | hlt
          · have hd : decide (x < y) = true := by simpa using hlt
            have HLT : Hid ((if x < y then (-1 : Int) else 1) = -1) := by unfold Hid; rw [if_pos hlt]
            clear hlt hxy
            cases b0n
            all_goals
              go_wp2_with fail
              go_quiet (fail)
              go_wp2_with fail
              go_quiet (fail)
              go_wp2
              go_ret
              exact ⟨ret_int (by rw [HC.out, HLT.out]), dn1 (dn1 hb _) _⟩
          · have hd : decide (x < y) = false := by simp; omega
            have hd2 : decide (y < x) = true := by simpa using hlt
            have HLT : Hid ((if x < y then (-1 : Int) else 1) = 1) := by unfold Hid; rw [if_neg (by omega)]
            clear hlt hxy
            cases b0n
            all_goals
              go_wp2_with fail
              go_quiet (fail)
              go_wp2_with fail
              go_quiet (fail)
              go_wp2_with fail
              go_quiet (fail)
              go_wp2
              go_ret
              exact ⟨ret_int (by rw [HC.out, HLT.out]), dn1 (dn1 (dn1 hb _) _) _⟩
  · have hb1 : ((m1 : Int) == (m2 : Int)) = false := by rw [beq_eq_false_iff_ne]; omega
    have hb2 : ((m1 : Int) != (m2 : Int)) = true := by rw [bne_iff_ne]; omega
    subst hv1 hv2
    clear h1 h2 hm1 hm2 hl hl2
    rcases Nat.lt_or_gt_of_ne hne with hlt | hlt
    · have hd : decide (m1 < m2) = true := by simpa using hlt
      have HCN : Hid (cmpN xs ys = -1) := by unfold Hid cmpN; rw [if_pos (by rw [← HM1.out, ← HM2.out]; exact hlt)]
      have hd' : decide ((m1 : Int) < (m2 : Int)) = true := by simpa using hlt
      clear hne
      go_enter Tryz.func45, Tryz.ntmps45
      go_wp2
      go_ret
      exact ⟨ret_int HCN.out.symm, dn0 w⟩
    · have hd : decide (m1 < m2) = false := by simp; omega
      have HCN : Hid (cmpN xs ys = 1) := by unfold Hid cmpN; rw [if_neg (by rw [← HM1.out, ← HM2.out]; omega), if_pos (by rw [← HM1.out, ← HM2.out]; exact hlt)]
      have hd' : decide ((m1 : Int) < (m2 : Int)) = false := by simp; omega
      have hd2 : decide (m2 < m1) = true := by simpa using hlt
      have hd2' : decide ((m2 : Int) < (m1 : Int)) = true := by simpa using hlt
      clear hne
      go_enter Tryz.func45, Tryz.ntmps45
      go_wp2
      go_ret
      exact ⟨ret_int HCN.out.symm, dn0 w⟩
end Go.Proofs.YtndeolcamgnmdaaGreatDoor
namespace Go.Proofs.YtndeolcamgnmdaaGreatDoor
open Go.RowKit
theorem run_eql_ptr_other {P : Program} (w : World) {tp te : TypeId} {j : TypeInfo} {a b : Addr} {ca cb : Array Value} {ta tb : TypeId} (hp : P.underlying tp = some (.pointer te)) (hte : P.info? te = some j) (hsz : j.size ≠ 0)
    (hne : a ≠ b) (ha : w.heap[a.block]? = some (.cells ca ta (0, 0))) (hb : w.heap[b.block]? = some (.cells cb tb (0, 0))) :
    (binOp .eql tp (.pointer (some a)) (.pointer (some b))).run P w = .ok (.bool false) w := by
  have h : ∀ d : Nat, (Op.equalIn (d + 1) tp (.pointer (some a)) (.pointer (some b))).run P w = .ok false w := fun d => by
    simp [Op.equalIn, run_underlying hp, sizeOf, typeInfo, hte, hsz, run_sameAddr_other w hne ha hb]
  simp only [binOp]
  simp [Op.equal, Op.maxDepth, h 9999]
def bigR (n1 n2 : Bool) (xs ys : List Nat) : Int := if n1 = n2 then (if n1 then -cmpN xs ys else cmpN xs ys) else (if n1 then -1 else 1)
theorem topNZ_len {xs ys : List Nat} (hx : TopNZ xs) (by' : ∀ y ∈ ys, y < W64) (h : valW xs = valW ys) : xs.length ≤ ys.length := by
  by_cases h0 : xs = []
  · subst h0; simp
  · obtain ⟨init, last, rfl⟩ : ∃ init last, xs = init ++ [last] := ⟨xs.dropLast, xs.getLast h0, (List.dropLast_concat_getLast h0).symm⟩
    have hl0 : last ≠ 0 := by unfold TopNZ at hx; simpa using hx
    have h1 := valW_top init last hl0
    have h2 := valW_lt ys by'
    rw [h] at h1
    have h3 := (Nat.pow_lt_pow_iff_right (a := W64) (by unfold W64; omega)).1 (Nat.lt_of_le_of_lt h1 h2)
    simp; omega
theorem bigR_eq {n1 n2 : Bool} {xs ys : List Nat} (bx : ∀ x ∈ xs, x < W64) (by' : ∀ y ∈ ys, y < W64) (hx : TopNZ xs) (hy : TopNZ ys) (h1 : n1 = true → xs ≠ []) (h2 : n2 = true → ys ≠ []) : bigR n1 n2 xs ys = 0 ↔ valI n1 xs = valI n2 ys := by
  have hm : xs = ys ↔ valW xs = valW ys := ⟨fun e => by rw [e], fun e => valW_inj xs ys (Nat.le_antisymm (topNZ_len hx by' e) (topNZ_len hy bx e.symm)) bx by' e⟩
  have hz : ∀ {l : List Nat}, TopNZ l → l ≠ [] → 0 < valW l := fun {l} ht h => by
    obtain ⟨init, last, rfl⟩ : ∃ init last, l = init ++ [last] := ⟨l.dropLast, l.getLast h, (List.dropLast_concat_getLast h).symm⟩
    have hl0 : last ≠ 0 := by unfold TopNZ at ht; simpa using ht
    have h1 := valW_top init last hl0
    have h2 : 0 < W64 ^ init.length := Nat.pow_pos W64_pos
    omega
  have hc := cmpN_eq xs ys
  unfold bigR valI
  cases n1 <;> cases n2
  · simp [hc, hm]; omega
  · have := hz hy (h2 rfl)
    simp; omega
  · have := hz hx (h1 rfl)
    simp; omega
  · simp [hc, hm]; omega
theorem cmp_quiet {P : Program} {f : FuncId} {args : Array Value} {w : World} {a n : Nat} {v : Value} (h : ∀ W', (∃ q, W' = w.drewN q) → Calls P f args W' fun e w' => e = .returned v ∧ ∃ m, w' = W'.drewN m) :
    Calls P f args (w.drewN (a + n)) fun e w'' => e = .returned v ∧ ∃ m, w'' = w.drewN (a + m) :=
  (h _ ⟨a + n, rfl⟩).mono fun _ _ hh => ⟨hh.1, by obtain ⟨_, m, rfl⟩ := hh; exact ⟨n + m, by rw [World.drewN_drewN, Nat.add_assoc]⟩⟩
def NewPost (x : Int) (w : World) (e : Ending) (w' : World) : Prop := ∃ b neg ws, e = .returned (.pointer (some ⟨b, 0, none⟩)) ∧ w.heap.size ≤ b ∧ BigI w' 0 b neg ws ∧ valI neg ws = x ∧ Below w.heap.size w w'
theorem ow_one (w : World) (m : Nat) (hm : m < W64) : OW (w.alloc (.cells #[.int .u64 (m : Int)] 83)) 0 (.slice (some ⟨w.heap.size, 0, none⟩) 1 1) [m] :=
  ⟨⟨rfl, .inr ⟨w.heap.size, 1, _, rfl, Nat.zero_le _, heap_alloc_new w _, Nat.le_refl _, by unfold maxLen; omega, rfl, rfl⟩⟩, by simpa using hm⟩
theorem big_one (w : World) (neg : Bool) (m : Nat) (hm : m < W64) (hm0 : m ≠ 0) : BigI ((w.alloc (.cells #[.int .u64 (m : Int)] 83)).alloc (.cells #[.bool neg, .slice (some ⟨w.heap.size, 0, none⟩) 1 1] 60)) 0 (w.heap.size + 1) neg [m] :=
  ⟨_, Blk.new_at (w.alloc (.cells #[.int .u64 (m : Int)] 83)) 60 #[.bool neg, .slice (some ⟨w.heap.size, 0, none⟩) 1 1] (n := w.heap.size + 1) (by simp), (ow_one w m hm).below ((Below.refl _ _).alloc (Nat.le_refl _) _), by unfold TopNZ; simpa using hm0, by simp, by simp⟩
theorem big_zero (w : World) : BigI (w.alloc (.cells #[.bool false, .slice none 0 0] 60)) 0 w.heap.size false [] :=
  ⟨_, Blk.new w 60 #[.bool false, .slice none 0 0], ow_nil _ _, by simp [TopNZ], by simp, by simp⟩
theorem new_int (x : Int) (h0 : -2147483648 ≤ x) (h1 : x < 2147483648) (w : World) :
    Calls Tryz.prog 41 #[.int .i64 x] w (NewPost x w) := by
  by_cases hn : x < 0
  · obtain ⟨m, hm⟩ : ∃ m : Nat, x = -(m : Int) := ⟨(-x).toNat, by omega⟩
    have hm0 : m ≠ 0 := by omega
    have hm1 : m < W64 := by unfold W64; omega
    have hu : IntKind.u64.wrap (-(m : Int)) = 18446744073709551616 - (m : Int) := by simp [IntKind.wrap, IntKind.bits, IntKind.signed]; omega
    have hu2 : IntKind.u64.wrap (-(18446744073709551616 - (m : Int))) = (m : Int) := by simp [IntKind.wrap, IntKind.bits, IntKind.signed]; omega
    have hd : decide (-(m : Int) < 0) = true := by simp; omega
    have he : ((-(m : Int)) == 0) = false := by rw [beq_eq_false_iff_ne]; omega
    subst hm
    have hb := Lib.hid (big_one w true m hm1 hm0)
    clear hn h0 h1
    go_enter Tryz.func41, Tryz.ntmps41
    go_wp2
    go_ret
    exact ⟨_, true, [m], rfl, by omega, hb.out, by simp [valI, valW], ((Below.refl _ w).alloc (Nat.le_refl _) _).alloc (by simp) _⟩
  · by_cases hz : x = 0
    · subst hz
      have hb := Lib.hid (big_zero w)
      go_enter Tryz.func41, Tryz.ntmps41
      go_wp2
      go_ret
      exact ⟨_, false, [], rfl, Nat.le_refl _, hb.out, rfl, (Below.refl _ w).alloc (Nat.le_refl _) _⟩
    · obtain ⟨m, hm⟩ : ∃ m : Nat, x = (m : Int) := ⟨x.toNat, by omega⟩
      subst hm
      have hm0 : m ≠ 0 := by omega
      have hm1 : m < W64 := by unfold W64; omega
      have hd : decide ((m : Int) < 0) = false := by simp
      have he : ((m : Int) == 0) = false := by rw [beq_eq_false_iff_ne]; omega
      have hb := Lib.hid (big_one w false m hm1 hm0)
      clear hn hz
      go_enter Tryz.func41, Tryz.ntmps41
      go_wp2
      go_ret
      exact ⟨_, false, [m], rfl, by omega, hb.out, by simp [valI, valW], ((Below.refl _ w).alloc (Nat.le_refl _) _).alloc (by simp) _⟩
/-- The math/big integer of an int of the language: its own, or a new one. -/
def BIPost (v : Value) (x : Int) (w : World) (e : Ending) (w' : World) : Prop := ∃ b neg ws, e = .returned (.pointer (some ⟨b, 0, none⟩)) ∧ (w.heap.size ≤ b ∨ v = .agg #[.int .i64 0, .pointer (some ⟨b, 0, none⟩)]) ∧ BigI w' 0 b neg ws ∧ valI neg ws = x ∧ Below w.heap.size w w'
theorem star_bigint (B : Nat) (v : Value) (n : Int) (w : World) (hv : SI w B v n) :
    Calls Tryz.prog 32 #[v] w (BIPost v n w) := by
  rcases hv with ⟨hs, rfl⟩ | ⟨hs, b, neg, ws, rfl, _, hbi, hval⟩
  · have h1 := of_decide_eq_true hs
    have ha : n < 2147483648 := h1.2
    have hb : -2147483648 ≤ n := h1.1
    clear hs h1
    go_enter Tryz.func32, Tryz.ntmps32
    go_wp2_with fail
    refine (int_get n none _).mono ?_
    rintro e w1 ⟨rfl, hb1⟩
    have hbw := ((Below.refl _ w).alloc (Nat.le_refl _) _).trans (hb1.mono (by simp))
    clear hb1
    go_wp2_with fail
    refine (new_int n hb ha _).mono ?_
    rintro e w2 ⟨b, neg, ws, rfl, hbb, hbi, hval, hb2⟩
    have HB := Lib.hid hbi
    have hbw2 := hbw.trans (hb2.mono hbw.size)
    have hge : w.heap.size ≤ b := Nat.le_trans hbw.size hbb
    clear hb2 hbi
    go_wp2
    go_ret
    exact ⟨b, neg, ws, rfl, .inl hge, HB.out, hval, hbw2⟩
  · have HV := Lib.hid hval
    have HBI := Lib.hid ((hbi.base (C := 0) (Nat.zero_le _)).below ((Below.refl _ w).alloc (Nat.le_refl _) (.cells #[.int .i64 0, .pointer (some ⟨b, 0, none⟩)] 48)))
    clear hs hval hbi
    go_enter Tryz.func32, Tryz.ntmps32
    go_wp2_with fail
    refine (int_get 0 (some ⟨b, 0, none⟩) _).mono ?_
    rintro e w1 ⟨rfl, hb1⟩
    have HBI1 := Lib.hid (HBI.out.below hb1)
    have hbw := ((Below.refl _ w).alloc (Nat.le_refl _) _).trans (hb1.mono (by simp))
    clear hb1
    go_wp2
    go_ret
    exact ⟨b, neg, ws, rfl, .inr rfl, HBI1.out, HV.out, hbw⟩
end Go.Proofs.YtndeolcamgnmdaaGreatDoor
namespace Go.Proofs.YtndeolcamgnmdaaGreatDoor
open Go.RowKit
theorem sg_posw (x : Int) (h0 : 0 < x) (h1 : x < 9223372036854775807) : wrap64 (bits .or .u64 (x / 9223372036854775808) (IntKind.u64.wrap (-x) / 9223372036854775808)) = 1 := by
  have e1 : x / 9223372036854775808 = 0 := by omega
  have e2 : IntKind.u64.wrap (-x) / 9223372036854775808 = 1 := by
    have h : IntKind.u64.wrap (-x) = 18446744073709551616 - x := by
      simp [IntKind.wrap, IntKind.bits, IntKind.signed]
      omega
    rw [h]; omega
  rw [e1, e2]
  decide +kernel
theorem sg_negw (x : Int) (h0 : x < 0) (h1 : -9223372036854775807 ≤ x) : wrap64 (bits .or .u64 (IntKind.u64.wrap (x / 9223372036854775808)) (-x / 9223372036854775808)) = -1 := by
  have e1 : x / 9223372036854775808 = -1 := by omega
  have e2 : -x / 9223372036854775808 = 0 := by omega
  rw [e1, e2]
  decide +kernel
theorem signum_wide (x : Int) (h0 : x < 5000000000) (h1 : -5000000000 ≤ x) (w : World) :
    Calls Tryz.prog 29 #[.int .i64 x] w (IntPost (sgn x) w) := by
  by_cases hn : x < 0
  · have HS : Hid (sgn x = -1) := by unfold Hid sgn; rw [if_pos hn]
    have HV := Lib.hid (sg_negw x hn (by omega))
    go_enter Tryz.func29, Tryz.ntmps29
    go_wp2
    go_ret
    exact ⟨ret_int (by rw [HS.out]; exact HV.out), rfl⟩
  · by_cases hz : x = 0
    · subst hz
      exact signum_any 0 (by omega) (by omega) w
    · have HS : Hid (sgn x = 1) := by unfold Hid sgn; rw [if_neg hn, if_neg hz]
      have hp : 0 < x := by omega
      have HV := Lib.hid (sg_posw x hp (by omega))
      clear hn hz
      go_enter Tryz.func29, Tryz.ntmps29
      go_wp2
      go_ret
      exact ⟨ret_int (by rw [HS.out]; exact HV.out), rfl⟩
theorem sgn_zero {x y : Int} : sgn (x - y) = 0 ↔ x = y := by
  unfold sgn
  split
  · constructor
    · intro h; simp at h
    · intro h; omega
  · split <;> constructor <;> intro h <;> (first | omega | simp at h)
def StarCmpPost (n m : Int) (w : World) (e : Ending) (w' : World) : Prop := ∃ r : Int, e = .returned (.tuple #[.int .i64 r, .nilIface]) ∧ (r = 0 ↔ n = m) ∧ Below w.heap.size w w'
theorem cmp_apart {w w2 w3 : World} {t : TypeId} {x1 x2 : Int} {p1 p2 : Option Addr} {g1 g2 : Nat} {n1 : Bool} {xs : List Nat}
    (hne : ∀ b, p1 = some ⟨b, 0, none⟩ → p2 ≠ some ⟨b, 0, none⟩) (h1 : ∀ b, p1 = some ⟨b, 0, none⟩ → b < w.heap.size) (h2 : ∀ b, p2 = some ⟨b, 0, none⟩ → b < w.heap.size)
    (c2 : Below (w.heap.size + 1 + 1) ((w.alloc (.cells #[.int .i64 x1, .pointer p1] t)).alloc (.cells #[.int .i64 x2, .pointer p2] t)) w2)
    (hb : BigI w3 0 g1 n1 xs) (hg1 : w2.drew.heap.size ≤ g1 ∨ Value.agg #[.int .i64 x1, .pointer p1] = .agg #[.int .i64 0, .pointer (some ⟨g1, 0, none⟩)])
    (hg2 : w3.heap.size ≤ g2 ∨ Value.agg #[.int .i64 x2, .pointer p2] = .agg #[.int .i64 0, .pointer (some ⟨g2, 0, none⟩)]) : g1 ≠ g2 := by
  intro e
  subst e
  rcases hg2 with hg2 | hg2
  · have := hb.blk; omega
  · have e2 : p2 = some ⟨g1, 0, none⟩ := by
      simp at hg2; exact hg2.2
    rcases hg1 with hg1 | hg1
    · have a := h2 _ e2
      have b := c2.size
      have c : w2.heap.size ≤ g1 := hg1
      simp at b
      omega
    · have e1 : p1 = some ⟨g1, 0, none⟩ := by
        simp at hg1; exact hg1.2
      exact hne _ e1 e2
theorem si_ptr {w : World} {B : Nat} {x : Int} {p : Option Addr} {n : Int} (hv : SI w B (.agg #[.int .i64 x, .pointer p]) n) : ∀ b, p = some ⟨b, 0, none⟩ → b < w.heap.size := fun b h => by
  rcases hv with ⟨_, e⟩ | ⟨_, b', _, _, e, _, hbi, _⟩
  · subst h; simp at e
  · subst h; simp at e; rw [e.2]; exact hbi.blk
theorem cmp_iff (n m : Int) (n1 n2 : Bool) (xs ys : List Nat) (W : World) (c1 c2 : Nat) (k1 : BigI W 0 c1 n1 xs) (k2 : BigI W 0 c2 n2 ys) (h1 : valI n1 xs = n) (h2 : valI n2 ys = m) : bigR n1 n2 xs ys = 0 ↔ n = m := by
  obtain ⟨_, _, how1, ht1, hg1, _⟩ := k1
  obtain ⟨_, _, how2, ht2, hg2, _⟩ := k2
  rw [← h1, ← h2]
  exact bigR_eq how1.2 how2.2 ht1 ht2 hg1 hg2
theorem two_size {w W' : World} {t : TypeId} {a b c d : Value} (h : Below (w.heap.size + 1 + 1) ((w.alloc (.cells #[a, b] t)).alloc (.cells #[c, d] t)) W') : w.heap.size + 1 + 1 ≤ W'.heap.size := by
  have := h.size
  simpa using this
theorem four_of {w W' : World} {t : TypeId} {a b c d : Value} (h : Below (w.heap.size + 1 + 1) ((w.alloc (.cells #[a, b] t)).alloc (.cells #[c, d] t)) W') :
    W'.cell? ⟨w.heap.size, 0, none⟩ = some a ∧ W'.cell? ⟨w.heap.size, 1, none⟩ = some b ∧ W'.cell? ⟨w.heap.size + 1, 0, none⟩ = some c ∧ W'.cell? ⟨w.heap.size + 1, 1, none⟩ = some d := by
  obtain ⟨⟨d0, d1, _, _⟩, ⟨d2, d3, _, _⟩, _⟩ := two_boxes h
  exact ⟨d0, d1, d2, d3⟩
end Go.Proofs.YtndeolcamgnmdaaGreatDoor
