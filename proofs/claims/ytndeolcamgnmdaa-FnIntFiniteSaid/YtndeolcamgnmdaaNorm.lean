/- Words without leading zeros. -/
import Derived.Test.YtndeolcamgnmdaaWords
namespace Go.Proofs.Ytndeolcamgnmdaa
open Go.RowKit
theorem OW.take {w : World} {B g c n : Nat} {l : List Nat} (h : OW w B (.slice (some ⟨g, 0, none⟩) n c) l) (k : Nat) (hk : k ≤ l.length) : OW w B (.slice (some ⟨g, 0, none⟩) k c) (l.take k) := by
  have hn := h.len
  subst hn
  refine ⟨⟨by simp, ?_⟩, fun x hx => h.2 x (List.mem_of_mem_take hx)⟩
  rcases h.1.2 with ⟨hv, _⟩ | ⟨g', cap, cur, hv, hb, hh, h1, h2, h3, h4⟩
  · simp at hv
  · injection hv with e1 e2 e3
    have e4 := Option.some.inj e1
    injection e4 with e5
    subst e3 e5
    have hl : (l.take k).length = k := by simp; omega
    refine .inr ⟨g, c, cur, by rw [hl], hb, hh, by omega, h2, h3, ?_⟩
    rw [hl]
    have : (cur.toList.take (l.length * 1)).take k = (wcells l).take k := by rw [h4]
    rw [List.take_take] at this
    rw [show min k (l.length * 1) = k * 1 by omega] at this
    rw [this]
    simp [wcells, List.map_take]
/-- No leading zero. -/
def TopNZ (l : List Nat) : Prop := l.getLast? ≠ some 0
theorem topNZ_take {l : List Nat} {k : Nat} (hk : k ≤ l.length) (h : ∀ (h0 : 0 < k) (hl : k - 1 < l.length), l[k - 1]'hl ≠ 0) : TopNZ (l.take k) := by
  unfold TopNZ
  rw [List.getLast?_eq_getElem?]
  have hl : (l.take k).length = k := by simp; omega
  rw [hl]
  by_cases h0 : 0 < k
  · rw [List.getElem?_take, if_pos (by omega), List.getElem?_eq_getElem (by omega)]
    intro e
    exact h h0 (by omega) (Option.some.inj e)
  · have : l.take k = [] := List.eq_nil_of_length_eq_zero (by omega)
    rw [this]; simp
def NormPost (B : Nat) (l : List Nat) (w : World) (e : Ending) (w' : World) : Prop := ∃ v l', e = .returned v ∧ OW w B v l' ∧ valW l' = valW l ∧ TopNZ l' ∧ w = w'
theorem nat_slice (w : World) (g n c k : Nat) (hk : k ≤ c) :
    (Instr.slice 72 (.slice (some ⟨g, 0, none⟩) n c) (some (.int .i64 0)) (some (.int .i64 (k : Int))) none).run Try.prog w = .ok (.slice (some ⟨g, 0, none⟩) k c) w := by
  simp [Instr.slice, run_underlying Try.underlying72, Instr.sliceBounds, Instr.sliceBound, asIntOf, hk, Try.sizeOf106, Addr.add_lit]
set_option maxRecDepth 20000 in
set_option maxHeartbeats 2000000 in
theorem nat_norm (B : Nat) (v : Value) (l : List Nat) (hl : l.length ≤ 100000) (w : World) (h : OW w B v l) :
    Calls Try.prog 63 #[v] w (NormPost B l w) := by
  rcases h.form with ⟨rfl, rfl⟩ | ⟨g, c, rfl, _, _, hc, hcm⟩
  · go_enter Try.func63, Try.ntmps63
    go_wp2_with fail
    refine wp_loop_rounds 1 ?_
    rw [rounds_succ]
    go_wp2
    go_ret
    exact ⟨_, [], rfl, ow_nil _ _, rfl, by simp [TopNZ], rfl⟩
  · obtain ⟨n, hn⟩ : ∃ n, n = l.length := ⟨_, rfl⟩
    rw [← hn] at h hc hl ⊢
    have HN := Lib.hid hn
    have H := Lib.hid h
    unfold maxLen at hcm
    clear h hn
    go_enter Try.func63, Try.ntmps63
    go_wp2_with fail
    go_loop [3] (fun i => ∃ k : Nat, k ≤ n ∧ i = .int .i64 k ∧ Hid (∀ j (hj : j < l.length), k ≤ j → l[j]'hj = 0)) (fun i => (intOf i).toNat)
    case atStart => exact ⟨n, Nat.le_refl _, rfl, fun j hj h => by have := HN.out; omega⟩
    case round =>
      obtain ⟨k, hk, rfl, hz⟩ := hrel
      by_cases h0 : 0 < k
      · obtain ⟨j, rfl⟩ : ∃ j, k = j + 1 := ⟨k - 1, by omega⟩
        have hjl : j < l.length := by have := HN.out; omega
        have hcell := H.out.cell j hjl
        have hd : decide ((0 : Int) < ((j + 1 : Nat) : Int)) = true := by rw [decide_eq_true_iff]; omega
        have hsub : ((j + 1 : Nat) : Int) - 1 = (j : Int) := by omega
        by_cases hx : l[j]'hjl = 0
        · have hb : (((l[j]'hjl : Nat) : Int) == 0) = true := by rw [beq_iff_eq]; omega
          have HX := Lib.hid hx
          clear hx
          go_wp2
          go_round
          case rel => exact ⟨j, by omega, by go_num, fun i hi hji => by
            by_cases e : i = j
            · subst e; exact HX.out
            · exact hz.out i hi (by omega)⟩
          case measure => simp [intOf]
        · have hb : (((l[j]'hjl : Nat) : Int) == 0) = false := by rw [beq_eq_false_iff_ne]; omega
          have HX := Lib.hid hx
          have hsl := fun W => nat_slice W g n c (j + 1) (by omega)
          clear hx
          go_wp2
          go_ret
          exact ⟨_, l.take (j + 1), rfl, H.out.take (j + 1) (by omega), valW_take l (j + 1) (by omega) hz.out, topNZ_take (by omega) (fun _ _ => HX.out), rfl⟩
      · obtain rfl : k = 0 := by omega
        have hsl := fun W => nat_slice W g n c 0 (by omega)
        go_wp2
        go_ret
        exact ⟨_, l.take 0, rfl, H.out.take 0 (by omega), valW_take l 0 (by omega) hz.out, topNZ_take (by omega) (fun h _ => by omega), rfl⟩
end Go.Proofs.Ytndeolcamgnmdaa
