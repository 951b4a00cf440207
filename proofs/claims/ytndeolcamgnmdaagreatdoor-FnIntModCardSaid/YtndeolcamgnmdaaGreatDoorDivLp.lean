/- The long division's frame: plain part; copies of words at a place; what stays of the stack. -/
import Derived.Test.YtndeolcamgnmdaaGreatDoorDivW2
import Derived.Test.YtndeolcamgnmdaaGreatDoorDivBasP
set_option linter.unusedVariables false
set_option linter.unusedSimpArgs false
set_option linter.unnecessarySimpa false
namespace Go.Proofs.YtndeolcamgnmdaaGreatDoor
open Go.RowKit
theorem row_splice (cur : Array Value) (off : Nat) (cs : List Value) (h : off + cs.length ≤ cur.size) : (cur.toList.take off ++ (cs ++ cur.toList.drop (off + cs.length))).toArray.size = cur.size ∧ (∀ j, j < cs.length → (cur.toList.take off ++ (cs ++ cur.toList.drop (off + cs.length))).toArray[off + j]? = cs[j]?) ∧
    (∀ i, ¬ (off ≤ i ∧ i < off + cs.length) → (cur.toList.take off ++ (cs ++ cur.toList.drop (off + cs.length))).toArray[i]? = cur[i]?) := by
  have hl : (cur.toList.take off).length = off := by simp; omega
  refine ⟨by simp; omega, fun j hj => ?_, fun i hi => ?_⟩
  · rw [List.getElem?_toArray, List.getElem?_append_right (by omega), hl, Nat.add_sub_cancel_left, List.getElem?_append_left hj]
  · rw [List.getElem?_toArray]
    by_cases h1 : i < off
    · rw [List.getElem?_append_left (by omega), List.getElem?_take, if_pos h1]
      simp
    · rw [List.getElem?_append_right (by omega), hl, List.getElem?_append_right (by omega), List.getElem?_drop, show off + cs.length + (i - off - cs.length) = i by omega]
      simp
theorem wpList_copy_wa {w : World} {ops : Array Oper} {rest : List Oper} {o : Oper} {a : Act} {Q : Exit → Act → World → Prop} (hgd : o.guard = none) (d s : Operand)
    (ho : o.op = .call { callee := .builtin .copy, args := #[d, s], argTypes := #[58, 58] }) (g off n cz gx ox cx c : Nat) (xs : List Nat) (hd : a.eval d = .slice (some ⟨g, off, none⟩) n cz) (hs : a.eval s = .slice (some ⟨gx, ox, none⟩) n cx)
    (hr : RowB w g c) (hoc : off + n ≤ c) (hxl : xs.length = n) (hx : WA w gx ox xs)
    (h : ∀ w', WA w' g off xs → Wr g off n w w' → wpList Tryz.prog ops Q rest (a.put o.dst (goInt n)) w') : wpList Tryz.prog ops Q (o :: rest) a w := by
  have hsz : (Tryz.prog.info? 83).map (·.size) = some 1 := by kernel_rfl
  obtain ⟨cur, hg, hcs⟩ := hr
  have hwl : (wcells xs).length = n := by rw [wcells_len, hxl]
  have hfit : off + (wcells xs).length ≤ cur.size := by rw [hwl, hcs]; exact hoc
  obtain ⟨r1, r2, r3⟩ := row_splice cur off (wcells xs) hfit
  refine wpList_copy_own hgd d s 58 58 ho 83 Tryz.underlying58 hsz g off n cz ⟨gx, ox, none⟩ n cx hd hs cur 83 hg (wcells xs) (by rw [hwl]; exact (Nat.min_self _).symm) (fun j v hj => ?_) hfit (wcells_one xs) ?_
  · have hjl : j < xs.length := by rw [← wcells_len]; exact (List.getElem?_eq_some_iff.1 hj).1
    have h1 := hx j hjl
    rw [Addr.add_lit]
    have h2 : (wcells xs)[j]? = some (.int .u64 ((xs[j]'hjl : Nat) : Int)) := by simp [wcells, hjl]
    rw [h2] at hj
    rw [← hj]; exact h1
  · rw [hwl]
    rw [hwl] at r1 r2 r3
    refine h _ (fun j hj => ?_) ⟨rfl, rfl, rfl, by simp, fun b _ hne => setRow_other w g b _ hne, fun cur' t z hc => ?_⟩
    · rw [cell_setRow_same w g (off + j) cur _ _ _ hg]
      rw [r2 j (by omega)]
      simp [wcells, hj]
    · rw [hg] at hc
      simp only [Option.some.injEq, Obj.cells.injEq] at hc
      obtain ⟨rfl, rfl, rfl⟩ := hc
      exact ⟨_, setRow_heap w g _ _ _ _ hg, r1, r3⟩
theorem two_pos (s : Nat) : 0 < 2 ^ s := Nat.pow_pos (by omega)
theorem top_up (d s : Nat) (hs : s < 64) (h : d * 2 ^ s < W64) : (d + 1) * 2 ^ s ≤ W64 := by
  have h1 : W64 = 2 ^ (64 - s) * 2 ^ s := by rw [← Nat.pow_add, W64_two]; congr 1; omega
  rw [h1] at h ⊢
  exact Nat.mul_le_mul_right _ (Nat.lt_of_mul_lt_mul_right h)
/-- The divisor scaled: no carry, and its top word has the top bit. -/
theorem scale_v (vs rs : List Nat) (n s c d : Nat) (hn : 1 ≤ n) (hl : vs.length = n) (hW : ∀ x ∈ vs, x < W64) (hd : vs[n - 1]? = some d) (h1 : 9223372036854775808 ≤ d * 2 ^ s) (h2 : d * 2 ^ s < W64) (hs : s < 64) (hrl : rs.length = n) (hrW : ∀ x ∈ rs, x < W64)
    (hval : valW rs + W64 ^ n * c = valW vs * 2 ^ s) : valW rs = valW vs * 2 ^ s ∧ ∃ d', rs[n - 1]? = some d' ∧ 9223372036854775808 ≤ d' := by
  obtain ⟨k, rfl⟩ : ∃ k, n = k + 1 := ⟨n - 1, by omega⟩
  rw [Nat.add_sub_cancel] at hd ⊢
  obtain ⟨z, _, hz, hv⟩ := val_top_split vs k hl
  obtain ⟨z', _, hz', hv'⟩ := val_top_split rs k hrl
  rw [hd] at hz
  obtain rfl : d = z := Option.some.inj hz
  have hlo : valW (vs.take k) < W64 ^ k := val_take_lt vs k (by omega) hW
  have hlo' : valW (rs.take k) < W64 ^ k := val_take_lt rs k (by omega) hrW
  have h3 := top_up d s hs h2
  have hS := two_pos s
  generalize 2 ^ s = S at *
  rw [Nat.pow_succ] at hval
  generalize W64 ^ k = P at *
  generalize valW (vs.take k) = a at *
  generalize valW (rs.take k) = b at *
  have e1 : valW vs * S = a * S + P * (d * S) := by rw [hv, Nat.add_mul, Nat.mul_assoc]
  have e2 : (a + 1) * S ≤ P * S := Nat.mul_le_mul_right _ hlo
  have e3 : P * ((d + 1) * S) ≤ P * W64 := Nat.mul_le_mul_left _ h3
  rw [Nat.add_mul, Nat.mul_add] at e3
  rw [Nat.add_mul] at e2
  simp only [Nat.one_mul] at e2 e3
  have hc : c = 0 := by
    rcases Nat.eq_zero_or_pos c with h | h
    · exact h
    · exfalso
      have : P * W64 * 1 ≤ P * W64 * c := Nat.mul_le_mul_left _ h
      omega
  subst hc
  rw [Nat.mul_zero, Nat.add_zero] at hval
  refine ⟨hval, z', hz', ?_⟩
  rcases Nat.lt_or_ge z' 9223372036854775808 with h | h
  · exfalso
    have e4 : P * (z' + 1) ≤ P * 9223372036854775808 := Nat.mul_le_mul_left _ h
    have e5 : P * 9223372036854775808 ≤ P * (d * S) := Nat.mul_le_mul_left _ h1
    rw [Nat.mul_add] at e4
    omega
  · exact h
/-- What is divided, scaled: what is carried out is below the divisor's top word. -/
theorem scale_u (us rs : List Nat) (n s c : Nat) (hl : us.length = n) (hW : ∀ x ∈ us, x < W64) (hs : s < 64) (hval : valW rs + W64 ^ n * c = valW us * 2 ^ s) : c < 9223372036854775808 := by
  have h1 := valW_lt us hW
  rw [hl] at h1
  have h2 : 2 ^ s ≤ 2 ^ 63 := Nat.pow_le_pow_right (by omega) (by omega)
  have h3 : W64 ^ n * c < W64 ^ n * 2 ^ s := by
    have h4 : valW us * 2 ^ s < W64 ^ n * 2 ^ s := Nat.mul_lt_mul_of_pos_right h1 (two_pos s)
    omega
  have h5 := Nat.lt_of_mul_lt_mul_left h3
  omega
/-- Both operands, scaled and at their places. -/
structure Scaled (gv ov n gu nu s : Nat) (vs us : List Nat) (vs' us' : List Nat) (t v1 v2 : Nat) (w : World) : Prop where
  vl : vs'.length = n
  ul : us'.length = nu + 1
  vW : ∀ x ∈ vs', x < W64
  uW : ∀ x ∈ us', x < W64
  vv : valW vs' = valW vs * 2 ^ s
  uv : valW us' = valW us * 2 ^ s
  e1 : vs'[n - 1]? = some v1
  e2 : vs'[n - 2]? = some v2
  vt : 9223372036854775808 ≤ v1
  ut : us'[nu]? = some t
  tv : t < v1
  wv : WA w gv ov vs'
  wu : WA w gu 0 us'
theorem scaled_of {gv ov n gu nu s c d : Nat} {vs us rv ru : List Nat} {w : World} (hn : 2 ≤ n) (hl : vs.length = n) (hW : ∀ x ∈ vs, x < W64) (hd : vs[n - 1]? = some d) (h1 : 9223372036854775808 ≤ d * 2 ^ s) (h2 : d * 2 ^ s < W64) (hs : s < 64) (hul : us.length = nu) (huW : ∀ x ∈ us, x < W64)
    (cv : Nat) (hrl : rv.length = n) (hrW : ∀ x ∈ rv, x < W64) (hrv : valW rv + W64 ^ n * cv = valW vs * 2 ^ s) (hsl : ru.length = nu) (hsW : ∀ x ∈ ru, x < W64) (hsv : valW ru + W64 ^ nu * c = valW us * 2 ^ s) (hwv : WA w gv ov rv) (hwu : WA w gu 0 (ru ++ [c])) :
    ∃ t v1 v2, Scaled gv ov n gu nu s vs us rv (ru ++ [c]) t v1 v2 w := by
  obtain ⟨a1, d', a2, a3⟩ := scale_v vs rv n s cv d (by omega) hl hW hd h1 h2 hs hrl hrW hrv
  have b1 := scale_u us ru nu s c hul huW hs hsv
  obtain ⟨e, he⟩ : ∃ e, rv[n - 2]? = some e := ⟨_, List.getElem?_eq_getElem (by omega)⟩
  refine ⟨c, d', e, hrl, by simp [hsl], hrW, ?_, a1, ?_, a2, he, a3, ?_, by omega, hwv, hwu⟩
  · intro x hx
    rcases List.mem_append.1 hx with h | h
    · exact hsW x h
    · simp at h; rw [h]; unfold W64; omega
  · rw [valW_append, hsl]; simp only [valW, Nat.mul_zero, Nat.add_zero]; exact hsv
  · rw [List.getElem?_append_right (by omega), hsl, Nat.sub_self]; rfl
theorem StkS.wr {w w' : World} {st l g c o k : Nat} {D : Option (Nat × Nat × Nat)} (hs : StkS w st l D) (h : Wr g o k w w') (hr : RowB w g c) : StkS w' st l D :=
  (LR.wrU h : LR g g g 0 0 w w').stk hs hr hr hr
theorem StkS.bel {w w' : World} {B st l : Nat} {D : Option (Nat × Nat × Nat)} (hs : StkS w st l D) (h : Below B w w') (hst : st < B) (hD : ∀ si gr c, D = some (si, gr, c) → si < B ∧ gr < B) : StkS w' st l D := by
  rcases hs with ⟨h1, h2, h3⟩ | ⟨si, gr, c, h1, h2, h3, h4, h5⟩
  · exact .inl ⟨h1, (h.block st hst).trans h2, h3⟩
  · exact .inr ⟨si, gr, c, h1, (h.block st hst).trans h2, (h.block si (hD _ _ _ h1).1).trans h3, rowB_below h4 h (hD _ _ _ h1).2, h5⟩
theorem StkS.lt {w : World} {st l : Nat} {D : Option (Nat × Nat × Nat)} (hs : StkS w st l D) : st < w.heap.size ∧ ∀ si gr c, D = some (si, gr, c) → si < w.heap.size ∧ gr < w.heap.size := by
  rcases hs with ⟨h1, h2, h3⟩ | ⟨si, gr, c, h1, h2, h3, h4, h5⟩
  · exact ⟨h2.lt, fun _ _ _ h => by rw [h1] at h; cases h⟩
  · refine ⟨h2.lt, fun si' gr' c' h => ?_⟩
    rw [h1] at h
    simp only [Option.some.injEq, Prod.mk.injEq] at h
    obtain ⟨rfl, rfl, rfl⟩ := h
    exact ⟨h3.lt, h4.lt⟩
theorem StkS.ne {w : World} {st l g c : Nat} {D : Option (Nat × Nat × Nat)} (hs : StkS w st l D) (hr : RowB w g c) : st ≠ g ∧ ∀ si gr c, D = some (si, gr, c) → si ≠ g := by
  rcases hs with ⟨h1, h2, h3⟩ | ⟨si, gr, c, h1, h2, h3, h4, h5⟩
  · exact ⟨rowb_ne hr h2 (by decide), fun _ _ _ h => by rw [h1] at h; cases h⟩
  · refine ⟨rowb_ne hr h2 (by decide), fun si' gr' c' h => ?_⟩
    rw [h1] at h
    simp only [Option.some.injEq, Prod.mk.injEq] at h
    obtain ⟨rfl, rfl, rfl⟩ := h
    exact rowb_ne hr h3 (by decide)
theorem OW.back {w w' : World} {B st l l0 : Nat} {D : Option (Nat × Nat × Nat)} {v : Value} {ws : List Nat} (h : OW w B v ws) (hs : StkS w st l D) (hb : Back st l0 D w w') : OW w' B v ws := by
  rcases h.form with ⟨rfl, rfl⟩ | ⟨g, c, rfl, hg, hgl, hc, hcm⟩
  · exact ow_nil _ _
  · have hne := (hs.ne h.rowB).2
    exact ow_row (hb.rowB h.rowB hne) (hb.wa h.wa hne) rfl hc hcm hg h.2
end Go.Proofs.YtndeolcamgnmdaaGreatDoor
