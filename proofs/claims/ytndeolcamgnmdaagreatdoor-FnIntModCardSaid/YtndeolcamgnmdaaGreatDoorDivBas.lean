/- The long division's loop: what a round needs and leaves. -/
import Derived.Test.YtndeolcamgnmdaaGreatDoorKnPlain
import Derived.Test.YtndeolcamgnmdaaGreatDoorStkEnd
import Derived.Test.YtndeolcamgnmdaaGreatDoorVecR
import Derived.Test.YtndeolcamgnmdaaGreatDoorVecM
import Derived.Test.YtndeolcamgnmdaaGreatDoorDivWX
set_option linter.unusedVariables false
set_option linter.unusedSimpArgs false
set_option linter.unnecessarySimpa false
namespace Go.Proofs.YtndeolcamgnmdaaGreatDoor
open Go.RowKit
theorem mul_ww (x y : Nat) (hx : x < W64) (hy : y < W64) (w : World) : Calls Tryz.prog 90 #[.int .u64 (x : Int), .int .u64 (y : Int)] w (QRPost (x * y / W64) (x * y % W64) w) := by
  have HM := Lib.hid (fun W => bits_mul_w x y hx hy W)
  obtain ⟨a, ha⟩ : ∃ a, a = x * y / W64 := ⟨_, rfl⟩
  obtain ⟨b, hb⟩ : ∃ b, b = x * y % W64 := ⟨_, rfl⟩
  have ha2 : a < W64 := by
    rw [ha, Nat.div_lt_iff_lt_mul W64_pos]
    exact Nat.lt_of_le_of_lt (Nat.mul_le_mul_left _ (Nat.le_of_lt hy)) (Nat.mul_lt_mul_of_pos_right hx W64_pos)
  have hb2 : b < W64 := by rw [hb]; exact Nat.mod_lt _ W64_pos
  rw [← ha, ← hb] at HM ⊢
  unfold W64 at ha2 hb2
  have w1 : IntKind.u64.wrap (a : Int) = (a : Int) := wrap64_small _ (by omega) (by omega)
  have w2 : IntKind.u64.wrap (b : Int) = (b : Int) := wrap64_small _ (by omega) (by omega)
  clear ha hb
  go_enter Tryz.func90, Tryz.ntmps90
  go_wp2_with fail
  refine (HM.out _).mono ?_
  rintro e w' ⟨rfl, rfl⟩
  go_wp2
  go_ret2
  exact ⟨rfl, rfl⟩
def gt2 (x1 x2 y1 y2 : Nat) : Bool := decide (y1 < x1) || (decide (x1 = y1) && decide (y2 < x2))
theorem greater_than (x1 x2 y1 y2 : Nat) (w : World) : Calls Tryz.prog 91 #[.int .u64 (x1 : Int), .int .u64 (x2 : Int), .int .u64 (y1 : Int), .int .u64 (y2 : Int)] w fun e w' => e = .returned (.bool (gt2 x1 x2 y1 y2)) ∧ w = w' := by
  by_cases h1 : y1 < x1
  · have d1 : decide ((y1 : Int) < (x1 : Int)) = true := by simp; omega
    have d2 : decide (y1 < x1) = true := by simp; omega
    have hg : gt2 x1 x2 y1 y2 = true := by unfold gt2; rw [d2]; rfl
    rw [hg]
    clear hg h1
    go_enter Tryz.func91, Tryz.ntmps91
    go_wp2
    go_ret
    exact ⟨rfl, rfl⟩
  · have d1 : decide ((y1 : Int) < (x1 : Int)) = false := by simp; omega
    have d2 : decide (y1 < x1) = false := by simp; omega
    by_cases h2 : x1 = y1
    · have e1 : ((x1 : Int) == (y1 : Int)) = true := by rw [beq_iff_eq]; omega
      obtain ⟨b, hb⟩ : ∃ b, b = decide (y2 < x2) := ⟨_, rfl⟩
      have d3 : decide ((y2 : Int) < (x2 : Int)) = b := by rw [hb]; by_cases h : y2 < x2 <;> simp [h]
      have hg : gt2 x1 x2 y1 y2 = b := by unfold gt2; rw [d2, ← hb]; simp [h2]
      rw [hg]
      have d4 : decide (y2 < x2) = b := hb.symm
      clear hg h1 h2 hb
      go_enter Tryz.func91, Tryz.ntmps91
      go_wp2
      go_ret
      exact ⟨rfl, rfl⟩
    · have e1 : ((x1 : Int) == (y1 : Int)) = false := by rw [beq_eq_false_iff_ne]; omega
      have hg : gt2 x1 x2 y1 y2 = false := by unfold gt2; rw [d2]; simp [h2]
      rw [hg]
      clear hg h1 h2
      go_enter Tryz.func91, Tryz.ntmps91
      go_wp2
      go_ret
      exact ⟨rfl, rfl⟩
theorem nat_mid (w : World) (g o l c lo hi : Nat) (h1 : lo < hi) (h2 : hi ≤ c) :
    (Instr.slice 58 (.slice (some ⟨g, o, none⟩) l c) (some (.int .i64 (lo : Int))) (some (.int .i64 (hi : Int))) none).run Tryz.prog w = .ok (.slice (some ⟨g, o + lo, none⟩) (hi - lo) (c - lo)) w := by
  have e : ((hi : Int) - (lo : Int)) = ((hi - lo : Nat) : Int) := by omega
  have e1 : lo ≤ hi := by omega
  have e2 : ¬ c = lo := by omega
  simp [Instr.slice, run_underlying Tryz.underlying58, Instr.sliceBounds, Instr.sliceBound, asIntOf, h2, e1, e2, Tryz.sizeOf83, Addr.add_lit]
theorem nat_uptoo (w : World) (g o l c k : Nat) (h1 : 0 < k) (hk : k ≤ c) :
    (Instr.slice 58 (.slice (some ⟨g, o, none⟩) l c) none (some (.int .i64 (k : Int))) none).run Tryz.prog w = .ok (.slice (some ⟨g, o, none⟩) k c) w := by
  have e : ¬ c = 0 := by omega
  simp [Instr.slice, run_underlying Tryz.underlying58, Instr.sliceBounds, Instr.sliceBound, asIntOf, hk, e, Tryz.sizeOf83, Addr.add_lit]
/-- Writes to rows gu, gq, and to cells o to o + k of row gx, alone. -/
structure LR (gu gq gx o k : Nat) (w w' : World) : Prop where
  os : w'.os = w.os
  tape : w'.tape = w.tape
  output : w'.output = w.output
  size : w.heap.size ≤ w'.heap.size
  block : ∀ b, b < w.heap.size → b ≠ gu → b ≠ gq → b ≠ gx → w'.heap[b]? = w.heap[b]?
  row : ∀ b c, RowB w b c → RowB w' b c
  cell : ∀ b i x, b ≠ gu → b ≠ gq → (b = gx → ¬ (o ≤ i ∧ i < o + k)) → w.cell? ⟨b, i, none⟩ = some x → w'.cell? ⟨b, i, none⟩ = some x
section
variable {gu gq gx o k : Nat} {w w' w'' : World}
theorem LR.refl (gu gq gx o k : Nat) (w : World) : LR gu gq gx o k w w := ⟨rfl, rfl, rfl, Nat.le_refl _, fun _ _ _ _ _ => rfl, fun _ _ h => h, fun _ _ _ _ _ _ h => h⟩
theorem LR.trans (h : LR gu gq gx o k w w') (h' : LR gu gq gx o k w' w'') : LR gu gq gx o k w w'' :=
  ⟨h'.os.trans h.os, h'.tape.trans h.tape, h'.output.trans h.output, Nat.le_trans h.size h'.size, fun b hb h1 h2 h3 => (h'.block b (Nat.lt_of_lt_of_le hb h.size) h1 h2 h3).trans (h.block b hb h1 h2 h3), fun b c hr => h'.row b c (h.row b c hr), fun b i x h1 h2 h3 hx => h'.cell b i x h1 h2 h3 (h.cell b i x h1 h2 h3 hx)⟩
theorem LR.wrU {o2 k2 : Nat} (h : Wr gu o2 k2 w w') : LR gu gq gx o k w w' :=
  ⟨h.os, h.tape, h.output, h.size, fun b hb h1 _ _ => h.block b hb h1, fun _ _ hr => h.rowB hr, fun _ _ _ h1 _ _ hx => h.cell hx (fun e => h1 e.1)⟩
theorem LR.wrQ {o2 k2 : Nat} (h : Wr gq o2 k2 w w') : LR gu gq gx o k w w' :=
  ⟨h.os, h.tape, h.output, h.size, fun b hb _ h2 _ => h.block b hb h2, fun _ _ hr => h.rowB hr, fun _ _ _ _ h2 _ hx => h.cell hx (fun e => h2 e.1)⟩
theorem LR.wrX {o2 k2 : Nat} (h : Wr gx o2 k2 w w') (h1 : o ≤ o2) (h2 : o2 + k2 ≤ o + k) : LR gu gq gx o k w w' :=
  ⟨h.os, h.tape, h.output, h.size, fun b hb _ _ h3 => h.block b hb h3, fun _ _ hr => h.rowB hr, fun _ i _ _ _ h3 hx => h.cell hx (fun ⟨e, e1, e2⟩ => h3 e ⟨by omega, by omega⟩)⟩
theorem LR.dn (h : LR gu gq gx o k w w') (n : Nat) : LR gu gq gx o k w (w'.drewN n) := ⟨h.os, h.tape, h.output, h.size, h.block, h.row, h.cell⟩
theorem LR.dw (h : LR gu gq gx o k w w') : LR gu gq gx o k w w'.drew := ⟨h.os, h.tape, h.output, h.size, h.block, h.row, h.cell⟩
theorem LR.wa {b ob : Nat} {xs : List Nat} (h : LR gu gq gx o k w w') (h1 : b ≠ gu) (h2 : b ≠ gq) (h3 : b = gx → ob + xs.length ≤ o) (hx : WA w b ob xs) : WA w' b ob xs := fun j hj =>
  h.cell b (ob + j) _ h1 h2 (fun e => by have := h3 e; omega) (hx j hj)
theorem WA.app {g o : Nat} {a b : List Nat} (h1 : WA w g o a) (h2 : WA w g (o + a.length) b) : WA w g o (a ++ b) := fun j hj => by
  by_cases h : j < a.length
  · rw [List.getElem_append_left h]; exact h1 j h
  · have hj2 : j - a.length < b.length := by simp at hj; omega
    rw [List.getElem_append_right (by omega)]
    have := h2 (j - a.length) hj2
    rw [show o + a.length + (j - a.length) = o + j by omega] at this
    exact this
theorem WA.left {g o : Nat} {a b : List Nat} (h : WA w g o (a ++ b)) : WA w g o a := fun j hj => by
  have := h j (by simp; omega)
  rw [List.getElem_append_left hj] at this
  exact this
theorem WA.right {g o : Nat} {a b : List Nat} (h : WA w g o (a ++ b)) : WA w g (o + a.length) b := fun j hj => by
  have := h (a.length + j) (by simp; omega)
  rw [List.getElem_append_right (by omega)] at this
  simp only [Nat.add_sub_cancel_left] at this
  rw [show o + a.length + j = o + (a.length + j) by omega]
  exact this
theorem WA.at {g o j x : Nat} {xs : List Nat} (h : WA w g o xs) (hx : xs[j]? = some x) : w.cell? ⟨g, o + j, none⟩ = some (.int .u64 (x : Int)) := by
  obtain ⟨hj, rfl⟩ := List.getElem?_eq_some_iff.1 hx
  exact h j hj
end
/-- What the loop keeps: i the digits left, ujn the word above the window. -/
def DBInv (gu gq gx o n m V : Nat) (us : List Nat) (W : World) (i ujn : Nat) (wr : World) : Prop :=
  LR gu gq gx o (n + 1) W wr ∧ (∃ qs : List Nat, qs.length = m ∧ (∀ x ∈ qs, x < W64) ∧ WA wr gq 0 qs) ∧
  ((i = m + 1 ∧ ujn = 0 ∧ WA wr gu 0 us) ∨
   (i ≤ m ∧ ∃ lo mid zs Q, lo.length = i ∧ mid.length = n ∧ zs.length = m - i ∧ (∀ x ∈ lo, x < W64) ∧ (∀ x ∈ mid, x < W64) ∧ (∀ x ∈ zs, x = 0) ∧ valW mid < V ∧ mid[n - 1]? = some ujn ∧ valW us = valW (lo ++ mid) + Q * V ∧ WA wr gu 0 (lo ++ mid ++ zs)))
def DBPost (B gu cu gq cq st l n m V : Nat) (us : List Nat) (w : World) (e : Ending) (w' : World) : Prop :=
  e = .returned (.tuple #[]) ∧ Below B w w' ∧ (∃ D', StkS w' st l D' ∧ ∀ si gr c, D' = some (si, gr, c) → B ≤ si) ∧ RowB w' gu cu ∧ RowB w' gq cq ∧
    ∃ rs qs : List Nat, rs.length = m + n ∧ (∀ x ∈ rs, x < W64) ∧ valW rs = valW us % V ∧ WA w' gu 0 rs ∧ qs.length = m ∧ (∀ x ∈ qs, x < W64) ∧ WA w' gq 0 qs
/-- What holds behind the taking of the words for the product. -/
structure AfterNat (B gq cq gu cu gv ov st l n gx o c l' : Nat) (D' : Option (Nat × Nat × Nat)) (us vs qs : List Nat) (w w1 : World) : Prop where
  xu : gx ≠ gu
  xq : gx ≠ gq
  xv : gx = gv → ov + n ≤ o
  bx : B ≤ gx
  rx : RowB w1 gx c
  ru : RowB w1 gu cu
  rq : RowB w1 gq cq
  wu : WA w1 gu 0 us
  wq : WA w1 gq 0 qs
  wv : WA w1 gv ov vs
  sk : StkS w1 st l' D'
  ll : l ≤ l'
  sd : ∀ si gr c, D' = some (si, gr, c) → B ≤ si ∧ si ≠ gu ∧ si ≠ gq ∧ si ≠ gx
  bw : Below B w w1
theorem after_nat (B gq cq gu cu gv ov st l m n n1 : Nat) (D : Option (Nat × Nat × Nat)) (us vs qs : List Nat) (w w1 : World)
    (hst : StkS w st l D) (hq : RowB w gq cq) (hqw : WA w gq 0 qs) (hu : RowB w gu cu) (huw : WA w gu 0 us) (hv : WA w gv ov vs) (hvl : vs.length = n) (hn1 : 2 ≤ n)
    (hvu : gv ≠ gu) (hvq : gv ≠ gq) (hsu : st ≠ gu) (hsq : st ≠ gq) (hsv : st ≠ gv) (hD : ∀ si gr c, D = some (si, gr, c) → B ≤ si ∧ B ≤ gr ∧ si ≠ gu ∧ si ≠ gq ∧ si ≠ gv ∧ gr ≠ gu ∧ gr ≠ gq ∧ (gr = gv → ov + n ≤ l)) (hBs : B ≤ st) (hBw : B ≤ w.heap.size)
    (gx o cx c l' : Nat) (D' : Option (Nat × Nat × Nat)) (q2 : RowB w1 gx c) (q5 : StkS w1 st l' D') (q6 : l ≤ l') (q8 : Fr st l D w w1) (q9 : w.heap.size ≤ gx ∨ ∃ si c0, D = some (si, gx, c0) ∧ o = l) (q10 : gx ≠ st)
    (q11 : ∀ si gr c, D' = some (si, gr, c) → (w.heap.size ≤ si ∨ ∃ gr0 c0, D = some (si, gr0, c0)) ∧ (w.heap.size ≤ gr ∨ ∃ si0 c0, D = some (si0, gr, c0)) ∧ si ≠ gx ∧ (gr = gx → o + n1 ≤ l')) :
    AfterNat B gq cq gu cu gv ov st l n gx o c l' D' us vs qs w w1 := by
  have lu := hu.lt
  have lq := hq.lt
  have lv : gv < w.heap.size := cell_lt (hv 0 (by omega))
  have hx : gx ≠ gu ∧ gx ≠ gq ∧ (gx = gv → ov + n ≤ o) ∧ B ≤ gx := by
    rcases q9 with h | ⟨si, c0, h, rfl⟩
    · exact ⟨by omega, by omega, fun e => by omega, by omega⟩
    · obtain ⟨_, a2, _, _, _, a6, a7, a8⟩ := hD _ _ _ h
      exact ⟨a6, a7, a8, a2⟩
  refine ⟨hx.1, hx.2.1, hx.2.2.1, hx.2.2.2, q2, q8.row gu cu (Ne.symm hsu) (fun si gr c0 h => Ne.symm (hD _ _ _ h).2.2.1) hu, q8.row gq cq (Ne.symm hsq) (fun si gr c0 h => Ne.symm (hD _ _ _ h).2.2.2.1) hq, ?_, ?_, ?_, q5, q6, ?_, ?_⟩
  · exact fun j hj => q8.cell gu _ _ (Ne.symm hsu) (fun si gr c0 h => ⟨Ne.symm (hD _ _ _ h).2.2.1, fun e => absurd e (Ne.symm (hD _ _ _ h).2.2.2.2.2.1)⟩) (huw j hj)
  · exact fun j hj => q8.cell gq _ _ (Ne.symm hsq) (fun si gr c0 h => ⟨Ne.symm (hD _ _ _ h).2.2.2.1, fun e => absurd e (Ne.symm (hD _ _ _ h).2.2.2.2.2.2.1)⟩) (hqw j hj)
  · exact fun j hj => q8.cell gv _ _ (Ne.symm hsv) (fun si gr c0 h => ⟨Ne.symm (hD _ _ _ h).2.2.2.2.1, fun e => by have := (hD _ _ _ h).2.2.2.2.2.2.2 e.symm; omega⟩) (hv j hj)
  · intro si gr c0 h
    obtain ⟨a1, _, a3, _⟩ := q11 si gr c0 h
    rcases a1 with a1 | ⟨gr0, c1, a1⟩
    · exact ⟨by omega, by omega, by omega, a3⟩
    · obtain ⟨b1, _, b3, b4, _⟩ := hD _ _ _ a1
      exact ⟨b1, b3, b4, a3⟩
  · exact ⟨q8.os, q8.tape, q8.output, q8.size, fun b hb => q8.block b (by omega) (by omega) (fun si gr c0 h => by obtain ⟨b1, b2, _⟩ := hD _ _ _ h; omega)⟩
theorem rowb_ne {w : World} {g c b : Nat} {ty : TypeId} {cs : Array Value} (h : RowB w g c) (hb : Blk w b ty cs) (hne : 83 ≠ ty) : b ≠ g := fun e => by
  subst e
  obtain ⟨cur, h1, _⟩ := h
  unfold Blk at hb
  rw [h1] at hb
  simp only [Option.some.injEq, Obj.cells.injEq] at hb
  exact hne hb.2.1
theorem LR.stk {gu gq gx o k st l : Nat} {D : Option (Nat × Nat × Nat)} {w w' : World} (h : LR gu gq gx o k w w') (hs : StkS w st l D) {cu cq cx : Nat} (hu : RowB w gu cu) (hq : RowB w gq cq) (hx : RowB w gx cx) : StkS w' st l D := by
  rcases hs with ⟨h1, h2, h3⟩ | ⟨si, gr, c, h1, h2, h3, h4, h5⟩
  · exact .inl ⟨h1, (h.block st h2.lt (rowb_ne hu h2 (by decide)) (rowb_ne hq h2 (by decide)) (rowb_ne hx h2 (by decide))).trans h2, h3⟩
  · exact .inr ⟨si, gr, c, h1, (h.block st h2.lt (rowb_ne hu h2 (by decide)) (rowb_ne hq h2 (by decide)) (rowb_ne hx h2 (by decide))).trans h2, (h.block si h3.lt (rowb_ne hu h3 (by decide)) (rowb_ne hq h3 (by decide)) (rowb_ne hx h3 (by decide))).trans h3, h.row gr c h4, h5⟩
theorem LR.below {gu gq gx o k B : Nat} {w w' : World} (h : LR gu gq gx o k w w') (hu : B ≤ gu) (hq : B ≤ gq) (hx : B ≤ gx) (hw : B ≤ w.heap.size) : Below B w w' :=
  ⟨h.os, h.tape, h.output, h.size, fun b hb => h.block b (by omega) (by omega) (by omega) (by omega)⟩
theorem Back.rowB {st l0 g c : Nat} {D : Option (Nat × Nat × Nat)} {w w' : World} (h : Back st l0 D w w') (hr : RowB w g c) (hne : ∀ si gr c, D = some (si, gr, c) → si ≠ g) : RowB w' g c := by
  obtain ⟨cur, h1, h2⟩ := hr
  exact ⟨cur, (h.2.block g (Array.getElem?_eq_some_iff.1 h1).1 (by rintro ⟨gr, c0, e⟩; exact hne _ _ _ e rfl)).trans h1, h2⟩
theorem Back.wa {st l0 g o : Nat} {D : Option (Nat × Nat × Nat)} {w w' : World} {xs : List Nat} (h : Back st l0 D w w') (hr : WA w g o xs) (hne : ∀ si gr c, D = some (si, gr, c) → si ≠ g) : WA w' g o xs := fun j hj => by
  have hx := hr j hj
  have hl := cell_lt hx
  unfold World.cell? at hx ⊢
  rw [h.2.block g hl (by rintro ⟨gr, c0, e⟩; exact hne _ _ _ e rfl)]
  exact hx
theorem valW_all_zero (zs : List Nat) (h : ∀ x ∈ zs, x = 0) : valW zs = 0 := by
  induction zs with
  | nil => rfl
  | cons a r ih =>
    simp only [valW]
    rw [h a (by simp), ih (fun x hx => h x (by simp [hx]))]
    omega
/-- The end of the loop. -/
theorem db_end {B gq cq gu cu gv ov st l n gx o c l' m : Nat} {D' : Option (Nat × Nat × Nat)} {us vs qs : List Nat} {w W wr w' : World} (hA : AfterNat B gq cq gu cu gv ov st l n gx o c l' D' us vs qs w W) (hm : 1 ≤ m) (hV : 0 < valW vs) {u1 : Nat} (hI : DBInv gu gq gx o n m (valW vs) us W 0 u1 wr)
    (hB : Back st l D' wr w') (hBu : B ≤ gu) (hBq : B ≤ gq) (hBW : B ≤ W.heap.size) : DBPost B gu cu gq cq st l n m (valW vs) us w (.returned (.tuple #[])) w' := by
  obtain ⟨hL, ⟨qs', h1, h2, h3⟩, h4⟩ := hI
  rcases h4 with ⟨h4, _⟩ | ⟨_, lo, mid, zs, Q, a1, a2, a3, a4, a5, a6, a7, a8, a9, a10⟩
  · omega
  obtain rfl : lo = [] := List.eq_nil_of_length_eq_zero a1
  have hdn : ∀ si gr c, D' = some (si, gr, c) → si ≠ gu ∧ si ≠ gq := fun si gr c h => ⟨(hA.sd si gr c h).2.1, (hA.sd si gr c h).2.2.1⟩
  have hz := valW_all_zero zs a6
  refine ⟨rfl, (hA.bw.trans (hL.below hBu hBq hA.bx hBW)).trans (hB.2.to_below (Nat.le_trans hBW hL.size) (fun k _ => by rintro ⟨gr, c0, e⟩; exact (hA.sd _ _ _ e).1)), ⟨D', hB.1, fun si gr c h => (hA.sd si gr c h).1⟩, hB.rowB (hL.row _ _ hA.ru) (fun si gr c h => (hdn si gr c h).1), hB.rowB (hL.row _ _ hA.rq) (fun si gr c h => (hdn si gr c h).2), mid ++ zs, qs', ?_, ?_, ?_, ?_, h1, h2, hB.wa h3 (fun si gr c h => (hdn si gr c h).2)⟩
  · simp; omega
  · intro x hx
    rcases List.mem_append.1 hx with h | h
    · exact a5 x h
    · rw [a6 x h]; exact W64_pos
  · rw [List.nil_append] at a9
    rw [valW_append, hz, Nat.mul_zero, Nat.add_zero, a9, Nat.add_mul_mod_self_right, Nat.mod_eq_of_lt a7]
  · have := hB.wa a10 (fun si gr c h => (hdn si gr c h).1)
    simpa using this
theorem top_less (mid vs : List Nat) (n t v1 : Nat) (hn : 1 ≤ n) (hm : mid.length = n) (hv : vs.length = n) (hmW : ∀ x ∈ mid, x < W64) (ht : mid[n - 1]? = some t) (hv1 : vs[n - 1]? = some v1) (h : t < v1) : valW mid < valW vs := by
  obtain ⟨k, rfl⟩ : ∃ k, n = k + 1 := ⟨n - 1, by omega⟩
  rw [Nat.add_sub_cancel] at ht hv1
  have e1 : mid.drop k = [t] := by
    rw [List.drop_eq_getElem_cons (show k < mid.length by omega), List.drop_of_length_le (by omega)]
    rw [List.getElem?_eq_getElem (by omega)] at ht
    rw [Option.some.inj ht]
  have e2 : vs.drop k = [v1] := by
    rw [List.drop_eq_getElem_cons (show k < vs.length by omega), List.drop_of_length_le (by omega)]
    rw [List.getElem?_eq_getElem (by omega)] at hv1
    rw [Option.some.inj hv1]
  have h1 := val_take_drop mid k (by omega)
  have h2 := val_take_drop vs k (by omega)
  rw [e1] at h1
  rw [e2] at h2
  simp only [valW, Nat.mul_zero, Nat.add_zero] at h1 h2
  have h3 := val_take_lt mid k (by omega) hmW
  have h4 : W64 ^ k * (t + 1) ≤ W64 ^ k * v1 := Nat.mul_le_mul_left _ h
  rw [Nat.mul_add] at h4
  omega
/-- Behind the first round: the top window as it was. -/
theorem db_first {gu gq gx o n m t v1 : Nat} {us vs : List Nat} {W w5 : World} (hL : LR gu gq gx o (n + 1) W w5) (hq : ∃ qs : List Nat, qs.length = m ∧ (∀ x ∈ qs, x < W64) ∧ WA w5 gq 0 qs) (hul : us.length = m + n) (huW : ∀ x ∈ us, x < W64) (hvl : vs.length = n) (hn : 1 ≤ n) (ht : us[m + n - 1]? = some t) (hv1 : vs[n - 1]? = some v1) (h : t < v1) (hwa : WA w5 gu 0 us) :
    DBInv gu gq gx o n m (valW vs) us W m t w5 := by
  have ht2 : (us.drop m)[n - 1]? = some t := by
    rw [List.getElem?_drop, show m + (n - 1) = m + n - 1 by omega]; exact ht
  refine ⟨hL, hq, .inr ⟨Nat.le_refl _, us.take m, us.drop m, [], 0, by simp; omega, by simp; omega, by simp, fun x hx => huW x (List.mem_of_mem_take hx), fun x hx => huW x (List.mem_of_mem_drop hx), by simp, ?_, ht2, ?_, ?_⟩⟩
  · exact top_less _ vs n t v1 hn (by simp; omega) hvl (fun x hx => huW x (List.mem_of_mem_drop hx)) ht2 hv1 h
  · rw [List.take_append_drop]; simp
  · rw [List.take_append_drop, List.append_nil]; exact hwa
/-- A product, one factor less by one, word by word. -/
theorem less_prod (B q v2 x1 x2 : Nat) (hB : 0 < B) (hv : v2 < B) (h1 : x1 = (q + 1) * v2 / B) (h2 : x2 = (q + 1) * v2 % B) :
    (x2 < v2 → 1 ≤ x1 ∧ x1 - 1 = q * v2 / B ∧ x2 + B - v2 = q * v2 % B ∧ x2 + B - v2 < B) ∧ (v2 ≤ x2 → x1 = q * v2 / B ∧ x2 - v2 = q * v2 % B) := by
  have h3 := Nat.div_add_mod ((q + 1) * v2) B
  have h4 : x2 < B := by rw [h2]; exact Nat.mod_lt _ hB
  rw [← h1, ← h2, Nat.add_mul, Nat.one_mul] at h3
  constructor
  · intro h
    have h5 : 1 ≤ x1 := by
      rcases Nat.eq_zero_or_pos x1 with h6 | h6
      · rw [h6, Nat.mul_zero] at h3; omega
      · exact h6
    obtain ⟨k, hk⟩ : ∃ k, x1 = k + 1 := ⟨x1 - 1, by omega⟩
    rw [hk, Nat.mul_add, Nat.mul_one] at h3
    obtain ⟨e1, e2⟩ := div_of (t := q * v2) (q := k) (y := B) (r := x2 + B - v2) (by rw [Nat.mul_comm k B]; omega) (by omega)
    exact ⟨h5, by rw [e1]; omega, by rw [e2], by omega⟩
  · intro h
    obtain ⟨e1, e2⟩ := div_of (t := q * v2) (q := x1) (y := B) (r := x2 - v2) (by rw [Nat.mul_comm x1 B]; omega) (by omega)
    exact ⟨by rw [e1], by rw [e2]⟩
theorem gt2_iff (B x1 x2 y1 y2 : Nat) (hx : x2 < B) (hy : y2 < B) : gt2 x1 x2 y1 y2 = decide (y1 * B + y2 < x1 * B + x2) := by
  unfold gt2
  by_cases h1 : y1 < x1
  · have h2 : (y1 + 1) * B ≤ x1 * B := Nat.mul_le_mul_right _ h1
    rw [Nat.add_mul] at h2
    have h3 : y1 * B + y2 < x1 * B + x2 := by omega
    simp [h1, h3]
  · by_cases h2 : x1 = y1
    · subst h2
      have h3 : (x1 * B + y2 < x1 * B + x2) ↔ y2 < x2 := by omega
      simp [h3]
    · have h4 : (x1 + 1) * B ≤ y1 * B := Nat.mul_le_mul_right _ (by omega)
      rw [Nat.add_mul] at h4
      have h3 : ¬ (y1 * B + y2 < x1 * B + x2) := by omega
      simp [h1, h2, h3]
end Go.Proofs.YtndeolcamgnmdaaGreatDoor
