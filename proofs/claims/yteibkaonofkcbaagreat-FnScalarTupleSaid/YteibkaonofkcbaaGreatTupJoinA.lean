/- Joined texts: Str, Dig, Own, AppRow, Own2. -/
import Derived.WalkKit
import Derived.Lib.Hide
import Derived.Lib.Strings
import Derived.Test.YteibkaonofkcbaaGreatBigPlain
import Derived.Lib.BufferRead
import Derived.Laws.IdiomStrings
import Derived.Deep.Draws
set_option linter.unusedSimpArgs false
set_option linter.unusedVariables false
namespace Go.Proofs.YteibkaonofkcbaaGreat
open Go.RowKit
theorem emp_false {s : ByteArray} (h : 0 < s.size) : s.toList.isEmpty = false := by
  rw [Lib.toList_data]
  have hl : 0 < s.data.toList.length := by simpa using h
  cases hd : s.data.toList with
  | nil => rw [hd] at hl; simp at hl
  | cons a b => rfl
theorem emp_pos {s : ByteArray} (h : s.toList.isEmpty = false) : 1 ≤ s.size := by
  rw [Lib.toList_data] at h
  have hl : s.data.toList.length = s.size := by simp
  cases hd : s.data.toList with
  | nil => rw [hd] at h; simp at h
  | cons a b => rw [hd] at hl; simp at hl; omega
theorem emp_true {s : ByteArray} (h : s.size = 0) : s.toList.isEmpty = true := by
  rw [Lib.toList_data]
  have : s.data.toList = [] := List.eq_nil_of_length_eq_zero (by simpa using h)
  rw [this]; rfl
theorem take_snoc (s : ByteArray) (k : Nat) (h : k < s.size) : s.data.toList.take (k + 1) = s.data.toList.take k ++ [s[k]] := by
  rw [List.take_succ_eq_append_getElem (by simpa using h)]; rfl
theorem take_all (s : ByteArray) (k : Nat) (h : s.size ≤ k) : s.data.toList.take k = s.data.toList := List.take_of_length_le (by simpa using h)
theorem drop_cons (s : ByteArray) (k : Nat) (h : k < s.size) : s.data.toList.drop k = s[k] :: s.data.toList.drop (k + 1) := by
  rw [List.drop_eq_getElem_cons (by simpa using h)]; rfl
theorem mk_toList (s : ByteArray) : (⟨s.data.toList.toArray⟩ : ByteArray) = s := by cases s; simp
theorem extract_list (s : ByteArray) (i e : Nat) : s.extract i e = ⟨((s.data.toList.take e).drop i).toArray⟩ := by
  apply ByteArray.ext
  simp [Array.ext_iff]
theorem ret_int {k : IntKind} {a b : Int} (h : a = b) : Ending.returned (.int k a) = .returned (.int k b) := by rw [h]
theorem ret_bool {a b : Bool} (h : a = b) : Ending.returned (.bool a) = .returned (.bool b) := by rw [h]
theorem bcell {W w1 : World} (hb : Below W.heap.size W w1) : (∀ b o, b < W.heap.size → w1.cell? ⟨b, o, none⟩ = W.cell? ⟨b, o, none⟩) ∧ (∀ b o, b < W.heap.size → w1.frozen? ⟨b, o, none⟩ = W.frozen? ⟨b, o, none⟩) :=
  ⟨fun b o h => hb.cell (p := ⟨b, o, none⟩) h, fun b o h => hb.frozen (p := ⟨b, o, none⟩) h⟩
end Go.Proofs.YteibkaonofkcbaaGreat
namespace Go.Proofs.YteibkaonofkcbaaGreat
/-- The i-th byte from the lowest one on. -/
def dig (n i : Nat) : Nat := n / 256 ^ i % 256
def bitAt (n i : Nat) : Nat := n / 2 ^ i % 2
theorem natOf_mid (a r : List Nat) (x : Nat) (hx : x < 256) (hr : ∀ y ∈ r, y < 256) : dig (natOf (a ++ x :: r)) r.length = x := by
  unfold dig
  rw [natOf_append]
  have h1 := natOf_lt r hr
  have h2 : natOf (x :: r) = x * 256 ^ r.length + natOf r := by simp [natOf]
  have h3 : (natOf a * 256 ^ (x :: r).length + natOf (x :: r)) = natOf r + 256 ^ r.length * (natOf a * 256 + x) := by
    rw [h2, List.length_cons, Nat.pow_succ, Nat.mul_add]
    rw [Nat.mul_comm (256 ^ r.length) (natOf a * 256), Nat.mul_comm (256 ^ r.length) 256, ← Nat.mul_assoc, Nat.mul_comm (256 ^ r.length) x]
    omega
  rw [h3, Nat.add_mul_div_left _ _ (Nat.pow_pos (by omega)), Nat.div_eq_of_lt h1]
  omega
theorem dig_at (l : List Nat) (i : Nat) (hb : ∀ x ∈ l, x < 256) (k : Nat) (hk : k < l.length) (hki : k + i + 1 = l.length) : dig (natOf l) i = l[k]'hk := by
  have e : l = l.take k ++ (l[k]'hk :: l.drop (k + 1)) := by
    rw [← List.drop_eq_getElem_cons hk, List.take_append_drop]
  have h := natOf_mid (l.take k) (l.drop (k + 1)) (l[k]'hk) (hb _ (List.getElem_mem hk)) (fun y hy => hb y (List.mem_of_mem_drop hy))
  rw [← e] at h
  rw [List.length_drop] at h
  have : l.length - (k + 1) = i := by omega
  rw [this] at h
  exact h
theorem dig_over (l : List Nat) (i : Nat) (hb : ∀ x ∈ l, x < 256) (h : l.length ≤ i) : dig (natOf l) i = 0 := by
  unfold dig
  have h1 := natOf_lt l hb
  have h2 : 256 ^ l.length ≤ 256 ^ i := Nat.pow_le_pow_right (by omega) h
  rw [Nat.div_eq_of_lt (by omega)]
theorem dig_lt (n i : Nat) : dig n i < 256 := by unfold dig; omega
theorem bit_dig (n i : Nat) : dig n (i / 8) / 2 ^ (i % 8) % 2 = bitAt n i := by
  unfold dig bitAt
  have e : (256 : Nat) ^ (i / 8) = 2 ^ (8 * (i / 8)) := by rw [Nat.pow_mul]
  rw [e]
  have h1 : 2 ^ i = 2 ^ (8 * (i / 8)) * 2 ^ (i % 8) := by rw [← Nat.pow_add]; congr 1; omega
  rw [h1, ← Nat.div_div_eq_div_mul]
  generalize n / 2 ^ (8 * (i / 8)) = m
  have h2 : i % 8 < 8 := Nat.mod_lt _ (by omega)
  generalize i % 8 = k at h2
  have hc : k = 0 ∨ k = 1 ∨ k = 2 ∨ k = 3 ∨ k = 4 ∨ k = 5 ∨ k = 6 ∨ k = 7 := by omega
  rcases hc with rfl | rfl | rfl | rfl | rfl | rfl | rfl | rfl <;> simp <;> omega
/-- k is how many bits n has. -/
def IsLen (n k : Nat) : Prop := n < 2 ^ k ∧ (k = 0 ∨ 2 ^ (k - 1) ≤ n)
theorem bitAt_top {n i : Nat} (h : n < 2 ^ (i + 1)) (hb : bitAt n i = 1) : IsLen n (i + 1) := by
  refine ⟨h, .inr ?_⟩
  rw [Nat.add_sub_cancel]
  unfold bitAt at hb
  rcases Nat.lt_or_ge n (2 ^ i) with h1 | h1
  · rw [Nat.div_eq_of_lt h1] at hb; simp at hb
  · exact h1
theorem bitAt_no {n i : Nat} (h : n < 2 ^ (i + 1)) (hb : bitAt n i ≠ 1) : n < 2 ^ i := by
  unfold bitAt at hb
  rcases Nat.lt_or_ge n (2 ^ i) with h1 | h1
  · exact h1
  · exfalso
    apply hb
    have h2 : n / 2 ^ i < 2 := by
      rw [Nat.div_lt_iff_lt_mul (Nat.pow_pos (by omega))]
      rw [Nat.pow_succ] at h; omega
    have h3 : 1 ≤ n / 2 ^ i := by
      rw [Nat.le_div_iff_mul_le (Nat.pow_pos (by omega))]; omega
    omega
theorem isLen_le {n k m : Nat} (h : IsLen n k) : k ≤ m ↔ n < 2 ^ m := by
  constructor
  · intro hk
    exact Nat.lt_of_lt_of_le h.1 (Nat.pow_le_pow_right (by omega) hk)
  · intro hn
    rcases h.2 with h0 | h0
    · omega
    · have := (Nat.pow_lt_pow_iff_right (a := 2) (by omega)).1 (Nat.lt_of_le_of_lt h0 hn)
      omega
theorem natOf_pow2 (l : List Nat) (hb : ∀ x ∈ l, x < 256) : natOf l < 2 ^ (8 * l.length) := by
  have := natOf_lt l hb
  rwa [Nat.pow_mul]
/-- low's step. -/
theorem low_step (n i k : Nat) : n / 256 ^ (i + 1) % 256 ^ k * 256 + dig n i = n / 256 ^ i % 256 ^ (k + 1) := by
  unfold dig
  rw [Nat.pow_succ 256 i, ← Nat.div_div_eq_div_mul]
  generalize n / 256 ^ i = m
  rw [Nat.pow_succ, Nat.mul_comm (256 ^ k) 256, Nat.mod_mul, Nat.mul_comm 256 (m / 256 % 256 ^ k)]
  omega
/-- Equal up to a byte: that byte decides. -/
theorem natOf_less (p a b : List Nat) (x y : Nat) (hl : a.length = b.length) (ha : ∀ z ∈ a, z < 256) (hxy : x < y) : natOf (p ++ x :: a) < natOf (p ++ y :: b) := by
  rw [natOf_append, natOf_append]
  have h1 := natOf_lt a ha
  have h2 : natOf (x :: a) = x * 256 ^ a.length + natOf a := by simp [natOf]
  have h3 : natOf (y :: b) = y * 256 ^ b.length + natOf b := by simp [natOf]
  have h4 : (x + 1) * 256 ^ a.length ≤ y * 256 ^ a.length := Nat.mul_le_mul_right _ hxy
  rw [Nat.add_mul] at h4
  rw [h2, h3, List.length_cons, List.length_cons, hl] at *
  omega
theorem natOf_at {xs ys : List Nat} (hx : ∀ z ∈ xs, z < 256) (hl : xs.length = ys.length) (i : Nat) (h1 : i < xs.length) (h2 : i < ys.length) (hall : ∀ j (hj : j < xs.length) (hk : j < ys.length), j < i → xs[j]'hj = ys[j]'hk) (hlt : xs[i]'h1 < ys[i]'h2) : natOf xs < natOf ys := by
  have e1 : xs = xs.take i ++ (xs[i]'h1 :: xs.drop (i + 1)) := by rw [← List.drop_eq_getElem_cons h1, List.take_append_drop]
  have e2 : ys = xs.take i ++ (ys[i]'h2 :: ys.drop (i + 1)) := by
    have : xs.take i = ys.take i := by
      apply List.ext_getElem
      · simp; omega
      · intro j hj hk
        simp at hj hk ⊢
        exact hall j (by omega) (by omega) (by omega)
    rw [this, ← List.drop_eq_getElem_cons h2, List.take_append_drop]
  rw [e1, e2]
  have := natOf_less (xs.take i) (xs.drop (i + 1)) (ys.drop (i + 1)) _ _ (by simp; omega) (fun z hz => hx z (List.mem_of_mem_drop hz)) hlt
  simpa using this
theorem natOf_shorter {xs ys : List Nat} (hx : ∀ z ∈ xs, z < 256) (hy : ys.head? ≠ some 0) (hl : xs.length < ys.length) : natOf xs < natOf ys := by
  cases ys with
  | nil => simp at hl
  | cons y r =>
    have hy0 : y ≠ 0 := fun e => hy (by simp [e])
    have h1 := natOf_pos y r hy0
    have h2 := natOf_lt xs hx
    have h3 : 256 ^ xs.length ≤ 256 ^ r.length := Nat.pow_le_pow_right (by omega) (by simp at hl; omega)
    omega
end Go.Proofs.YteibkaonofkcbaaGreat
namespace Go.Proofs.YteibkaonofkcbaaGreat
open Go.RowKit
/-- The slice value v owns the bytes l. -/
def OwnB (E : TypeId) (w : World) (B : Nat) (v : Value) (l : List UInt8) : Prop := w.ownsRow B E 1 v l.length (l.map fun c => Value.int .u8 (c.toNat : Int))
section
variable {P : Program} {E : TypeId}
theorem OwnB.nil (w : World) (B : Nat) : OwnB E w B (.slice none 0 0) [] := World.ownsRow_nil _ _ _ _
/-- out = append(out, x), x one cell that the operation ahead has laid in a block of its own. -/
theorem wpList_append_one {ops : Array Oper} {rest : List Oper} {o : Oper} {a : Act} {Q : Exit → Act → World → Prop} {W : World} (hgd : o.guard = none) (s x : Operand) (t : TypeId)
    (ho : o.op = .call { callee := .builtin .append, args := #[s, x], argTypes := #[t, t] })
    (w : World) (base : Nat) (e : TypeId) (i : TypeInfo) (z : Value) (bytes : Nat) (ht : P.underlying t = some (.slice e)) (hi : P.info? e = some i) (hz : i.zero = some z)
    (hsize : i.size = 1) (hby : i.bytes = bytes) (hzs : z.cells.size = 1)
    (v : Value) (n : Nat) (xs : List Value) (hown : w.ownsRow base e 1 v n xs) (hs : a.eval s = v) (u : Value) (hu : u.oneCell' = true)
    (hx : a.eval x = .slice (some ⟨w.heap.size, 0, none⟩) 1 1) (hW : W = w.alloc (.cells #[u] e))
    (h63 : n + 1 ≤ maxLen) (hbytes : (n + 1) * bytes ≤ 140737488355328) (hbase : base ≤ w.heap.size)
    (h : ∀ v' w', w'.ownsRow base e 1 v' (n + 1) (xs ++ [u]) → Below base w w' → w.grownBy w' v.ownBlock → wpList P ops Q rest (a.put o.dst v') w') : wpList P ops Q (o :: rest) a W := by
  subst hW
  refine wpList_append_own _ hgd s x t ho base e i z 1 bytes ht hi hz hsize hby hzs (by decide) v n xs hs (hown.alloc _) ⟨w.heap.size, 0, none⟩ 1 1 [u] hx rfl ?_ ?_ h63 hbytes (by simp; omega) ?_
  · intro j y hj
    match j, hj with
    | 0, hj => simp at hj; subst hj; simp [Addr.add]
  · intro y hy; simp at hy; subst hy; exact hu
  · intro v' w' hown' hg _
    exact h v' w' hown' (((Below.refl base w).alloc hbase _).grown hg (by simp; omega) fun k hk => (hown.lt k hk).1)
      ⟨hg.os, hg.tape, hg.output, Nat.le_trans (by simp) hg.size, fun k hk hne => (hg.block k (by simp; omega) hne).trans (Below.heap_alloc w _ k hk)⟩
theorem OwnB.text {w : World} {B : Nat} {v : Value} {l : List UInt8} (h : OwnB E w B v l) (src dst : TypeId) (hs : P.underlying src = some (.slice E)) (he : P.underlying E = some (.int .u8)) (hd : P.underlying dst = some .string) :
    (convert src dst v).run P w = .ok (.string ⟨l.toArray⟩) w := by
  rcases h.2 with ⟨rfl, h0⟩ | ⟨g, cap, cur, rfl, _, hh, _, _, _, htk⟩
  · have : l = [] := List.eq_nil_of_length_eq_zero h0
    subst this
    exact Lib.run_convert_nil_bytes w src dst E 0 hs he hd
  · refine run_convert_bytes_back w src dst E _ cap l hs he hd fun j hj => ?_
    have hc := h.cells (g := g) rfl j (.int .u8 (l[j].toNat : Int)) (by simp [hj])
    exact hc
theorem OwnB.more {w : World} {B : Nat} {v : Value} {l : List UInt8} {c : UInt8} (h : w.ownsRow B E 1 v (l.length + 1) (l.map (fun c => Value.int .u8 (c.toNat : Int)) ++ [.int .u8 (c.toNat : Int)])) : OwnB E w B v (l ++ [c]) := by
  unfold OwnB
  simpa using h
/-- What is owned stays owned where nothing that was there has turned. -/
theorem own_below {w w' : World} {base : Nat} {e : TypeId} {size : Nat} {v : Value} {n : Nat} {xs : List Value} (h : w.ownsRow base e size v n xs) (hb : Below w.heap.size w w') : w'.ownsRow base e size v n xs := by
  refine h.kept (row := none) ⟨hb.os, hb.tape, hb.output, hb.size, fun i hi _ => hb.block i hi⟩ ?_
  cases hv : v.ownBlock <;> simp
end
theorem below_dn {B : Nat} {a w : World} (h : Below B a w) (n : Nat) : Below B a (w.drewN n) := ⟨h.os, h.tape, h.output, h.size, h.block⟩
/-- Block g holds just these cells, none of them frozen. -/
def Blk (w : World) (g : Nat) (t : TypeId) (cs : Array Value) : Prop := w.heap[g]? = some (.cells cs t (0, 0))
section
variable {w w' : World} {g : Nat} {t : TypeId} {cs : Array Value}
theorem Blk.lt (h : Blk w g t cs) : g < w.heap.size := (Array.getElem?_eq_some_iff.1 h).1
theorem Blk.cell (h : Blk w g t cs) (i : Nat) : w.cell? ⟨g, i, none⟩ = cs[i]? := cell_of_row w g i cs t (0, 0) h
theorem Blk.frozen (h : Blk w g t cs) (i : Nat) : w.frozen? ⟨g, i, none⟩ = false := by
  unfold Blk at h
  simp [World.frozen?, h]
theorem Blk.new (w : World) (t : TypeId) (cs : Array Value) : Blk (w.alloc (.cells cs t)) w.heap.size t cs := heap_alloc_new w _
theorem Blk.new_at (w : World) (t : TypeId) (cs : Array Value) {n : Nat} (hn : w.heap.size = n) : Blk (w.alloc (.cells cs t)) n t cs := hn ▸ Blk.new w t cs
theorem Blk.drew (h : Blk w g t cs) : Blk w.drew g t cs := h
theorem Blk.alloc (h : Blk w g t cs) (o : Obj) : Blk (w.alloc o) g t cs := (Below.heap_alloc w o g h.lt).trans h
theorem Blk.put (h : Blk w g t cs) (i : Nat) (u : Value) : Blk (w.setCell ⟨g, i, none⟩ u) g t (cs.setIfInBounds i u) := by
  unfold Blk at h ⊢
  simp [World.setCell, Array.getElem?_modify, h]
theorem Blk.far (h : Blk w g t cs) {p : Addr} (hp : g ≠ p.block) (u : Value) : Blk (w.setCell p u) g t cs := (Below.heap_setCell w p u g hp).trans h
theorem Blk.below {B : Nat} (h : Blk w g t cs) (hb : Below B w w') (hg : g < B) : Blk w' g t cs := (hb.block g hg).trans h
theorem Blk.grown {row : Option Nat} (h : Blk w g t cs) (hb : w.grownBy w' row) (hg : some g ≠ row) : Blk w' g t cs := (hb.block g h.lt hg).trans h
end
/-- w' is w with new blocks, and with writes to the blocks of S alone. -/
structure Only (S : Nat → Prop) (w w' : World) : Prop where
  os : w'.os = w.os
  tape : w'.tape = w.tape
  output : w'.output = w.output
  size : w.heap.size ≤ w'.heap.size
  block : ∀ k, k < w.heap.size → ¬ S k → w'.heap[k]? = w.heap[k]?
section
variable {S T : Nat → Prop} {w w' w'' : World}
theorem Only.refl (S : Nat → Prop) (w : World) : Only S w w := ⟨rfl, rfl, rfl, Nat.le_refl _, fun _ _ _ => rfl⟩
theorem Only.trans (h : Only S w w') (k : Only S w' w'') : Only S w w'' :=
  ⟨k.os.trans h.os, k.tape.trans h.tape, k.output.trans h.output, Nat.le_trans h.size k.size, fun i hi hs => (k.block i (Nat.lt_of_lt_of_le hi h.size) hs).trans (h.block i hi hs)⟩
theorem Only.mono (h : Only S w w') (hst : ∀ k, k < w.heap.size → S k → T k) : Only T w w' := ⟨h.os, h.tape, h.output, h.size, fun i hi hs => h.block i hi (fun e => hs (hst i hi e))⟩
theorem Only.setCell (h : Only S w w') {p : Addr} (hp : S p.block ∨ w.heap.size ≤ p.block) (u : Value) : Only S w (w'.setCell p u) :=
  ⟨h.os, h.tape, h.output, by simpa using h.size, fun i hi hs => (Below.heap_setCell w' p u i (by
    rintro rfl
    rcases hp with hp | hp
    · exact hs hp
    · omega)).trans (h.block i hi hs)⟩
theorem Only.alloc (h : Only S w w') (o : Obj) : Only S w (w'.alloc o) :=
  ⟨h.os, h.tape, h.output, Nat.le_trans h.size (by simp), fun i hi hs => (Below.heap_alloc w' o i (Nat.lt_of_lt_of_le hi h.size)).trans (h.block i hi hs)⟩
theorem Only.drew (h : Only S w w') : Only S w w'.drew := ⟨h.os, h.tape, h.output, h.size, h.block⟩
theorem Only.drewN (h : Only S w w') (n : Nat) : Only S w (w'.drewN n) := ⟨h.os, h.tape, h.output, h.size, h.block⟩
theorem Only.below (h : Only S w w') (hb : Below w'.heap.size w' w'') : Only S w w'' :=
  ⟨hb.os.trans h.os, hb.tape.trans h.tape, hb.output.trans h.output, Nat.le_trans h.size hb.size, fun i hi hs => (hb.block i (Nat.lt_of_lt_of_le hi h.size)).trans (h.block i hi hs)⟩
theorem Only.of_below (h : Below w.heap.size w w') : Only S w w' := ⟨h.os, h.tape, h.output, h.size, fun i hi _ => h.block i hi⟩
theorem Only.to_below {B : Nat} (h : Only S w w') (hB : B ≤ w.heap.size) (hs : ∀ k, k < w.heap.size → S k → B ≤ k) : Below B w w' :=
  ⟨h.os, h.tape, h.output, h.size, fun i hi => h.block i (by omega) (fun e => by have := hs i (by omega) e; omega)⟩
theorem Only.grown (h : Only S w w') {row : Option Nat} (hg : w'.grownBy w'' row) (hr : ∀ k, row = some k → S k ∨ w.heap.size ≤ k) : Only S w w'' :=
  ⟨hg.os.trans h.os, hg.tape.trans h.tape, hg.output.trans h.output, Nat.le_trans h.size hg.size, fun i hi hs => (hg.block i (Nat.lt_of_lt_of_le hi h.size) (fun e => by
    rcases hr i e.symm with h1 | h1
    · exact hs h1
    · omega)).trans (h.block i hi hs)⟩
theorem Blk.only {g : Nat} {t : TypeId} {cs : Array Value} (h : Blk w g t cs) (k : Only S w w') (hs : ¬ S g) : Blk w' g t cs := (k.block g h.lt hs).trans h
theorem own_only {base : Nat} {e : TypeId} {size : Nat} {v : Value} {n : Nat} {xs : List Value} (h : w.ownsRow base e size v n xs) (k : Only S w w') (hs : ∀ g, v.ownBlock = some g → ¬ S g) : w'.ownsRow base e size v n xs := by
  refine ⟨h.1, ?_⟩
  rcases h.2 with h0 | ⟨g, cap, cur, rfl, hb, hg, hrest⟩
  · exact .inl h0
  · exact .inr ⟨g, cap, cur, rfl, hb, (k.block g (Array.getElem?_eq_some_iff.1 hg).1 (hs g rfl)).trans hg, hrest⟩
theorem own_ne_blk {base : Nat} {e t : TypeId} {size : Nat} {v : Value} {n : Nat} {xs : List Value} {g : Nat} {cs : Array Value} (h : w.ownsRow base e size v n xs) (hg : Blk w g t cs) (hne : e ≠ t) : ∀ k, v.ownBlock = some k → k ≠ g := by
  intro k hk e1
  subst e1
  rcases h.2 with ⟨rfl, _⟩ | ⟨g', cap, cur, rfl, _, hh, _⟩
  · simp [Value.ownBlock] at hk
  · simp only [Value.ownBlock, Option.some.injEq] at hk
    subst hk
    unfold Blk at hg
    rw [hh] at hg
    injection hg with h1
    injection h1 with _ h2
    exact hne h2
end
end Go.Proofs.YteibkaonofkcbaaGreat
namespace Go.Proofs.YteibkaonofkcbaaGreat
open Go.RowKit
section
variable {P : Program}
theorem wpList_append_row {ops : Array Oper} {rest : List Oper} {o : Oper} {a : Act} {Q : Exit → Act → World → Prop} {W : World} (hgd : o.guard = none) (s x : Operand) (t : TypeId)
    (ho : o.op = .call { callee := .builtin .append, args := #[s, x], argTypes := #[t, t] })
    (w : World) (base : Nat) (e : TypeId) (i : TypeInfo) (z : Value) (bytes size : Nat) (ht : P.underlying t = some (.slice e)) (hi : P.info? e = some i) (hz : i.zero = some z)
    (hsize : i.size = size) (hby : i.bytes = bytes) (hzs : z.cells.size = size) (hs0 : 0 < size)
    (v : Value) (n : Nat) (xs : List Value) (hown : w.ownsRow base e size v n xs) (hs : a.eval s = v) (us : List Value) (hus : us.length = size) (hone : ∀ u ∈ us, u.oneCell' = true)
    (hx : a.eval x = .slice (some ⟨w.heap.size, 0, none⟩) 1 1) (hW : W = w.alloc (.cells us.toArray e))
    (h63 : n + 1 ≤ maxLen) (hbytes : (n + 1) * bytes ≤ 140737488355328) (hbase : base ≤ w.heap.size)
    (h : ∀ v' w', w'.ownsRow base e size v' (n + 1) (xs ++ us) → Below base w w' → w.grownBy w' v.ownBlock → wpList P ops Q rest (a.put o.dst v') w') : wpList P ops Q (o :: rest) a W := by
  subst hW
  refine wpList_append_own _ hgd s x t ho base e i z size bytes ht hi hz hsize hby hzs hs0 v n xs hs (hown.alloc _) ⟨w.heap.size, 0, none⟩ 1 1 us hx (by simp [hus]) ?_ hone h63 hbytes (by simp; omega) ?_
  · intro j y hj
    have hc := (Blk.new w e us.toArray).cell j
    have e1 : (⟨w.heap.size, 0, none⟩ : Addr).add j = ⟨w.heap.size, j, none⟩ := by
      by_cases h0 : j = 0
      · subst h0; rfl
      · simp [Addr.add, h0]
    rw [e1, hc]
    simpa using hj
  · intro v' w' hown' hg _
    exact h v' w' hown' (((Below.refl base w).alloc hbase _).grown hg (by simp; omega) fun k hk => (hown.lt k hk).1)
      ⟨hg.os, hg.tape, hg.output, Nat.le_trans (by simp) hg.size, fun k hk hne => (hg.block k (by simp; omega) hne).trans (Below.heap_alloc w _ k hk)⟩
end
end Go.Proofs.YteibkaonofkcbaaGreat
namespace Go.Proofs.YteibkaonofkcbaaGreat
open Go.RowKit
theorem Blk.drewN {w : World} {g : Nat} {t : TypeId} {cs : Array Value} (h : Blk w g t cs) (n : Nat) : Blk (w.drewN n) g t cs := h
end Go.Proofs.YteibkaonofkcbaaGreat
