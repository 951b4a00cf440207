/- Joined texts: Own, Own2, BigPlain, Bytes, Cut, SInt, Told0, Whole0. -/
import Derived.WalkKit
import Derived.Lib.Hide
import Derived.Lib.Strings
import Derived.Lib.BufferRead
import Derived.Laws.IdiomStrings
import Derived.Deep.Draws
import Derived.Test.YtndeolcamgnmdaaGreatDoorRows
import Derived.Test.YtndeolcamgnmdaaGreatDoorChecked
import Derived.Laws.OwnMore
import Derived.Laws.AppendOwnNone
import Derived.Deep.QuietTactic
import Derived.BigQuiet
import Derived.RegionTactic
import Derived.ChangeAlike
import Derived.IntWalk
import Derived.Deep.RegionLaw
set_option linter.unusedVariables false
set_option linter.unusedSimpArgs false
set_option linter.unnecessarySimpa false
namespace Go.Proofs.YtndeolcamgnmdaaGreatDoor
open Go.RowKit
/-- The slice value v owns the bytes l. -/
def OwnB (E : TypeId) (w : World) (B : Nat) (v : Value) (l : List UInt8) : Prop := w.ownsRow B E 1 v l.length (l.map fun c => Value.int .u8 (c.toNat : Int))
section
variable {P : Program} {E : TypeId}
theorem OwnB.nil (w : World) (B : Nat) : OwnB E w B (.slice none 0 0) [] := World.ownsRow_nil _ _ _ _
/-- out = append(out, x), x one cell that the operation ahead has laid in a block of its own. -/
theorem wpList_append_one {ops : Array Oper} {rest : List Oper} {o : Oper} {a : Act} {Q : Exit → Act → World → Prop} {W : World} (hgd : o.guard = none) (s x : Operand) (t : TypeId)
    (ho : o.op = .call { callee := .builtin .append, args := #[s, x], argTypes := #[t, t] })
    (w : World) (base : Nat) (e : TypeId) (i : TypeInfo) (z : Value) (bytes : Nat) (ht : P.underlying t = some (.slice e)) (hi : P.info? e = some i) (hz : i.zero = some z)
    (hsize : i.size = 1) (hby : i.bytes = bytes) (hzs : z.cells.size = 1)
    (v : Value) (n : Nat) (xs : List Value) (hown : w.ownsRow base e 1 v n xs) (hs : a.eval s = v) (u : Value) (hu : u.oneCell' = true)
    (hx : a.eval x = .slice (some ⟨w.heap.size, 0, none⟩) 1 1) (hW : W = w.alloc (.cells #[u] e))
    (h63 : n + 1 ≤ maxLen) (hbytes : (n + 1) * bytes ≤ 140737488355328) (hbase : base ≤ w.heap.size)
    (h : ∀ v' w', w'.ownsRow base e 1 v' (n + 1) (xs ++ [u]) → Below base w w' → w.grownBy w' v.ownBlock → wpList P ops Q rest (a.put o.dst v') w') : wpList P ops Q (o :: rest) a W := by
  subst hW
  refine wpList_append_own _ hgd s x t ho base e i z 1 bytes ht hi hz hsize hby hzs (by decide) v n xs hs (hown.alloc _) ⟨w.heap.size, 0, none⟩ 1 1 [u] hx rfl ?_ ?_ h63 hbytes (by simp; omega) ?_
  · intro j y hj
    match j, hj with
    | 0, hj => simp at hj; subst hj; simp [Addr.add]
  · intro y hy; simp at hy; subst hy; exact hu
  · intro v' w' hown' hg _
    exact h v' w' hown' (((Below.refl base w).alloc hbase _).grown hg (by simp; omega) fun k hk => (hown.lt k hk).1)
      ⟨hg.os, hg.tape, hg.output, Nat.le_trans (by simp) hg.size, fun k hk hne => (hg.block k (by simp; omega) hne).trans (Below.heap_alloc w _ k hk)⟩
theorem OwnB.text {w : World} {B : Nat} {v : Value} {l : List UInt8} (h : OwnB E w B v l) (src dst : TypeId) (hs : P.underlying src = some (.slice E)) (he : P.underlying E = some (.int .u8)) (hd : P.underlying dst = some .string) :
    (convert src dst v).run P w = .ok (.string ⟨l.toArray⟩) w := by
  rcases h.2 with ⟨rfl, h0⟩ | ⟨g, cap, cur, rfl, _, hh, _, _, _, htk⟩
  · have : l = [] := List.eq_nil_of_length_eq_zero h0
    subst this
    exact Lib.run_convert_nil_bytes w src dst E 0 hs he hd
  · refine run_convert_bytes_back w src dst E _ cap l hs he hd fun j hj => ?_
    have hc := h.cells (g := g) rfl j (.int .u8 (l[j].toNat : Int)) (by simp [hj])
    exact hc
theorem OwnB.more {w : World} {B : Nat} {v : Value} {l : List UInt8} {c : UInt8} (h : w.ownsRow B E 1 v (l.length + 1) (l.map (fun c => Value.int .u8 (c.toNat : Int)) ++ [.int .u8 (c.toNat : Int)])) : OwnB E w B v (l ++ [c]) := by
  unfold OwnB
  simpa using h
/-- What is owned stays owned where nothing that was there has turned. -/
theorem own_below {w w' : World} {base : Nat} {e : TypeId} {size : Nat} {v : Value} {n : Nat} {xs : List Value} (h : w.ownsRow base e size v n xs) (hb : Below w.heap.size w w') : w'.ownsRow base e size v n xs := by
  refine h.kept (row := none) ⟨hb.os, hb.tape, hb.output, hb.size, fun i hi _ => hb.block i hi⟩ ?_
  cases hv : v.ownBlock <;> simp
end
theorem below_dn {B : Nat} {a w : World} (h : Below B a w) (n : Nat) : Below B a (w.drewN n) := ⟨h.os, h.tape, h.output, h.size, h.block⟩
/-- Block g holds just these cells, none of them frozen. -/
def Blk (w : World) (g : Nat) (t : TypeId) (cs : Array Value) : Prop := w.heap[g]? = some (.cells cs t (0, 0))
section
variable {w w' : World} {g : Nat} {t : TypeId} {cs : Array Value}
theorem Blk.lt (h : Blk w g t cs) : g < w.heap.size := (Array.getElem?_eq_some_iff.1 h).1
theorem Blk.cell (h : Blk w g t cs) (i : Nat) : w.cell? ⟨g, i, none⟩ = cs[i]? := cell_of_row w g i cs t (0, 0) h
theorem Blk.frozen (h : Blk w g t cs) (i : Nat) : w.frozen? ⟨g, i, none⟩ = false := by
  unfold Blk at h
  simp [World.frozen?, h]
theorem Blk.new (w : World) (t : TypeId) (cs : Array Value) : Blk (w.alloc (.cells cs t)) w.heap.size t cs := heap_alloc_new w _
theorem Blk.new_at (w : World) (t : TypeId) (cs : Array Value) {n : Nat} (hn : w.heap.size = n) : Blk (w.alloc (.cells cs t)) n t cs := hn ▸ Blk.new w t cs
theorem Blk.drew (h : Blk w g t cs) : Blk w.drew g t cs := h
theorem Blk.alloc (h : Blk w g t cs) (o : Obj) : Blk (w.alloc o) g t cs := (Below.heap_alloc w o g h.lt).trans h
theorem Blk.put (h : Blk w g t cs) (i : Nat) (u : Value) : Blk (w.setCell ⟨g, i, none⟩ u) g t (cs.setIfInBounds i u) := by
  unfold Blk at h ⊢
  simp [World.setCell, Array.getElem?_modify, h]
theorem Blk.far (h : Blk w g t cs) {p : Addr} (hp : g ≠ p.block) (u : Value) : Blk (w.setCell p u) g t cs := (Below.heap_setCell w p u g hp).trans h
theorem Blk.below {B : Nat} (h : Blk w g t cs) (hb : Below B w w') (hg : g < B) : Blk w' g t cs := (hb.block g hg).trans h
theorem Blk.grown {row : Option Nat} (h : Blk w g t cs) (hb : w.grownBy w' row) (hg : some g ≠ row) : Blk w' g t cs := (hb.block g h.lt hg).trans h
end
/-- w' is w with new blocks, and with writes to the blocks of S alone. -/
structure Only (S : Nat → Prop) (w w' : World) : Prop where
  os : w'.os = w.os
  tape : w'.tape = w.tape
  output : w'.output = w.output
  size : w.heap.size ≤ w'.heap.size
  block : ∀ k, k < w.heap.size → ¬ S k → w'.heap[k]? = w.heap[k]?
section
variable {S T : Nat → Prop} {w w' w'' : World}
theorem Only.refl (S : Nat → Prop) (w : World) : Only S w w := ⟨rfl, rfl, rfl, Nat.le_refl _, fun _ _ _ => rfl⟩
theorem Only.trans (h : Only S w w') (k : Only S w' w'') : Only S w w'' :=
  ⟨k.os.trans h.os, k.tape.trans h.tape, k.output.trans h.output, Nat.le_trans h.size k.size, fun i hi hs => (k.block i (Nat.lt_of_lt_of_le hi h.size) hs).trans (h.block i hi hs)⟩
theorem Only.mono (h : Only S w w') (hst : ∀ k, k < w.heap.size → S k → T k) : Only T w w' := ⟨h.os, h.tape, h.output, h.size, fun i hi hs => h.block i hi (fun e => hs (hst i hi e))⟩
theorem Only.setCell (h : Only S w w') {p : Addr} (hp : S p.block ∨ w.heap.size ≤ p.block) (u : Value) : Only S w (w'.setCell p u) :=
  ⟨h.os, h.tape, h.output, by simpa using h.size, fun i hi hs => (Below.heap_setCell w' p u i (by
    rintro rfl
    rcases hp with hp | hp
    · exact hs hp
    · omega)).trans (h.block i hi hs)⟩
theorem Only.alloc (h : Only S w w') (o : Obj) : Only S w (w'.alloc o) :=
  ⟨h.os, h.tape, h.output, Nat.le_trans h.size (by simp), fun i hi hs => (Below.heap_alloc w' o i (Nat.lt_of_lt_of_le hi h.size)).trans (h.block i hi hs)⟩
theorem Only.drew (h : Only S w w') : Only S w w'.drew := ⟨h.os, h.tape, h.output, h.size, h.block⟩
theorem Only.drewN (h : Only S w w') (n : Nat) : Only S w (w'.drewN n) := ⟨h.os, h.tape, h.output, h.size, h.block⟩
theorem Only.below (h : Only S w w') (hb : Below w'.heap.size w' w'') : Only S w w'' :=
  ⟨hb.os.trans h.os, hb.tape.trans h.tape, hb.output.trans h.output, Nat.le_trans h.size hb.size, fun i hi hs => (hb.block i (Nat.lt_of_lt_of_le hi h.size)).trans (h.block i hi hs)⟩
theorem Only.of_below (h : Below w.heap.size w w') : Only S w w' := ⟨h.os, h.tape, h.output, h.size, fun i hi _ => h.block i hi⟩
theorem Only.to_below {B : Nat} (h : Only S w w') (hB : B ≤ w.heap.size) (hs : ∀ k, k < w.heap.size → S k → B ≤ k) : Below B w w' :=
  ⟨h.os, h.tape, h.output, h.size, fun i hi => h.block i (by omega) (fun e => by have := hs i (by omega) e; omega)⟩
theorem Only.grown (h : Only S w w') {row : Option Nat} (hg : w'.grownBy w'' row) (hr : ∀ k, row = some k → S k ∨ w.heap.size ≤ k) : Only S w w'' :=
  ⟨hg.os.trans h.os, hg.tape.trans h.tape, hg.output.trans h.output, Nat.le_trans h.size hg.size, fun i hi hs => (hg.block i (Nat.lt_of_lt_of_le hi h.size) (fun e => by
    rcases hr i e.symm with h1 | h1
    · exact hs h1
    · omega)).trans (h.block i hi hs)⟩
theorem Blk.only {g : Nat} {t : TypeId} {cs : Array Value} (h : Blk w g t cs) (k : Only S w w') (hs : ¬ S g) : Blk w' g t cs := (k.block g h.lt hs).trans h
theorem own_only {base : Nat} {e : TypeId} {size : Nat} {v : Value} {n : Nat} {xs : List Value} (h : w.ownsRow base e size v n xs) (k : Only S w w') (hs : ∀ g, v.ownBlock = some g → ¬ S g) : w'.ownsRow base e size v n xs := by
  refine ⟨h.1, ?_⟩
  rcases h.2 with h0 | ⟨g, cap, cur, rfl, hb, hg, hrest⟩
  · exact .inl h0
  · exact .inr ⟨g, cap, cur, rfl, hb, (k.block g (Array.getElem?_eq_some_iff.1 hg).1 (hs g rfl)).trans hg, hrest⟩
theorem own_ne_blk {base : Nat} {e t : TypeId} {size : Nat} {v : Value} {n : Nat} {xs : List Value} {g : Nat} {cs : Array Value} (h : w.ownsRow base e size v n xs) (hg : Blk w g t cs) (hne : e ≠ t) : ∀ k, v.ownBlock = some k → k ≠ g := by
  intro k hk e1
  subst e1
  rcases h.2 with ⟨rfl, _⟩ | ⟨g', cap, cur, rfl, _, hh, _⟩
  · simp [Value.ownBlock] at hk
  · simp only [Value.ownBlock, Option.some.injEq] at hk
    subst hk
    unfold Blk at hg
    rw [hh] at hg
    injection hg with h1
    injection h1 with _ h2
    exact hne h2
end
end Go.Proofs.YtndeolcamgnmdaaGreatDoor
namespace Go.Proofs.YtndeolcamgnmdaaGreatDoor
open Go.RowKit
theorem Blk.drewN {w : World} {g : Nat} {t : TypeId} {cs : Array Value} (h : Blk w g t cs) (n : Nat) : Blk (w.drewN n) g t cs := h
end Go.Proofs.YtndeolcamgnmdaaGreatDoor
namespace Go.Proofs.YtndeolcamgnmdaaGreatDoor
open Go.RowKit
/-- 2 to the 64-th, by a name (the number itself is kept out of the walks). -/
def W64 : Nat := 18446744073709551616
theorem W64_pos : 0 < W64 := by unfold W64; omega
theorem W64_eq : W64 = 256 ^ 8 := by unfold W64; decide
/-- The number of bytes, the highest first. -/
def natOf : List Nat → Nat
  | [] => 0
  | b :: r => b * 256 ^ r.length + natOf r
theorem natOf_nil : natOf [] = 0 := rfl
theorem natOf_append (a b : List Nat) : natOf (a ++ b) = natOf a * 256 ^ b.length + natOf b := by
  induction a with
  | nil => simp [natOf]
  | cons x r ih =>
    simp only [List.cons_append, natOf, ih, List.length_append, Nat.pow_add]
    rw [Nat.add_mul, Nat.mul_assoc, Nat.add_assoc]
theorem natOf_lt (l : List Nat) (h : ∀ x ∈ l, x < 256) : natOf l < 256 ^ l.length := by
  induction l with
  | nil => simp [natOf]
  | cons x r ih =>
    have h1 := ih (fun y hy => h y (List.mem_cons_of_mem _ hy))
    have h2 : x < 256 := h x (List.mem_cons_self ..)
    simp only [natOf, List.length_cons, Nat.pow_succ]
    have h3 : x * 256 ^ r.length + 256 ^ r.length ≤ 256 * 256 ^ r.length := by
      rw [← Nat.succ_mul]
      exact Nat.mul_le_mul_right _ h2
    rw [Nat.mul_comm (256 ^ r.length) 256]
    omega
theorem natOf_pos (x : Nat) (r : List Nat) (h : x ≠ 0) : 256 ^ r.length ≤ natOf (x :: r) := by
  simp only [natOf]
  have : 1 * 256 ^ r.length ≤ x * 256 ^ r.length := Nat.mul_le_mul_right _ (by omega)
  omega
theorem natOf_zero_cons (r : List Nat) : natOf (0 :: r) = natOf r := by simp [natOf]
/-- What stands behind the leading zeros. -/
def strip : List Nat → List Nat
  | [] => []
  | x :: r => if x = 0 then strip r else x :: r
theorem strip_drop : ∀ (l : List Nat) (k : Nat), k ≤ l.length → (∀ j (h : j < l.length), j < k → l[j]'h = 0) → (∀ h : k < l.length, l[k]'h ≠ 0) → strip l = l.drop k
  | [], k, hk, _, _ => by simp [strip]
  | x :: r, 0, _, _, h => by
    have := h (by simp)
    simp only [List.getElem_cons_zero] at this
    simp [strip, this]
  | x :: r, k + 1, hk, hz, h => by
    have h0 : x = 0 := hz 0 (by simp) (by omega)
    rw [strip, if_pos h0, List.drop_succ_cons]
    refine strip_drop r k (by simpa using hk) (fun j hj hjk => ?_) (fun hk' => ?_)
    · have := hz (j + 1) (by simpa using hj) (by omega)
      simpa using this
    · have := h (by simpa using hk')
      simpa using this
theorem strip_le : ∀ l : List Nat, (strip l).length ≤ l.length
  | [] => by simp [strip]
  | x :: r => by
    rw [strip]
    split
    · have := strip_le r
      simp; omega
    · simp
theorem strip_mem : ∀ (l : List Nat) (x : Nat), x ∈ strip l → x ∈ l
  | [], x, h => by simp [strip] at h
  | y :: r, x, h => by
    rw [strip] at h
    split at h
    · exact List.mem_cons_of_mem _ (strip_mem r x h)
    · exact h
theorem strip_head : ∀ (l : List Nat), (strip l).head? ≠ some 0
  | [] => by simp [strip]
  | x :: r => by
    rw [strip]
    split
    · exact strip_head r
    · rename_i h
      simpa using h
theorem strip_self (l : List Nat) (h : l.head? ≠ some 0) : strip l = l := by
  cases l with
  | nil => rfl
  | cons x r =>
    have : x ≠ 0 := by simpa using h
    rw [strip, if_neg this]
theorem natOf_strip : ∀ l : List Nat, natOf (strip l) = natOf l
  | [] => rfl
  | x :: r => by
    rw [strip]
    split
    · rename_i h
      rw [natOf_strip r, h, natOf_zero_cons]
    · rfl
/-- Bytes without a leading zero are told by their number. -/
theorem natOf_inj : ∀ (a b : List Nat), a.length = b.length → (∀ x ∈ a, x < 256) → (∀ x ∈ b, x < 256) → natOf a = natOf b → a = b
  | [], [], _, _, _, _ => rfl
  | [], _ :: _, h, _, _, _ => by simp at h
  | _ :: _, [], h, _, _, _ => by simp at h
  | x :: r, y :: s, hl, ha, hb, h => by
    have hl' : r.length = s.length := by simpa using hl
    have hr := natOf_lt r (fun z hz => ha z (List.mem_cons_of_mem _ hz))
    have hs := natOf_lt s (fun z hz => hb z (List.mem_cons_of_mem _ hz))
    simp only [natOf, hl'] at h
    rw [hl'] at hr
    have hx : x = y := by
      have e1 : (x * 256 ^ s.length + natOf r) / 256 ^ s.length = x := by
        rw [Nat.mul_comm, Nat.mul_add_div (Nat.pow_pos (by omega)), Nat.div_eq_of_lt hr]; rfl
      have e2 : (y * 256 ^ s.length + natOf s) / 256 ^ s.length = y := by
        rw [Nat.mul_comm, Nat.mul_add_div (Nat.pow_pos (by omega)), Nat.div_eq_of_lt hs]; rfl
      rw [← e1, h, e2]
    subst hx
    rw [natOf_inj r s hl' (fun z hz => ha z (List.mem_cons_of_mem _ hz)) (fun z hz => hb z (List.mem_cons_of_mem _ hz)) (by omega)]
theorem natOf_len {a b : List Nat} (ha : ∀ x ∈ a, x < 256) (hb : ∀ x ∈ b, x < 256) (h : b.head? ≠ some 0) (hn : natOf b ≤ natOf a) : b.length ≤ a.length := by
  cases b with
  | nil => simp
  | cons y s =>
    have hy : y ≠ 0 := by simpa using h
    have h1 := natOf_pos y s hy
    have h2 := natOf_lt a ha
    by_cases hlt : a.length ≤ s.length
    · have := Nat.pow_le_pow_right (n := 256) (by omega) hlt
      omega
    · simp; omega
theorem natOf_unique {a b : List Nat} (ha : ∀ x ∈ a, x < 256) (hb : ∀ x ∈ b, x < 256) (h1 : a.head? ≠ some 0) (h2 : b.head? ≠ some 0) (hn : natOf a = natOf b) : a = b :=
  natOf_inj a b (Nat.le_antisymm (natOf_len hb ha h1 (by omega)) (natOf_len ha hb h2 (by omega))) ha hb hn
theorem natOf_eq_zero {a : List Nat} (h1 : a.head? ≠ some 0) : natOf a = 0 ↔ a = [] := by
  cases a with
  | nil => simp [natOf]
  | cons x r =>
    have := natOf_pos x r (by simpa using h1)
    have hp : 0 < 256 ^ r.length := Nat.pow_pos (by omega)
    constructor
    · intro h; omega
    · intro h; cases h
/-- The number of words, the lowest first. -/
def valW : List Nat → Nat
  | [] => 0
  | x :: r => x + W64 * valW r
theorem valW_append (a b : List Nat) : valW (a ++ b) = valW a + W64 ^ a.length * valW b := by
  induction a with
  | nil => simp [valW]
  | cons x r ih =>
    simp only [List.cons_append, valW, ih, List.length_cons, Nat.pow_succ]
    rw [Nat.mul_add, ← Nat.mul_assoc, Nat.mul_comm W64 (W64 ^ r.length)]
    omega
theorem valW_lt (l : List Nat) (h : ∀ x ∈ l, x < W64) : valW l < W64 ^ l.length := by
  induction l with
  | nil => simp [valW]
  | cons x r ih =>
    have h1 := ih (fun y hy => h y (List.mem_cons_of_mem _ hy))
    have h2 : x < W64 := h x (List.mem_cons_self ..)
    simp only [valW, List.length_cons, Nat.pow_succ]
    have h3 : W64 * valW r + W64 ≤ W64 * W64 ^ r.length := by
      have := Nat.mul_le_mul_left W64 h1
      rw [Nat.mul_succ] at this
      exact this
    rw [Nat.mul_comm (W64 ^ r.length) W64]
    omega
theorem valW_zeros (n : Nat) : valW (List.replicate n 0) = 0 := by
  induction n with
  | zero => rfl
  | succ n ih => simp [List.replicate_succ, valW, ih]
theorem valW_set : ∀ (ws : List Nat) (k : Nat) (x : Nat) (h : k < ws.length), ws[k]'h = 0 → valW (ws.set k x) = valW ws + W64 ^ k * x
  | [], k, x, h, _ => by simp at h
  | y :: r, 0, x, h, h0 => by
    have h0' : y = 0 := by simpa using h0
    simp [valW, h0']
    omega
  | y :: r, k + 1, x, h, h0 => by
    have := valW_set r k x (by simpa using h) (by simpa using h0)
    simp only [List.set_cons_succ, valW, this, Nat.pow_succ]
    rw [Nat.mul_add, ← Nat.mul_assoc, Nat.mul_comm W64 (W64 ^ k)]
    omega
theorem valW_take (ws : List Nat) (k : Nat) (hk : k ≤ ws.length) (h : ∀ j (hj : j < ws.length), k ≤ j → ws[j]'hj = 0) : valW (ws.take k) = valW ws := by
  have e : ws.drop k = List.replicate (ws.length - k) 0 := by
    apply List.ext_getElem
    · simp
    · intro i h1 h2
      have h3 : i < ws.length - k := by simpa using h1
      have := h (k + i) (by omega) (by omega)
      simp [this]
  have h1 : valW (ws.take k ++ ws.drop k) = valW ws := by rw [List.take_append_drop]
  rw [valW_append, e, valW_zeros] at h1
  simpa using h1
theorem valW_top (ws : List Nat) (x : Nat) (h : x ≠ 0) : W64 ^ ws.length ≤ valW (ws ++ [x]) := by
  rw [valW_append]
  have : W64 ^ ws.length * 1 ≤ W64 ^ ws.length * valW [x] := Nat.mul_le_mul_left _ (by simp [valW]; omega)
  omega
theorem valW_inj : ∀ (a b : List Nat), a.length = b.length → (∀ x ∈ a, x < W64) → (∀ x ∈ b, x < W64) → valW a = valW b → a = b
  | [], [], _, _, _, _ => rfl
  | [], _ :: _, h, _, _, _ => by simp at h
  | _ :: _, [], h, _, _, _ => by simp at h
  | x :: r, y :: s, hl, ha, hb, h => by
    have hx1 : x < W64 := ha x (List.mem_cons_self ..)
    have hy1 : y < W64 := hb y (List.mem_cons_self ..)
    simp only [valW] at h
    have hx : x = y := by
      have e1 : (x + W64 * valW r) % W64 = x := by rw [Nat.add_mul_mod_self_left, Nat.mod_eq_of_lt hx1]
      have e2 : (y + W64 * valW s) % W64 = y := by rw [Nat.add_mul_mod_self_left, Nat.mod_eq_of_lt hy1]
      rw [← e1, h, e2]
    subst hx
    have hv : valW r = valW s := Nat.eq_of_mul_eq_mul_left W64_pos (by omega)
    rw [valW_inj r s (by simpa using hl) (fun z hz => ha z (List.mem_cons_of_mem _ hz)) (fun z hz => hb z (List.mem_cons_of_mem _ hz)) hv]
/-- A word in the midst of bytes. -/
theorem natOf_cut (l : List Nat) (i m : Nat) (hm : m ≤ i) (hi : i ≤ l.length) : natOf (l.drop (i - m)) = natOf ((l.drop (i - m)).take m) * 256 ^ (l.length - i) + natOf (l.drop i) := by
  have e : l.drop (i - m) = (l.drop (i - m)).take m ++ l.drop i := by
    have h := (List.take_append_drop m (l.drop (i - m))).symm
    rw [List.drop_drop, show i - m + m = i by omega] at h
    exact h
  have h2 := congrArg natOf e
  rw [natOf_append] at h2
  rw [h2]
  simp
theorem pow256_8 (k : Nat) : 256 ^ (8 * k) = W64 ^ k := by rw [Nat.pow_mul, ← W64_eq]
end Go.Proofs.YtndeolcamgnmdaaGreatDoor
namespace Go.Proofs.YtndeolcamgnmdaaGreatDoor
open Go.RowKit
def IsRow (k : IntKind) (W : World) (a : Option Addr) (len cap : Nat) (zs : List Int) : Prop :=
  (a = none ∧ len = 0 ∧ cap = 0 ∧ zs = []) ∨
  ∃ x, a = some x ∧ len ≤ cap ∧ cap ≤ maxLen ∧ zs.length = cap ∧ (∀ i, i < zs.length → W.cell? (x.add i) = some (.int k (zs.getD i 0))) ∧ ∀ n ∈ zs, (Lit.int k n).wf = true
def bcells (l : List Nat) : List Value := l.map fun (x : Nat) => Value.int .u8 (x : Int)
@[simp] theorem bcells_len (l : List Nat) : (bcells l).length = l.length := by simp [bcells]
theorem bcells_one (l : List Nat) : ∀ u ∈ bcells l, u.oneCell' = true := by
  intro u hu
  simp only [bcells, List.mem_map] at hu
  obtain ⟨x, _, rfl⟩ := hu
  rfl
theorem bcells_at {l : List Nat} {j : Nat} {u : Value} (h : (bcells l)[j]? = some u) : ∃ hj : j < l.length, u = .int .u8 (l[j] : Int) := by
  unfold bcells at h
  rw [List.getElem?_map] at h
  obtain ⟨x, hx, rfl⟩ := Option.map_eq_some_iff.1 h
  obtain ⟨hj, rfl⟩ := List.getElem?_eq_some_iff.1 hx
  exact ⟨hj, rfl⟩
/-- v is a slice that reads as the bytes l. -/
def BSl (w : World) (v : Value) (l : List Nat) : Prop :=
  ∃ (a : Option Addr) (cap : Nat), v = .slice a l.length cap ∧ l.length ≤ cap ∧ cap ≤ maxLen ∧ (∀ x ∈ l, x < 256) ∧ (a = none → l = [] ∧ cap = 0) ∧
    (∀ p, a = some p → ∀ j (h : j < l.length), w.cell? (p.add j) = some (.int .u8 ((l[j]'h : Nat) : Int)))
theorem bsl_of_row {W : World} {a : Option Addr} {len cap : Nat} {zs : List Int} (h : IsRow .u8 W a len cap zs) : BSl W (.slice a len cap) ((zs.take len).map Int.toNat) ∧ ((zs.take len).map Int.toNat).length = len := by
  rcases h with ⟨rfl, rfl, rfl, rfl⟩ | ⟨x, rfl, h1, h2, h3, h4, h5⟩
  · exact ⟨⟨none, 0, rfl, by simp, by simp, by simp, fun _ => ⟨rfl, rfl⟩, by simp⟩, rfl⟩
  · have hb : ∀ n ∈ zs, 0 ≤ n ∧ n < 256 := fun n hn => by
      have := h5 n hn
      simp [Lit.wf, IntKind.min, IntKind.max, IntKind.bits, IntKind.signed] at this
      omega
    have hl : ((zs.take len).map Int.toNat).length = len := by simp; omega
    refine ⟨⟨some x, cap, by rw [hl], by rw [hl]; exact h1, h2, ?_, by simp, ?_⟩, hl⟩
    · intro y hy
      simp only [List.mem_map] at hy
      obtain ⟨n, hn, rfl⟩ := hy
      have := hb n (List.mem_of_mem_take hn)
      omega
    · intro p hp j hj
      obtain rfl : x = p := Option.some.inj hp
      rw [hl] at hj
      have hjz : j < zs.length := by omega
      rw [h4 j hjz]
      have hz := hb zs[j] (List.getElem_mem hjz)
      simp [List.getD, List.getElem?_eq_getElem hjz]
      omega
theorem BSl.below {w w' : World} {v : Value} {l : List Nat} (h : BSl w v l) {B : Nat} (hb : Below B w w') (hB : ∀ p n c, v = .slice (some p) n c → p.block < B) : BSl w' v l := by
  obtain ⟨a, cap, hv, h1, h2, h3, h4, h5⟩ := h
  refine ⟨a, cap, hv, h1, h2, h3, h4, fun p hp j hj => ?_⟩
  subst hp
  have hlt := hB p _ _ hv
  rw [hb.cell (p := p.add j) (by unfold Addr.add; split <;> exact hlt)]
  exact h5 p rfl j hj
theorem BSl.old {w w' : World} {v : Value} {l : List Nat} (h : BSl w v l) (hb : Below w.heap.size w w') : BSl w' v l := by
  obtain ⟨a, cap, hv, h1, h2, h3, h4, h5⟩ := h
  refine ⟨a, cap, hv, h1, h2, h3, h4, fun p hp j hj => ?_⟩
  have hc := h5 p hp j hj
  rw [hb.cell (p := p.add j) (World.block_lt_of_cell? w _ hc)]
  exact hc
/-- v is a slice of bytes of its own, above B. -/
def OB (w : World) (B : Nat) (v : Value) (l : List Nat) : Prop := w.ownsRow B 5 1 v l.length (bcells l) ∧ v ≠ .slice none 0 0 ∧ ∀ x ∈ l, x < 256
theorem OB.form {w : World} {B : Nat} {v : Value} {l : List Nat} (h : OB w B v l) : ∃ g cap, v = .slice (some ⟨g, 0, none⟩) l.length cap ∧ B ≤ g ∧ g < w.heap.size ∧ l.length ≤ cap ∧ cap ≤ maxLen := by
  rcases h.1.2 with ⟨hv, _⟩ | ⟨g, cap, cur, hv, hb, hh, h1, h2, _⟩
  · exact absurd hv h.2.1
  · exact ⟨g, cap, hv, hb, (Array.getElem?_eq_some_iff.1 hh).1, h1, h2⟩
theorem OB.bsl {w : World} {B : Nat} {v : Value} {l : List Nat} (h : OB w B v l) : BSl w v l := by
  obtain ⟨g, cap, rfl, hb, hg, h1, h2⟩ := h.form
  refine ⟨_, cap, rfl, h1, h2, h.2.2, by simp, fun p hp j hj => ?_⟩
  obtain rfl := Option.some.inj hp
  exact h.1.cells (g := g) rfl j _ (by simp [bcells, hj])
theorem OB.below {w w' : World} {B : Nat} {v : Value} {l : List Nat} (h : OB w B v l) (hb : Below w.heap.size w w') : OB w' B v l := ⟨own_below h.1 hb, h.2⟩
theorem OB.base {w : World} {B C : Nat} {v : Value} {l : List Nat} (h : OB w B v l) (hC : C ≤ B) : OB w C v l := by
  refine ⟨⟨h.1.1, ?_⟩, h.2⟩
  rcases h.1.2 with h0 | ⟨g, cap, cur, hv, hb, hrest⟩
  · exact .inl h0
  · exact .inr ⟨g, cap, cur, hv, Nat.le_trans hC hb, hrest⟩
theorem ob_new (w : World) (B : Nat) (hB : B ≤ w.heap.size) : OB (w.alloc (.cells #[] 5)) B (.slice (some ⟨w.heap.size, 0, none⟩) 0 0) [] :=
  ⟨⟨rfl, .inr ⟨w.heap.size, 0, #[], rfl, hB, heap_alloc_new w _, Nat.le_refl _, by unfold maxLen; omega, rfl, rfl⟩⟩, by simp, by simp⟩
theorem Tryz.infoByte : (Tryz.prog.info? 5).map (fun i => (i.zero, i.size, i.bytes)) = some (some (.int .u8 0), 1, 1) := by kernel_rfl
section
variable {w : World} {v sv : Value} {xs l : List Nat}
theorem app_bsl {o : Oper} {a : Act} {K : Act → World → Prop} {Q : Exit → Act → World → Prop} (hgd : o.guard = none) (s x : Operand)
    (ho : o.op = .call { callee := .builtin .append, args := #[s, x], argTypes := #[22, 22] })
    (B : Nat) (hs : a.eval s = v) (hx : a.eval x = sv) (hown : OB w B v xs) (hsrc : BSl w sv l) (hlen : xs.length + l.length ≤ 140737488355328) (hB : B ≤ w.heap.size)
    (h : ∀ v' w', OB w' B v' (xs ++ l) → Below B w w' → w.grownBy w' v.ownBlock → K (a.put o.dst v') w') : o.wp Tryz.prog a w K Q := by
  obtain ⟨i0, hi, hz0, hz1, hz2⟩ := info_parts Tryz.infoByte
  obtain ⟨ad, cap, rfl, h1, h2, h3, h4, h5⟩ := hsrc
  cases ad with
  | none =>
    obtain ⟨rfl, rfl⟩ := h4 rfl
    have hrun := run_append_owned_none (P := Tryz.prog) (w := w) B 22 o.type 5 i0 1 Tryz.underlying22 hi v _ _ hown.1
    unfold Oper.wp
    simp [execOp, ho, resolve, invoke, builtin, hs, hx, hrun, Result.andThen]
    exact h _ _ (by simpa using hown) (Below.refl _ _) ⟨rfl, rfl, rfl, Nat.le_refl _, fun _ _ _ => rfl⟩
  | some p =>
    refine wp_append_own _ s x 22 ho B 5 i0 _ 1 1 Tryz.underlying22 hi hz0 hz1 hz2 rfl (by decide) v _ _ hs hown.1 p l.length cap (bcells l) hx (by simp) ?_ (bcells_one l) (by unfold maxLen; omega) (by omega) hB ?_
    · intro j u hj
      obtain ⟨hj', rfl⟩ := bcells_at hj
      exact h5 p rfl j hj'
    · intro v' w' hown' hg hnil
      refine h v' w' ⟨by simpa [bcells] using hown', fun e => hown.2.1 (hnil.1 e).1, ?_⟩ ((Below.refl B w).grown hg hB fun k hk => (hown.1.lt k hk).1) hg
      intro y hy
      rcases List.mem_append.1 hy with hy | hy
      · exact hown.2.2 y hy
      · exact h3 y hy
theorem wpList_app_bsl {ops : Array Oper} {rest : List Oper} {o : Oper} {a : Act} {Q : Exit → Act → World → Prop} (hgd : o.guard = none) (s x : Operand)
    (ho : o.op = .call { callee := .builtin .append, args := #[s, x], argTypes := #[22, 22] })
    (B : Nat) (hs : a.eval s = v) (hx : a.eval x = sv) (hown : OB w B v xs) (hsrc : BSl w sv l) (hlen : xs.length + l.length ≤ 140737488355328) (hB : B ≤ w.heap.size)
    (h : ∀ v' w', OB w' B v' (xs ++ l) → Below B w w' → w.grownBy w' v.ownBlock → wpList Tryz.prog ops Q rest (a.put o.dst v') w') : wpList Tryz.prog ops Q (o :: rest) a w :=
  wpList_plain hgd fun _ hK => app_bsl hgd s x ho B hs hx hown hsrc hlen hB fun v' w' h1 h2 h3 => hK _ _ (h v' w' h1 h2 h3)
theorem step_app_bsl {ops : Array Oper} {o : Oper} {a : Act} {K : Act → World → Prop} {Q : Exit → Act → World → Prop} {E : Prop} (hgd : o.guard = none) (s x : Operand)
    (ho : o.op = .call { callee := .builtin .append, args := #[s, x], argTypes := #[22, 22] })
    (B : Nat) (hs : a.eval s = v) (hx : a.eval x = sv) (hown : OB w B v xs) (hsrc : BSl w sv l) (hlen : xs.length + l.length ≤ 140737488355328) (hB : B ≤ w.heap.size)
    (h : ∀ v' w', OB w' B v' (xs ++ l) → Below B w w' → w.grownBy w' v.ownBlock → K (a.put o.dst v') w') :
    if Region.wanted o (yielded ops a.tmps) = true then Oper.wp Tryz.prog o a w K Q else E := by
  have hw : Region.wanted o (yielded ops a.tmps) = true := by simp [Region.wanted, hgd]
  rw [if_pos hw]
  exact app_bsl hgd s x ho B hs hx hown hsrc hlen hB h
end
/-- v[k:] -/
theorem slice_from (w : World) (a : Option Addr) (n cap k : Nat) (hk : k ≤ n) :
    (Instr.slice 22 (.slice a n cap) (some (.int .i64 (k : Int))) none none).run Tryz.prog w = .ok (.slice (if cap = k then a else a.map (·.add (k * 1))) (n - k) (cap - k)) w := by
  simp [Instr.slice, run_underlying Tryz.underlying22, Instr.sliceBounds, Instr.sliceBound, asIntOf, hk, Tryz.sizeOf5]
theorem BSl.from {w : World} {a : Option Addr} {n cap : Nat} {l : List Nat} (h : BSl w (.slice a n cap) l) (k : Nat) (hk : k ≤ n) : BSl w (.slice (if cap = k then a else a.map (·.add (k * 1))) (n - k) (cap - k)) (l.drop k) := by
  obtain ⟨a', cap', hv, h1, h2, h3, h4, h5⟩ := h
  injection hv with e1 e2 e3
  subst e1 e2 e3
  refine ⟨if cap = k then a else a.map (·.add (k * 1)), cap - k, by rw [List.length_drop], by rw [List.length_drop]; omega, by omega, fun x hx => h3 x (List.mem_of_mem_drop hx), fun hn => ?_, fun p hp j hj => ?_⟩
  · split at hn
    · obtain ⟨e, e2⟩ := h4 hn
      exact ⟨by simp [e], by omega⟩
    · rw [Option.map_eq_none_iff] at hn
      obtain ⟨e, e2⟩ := h4 hn
      exact ⟨by simp [e], by omega⟩
  · have hj' : j < l.length - k := by simpa using hj
    split at hp
    · omega
    · obtain ⟨q, rfl, rfl⟩ := Option.map_eq_some_iff.1 hp
      rw [Addr.add_add, h5 q rfl (k * 1 + j) (by omega)]
      simp
end Go.Proofs.YtndeolcamgnmdaaGreatDoor
namespace Go.Proofs.YtndeolcamgnmdaaGreatDoor
open Go.RowKit
theorem slice_at {w : World} {a : Option Addr} {n cap : Nat} {k : Int} {sv : Value} (h : (Instr.slice 22 (.slice a n cap) (some (.int .i64 k)) none none).run Tryz.prog w = .ok sv w) (hk0 : ∃ m : Nat, k = m ∧ m ≤ n) (w' : World) :
    (Instr.slice 22 (.slice a n cap) (some (.int .i64 k)) none none).run Tryz.prog w' = .ok sv w' := by
  have hk : ∃ m : Nat, k = m ∧ m ≤ n := hk0
  obtain ⟨m, rfl, hm⟩ := hk
  rw [slice_from w' a n cap m hm]
  rw [slice_from w a n cap m hm] at h
  injection h with h1 h2
  rw [h1]
def CutPost (l : List Nat) (w : World) (e : Ending) (w' : World) : Prop := ∃ v, e = .returned v ∧ OB w' w.heap.size v (strip l) ∧ Below w.heap.size w w'
set_option maxRecDepth 20000 in
set_option maxHeartbeats 2000000 in
theorem cut_any (a : Option Addr) (n cap : Nat) (l : List Nat) (w : World) (hb : BSl w (.slice a n cap) l) (hl : l.length ≤ 70368744177664) :
    Calls Tryz.prog 20 #[.slice a n cap] w (CutPost l w) := by
  have hn : n = l.length := by obtain ⟨_, _, hv, _⟩ := hb; injection hv
  have hB := Lib.hid hb
  have HN := Lib.hid hn
  cases a with
  | none =>
    have h0 : l = [] ∧ cap = 0 := by obtain ⟨a', c', hv, _, _, _, h4, _⟩ := hb; injection hv with e1 e2 e3; subst e1 e3; exact h4 rfl
    obtain ⟨rfl, rfl⟩ := h0
    obtain rfl : n = 0 := hn
    clear hb HN
    have hob := ob_new w w.heap.size (Nat.le_refl _)
    have hbn := Lib.hid (hB.out.old ((Below.refl _ w).alloc (Nat.le_refl _) (.cells #[] 5)))
    clear hob
    go_enter Tryz.func20, Tryz.ntmps20
    go_wp2_with fail
    refine wp_loop_rounds 1 ?_
    rw [rounds_succ]
    go_wp2_with (at_builtin; refine wpList_app_bsl rfl _ _ rfl w.heap.size rfl rfl (ob_new w w.heap.size (Nat.le_refl _)) hbn.out (by simp) (by simp) ?_; intro v' w' hob hbw _)
    go_ret
    exact ⟨v', rfl, by simpa [strip] using hob, ((Below.refl _ w).alloc (Nat.le_refl _) _).trans hbw⟩
  | some p =>
    have h5 : ∀ j (h : j < l.length), w.cell? (p.add j) = some (.int .u8 ((l[j]'h : Nat) : Int)) := by obtain ⟨a', c', hv, _, _, _, _, h5⟩ := hb; injection hv with e1 e2 e3; subst e1; exact h5 p rfl
    have hncap : n ≤ cap ∧ cap ≤ maxLen := by obtain ⟨a', c', hv, h1, h2, _⟩ := hb; injection hv with e1 e2 e3; subst e3; omega
    obtain ⟨hnc, hcm⟩ := hncap
    unfold maxLen at hcm
    have H5 := Lib.hid h5
    have hn60 : n ≤ 70368744177664 := by omega
    clear hb hn h5 hl
    go_enter Tryz.func20, Tryz.ntmps20
    go_wp2_with fail
    go_loop [3] (fun i => ∃ k : Nat, k ≤ n ∧ i = .int .i64 k ∧ Hid (∀ j (hj : j < l.length), j < k → l[j]'hj = 0)) (fun i => n - (intOf i).toNat)
    case atStart => exact ⟨0, by omega, rfl, fun j hj h => by omega⟩
    case round =>
      obtain ⟨k, hk, rfl, hz⟩ := hrel
      by_cases hkn : k < n
      · have hkl : k < l.length := by have := HN.out; omega
        have hc := H5.out k hkl
        have hd : decide ((k : Int) < (n : Int)) = true := by simp; omega
        by_cases h0 : l[k]'hkl = 0
        · have hb0 : (((l[k]'hkl : Nat) : Int) == 0) = true := by rw [beq_iff_eq]; omega
          have H0 := Lib.hid h0
          clear h0
          go_wp2
          go_round
          case rel => exact ⟨k + 1, by omega, by go_num, fun j hj hjk => by
            by_cases e : j = k
            · subst e; exact H0.out
            · exact hz.out j hj (by omega)⟩
          case measure => simp [intOf]; omega
        · have hb0 : (((l[k]'hkl : Nat) : Int) == 0) = false := by rw [beq_eq_false_iff_ne]; omega
          have HNE : Hid (∀ h : k < l.length, l[k]'h ≠ 0) := fun _ => h0
          have HL : Hid (n = l.length) := HN
          clear h0
          have HSL := Lib.hid (slice_from w (some p) n cap k (by have := HN.out; omega))
          have HB := Lib.hid (hB.out.from k (by have := HN.out; omega))
          have HST := Lib.hid (strip_drop l k (by have := HN.out; omega) (fun j hj hjk => hz.out j hj hjk) HNE.out)
          obtain ⟨sv, hsv⟩ : ∃ sv, sv = Value.slice (if cap = k then some p else (some p).map (·.add (k * 1))) (n - k) (cap - k) := ⟨_, rfl⟩
          have hsl := HSL.out
          have hbsl := HB.out
          rw [← hsv] at hsl hbsl
          have hbsl' := Lib.hid (BSl.old hbsl ((Below.refl _ w).alloc (Nat.le_refl _) (.cells #[] 5)))
          clear hsv hbsl
          have hsl2 := slice_at hsl ⟨k, rfl, by omega⟩ (w.alloc (.cells #[] 5))
          clear hsl
          go_wp2_with (at_builtin; refine wpList_app_bsl rfl _ _ rfl w.heap.size rfl rfl (ob_new w w.heap.size (Nat.le_refl _)) hbsl'.out (by have := HN.out; rw [List.length_drop]; simp; omega) (by simp) ?_; intro v' w' hob hbw _)
          go_ret
          refine ⟨v', rfl, ?_, ((Below.refl _ w).alloc (Nat.le_refl _) _).trans hbw⟩
          rw [HST.out]
          simpa using hob
      · obtain rfl : k = n := by omega
        have hd : decide ((k : Int) < (k : Int)) = false := by simp
        have HNE : Hid (∀ h : k < l.length, l[k]'h ≠ 0) := fun h => by have := HN.out; omega
        have HSL := Lib.hid (slice_from w (some p) k cap k (by have := HN.out; omega))
        have HB := Lib.hid (hB.out.from k (by have := HN.out; omega))
        have HST := Lib.hid (strip_drop l k (by have := HN.out; omega) (fun j hj hjk => hz.out j hj hjk) HNE.out)
        obtain ⟨sv, hsv⟩ : ∃ sv, sv = Value.slice (if cap = k then some p else (some p).map (·.add (k * 1))) (k - k) (cap - k) := ⟨_, rfl⟩
        have hsl := HSL.out
        have hbsl := HB.out
        rw [← hsv] at hsl hbsl
        have hbsl' := Lib.hid (BSl.old hbsl ((Below.refl _ w).alloc (Nat.le_refl _) (.cells #[] 5)))
        clear hsv hbsl
        have hsl2 := slice_at hsl ⟨k, rfl, by omega⟩ (w.alloc (.cells #[] 5))
        clear hsl
        go_wp2_with (at_builtin; refine wpList_app_bsl rfl _ _ rfl w.heap.size rfl rfl (ob_new w w.heap.size (Nat.le_refl _)) hbsl'.out (by have := HN.out; rw [List.length_drop]; simp; omega) (by simp) ?_; intro v' w' hob hbw _)
        go_ret
        refine ⟨v', rfl, ?_, ((Below.refl _ w).alloc (Nat.le_refl _) _).trans hbw⟩
        rw [HST.out]
        simpa using hob
end Go.Proofs.YtndeolcamgnmdaaGreatDoor
namespace Go.Proofs.YtndeolcamgnmdaaGreatDoor
open Go.RowKit
/-- An integer of the reference: its sign, its bytes. -/
def SInt (w : World) (B : Nat) (v : Value) (neg : Bool) (l : List Nat) : Prop := ∃ vs, v = .agg #[.bool neg, vs] ∧ OB w B vs l ∧ l.head? ≠ some 0 ∧ (neg = true → l ≠ [])
theorem SInt.below {w w' : World} {B : Nat} {v : Value} {neg : Bool} {l : List Nat} (h : SInt w B v neg l) (hb : Below w.heap.size w w') : SInt w' B v neg l := by
  obtain ⟨vs, hv, h1, h2⟩ := h
  exact ⟨vs, hv, h1.below hb, h2⟩
theorem SInt.base {w : World} {B C : Nat} {v : Value} {neg : Bool} {l : List Nat} (h : SInt w B v neg l) (hC : C ≤ B) : SInt w C v neg l := by
  obtain ⟨vs, hv, h1, h2⟩ := h
  exact ⟨vs, hv, h1.base hC, h2⟩
/-- An integer of the program's thin package. -/
def IVal (w : World) (B : Nat) (v : Value) (neg : Bool) (l : List Nat) : Prop := ∃ vs, v = .agg #[.int .i64 2, .bool neg, vs, .int .u64 0, .string ⟨#[]⟩, .slice none 0 0] ∧ OB w B vs l ∧ l.head? ≠ some 0 ∧ (neg = true → l ≠ [])
theorem IVal.below {w w' : World} {B : Nat} {v : Value} {neg : Bool} {l : List Nat} (h : IVal w B v neg l) (hb : Below w.heap.size w w') : IVal w' B v neg l := by
  obtain ⟨vs, hv, h1, h2⟩ := h
  exact ⟨vs, hv, h1.below hb, h2⟩
theorem IVal.base {w : World} {B C : Nat} {v : Value} {neg : Bool} {l : List Nat} (h : IVal w B v neg l) (hC : C ≤ B) : IVal w C v neg l := by
  obtain ⟨vs, hv, h1, h2⟩ := h
  exact ⟨vs, hv, h1.base hC, h2⟩
/-- The sign that is kept: 0 has none. -/
def negOf (neg : Bool) (l : List Nat) : Bool := neg && !(strip l).isEmpty
theorem OB.set {w : World} {B g n c : Nat} {v : Value} {l : List Nat} (h : OB w B v l) (hv : v = .slice (some ⟨g, 0, none⟩) n c) {p : Addr} (hp : ¬ g = p.block) (u : Value) : OB (w.setCell p u) B v l := by
  refine ⟨ownsRow_setCell_other h.1 (a := p) ?_ u, h.2⟩
  subst hv
  simpa [Value.ownBlock] using hp
def OfPost (neg : Bool) (l : List Nat) (w : World) (e : Ending) (w' : World) : Prop := ∃ v, e = .returned v ∧ SInt w' w.heap.size v (negOf neg l) (strip l) ∧ Below w.heap.size w w'
set_option maxHeartbeats 2000000 in
theorem of_any (neg : Bool) (a : Option Addr) (n cap : Nat) (l : List Nat) (w : World) (hb : BSl w (.slice a n cap) l) (hl : l.length ≤ 70368744177664) :
    Calls Tryz.prog 11 #[.bool neg, .slice a n cap] w (OfPost neg l w) := by
  have hB := Lib.hid (hb.old ((Below.refl _ w).alloc (Nat.le_refl _) (.cells #[.bool false, .slice none 0 0] 24)))
  have HL := Lib.hid hl
  have hK := Lib.hid (Blk.new w 24 #[.bool false, .slice none 0 0])
  clear hb hl
  go_enter Tryz.func11, Tryz.ntmps11
  go_wp2_with fail
  refine (cut_any a n cap l _ hB.out HL.out).mono ?_
  rintro e w1 ⟨v, rfl, hob, hb1⟩
  have k0 := hK.out.below hb1 hK.out.lt
  have c0 := k0.cell 0
  have c1 := k0.cell 1
  have f0 := k0.frozen 0
  have f1 := k0.frozen 1
  simp only [List.getElem?_toArray, List.getElem?_cons_zero, List.getElem?_cons_succ] at c0 c1
  obtain ⟨g, c, hv, hg1, hg2, _, _⟩ := hob.form
  have hgz : ¬ g = w.heap.size := by simp at hg1; omega
  have HOB := Lib.hid (hob.base (C := w.heap.size) (by simp))
  have hbw : Below w.heap.size w w1 := ((Below.refl _ w).alloc (Nat.le_refl _) _).trans (hb1.mono (by simp))
  have hlen : ((strip l).length : Int) = ((strip l).length : Int) := rfl
  obtain ⟨m, hm⟩ : ∃ m, m = (strip l).length := ⟨_, rfl⟩
  have HM := Lib.hid hm
  rw [← hm] at hv
  have HV := Lib.hid hv
  subst hv
  have HHEAD := Lib.hid (strip_head l)
  clear hb1 hob hB hK hg1 hg2 hlen hm
  cases neg with
  | false =>
    go_wp2
    refine bodyPost_ret (v := .agg #[.bool false, .slice (some ⟨g, 0, none⟩) m c]) (by simp [results, Tryz.results11, go_sem, c0, c1]) rfl ⟨_, rfl, ⟨.slice (some ⟨g, 0, none⟩) m c, rfl, ((OB.set (OB.set (v := .slice (some ⟨g, 0, none⟩) m c) HOB.out rfl (p := ⟨w.heap.size, 0, none⟩) hgz _) rfl (p := ⟨w.heap.size, 1, none⟩) hgz _)), HHEAD.out, fun h => by simp [negOf] at h⟩, (hbw.setCell (p := ⟨w.heap.size, 0, none⟩) (Nat.le_refl _) _).setCell (p := ⟨w.heap.size, 1, none⟩) (Nat.le_refl _) _⟩
  | true =>
    by_cases h0 : 0 < m
    · have hd : decide ((0 : Int) < (m : Int)) = true := by simp; omega
      have hnn : strip l ≠ [] := fun e => by have := HM.out; rw [e] at this; simp at this; omega
      have HNN := Lib.hid hnn
      have HNG : Hid (negOf true l = true) := by unfold Hid negOf; cases hs : strip l with | nil => exact absurd hs hnn | cons x r => rfl
      clear hnn
      go_wp2
      refine bodyPost_ret (v := .agg #[.bool true, .slice (some ⟨g, 0, none⟩) m c]) (by simp [results, Tryz.results11, go_sem, c0, c1]) rfl ⟨_, rfl, ⟨.slice (some ⟨g, 0, none⟩) m c, by rw [HNG.out], ((OB.set (OB.set (v := .slice (some ⟨g, 0, none⟩) m c) HOB.out rfl (p := ⟨w.heap.size, 0, none⟩) hgz _) rfl (p := ⟨w.heap.size, 1, none⟩) hgz _)), HHEAD.out, fun _ => HNN.out⟩, (hbw.setCell (p := ⟨w.heap.size, 0, none⟩) (Nat.le_refl _) _).setCell (p := ⟨w.heap.size, 1, none⟩) (Nat.le_refl _) _⟩
    · have hd : decide ((0 : Int) < (m : Int)) = false := by simp; omega
      have HNG : Hid (negOf true l = false) := by
        have : strip l = [] := List.eq_nil_of_length_eq_zero (by have := HM.out; omega)
        unfold Hid negOf; rw [this]; rfl
      go_wp2
      refine bodyPost_ret (v := .agg #[.bool false, .slice (some ⟨g, 0, none⟩) m c]) (by simp [results, Tryz.results11, go_sem, c0, c1]) rfl ⟨_, rfl, ⟨.slice (some ⟨g, 0, none⟩) m c, by rw [HNG.out], ((OB.set (OB.set (v := .slice (some ⟨g, 0, none⟩) m c) HOB.out rfl (p := ⟨w.heap.size, 0, none⟩) hgz _) rfl (p := ⟨w.heap.size, 1, none⟩) hgz _)), HHEAD.out, fun h => by rw [HNG.out] at h; simp at h⟩, (hbw.setCell (p := ⟨w.heap.size, 0, none⟩) (Nat.le_refl _) _).setCell (p := ⟨w.heap.size, 1, none⟩) (Nat.le_refl _) _⟩
end Go.Proofs.YtndeolcamgnmdaaGreatDoor
namespace Go.Proofs.YtndeolcamgnmdaaGreatDoor
open Go.RowKit
theorem ob_new_at (w : World) (B n : Nat) (hn : w.heap.size = n) (hB : B ≤ n) : OB (w.alloc (.cells #[] 5)).drew B (.slice (some ⟨n, 0, none⟩) 0 0) [] := by
  subst hn
  obtain ⟨h1, h2⟩ := ob_new w B hB
  exact ⟨h1.drew, h2⟩
theorem blk2 {w : World} {g : Nat} {t : TypeId} {a b : Value} (h : Blk w g t #[a, b]) :
    w.cell? ⟨g, 0, none⟩ = some a ∧ w.cell? ⟨g, 1, none⟩ = some b ∧ w.frozen? ⟨g, 0, none⟩ = false ∧ w.frozen? ⟨g, 1, none⟩ = false :=
  ⟨(h.cell 0).trans rfl, (h.cell 1).trans rfl, h.frozen 0, h.frozen 1⟩
theorem blk6 {w : World} {g : Nat} {t : TypeId} {a b c d e f : Value} (h : Blk w g t #[a, b, c, d, e, f]) :
    w.cell? ⟨g, 0, none⟩ = some a ∧ w.cell? ⟨g, 1, none⟩ = some b ∧ w.cell? ⟨g, 2, none⟩ = some c ∧ w.cell? ⟨g, 3, none⟩ = some d ∧ w.cell? ⟨g, 4, none⟩ = some e ∧ w.cell? ⟨g, 5, none⟩ = some f ∧
    w.frozen? ⟨g, 0, none⟩ = false ∧ w.frozen? ⟨g, 1, none⟩ = false ∧ w.frozen? ⟨g, 2, none⟩ = false ∧ w.frozen? ⟨g, 3, none⟩ = false ∧ w.frozen? ⟨g, 4, none⟩ = false ∧ w.frozen? ⟨g, 5, none⟩ = false :=
  ⟨(h.cell 0).trans rfl, (h.cell 1).trans rfl, (h.cell 2).trans rfl, (h.cell 3).trans rfl, (h.cell 4).trans rfl, (h.cell 5).trans rfl, h.frozen 0, h.frozen 1, h.frozen 2, h.frozen 3, h.frozen 4, h.frozen 5⟩
theorem two_set (w : World) (b : Nat) (u0 u1 : Value) : Only (· = b) w ((w.setCell ⟨b, 0, none⟩ u0).setCell ⟨b, 1, none⟩ u1) :=
  ((Only.refl (fun x => x = b) w).setCell (p := ⟨b, 0, none⟩) (.inl (rfl : b = b)) u0).setCell (p := ⟨b, 1, none⟩) (.inl (rfl : b = b)) u1
theorem six_set (w : World) (b : Nat) (u0 u1 u2 u3 u4 u5 : Value) : Only (· = b) w ((((((w.setCell ⟨b, 0, none⟩ u0).setCell ⟨b, 1, none⟩ u1).setCell ⟨b, 2, none⟩ u2).setCell ⟨b, 3, none⟩ u3).setCell ⟨b, 4, none⟩ u4).setCell ⟨b, 5, none⟩ u5) :=
  ((((two_set w b u0 u1).setCell (p := ⟨b, 2, none⟩) (.inl rfl) u2).setCell (p := ⟨b, 3, none⟩) (.inl rfl) u3).setCell (p := ⟨b, 4, none⟩) (.inl rfl) u4).setCell (p := ⟨b, 5, none⟩) (.inl rfl) u5
theorem OB.only {w w' : World} {B : Nat} {S : Nat → Prop} {v : Value} {l : List Nat} (h : OB w B v l) (k : Only S w w') (hs : ∀ g, B ≤ g → ¬ S g) : OB w' B v l :=
  ⟨own_only h.1 k fun g hg => hs g (h.1.lt g hg).1, h.2⟩
theorem told_below (w w5 : World) (a b : Obj) (h : Below (w.heap.size + 1 + 1) (((w.alloc a).alloc b).alloc (.cells #[] 5)).drew w5) : Below w.heap.size w w5 :=
  (((((Below.refl _ w).alloc (Nat.le_refl _) a).alloc (by simp) b).alloc (by simp; omega) _).drew).trans (h.mono (by omega))
end Go.Proofs.YtndeolcamgnmdaaGreatDoor
namespace Go.Proofs.YtndeolcamgnmdaaGreatDoor
open Go.RowKit
/-- v[:k] -/
theorem slice_to (w : World) (a : Option Addr) (n cap k : Nat) (hk : k ≤ cap) :
    (Instr.slice 22 (.slice a n cap) none (some (.int .i64 (k : Int))) none).run Tryz.prog w = .ok (.slice (if cap = 0 then a else a.map (·.add (0 * 1))) k cap) w := by
  simp [Instr.slice, run_underlying Tryz.underlying22, Instr.sliceBounds, Instr.sliceBound, asIntOf, hk, Tryz.sizeOf5]
theorem BSl.to {w : World} {a : Option Addr} {n cap : Nat} {l : List Nat} (h : BSl w (.slice a n cap) l) (k : Nat) (hk : k ≤ n) : BSl w (.slice (if cap = 0 then a else a.map (·.add (0 * 1))) k cap) (l.take k) := by
  obtain ⟨a', cap', hv, h1, h2, h3, h4, h5⟩ := h
  injection hv with e1 e2 e3
  subst e1 e2 e3
  have hl : (l.take k).length = k := by simp; omega
  refine ⟨if cap = 0 then a else a.map (·.add (0 * 1)), cap, by rw [hl], by rw [hl]; omega, h2, fun x hx => h3 x (List.mem_of_mem_take hx), fun hn => ?_, fun p hp j hj => ?_⟩
  · split at hn
    · obtain ⟨e, e2⟩ := h4 hn
      exact ⟨by simp [e], e2⟩
    · rw [Option.map_eq_none_iff] at hn
      obtain ⟨e, e2⟩ := h4 hn
      exact ⟨by simp [e], e2⟩
  · have hj' : j < l.length := by omega
    split at hp
    · rw [h5 p hp j hj']; simp
    · obtain ⟨q, rfl, rfl⟩ := Option.map_eq_some_iff.1 hp
      rw [Addr.add_add, Nat.zero_mul, Nat.zero_add, h5 q rfl j hj']
      simp
end Go.Proofs.YtndeolcamgnmdaaGreatDoor
