/- generate: the walk (not done). -/
import Derived.Test.YtkddmiamdpbgiaaIns
import Derived.Test.YtkddmiamdpbgiaaAppRow
import Derived.RegionTactic
import Derived.ChangeAlike
import Derived.Deep.QuietTactic
import Derived.BigQuiet
import Derived.Deep.LoopGhost
import Derived.Deep.Cut
import Derived.Deep.CutRange
namespace Go.Proofs.Ytkddmiamdpbgiaa
open Go.RowKit
/-- Blocks of kinds outside S stay. -/
def KS (S : TypeId → Prop) (w w' : World) : Prop := ∀ (i : Nat) (e : TypeId) (cs : Array Value) (fz : Nat × Nat), w.heap[i]? = some (Obj.cells cs e fz) → ¬ S e → w'.heap[i]? = some (Obj.cells cs e fz)
def NH (B : Nat) (w : World) (v : Value) (l : List Nat) : Prop := w.ownsRow B 35 1 v l.length (l.map fun (x : Nat) => Value.int .u16 (x : Int))
def funCells (f : Option Addr) (ln c : Int) (code tab : Value) (o1 o2 o3 : Value) (lnt : Value) : Array Value :=
  #[.pointer none, .pointer f, .int .i32 ln, .int .i32 c, .string ⟨#[]⟩, .string ⟨#[]⟩, code, tab, .slice none 0 0, .slice none 0 0, .slice none 0 0, .int .i64 0, .int .i64 0, .int .i64 0, .bool false, .bool false, o1, o2, o3, lnt]
/-- The slice of instructions. -/
def InsAt (w : World) (a : Option Addr) (l : List Ins) : Prop := l = [] ∨ ∃ I, a = some ⟨I, 0, none⟩ ∧ I < w.heap.size ∧ ∀ j (h : j < l.length), w.cell? ⟨I, j * 4, none⟩ = some (.int .u8 ((l[j]'h).op : Int)) ∧ w.cell? ⟨I, j * 4 + 1, none⟩ = some (.int .u32 ((l[j]'h).arg : Int)) ∧ w.cell? ⟨I, j * 4 + 2, none⟩ = some (.int .i32 (l[j]'h).line) ∧ w.cell? ⟨I, j * 4 + 3, none⟩ = some (.int .i32 (l[j]'h).col)
theorem InsAt.below {w w' : World} {a : Option Addr} {l : List Ins} (h : InsAt w a l) (hb : Below w.heap.size w w') : InsAt w' a l := by
  rcases h with h | ⟨I, ha, hI, hc⟩
  · exact .inl h
  · refine .inr ⟨I, ha, Nat.lt_of_lt_of_le hI hb.size, fun j hj => ?_⟩
    obtain ⟨c0, c1, c2, c3⟩ := hc j hj
    exact ⟨(hb.cell (p := ⟨I, _, none⟩) hI).trans c0, (hb.cell (p := ⟨I, _, none⟩) hI).trans c1, (hb.cell (p := ⟨I, _, none⟩) hI).trans c2, (hb.cell (p := ⟨I, _, none⟩) hI).trans c3⟩
theorem blk3 {w : World} {g : Nat} {t : TypeId} {a b c : Value} (h : Blk w g t #[a, b, c]) :
    w.cell? ⟨g, 0, none⟩ = some a ∧ w.cell? ⟨g, 1, none⟩ = some b ∧ w.cell? ⟨g, 2, none⟩ = some c ∧ w.frozen? ⟨g, 0, none⟩ = false ∧ w.frozen? ⟨g, 1, none⟩ = false ∧ w.frozen? ⟨g, 2, none⟩ = false :=
  ⟨(h.cell 0).trans rfl, (h.cell 1).trans rfl, (h.cell 2).trans rfl, h.frozen 0, h.frozen 1, h.frozen 2⟩
theorem wpList_append_one_at {P : Program} {ops : Array Oper} {rest : List Oper} {o : Oper} {a : Act} {Q : Exit → Act → World → Prop} {W : World} (hgd : o.guard = none) (s x : Operand) (t : TypeId)
    (ho : o.op = .call { callee := .builtin .append, args := #[s, x], argTypes := #[t, t] })
    (w : World) (N : Nat) (hN : w.heap.size = N) (base : Nat) (e : TypeId) (i : TypeInfo) (z : Value) (bytes : Nat) (ht : P.underlying t = some (.slice e)) (hi : P.info? e = some i) (hz : i.zero = some z)
    (hsize : i.size = 1) (hby : i.bytes = bytes) (hzs : z.cells.size = 1)
    (v : Value) (n : Nat) (xs : List Value) (hown : w.ownsRow base e 1 v n xs) (hs : a.eval s = v) (u : Value) (hu : u.oneCell' = true)
    (hx : a.eval x = .slice (some ⟨N, 0, none⟩) 1 1) (hW : W = w.alloc (.cells #[u] e))
    (h63 : n + 1 ≤ maxLen) (hbytes : (n + 1) * bytes ≤ 140737488355328) (hbase : base ≤ N)
    (h : ∀ v' w', w'.ownsRow base e 1 v' (n + 1) (xs ++ [u]) → Below base w w' → w.grownBy w' v.ownBlock → wpList P ops Q rest (a.put o.dst v') w') : wpList P ops Q (o :: rest) a W := by
  subst hN
  exact wpList_append_one hgd s x t ho w base e i z bytes ht hi hz hsize hby hzs v n xs hown hs u hu hx hW h63 hbytes hbase h
theorem codeOf_append (a b : List Ins) : codeOf (a ++ b) = codeOf a ++ codeOf b := by simp [codeOf]
theorem codeOf_take_le (l : List Ins) (j : Nat) : (codeOf (l.take j)).length ≤ (codeOf l).length := by
  have h : codeOf l = codeOf (l.take j) ++ codeOf (l.drop j) := by rw [← codeOf_append, List.take_append_drop]
  rw [h]; simp
theorem codeOf_len (l : List Ins) : l.length ≤ (codeOf l).length := by
  induction l with
  | nil => simp [codeOf]
  | cons x xs ih =>
    have : codeOf (x :: xs) = x.bytes ++ codeOf xs := by simp [codeOf]
    rw [this]
    simp [Ins.bytes]; omega
theorem clipped_btw (x lo hi : Int) (h0 : lo < 0) (h1 : 0 < hi) : (0 ≤ x → 0 ≤ clipped x lo hi ∧ clipped x lo hi ≤ x) ∧ (x ≤ 0 → x ≤ clipped x lo hi ∧ clipped x lo hi ≤ 0) := by
  unfold clipped
  split
  · omega
  · split <;> omega
theorem delta_more {k dp : Nat} {DL DC : Int} (hk : dp + DL.natAbs + DC.natAbs < k) (h : ¬ (dp ≤ 15 ∧ clipped DL (-16) 15 = DL ∧ clipped DC (-32) 31 = DC)) :
    ∃ k', k = k' + 1 ∧ deltas k dp DL DC = dRow (min dp 15) (clipped DL (-16) 15) (clipped DC (-32) 31) 1 :: deltas k' (dp - min dp 15) (DL - clipped DL (-16) 15) (DC - clipped DC (-32) 31) ∧ dp - min dp 15 + (DL - clipped DL (-16) 15).natAbs + (DC - clipped DC (-32) 31).natAbs < k' := by
  obtain ⟨k', rfl⟩ : ∃ k', k = k' + 1 := ⟨k - 1, by omega⟩
  refine ⟨k', rfl, by conv => lhs; rw [deltas]
                      rw [if_neg h], ?_⟩
  have nl := clipped_near DL (-16) 15 (by omega) (by omega)
  have nc := clipped_near DC (-32) 31 (by omega) (by omega)
  have ll := clipped_le DL (-16) 15 (by omega) (by omega)
  have lc := clipped_le DC (-32) 31 (by omega) (by omega)
  by_cases h1 : dp ≤ 15
  · by_cases h2 : clipped DL (-16) 15 = DL
    · have h3 : ¬ clipped DC (-32) 31 = DC := fun h3 => h ⟨h1, h2, h3⟩
      rcases nc with nc | nc
      · exact absurd nc h3
      · omega
    · rcases nl with nl | nl
      · exact absurd nl h2
      · omega
  · omega
theorem rw_more {xs1 TL RW : List Nat} {k pc p1 dp q : Nat} {lin l1 col c1 dl dc : Int} (hdp : (pc : Int) - (p1 : Int) = (dp : Int)) (hq : q = min dp 15) (hdl : dl = clipped (lin - l1) (-16) 15) (hdc : dc = clipped (col - c1) (-32) 31)
    (hnot : ¬ (dp ≤ 15 ∧ dl = lin - l1 ∧ dc = col - c1)) (hms : pc - p1 + (lin - l1).natAbs + (col - c1).natAbs < k) (hrw : xs1 ++ (deltas k (pc - p1) (lin - l1) (col - c1) ++ TL) = RW) :
    ∃ k', k' < k ∧ xs1 ++ [dRow q dl dc 1] ++ (deltas k' (pc - (p1 + q)) (lin - (l1 + dl)) (col - (c1 + dc)) ++ TL) = RW ∧ pc - (p1 + q) + (lin - (l1 + dl)).natAbs + (col - (c1 + dc)).natAbs < k' := by
  have e : pc - p1 = dp := by omega
  rw [e] at hms hrw
  obtain ⟨k', hk, h1, h2⟩ := delta_more hms (by rw [← hdl, ← hdc]; exact hnot)
  rw [h1] at hrw
  rw [← hdl, ← hdc, ← hq] at hrw h2
  refine ⟨k', by omega, ?_, ?_⟩
  · rw [show pc - (p1 + q) = dp - q by omega, show lin - (l1 + dl) = lin - l1 - dl by omega, show col - (c1 + dc) = col - c1 - dc by omega]
    simpa using hrw
  · rw [show pc - (p1 + q) = dp - q by omega, show lin - (l1 + dl) = lin - l1 - dl by omega, show col - (c1 + dc) = col - c1 - dc by omega]
    exact h2
theorem rw_last {xs1 TL RW : List Nat} {k pc p1 dp : Nat} {lin l1 col c1 dl dc : Int} (hdp : (pc : Int) - (p1 : Int) = (dp : Int)) (hdl : dl = clipped (lin - l1) (-16) 15) (hdc : dc = clipped (col - c1) (-32) 31)
    (h15 : dp ≤ 15) (h1 : dl = lin - l1) (h2 : dc = col - c1) (hms : pc - p1 + (lin - l1).natAbs + (col - c1).natAbs < k) (hrw : xs1 ++ (deltas k (pc - p1) (lin - l1) (col - c1) ++ TL) = RW) :
    xs1 ++ [dRow dp dl dc 0] ++ TL = RW ∧ p1 + dp = pc ∧ l1 + dl = lin ∧ c1 + dc = col := by
  have e : pc - p1 = dp := by omega
  rw [e] at hms hrw
  obtain ⟨k', rfl⟩ : ∃ k', k = k' + 1 := ⟨k - 1, by omega⟩
  rw [deltas, if_pos ⟨h15, by rw [← hdl, h1], by rw [← hdc, h2]⟩, ← h1, ← h2] at hrw
  exact ⟨by simpa using hrw, by omega, by omega, by omega⟩
theorem and31 (x : Int) (h0 : -16 ≤ x) (h1 : x ≤ 15) : bits .and .i32 x 31 = x % 32 := by
  have h : ∀ k : Fin 32, bits .and .i32 ((k.val : Int) - 16) 31 = ((k.val : Int) - 16) % 32 := by decide +kernel
  have := h ⟨(x + 16).toNat, by omega⟩
  have e : (((x + 16).toNat : Nat) : Int) - 16 = x := by omega
  simpa only [e] using this
theorem and63 (x : Int) (h0 : -32 ≤ x) (h1 : x ≤ 31) : bits .and .i32 x 63 = x % 64 := by
  have h : ∀ k : Fin 64, bits .and .i32 ((k.val : Int) - 32) 63 = ((k.val : Int) - 32) % 64 := by decide +kernel
  have := h ⟨(x + 32).toNat, by omega⟩
  have e : (((x + 32).toNat : Nat) : Int) - 32 = x := by omega
  simpa only [e] using this
theorem wrap16 (x : Int) (h0 : 0 ≤ x) (h1 : x < 65536) : IntKind.u16.wrap x = x := wraps_u16 x h0 (by simpa using h1)
theorem row_expr (dp : Nat) (dl dc : Int) (m : Nat) (hp : dp ≤ 15) (hm : m ≤ 1) (hl : -16 ≤ dl ∧ dl ≤ 15) (hc : -32 ≤ dc ∧ dc ≤ 31) :
    bits .or .u16 (bits .or .u16 (bits .or .u16 (IntKind.u16.wrap ((dp : Int) * 4096)) (IntKind.u16.wrap (IntKind.u16.wrap (bits .and .i32 dl 31) * 128))) (IntKind.u16.wrap (IntKind.u16.wrap (bits .and .i32 dc 63) * 2))) (m : Int) = (dRow dp dl dc m : Int) := by
  rw [and31 dl hl.1 hl.2, and63 dc hc.1 hc.2]
  rw [wrap16 _ (by omega) (by omega), wrap16 (dl % 32) (by omega) (by omega), wrap16 (dl % 32 * 128) (by omega) (by omega), wrap16 (dc % 64) (by omega) (by omega), wrap16 (dc % 64 * 2) (by omega) (by omega)]
  exact row16 dp dl dc m hp hm
theorem deltas_len : ∀ f dp dl dc, (deltas f dp dl dc).length ≤ f := by
  intro f
  induction f with
  | zero => intro dp dl dc; simp [deltas]
  | succ f ih =>
    intro dp dl dc
    unfold deltas
    split
    · simp
    · have := ih (dp - min dp 15) (dl - clipped dl (-16) 15) (dc - clipped dc (-32) 31)
      simp; omega
theorem rows_len : ∀ (l : List Ins) (pc p : Nat) (ln c : Int), (rowsOf l pc p ln c).length ≤ 1000000 * l.length := by
  intro l
  induction l with
  | nil => intros; simp [rowsOf]
  | cons x xs ih =>
    intro pc p ln c
    unfold rowsOf
    split
    · have := ih (pc + x.bytes.length) p ln c
      simp; omega
    · have := ih (pc + x.bytes.length) pc x.line x.col
      have := deltas_len 1000000 (pc - p) (x.line - ln) (x.col - c)
      simp; omega
theorem blk4 {w : World} {g : Nat} {t : TypeId} {a b c d : Value} (h : Blk w g t #[a, b, c, d]) :
    w.cell? ⟨g, 0, none⟩ = some a ∧ w.cell? ⟨g, 1, none⟩ = some b ∧ w.cell? ⟨g, 2, none⟩ = some c ∧ w.cell? ⟨g, 3, none⟩ = some d :=
  ⟨(h.cell 0).trans rfl, (h.cell 1).trans rfl, (h.cell 2).trans rfl, (h.cell 3).trans rfl⟩
theorem three_size (w : World) (P : Nat) (a b c : Value) : (((w.setCell ⟨P, 0, none⟩ a).setCell ⟨P, 1, none⟩ b).setCell ⟨P, 2, none⟩ c).heap.size = w.heap.size := by simp
theorem keeps_put {w : World} {g : Nat} {t : TypeId} {cs : Array Value} (h : Blk w g t cs) (i : Nat) (u : Value) : KeepsT t w (w.setCell ⟨g, i, none⟩ u) := by
  intro i' e cs' fz hi hne
  refine (Below.heap_setCell w ⟨g, i, none⟩ u i' ?_).trans hi
  rintro rfl
  unfold Blk at h
  rw [h] at hi
  injection hi with h1
  injection h1 with _ h2
  exact hne h2.symm
theorem keeps_three {w : World} {g : Nat} {t : TypeId} {x y z : Value} (h : Blk w g t #[x, y, z]) (a b c : Value) :
    KeepsT t w (((w.setCell ⟨g, 0, none⟩ a).setCell ⟨g, 1, none⟩ b).setCell ⟨g, 2, none⟩ c) ∧ Blk (((w.setCell ⟨g, 0, none⟩ a).setCell ⟨g, 1, none⟩ b).setCell ⟨g, 2, none⟩ c) g t #[a, b, c] :=
  ⟨((keeps_put h 0 a).trans (keeps_put (h.put 0 a) 1 b)).trans (keeps_put ((h.put 0 a).put 1 b) 2 c), by simpa using (((h.put 0 a).put 1 b).put 2 c)⟩
/-- The state of the loops: the code and the rows that are written, the last place. -/
structure GS (B P : Nat) (w wr : World) (v6 v7 : Value) (code xs : List Nat) (p : Nat) (ln c : Int) : Prop where
  code : NB B wr v6 code
  tab : NH B wr v7 xs
  prev : Blk wr P 116 #[.int .u32 (p : Int), .int .i32 ln, .int .i32 c]
  hP : B ≤ P
  below : Below B w wr
theorem GS.sets {B P : Nat} {w wr : World} {v6 v7 : Value} {code xs : List Nat} {p : Nat} {ln c : Int} (h : GS B P w wr v6 v7 code xs p ln c) (x y z : Value) :
    NH B (((wr.setCell ⟨P, 0, none⟩ x).setCell ⟨P, 1, none⟩ y).setCell ⟨P, 2, none⟩ z) v7 xs := (keeps_three h.prev x y z).1.own h.tab (by decide)
theorem NH.form {B : Nat} {w : World} {v : Value} {l : List Nat} (h : NH B w v l) : ∃ a c, v = .slice a l.length c := by
  rcases h.2 with ⟨rfl, h0⟩ | ⟨g, cap, cur, rfl, hb, _⟩
  · exact ⟨none, 0, by rw [h0]⟩
  · exact ⟨_, cap, rfl⟩
theorem GS.delta {B P C : Nat} {w wr w2 : World} {v6 v7 v' : Value} {code xs : List Nat} {p p2 e : Nat} {ln c l2 c2 : Int} {ic : Array Value} (h : GS B P w wr v6 v7 code xs p ln c) (hC : Blk wr C 110 ic)
    (ho : w2.ownsRow B 35 1 v' (xs.length + 1) ((xs.map fun (x : Nat) => Value.int .u16 (x : Int)) ++ [.int .u16 (e : Int)]))
    {a2 : Int} (ha : a2 = (p2 : Int)) (hb : Below B (((wr.setCell ⟨P, 0, none⟩ (.int .u32 a2)).setCell ⟨P, 1, none⟩ (.int .i32 l2)).setCell ⟨P, 2, none⟩ (.int .i32 c2)) w2)
    (hg : (((wr.setCell ⟨P, 0, none⟩ (.int .u32 a2)).setCell ⟨P, 1, none⟩ (.int .i32 l2)).setCell ⟨P, 2, none⟩ (.int .i32 c2)).grownBy w2 v7.ownBlock) :
    GS B P w w2 v6 v' code (xs ++ [e]) p2 l2 c2 ∧ Blk w2 C 110 ic := by
  subst ha
  obtain ⟨k1, b1⟩ := keeps_three h.prev (.int .u32 (p2 : Int)) (.int .i32 l2) (.int .i32 c2)
  have k2 := KeepsT.of_grown (h.sets (.int .u32 (p2 : Int)) (.int .i32 l2) (.int .i32 c2)) hg
  refine ⟨⟨k2.own (k1.own h.code (by decide)) (by decide), ?_, k2.blk b1 (by decide), h.hP, (((h.below.setCell (p := ⟨P, 0, none⟩) h.hP _).setCell (p := ⟨P, 1, none⟩) h.hP _).setCell (p := ⟨P, 2, none⟩) h.hP _).trans hb⟩, k2.blk (k1.blk hC (by decide)) (by decide)⟩
  unfold NH
  simpa using ho
theorem GS.code1 {B P C : Nat} {w wr w2 : World} {v6 v7 v' : Value} {code xs : List Nat} {p x : Nat} {ln c : Int} {ic : Array Value} (h : GS B P w wr v6 v7 code xs p ln c) (hC : Blk wr C 110 ic)
    (ho : w2.ownsRow B 5 1 v' (code.length + 1) (nbs code ++ [.int .u8 (x : Int)])) (hb : Below B wr w2) (hg : wr.grownBy w2 v6.ownBlock) : GS B P w w2 v' v7 (code ++ [x]) xs p ln c ∧ Blk w2 C 110 ic := by
  have k := KeepsT.of_grown h.code hg
  exact ⟨⟨NB.more ho, k.own h.tab (by decide), k.blk h.prev (by decide), h.hP, h.below.trans hb⟩, k.blk hC (by decide)⟩
theorem GS.code2 {B P : Nat} {w wr w2 : World} {v6 v7 v' : Value} {code code2 xs : List Nat} {p : Nat} {ln c : Int} (h : GS B P w wr v6 v7 code xs p ln c)
    (ho : NB B w2 v' code2) (hb : Below B wr w2) (k : KeepsT 5 wr w2) : GS B P w w2 v' v7 code2 xs p ln c :=
  ⟨ho, k.own h.tab (by decide), k.blk h.prev (by decide), h.hP, h.below.trans hb⟩
theorem Try.infoH : (Try.prog.info? 35).map (fun i => (i.zero, i.size, i.bytes)) = some (some (.int .u16 0), 1, 2) := by kernel_rfl
def GenPost (G : Nat) (fa : Option Addr) (ln c : Int) (o1 o2 o3 : Value) (l : List Ins) (w : World) (e : Ending) (w' : World) : Prop :=
  e = .returned (.tuple #[]) ∧ ∃ v6 v7, Blk w' G 90 (funCells fa ln c v6 v7 o1 o2 o3 (.slice none 0 0)) ∧ NB w.heap.size w' v6 (codeOf l) ∧ NH w.heap.size w' v7 (rowsOf l 0 0 ln c) ∧ Only (· = G) w w'
theorem gen_end {B P G : Nat} {fa : Option Addr} {ln c l1 c1 : Int} {o1 o2 o3 v6 v7 : Value} {l l' : List Ins} {xs : List Nat} {p : Nat} {w wr : World} (hBw : B ≤ w.heap.size) (hB : B = w.heap.size) (h : GS B P w wr v6 v7 (codeOf l') xs p l1 c1)
    (hG : Blk wr G 90 (funCells fa ln c (.slice none 0 0) (.slice none 0 0) o1 o2 o3 (.slice none 0 0))) (hx : xs = rowsOf l 0 0 ln c) (hl : l' = l) (q : Nat) :
    GenPost G fa ln c o1 o2 o3 l w (.returned (.tuple #[])) (((wr.drewN q).setCell ⟨G, 7, none⟩ v7).setCell ⟨G, 6, none⟩ v6) := by
  subst hB hl
  unfold GenPost
  rw [← hx]
  have k0 : Blk (wr.drewN q) G 90 (funCells fa ln c (.slice none 0 0) (.slice none 0 0) o1 o2 o3 (.slice none 0 0)) := hG
  have b1 : Blk (((wr.drewN q).setCell ⟨G, 7, none⟩ v7).setCell ⟨G, 6, none⟩ v6) G 90 (funCells fa ln c v6 v7 o1 o2 o3 (.slice none 0 0)) := by
    have := (k0.put 7 v7).put 6 v6
    simpa [funCells] using this
  have k : KeepsT 90 (wr.drewN q) (((wr.drewN q).setCell ⟨G, 7, none⟩ v7).setCell ⟨G, 6, none⟩ v6) := (keeps_put k0 7 v7).trans (keeps_put (k0.put 7 v7) 6 v6)
  have c0 : NB w.heap.size (wr.drewN q) v6 (codeOf l') := h.code
  have t0 : NH w.heap.size (wr.drewN q) v7 xs := h.tab
  refine ⟨rfl, v6, v7, b1, k.own c0 (by decide), k.own t0 (by decide), ?_⟩
  exact (((Only.of_below (S := (· = G)) h.below).drewN q).setCell (p := ⟨G, 7, none⟩) (.inl rfl) v7).setCell (p := ⟨G, 6, none⟩) (.inl rfl) v6
set_option maxRecDepth 100000 in
set_option maxHeartbeats 40000000 in
theorem gen_any (F G R Bk : Nat) (fa : Option Addr) (ln c : Int) (ia : Option Addr) (n cap : Nat) (l : List Ins) (fcs gcs bcs : Array Value) (o1 o2 o3 j2 : Value) (n1 n2 : Int) (w : World)
    (f1 f2 f3 f4 f5 f6 : Value)
    (hF : Blk w F 105 #[.pointer (some ⟨G, 0, none⟩), f1, f2, f3, f4, f5, f6])
    (hG : Blk w G 90 (funCells fa ln c (.slice none 0 0) (.slice none 0 0) o1 o2 o3 (.slice none 0 0)))
    (hR : Blk w R 103 #[.pointer (some ⟨Bk, 0, none⟩)])
    (hB : Blk w Bk 108 #[.slice ia n cap, .pointer none, j2, .int .i64 n1, .int .i64 n2, .int .u32 0])
    (hi : InsAt w ia l) (hn : n = l.length) (hln : -100000 ≤ ln ∧ ln ≤ 100000) (hc : -100000 ≤ c ∧ c ≤ 100000) (hall : ∀ x ∈ l, x.op < 256 ∧ x.arg < 4294967296 ∧ (-100000 ≤ x.line ∧ x.line ≤ 100000) ∧ (-100000 ≤ x.col ∧ x.col ≤ 100000)) (hlen : (codeOf l).length ≤ 100000) :
    Calls Try.prog 34 #[.pointer (some ⟨F, 0, none⟩), .slice (some ⟨R, 0, none⟩) 1 1, .int .u32 (((codeOf l).length : Nat) : Int)] w (GenPost G fa ln c o1 o2 o3 l w) := by
  obtain ⟨m, hm⟩ : ∃ m, m = (codeOf l).length := ⟨_, rfl⟩
  rw [← hm]
  have HM := Lib.hid hm
  have hm1 : m ≤ 100000 := by omega
  obtain ⟨i0, hi5, hz0, hz1, hz2⟩ := info_parts Try.infoB
  obtain ⟨i1, hi35, hy0, hy1, hy2⟩ := info_parts Try.infoH
  obtain ⟨W1, hmk, hown, hg⟩ := run_make_own (P := Try.prog) w w.heap.size 27 5 i0 _ 1 Try.underlying27 hi5 hz0 hz1 .i64 .u32 m (by rw [hz2]; omega) (by unfold maxLen; omega) (Nat.le_refl _)
  have hbw : Below w.heap.size w W1 := (Below.refl _ w).grown hg (Nat.le_refl _) (by simp)
  have F1 := hF.below hbw hF.lt
  have G1 := hG.below hbw hG.lt
  have R1 := hR.below hbw hR.lt
  have B1 := hB.below hbw hB.lt
  have c0 := F1.cell 0
  have g2 := G1.cell 2
  have g3 := G1.cell 3
  simp only [funCells, List.getElem?_toArray, List.getElem?_cons_zero, List.getElem?_cons_succ] at c0 g2 g3
  have hFl := F1.lt
  have hGl := G1.lt
  have HF := Lib.hid F1
  have HG := Lib.hid G1
  have HR := Lib.hid R1
  have HB := Lib.hid B1
  have HO := Lib.hid hown
  have HBW := Lib.hid hbw
  have HB0 := Lib.hid hB
  have HF0 := Lib.hid hF
  have HG0 := Lib.hid hG
  have HI := Lib.hid hi
  have HN := Lib.hid hn
  have HALL := Lib.hid hall
  have hnc : n ≤ 100000 := by have := codeOf_len l; omega
  clear hall hn hm hlen hF hG hR hB hown hg hbw F1 G1 R1 B1 hi
  go_enter Try.func34, Try.ntmps34
  go_wp2_with fail
  clear hmk
  go_region
  clear c0 g2 g3
  have hgs : GS w.heap.size W1.heap.size w (W1.alloc (.cells #[.int .u32 0, .int .i32 ln, .int .i32 c] 116)).drew (.slice (some ⟨w.heap.size, 0, none⟩) 0 m) (.slice none 0 0) [] [] 0 ln c :=
    ⟨(HO.out.alloc _).drew, World.ownsRow_nil _ _ _ _, (Blk.new W1 _ _).drew, HBW.out.size, (HBW.out.alloc HBW.out.size _).drew⟩
  have HGS := Lib.hid hgs
  have r0 := (HR.out.alloc (.cells #[.int .u32 0, .int .i32 ln, .int .i32 c] 116)).drew.cell 0
  have HB1 := Lib.hid (HB.out.alloc (.cells #[.int .u32 0, .int .i32 ln, .int .i32 c] 116)).drew
  have b0 := HB1.out.cell 0
  have b5 := HB1.out.cell 5
  simp only [List.getElem?_toArray, List.getElem?_cons_zero, List.getElem?_cons_succ] at r0 b0 b5
  obtain ⟨P, hP⟩ : ∃ P, P = W1.heap.size := ⟨_, rfl⟩
  obtain ⟨B, hBd⟩ : ∃ B, B = w.heap.size := ⟨_, rfl⟩
  rw [← hP, ← hBd] at HGS ⊢
  clear hgs
  have HBD := Lib.hid hBd
  have hBw : B ≤ w.heap.size := by omega
  clear hP hBd
  go_wp2_with fail
  refine wp_loop_rounds 2 ?_
  rw [rounds_succ]
  go_wp2_with fail
  clear r0 b0 b5
  go_loopg [6, 7, 11, 55] n (fun k v6 v7 pv jv wr => ∃ (j pc p : Nat) (ln' c' : Int) (xs : List Nat), jv = .int .i64 (j : Int) ∧ k + j = n ∧ pv = .int .u32 (pc : Int) ∧ Hid (pc = (codeOf (l.take j)).length) ∧ p ≤ pc ∧ pc ≤ 100000 ∧
      Hid (GS B P w wr v6 v7 (codeOf (l.take j)) xs p ln' c') ∧ Hid (xs ++ rowsOf (l.drop j) pc p ln' c' = rowsOf l 0 0 ln c) ∧ (-100000 ≤ ln' ∧ ln' ≤ 100000) ∧ (-100000 ≤ c' ∧ c' ≤ 100000))
  case atStart => exact ⟨0, 0, 0, ln, c, [], rfl, by omega, rfl, rfl, Nat.le_refl _, by omega, HGS.out, rfl, hln, hc⟩
  case round =>
    obtain ⟨j, pc, p, ln', c', xs, rfl, hj, rfl, hpc, hppc, hpc1, hgs, hrow, hln', hc'⟩ := hrel
    have HJ := Lib.hid hj
    by_cases hjn : j < n
    · have hjl : j < l.length := by rw [← HN.out]; exact hjn
      have hd : decide ((j : Int) < (n : Int)) = true := by simp; omega
      rcases HI.out with he | ⟨I, rfl, hI, hcs⟩
      · exfalso; rw [he] at hjl; simp at hjl
      obtain ⟨x, hx⟩ : ∃ x, x = l[j]'hjl := ⟨_, rfl⟩
      have hcj := hcs j hjl
      have hxb := HALL.out (l[j]'hjl) (List.getElem_mem hjl)
      rw [← hx] at hcj hxb
      have HXW := Lib.hid (show l.drop j = x :: l.drop (j + 1) by rw [hx]; exact List.drop_eq_getElem_cons hjl)
      have HXT := Lib.hid (show l.take (j + 1) = l.take j ++ [x] by rw [hx]; exact List.take_succ_eq_append_getElem hjl)
      obtain ⟨op, arg, lin, col⟩ := x
      obtain ⟨c0, c1, c2, c3⟩ := hcj
      obtain ⟨hop, harg, hlin, hcol⟩ := hxb
      have q0 := (hgs.out.below.cell (p := ⟨I, j * 4, none⟩) (by rw [HBD.out]; exact hI)).trans c0
      have q1 := (hgs.out.below.cell (p := ⟨I, j * 4 + 1, none⟩) (by rw [HBD.out]; exact hI)).trans c1
      have q2 := (hgs.out.below.cell (p := ⟨I, j * 4 + 2, none⟩) (by rw [HBD.out]; exact hI)).trans c2
      have q3 := (hgs.out.below.cell (p := ⟨I, j * 4 + 3, none⟩) (by rw [HBD.out]; exact hI)).trans c3
      simp only at q0 q1 q2 q3 hop harg hlin hcol
      clear hx c0 c1 c2 c3 hcs hj
      go_upto_if 61 with fail
      obtain ⟨C, hC⟩ : ∃ C, C = wr.heap.size := ⟨_, rfl⟩
      rw [← hC]
      have HG2 := Lib.hid (show GS B P w (wr.alloc (.cells #[.int .u8 (op : Int), .int .u32 (arg : Int), .int .i32 lin, .int .i32 col] 110)) u6 u7 (codeOf (l.take j)) xs p ln' c' from ⟨hgs.out.code.alloc _, hgs.out.tab.alloc _, hgs.out.prev.alloc _, hgs.out.hP, hgs.out.below.alloc (Nat.le_trans hBw hgs.out.below.size) _⟩)
      have HC2 := Lib.hid (Blk.new_at wr 110 #[.int .u8 (op : Int), .int .u32 (arg : Int), .int .i32 lin, .int .i32 col] hC.symm)
      have hBC : B ≤ C := by rw [hC]; exact Nat.le_trans hBw hgs.out.below.size
      have HRW := Lib.hid (show xs ++ (if lin = 0 then rowsOf (l.drop (j + 1)) (pc + (Ins.mk op arg lin col).bytes.length) p ln' c' else deltas 1000000 (pc - p) (lin - ln') (col - c') ++ rowsOf (l.drop (j + 1)) (pc + (Ins.mk op arg lin col).bytes.length) pc lin col) = rowsOf l 0 0 ln c by rw [← hrow.out, HXW.out]; rfl)
      obtain ⟨RW, hRW⟩ : ∃ RW, RW = rowsOf l 0 0 ln c := ⟨_, rfl⟩
      have hRWl : RW.length ≤ 100000000000 := by rw [hRW]; have := rows_len l 0 0 ln c; have := HN.out; omega
      rw [← hRW] at HRW
      have HRWD := Lib.hid hRW
      clear hRW
      obtain ⟨w2, hw2⟩ : ∃ w2, w2 = (wr.alloc (.cells #[.int .u8 (op : Int), .int .u32 (arg : Int), .int .i32 lin, .int .i32 col] 110)) := ⟨_, rfl⟩
      rw [← hw2] at HG2 HC2 ⊢
      clear hw2 hC hgs hrow q0 q1 q2 q3
      obtain ⟨bz, hbz⟩ : ∃ bz, bz = (lin != 0) := ⟨_, rfl⟩
      rw [← hbz]
      have HBZ := Lib.hid hbz
      clear hbz
      go_cut [7] from 62 to 155 (fun v7 wc => ∃ (xs2 : List Nat) (p2 : Nat) (l2 c2 : Int), Hid (GS B P w wc u6 v7 (codeOf (l.take j)) xs2 p2 l2 c2) ∧ Hid (Blk wc C 110 #[.int .u8 (op : Int), .int .u32 (arg : Int), .int .i32 lin, .int .i32 col]) ∧ p2 ≤ pc ∧ (-100000 ≤ l2 ∧ l2 ≤ 100000) ∧ (-100000 ≤ c2 ∧ c2 ≤ 100000) ∧
        Hid (xs2 ++ rowsOf (l.drop (j + 1)) (pc + (Ins.mk op arg lin col).bytes.length) p2 l2 c2 = RW))
      case first =>
        cases bz
        · have h0 : lin = 0 := by have := HBZ.out; simpa using this
          have H0 := Lib.hid h0
          clear HALL h0
          go_wp2
          go_meet
          case rel => exact ⟨xs, p, ln', c', HG2.out, HC2.out, hppc, hln', hc', by have h1 := HRW.out; rw [if_pos H0.out] at h1; exact h1⟩
        · have h0 : ¬ lin = 0 := by have := HBZ.out; simpa using this
          have HRW2 := Lib.hid (show xs ++ (deltas 1000000 (pc - p) (lin - ln') (col - c') ++ rowsOf (l.drop (j + 1)) (pc + (Ins.mk op arg lin col).bytes.length) pc lin col) = RW by have := HRW.out; rwa [if_neg h0] at this)
          obtain ⟨TL, hTL⟩ : ∃ TL, TL = rowsOf (l.drop (j + 1)) (pc + (Ins.mk op arg lin col).bytes.length) pc lin col := ⟨_, rfl⟩
          rw [← hTL] at HRW2
          have HTL := Lib.hid hTL
          clear hTL h0 HRW
          go_wp2_with fail
          go_loopg [7] 1000000 (fun k v7 w3 => ∃ (xs1 : List Nat) (p1 : Nat) (l1 c1 : Int), Hid (GS B P w w3 u6 v7 (codeOf (l.take j)) xs1 p1 l1 c1) ∧ Hid (Blk w3 C 110 #[.int .u8 (op : Int), .int .u32 (arg : Int), .int .i32 lin, .int .i32 col]) ∧ p1 ≤ pc ∧ (-100000 ≤ l1 ∧ l1 ≤ 100000) ∧ (-100000 ≤ c1 ∧ c1 ≤ 100000) ∧
            Hid (xs1 ++ (deltas k (pc - p1) (lin - l1) (col - c1) ++ TL) = RW) ∧ Hid (pc - p1 + (lin - l1).natAbs + (col - c1).natAbs < k))
          case atStart => exact ⟨xs, p, ln', c', HG2.out, HC2.out, hppc, hln', hc', HRW2.out, by unfold Hid; omega⟩
          case round =>
            obtain ⟨xs1, p1, l1, c1, hg3, hc3, hp1, hl1, hcc1, hrw3, hms⟩ := hrel
            obtain ⟨dp, hdp⟩ : ∃ dp : Nat, (pc : Int) - (p1 : Int) = (dp : Int) := ⟨pc - p1, by omega⟩
            obtain ⟨dl, hdl⟩ : ∃ dl, dl = clipped (lin - l1) (-16) 15 := ⟨_, rfl⟩
            obtain ⟨dc, hdc⟩ : ∃ dc, dc = clipped (col - c1) (-32) 31 := ⟨_, rfl⟩
            obtain ⟨bl, hbl⟩ : ∃ bl, bl = decide (dl = lin - l1) := ⟨_, rfl⟩
            obtain ⟨bc, hbc⟩ : ∃ bc, bc = decide (dc = col - c1) := ⟨_, rfl⟩
            have hdlb : -16 ≤ dl ∧ dl ≤ 15 := by rw [hdl]; exact clipped_in _ _ _ (by omega)
            have hdcb : -32 ≤ dc ∧ dc ≤ 31 := by rw [hdc]; exact clipped_in _ _ _ (by omega)
            have HCL : Hid (∀ W, Calls Try.prog 44 #[.int .i32 (lin - l1), .int .i32 (-16), .int .i32 15] W fun e w' => e = .returned (.tuple #[.int .i32 dl, .bool bl]) ∧ W = w') := fun W => by rw [hbl, hdl]; exact clip_any _ _ _ (by omega) W
            have HCC : Hid (∀ W, Calls Try.prog 44 #[.int .i32 (col - c1), .int .i32 (-32), .int .i32 31] W fun e w' => e = .returned (.tuple #[.int .i32 dc, .bool bc]) ∧ W = w') := fun W => by rw [hbc, hdc]; exact clip_any _ _ _ (by omega) W
            have HDL := Lib.hid hdl
            have HDC := Lib.hid hdc
            have HBL := Lib.hid hbl
            have HBC := Lib.hid hbc
            have HDP := Lib.hid hdp
            obtain ⟨p0, p1', p2', z0, z1, z2⟩ := blk3 hg3.out.prev
            obtain ⟨i0', i1', i2', i3'⟩ := blk4 hc3.out
            obtain ⟨a7, c7, hv7⟩ := hg3.out.tab.form
            subst hv7
            have hz3 : B ≤ wr.heap.size := Nat.le_trans hBw hg3.out.below.size
            have hx1 : xs1.length ≤ 100000000000 := by have h1 := congrArg List.length hrw3.out; simp at h1; omega
            have hlb : -100000 ≤ l1 + dl ∧ l1 + dl ≤ 100000 := by have := clipped_btw (lin - l1) (-16) 15 (by omega) (by omega); omega
            have hcb : -100000 ≤ c1 + dc ∧ c1 + dc ≤ 100000 := by have := clipped_btw (col - c1) (-32) 31 (by omega) (by omega); omega
            clear hdl hdc hbl hbc
            by_cases h15 : dp ≤ 15
            · have hd15 : decide (15 < dp) = false := by simp; omega
              have hd15' : decide ((15 : Int) < (dp : Int)) = false := by simp; omega
              clear h15
              cases bl <;> cases bc
              · as_aux_lemma =>
                have HLS := Lib.hid (rw_more (q := dp) HDP.out (by simp at hd15; omega) HDL.out HDC.out (by have a1 := HBL.out; have a2 := HBC.out; have a3 := hd15; simp at a1 a2 a3; omega) hms.out hrw3.out)
                have HROW := Lib.hid (row_expr dp dl dc 1 (by simp at hd15; omega) (by omega) hdlb hdcb)
                go_wp2_with fail
                refine (HCL.out _).mono ?_
                rintro e w' ⟨rfl, rfl⟩
                go_wp2_with fail
                refine (HCC.out _).mono ?_
                rintro e w' ⟨rfl, rfl⟩
                go_upto_region 26 with fail
                have HR3 := HROW.out
                first | rw [HR3] | (simp at HR3; rw [HR3]) | (simp at HR3; rw [wrap16 61440 (by omega) (by omega)] at HR3; rw [HR3])
                clear HR3
                go_wp2_with (at_builtin; refine wpList_append_one_at rfl (.tmp 120) (.tmp 122) 74 rfl _ _ (three_size _ _ _ _ _) B 35 i1 _ 2 Try.underlying74 hi35 hy0 hy1 hy2 rfl _ xs1.length _ (GS.sets hg3.out (.int .u32 ((p1 : Int) + (dp : Int))) (.int .i32 (l1 + dl)) (.int .i32 (c1 + dc))) rfl (.int .u16 ((dRow dp dl dc 1 : Nat) : Int)) rfl rfl rfl (by unfold maxLen; omega) (by omega) hz3 ?_; intro v2 w2 hown2 hb2 hg2)
                obtain ⟨hg4, hc4⟩ := hg3.out.delta hc3.out hown2 (p2 := p1 + dp) (by omega) hb2 hg2
                have HG4 := Lib.hid hg4
                have HC4 := Lib.hid hc4
                clear hg4 hc4 hown2 hb2 hg2
                obtain ⟨k', hk', hr', hm'⟩ := HLS.out
                have HK := Lib.hid hk'
                have HR' := Lib.hid hr'
                have HM' := Lib.hid hm'
                clear hk' hr' hm'
                go_wp2
                go_roundg k'
                case measure => exact HK.out
                case rel => exact ⟨_, p1 + dp, l1 + dl, c1 + dc, HG4.out, HC4.out, by have := HDP.out; simp at hd15; omega, hlb, hcb, HR'.out, HM'.out⟩
              · as_aux_lemma =>
                have HLS := Lib.hid (rw_more (q := dp) HDP.out (by simp at hd15; omega) HDL.out HDC.out (by have a1 := HBL.out; have a2 := HBC.out; have a3 := hd15; simp at a1 a2 a3; omega) hms.out hrw3.out)
                have HROW := Lib.hid (row_expr dp dl dc 1 (by simp at hd15; omega) (by omega) hdlb hdcb)
                go_wp2_with fail
                refine (HCL.out _).mono ?_
                rintro e w' ⟨rfl, rfl⟩
                go_wp2_with fail
                refine (HCC.out _).mono ?_
                rintro e w' ⟨rfl, rfl⟩
                go_upto_region 26 with fail
                have HR3 := HROW.out
                first | rw [HR3] | (simp at HR3; rw [HR3]) | (simp at HR3; rw [wrap16 61440 (by omega) (by omega)] at HR3; rw [HR3])
                clear HR3
                go_wp2_with (at_builtin; refine wpList_append_one_at rfl (.tmp 120) (.tmp 122) 74 rfl _ _ (three_size _ _ _ _ _) B 35 i1 _ 2 Try.underlying74 hi35 hy0 hy1 hy2 rfl _ xs1.length _ (GS.sets hg3.out (.int .u32 ((p1 : Int) + (dp : Int))) (.int .i32 (l1 + dl)) (.int .i32 (c1 + dc))) rfl (.int .u16 ((dRow dp dl dc 1 : Nat) : Int)) rfl rfl rfl (by unfold maxLen; omega) (by omega) hz3 ?_; intro v2 w2 hown2 hb2 hg2)
                obtain ⟨hg4, hc4⟩ := hg3.out.delta hc3.out hown2 (p2 := p1 + dp) (by omega) hb2 hg2
                have HG4 := Lib.hid hg4
                have HC4 := Lib.hid hc4
                clear hg4 hc4 hown2 hb2 hg2
                obtain ⟨k', hk', hr', hm'⟩ := HLS.out
                have HK := Lib.hid hk'
                have HR' := Lib.hid hr'
                have HM' := Lib.hid hm'
                clear hk' hr' hm'
                go_wp2
                go_roundg k'
                case measure => exact HK.out
                case rel => exact ⟨_, p1 + dp, l1 + dl, c1 + dc, HG4.out, HC4.out, by have := HDP.out; simp at hd15; omega, hlb, hcb, HR'.out, HM'.out⟩
              · as_aux_lemma =>
                have HLS := Lib.hid (rw_more (q := dp) HDP.out (by simp at hd15; omega) HDL.out HDC.out (by have a1 := HBL.out; have a2 := HBC.out; have a3 := hd15; simp at a1 a2 a3; omega) hms.out hrw3.out)
                have HROW := Lib.hid (row_expr dp dl dc 1 (by simp at hd15; omega) (by omega) hdlb hdcb)
                go_wp2_with fail
                refine (HCL.out _).mono ?_
                rintro e w' ⟨rfl, rfl⟩
                go_wp2_with fail
                refine (HCC.out _).mono ?_
                rintro e w' ⟨rfl, rfl⟩
                go_upto_region 26 with fail
                have HR3 := HROW.out
                first | rw [HR3] | (simp at HR3; rw [HR3]) | (simp at HR3; rw [wrap16 61440 (by omega) (by omega)] at HR3; rw [HR3])
                clear HR3
                go_wp2_with (at_builtin; refine wpList_append_one_at rfl (.tmp 120) (.tmp 122) 74 rfl _ _ (three_size _ _ _ _ _) B 35 i1 _ 2 Try.underlying74 hi35 hy0 hy1 hy2 rfl _ xs1.length _ (GS.sets hg3.out (.int .u32 ((p1 : Int) + (dp : Int))) (.int .i32 (l1 + dl)) (.int .i32 (c1 + dc))) rfl (.int .u16 ((dRow dp dl dc 1 : Nat) : Int)) rfl rfl rfl (by unfold maxLen; omega) (by omega) hz3 ?_; intro v2 w2 hown2 hb2 hg2)
                obtain ⟨hg4, hc4⟩ := hg3.out.delta hc3.out hown2 (p2 := p1 + dp) (by omega) hb2 hg2
                have HG4 := Lib.hid hg4
                have HC4 := Lib.hid hc4
                clear hg4 hc4 hown2 hb2 hg2
                obtain ⟨k', hk', hr', hm'⟩ := HLS.out
                have HK := Lib.hid hk'
                have HR' := Lib.hid hr'
                have HM' := Lib.hid hm'
                clear hk' hr' hm'
                go_wp2
                go_roundg k'
                case measure => exact HK.out
                case rel => exact ⟨_, p1 + dp, l1 + dl, c1 + dc, HG4.out, HC4.out, by have := HDP.out; simp at hd15; omega, hlb, hcb, HR'.out, HM'.out⟩
              · as_aux_lemma =>
                have HLS := Lib.hid (rw_last HDP.out HDL.out HDC.out (by simpa using hd15) (by simpa using HBL.out) (by simpa using HBC.out) hms.out hrw3.out)
                have HROW := Lib.hid (row_expr dp dl dc 0 (by simp at hd15; omega) (by omega) hdlb hdcb)
                go_wp2_with fail
                refine (HCL.out _).mono ?_
                rintro e w' ⟨rfl, rfl⟩
                go_wp2_with fail
                refine (HCC.out _).mono ?_
                rintro e w' ⟨rfl, rfl⟩
                go_upto_region 26 with fail
                have HR3 := HROW.out
                first | rw [HR3] | (simp at HR3; rw [HR3]) | (simp at HR3; rw [wrap16 61440 (by omega) (by omega)] at HR3; rw [HR3])
                clear HR3
                go_wp2_with (at_builtin; refine wpList_append_one_at rfl (.tmp 120) (.tmp 122) 74 rfl _ _ (three_size _ _ _ _ _) B 35 i1 _ 2 Try.underlying74 hi35 hy0 hy1 hy2 rfl _ xs1.length _ (GS.sets hg3.out (.int .u32 ((p1 : Int) + (dp : Int))) (.int .i32 (l1 + dl)) (.int .i32 (c1 + dc))) rfl (.int .u16 ((dRow dp dl dc 0 : Nat) : Int)) rfl rfl rfl (by unfold maxLen; omega) (by omega) hz3 ?_; intro v2 w2 hown2 hb2 hg2)
                obtain ⟨hg4, hc4⟩ := hg3.out.delta hc3.out hown2 (p2 := p1 + dp) (by omega) hb2 hg2
                have HG4 := Lib.hid hg4
                have HC4 := Lib.hid hc4
                clear hg4 hc4 hown2 hb2 hg2
                go_wp2
                go_meet
                case rel =>
                  obtain ⟨hr, e1, e2, e3⟩ := HLS.out
                  have hg := HG4.out
                  rw [e1, e2, e3] at hg
                  exact ⟨_, pc, lin, col, hg, HC4.out, Nat.le_refl _, hlin, hcol, by rw [← HTL.out]; exact hr⟩
            · have hd15 : decide (15 < dp) = true := by simp; omega
              have hd15' : decide ((15 : Int) < (dp : Int)) = true := by simp; omega
              clear h15
              cases bl <;> cases bc
              · as_aux_lemma =>
                have HLS := Lib.hid (rw_more (q := 15) HDP.out (by simp at hd15; omega) HDL.out HDC.out (by have a1 := HBL.out; have a2 := HBC.out; have a3 := hd15; simp at a1 a2 a3; omega) hms.out hrw3.out)
                have HROW := Lib.hid (row_expr 15 dl dc 1 (by simp at hd15; omega) (by omega) hdlb hdcb)
                go_wp2_with fail
                refine (HCL.out _).mono ?_
                rintro e w' ⟨rfl, rfl⟩
                go_wp2_with fail
                refine (HCC.out _).mono ?_
                rintro e w' ⟨rfl, rfl⟩
                go_upto_region 26 with fail
                have HR3 := HROW.out
                first | rw [HR3] | (simp at HR3; rw [HR3]) | (simp at HR3; rw [wrap16 61440 (by omega) (by omega)] at HR3; rw [HR3])
                clear HR3
                go_wp2_with (at_builtin; refine wpList_append_one_at rfl (.tmp 120) (.tmp 122) 74 rfl _ _ (three_size _ _ _ _ _) B 35 i1 _ 2 Try.underlying74 hi35 hy0 hy1 hy2 rfl _ xs1.length _ (GS.sets hg3.out (.int .u32 ((p1 : Int) + (15 : Int))) (.int .i32 (l1 + dl)) (.int .i32 (c1 + dc))) rfl (.int .u16 ((dRow 15 dl dc 1 : Nat) : Int)) rfl rfl rfl (by unfold maxLen; omega) (by omega) hz3 ?_; intro v2 w2 hown2 hb2 hg2)
                obtain ⟨hg4, hc4⟩ := hg3.out.delta hc3.out hown2 (p2 := p1 + 15) (by omega) hb2 hg2
                have HG4 := Lib.hid hg4
                have HC4 := Lib.hid hc4
                clear hg4 hc4 hown2 hb2 hg2
                obtain ⟨k', hk', hr', hm'⟩ := HLS.out
                have HK := Lib.hid hk'
                have HR' := Lib.hid hr'
                have HM' := Lib.hid hm'
                clear hk' hr' hm'
                go_wp2
                go_roundg k'
                case measure => exact HK.out
                case rel => exact ⟨_, p1 + 15, l1 + dl, c1 + dc, HG4.out, HC4.out, by have := HDP.out; simp at hd15; omega, hlb, hcb, HR'.out, HM'.out⟩
              · as_aux_lemma =>
                have HLS := Lib.hid (rw_more (q := 15) HDP.out (by simp at hd15; omega) HDL.out HDC.out (by have a1 := HBL.out; have a2 := HBC.out; have a3 := hd15; simp at a1 a2 a3; omega) hms.out hrw3.out)
                have HROW := Lib.hid (row_expr 15 dl dc 1 (by simp at hd15; omega) (by omega) hdlb hdcb)
                go_wp2_with fail
                refine (HCL.out _).mono ?_
                rintro e w' ⟨rfl, rfl⟩
                go_wp2_with fail
                refine (HCC.out _).mono ?_
                rintro e w' ⟨rfl, rfl⟩
                go_upto_region 26 with fail
                have HR3 := HROW.out
                first | rw [HR3] | (simp at HR3; rw [HR3]) | (simp at HR3; rw [wrap16 61440 (by omega) (by omega)] at HR3; rw [HR3])
                clear HR3
                go_wp2_with (at_builtin; refine wpList_append_one_at rfl (.tmp 120) (.tmp 122) 74 rfl _ _ (three_size _ _ _ _ _) B 35 i1 _ 2 Try.underlying74 hi35 hy0 hy1 hy2 rfl _ xs1.length _ (GS.sets hg3.out (.int .u32 ((p1 : Int) + (15 : Int))) (.int .i32 (l1 + dl)) (.int .i32 (c1 + dc))) rfl (.int .u16 ((dRow 15 dl dc 1 : Nat) : Int)) rfl rfl rfl (by unfold maxLen; omega) (by omega) hz3 ?_; intro v2 w2 hown2 hb2 hg2)
                obtain ⟨hg4, hc4⟩ := hg3.out.delta hc3.out hown2 (p2 := p1 + 15) (by omega) hb2 hg2
                have HG4 := Lib.hid hg4
                have HC4 := Lib.hid hc4
                clear hg4 hc4 hown2 hb2 hg2
                obtain ⟨k', hk', hr', hm'⟩ := HLS.out
                have HK := Lib.hid hk'
                have HR' := Lib.hid hr'
                have HM' := Lib.hid hm'
                clear hk' hr' hm'
                go_wp2
                go_roundg k'
                case measure => exact HK.out
                case rel => exact ⟨_, p1 + 15, l1 + dl, c1 + dc, HG4.out, HC4.out, by have := HDP.out; simp at hd15; omega, hlb, hcb, HR'.out, HM'.out⟩
              · as_aux_lemma =>
                have HLS := Lib.hid (rw_more (q := 15) HDP.out (by simp at hd15; omega) HDL.out HDC.out (by have a1 := HBL.out; have a2 := HBC.out; have a3 := hd15; simp at a1 a2 a3; omega) hms.out hrw3.out)
                have HROW := Lib.hid (row_expr 15 dl dc 1 (by simp at hd15; omega) (by omega) hdlb hdcb)
                go_wp2_with fail
                refine (HCL.out _).mono ?_
                rintro e w' ⟨rfl, rfl⟩
                go_wp2_with fail
                refine (HCC.out _).mono ?_
                rintro e w' ⟨rfl, rfl⟩
                go_upto_region 26 with fail
                have HR3 := HROW.out
                first | rw [HR3] | (simp at HR3; rw [HR3]) | (simp at HR3; rw [wrap16 61440 (by omega) (by omega)] at HR3; rw [HR3])
                clear HR3
                go_wp2_with (at_builtin; refine wpList_append_one_at rfl (.tmp 120) (.tmp 122) 74 rfl _ _ (three_size _ _ _ _ _) B 35 i1 _ 2 Try.underlying74 hi35 hy0 hy1 hy2 rfl _ xs1.length _ (GS.sets hg3.out (.int .u32 ((p1 : Int) + (15 : Int))) (.int .i32 (l1 + dl)) (.int .i32 (c1 + dc))) rfl (.int .u16 ((dRow 15 dl dc 1 : Nat) : Int)) rfl rfl rfl (by unfold maxLen; omega) (by omega) hz3 ?_; intro v2 w2 hown2 hb2 hg2)
                obtain ⟨hg4, hc4⟩ := hg3.out.delta hc3.out hown2 (p2 := p1 + 15) (by omega) hb2 hg2
                have HG4 := Lib.hid hg4
                have HC4 := Lib.hid hc4
                clear hg4 hc4 hown2 hb2 hg2
                obtain ⟨k', hk', hr', hm'⟩ := HLS.out
                have HK := Lib.hid hk'
                have HR' := Lib.hid hr'
                have HM' := Lib.hid hm'
                clear hk' hr' hm'
                go_wp2
                go_roundg k'
                case measure => exact HK.out
                case rel => exact ⟨_, p1 + 15, l1 + dl, c1 + dc, HG4.out, HC4.out, by have := HDP.out; simp at hd15; omega, hlb, hcb, HR'.out, HM'.out⟩
              · as_aux_lemma =>
                have HLS := Lib.hid (rw_more (q := 15) HDP.out (by simp at hd15; omega) HDL.out HDC.out (by have a1 := HBL.out; have a2 := HBC.out; have a3 := hd15; simp at a1 a2 a3; omega) hms.out hrw3.out)
                have HROW := Lib.hid (row_expr 15 dl dc 1 (by simp at hd15; omega) (by omega) hdlb hdcb)
                go_wp2_with fail
                refine (HCL.out _).mono ?_
                rintro e w' ⟨rfl, rfl⟩
                go_wp2_with fail
                refine (HCC.out _).mono ?_
                rintro e w' ⟨rfl, rfl⟩
                go_upto_region 26 with fail
                have HR3 := HROW.out
                first | rw [HR3] | (simp at HR3; rw [HR3]) | (simp at HR3; rw [wrap16 61440 (by omega) (by omega)] at HR3; rw [HR3])
                clear HR3
                go_wp2_with (at_builtin; refine wpList_append_one_at rfl (.tmp 120) (.tmp 122) 74 rfl _ _ (three_size _ _ _ _ _) B 35 i1 _ 2 Try.underlying74 hi35 hy0 hy1 hy2 rfl _ xs1.length _ (GS.sets hg3.out (.int .u32 ((p1 : Int) + (15 : Int))) (.int .i32 (l1 + dl)) (.int .i32 (c1 + dc))) rfl (.int .u16 ((dRow 15 dl dc 1 : Nat) : Int)) rfl rfl rfl (by unfold maxLen; omega) (by omega) hz3 ?_; intro v2 w2 hown2 hb2 hg2)
                obtain ⟨hg4, hc4⟩ := hg3.out.delta hc3.out hown2 (p2 := p1 + 15) (by omega) hb2 hg2
                have HG4 := Lib.hid hg4
                have HC4 := Lib.hid hc4
                clear hg4 hc4 hown2 hb2 hg2
                obtain ⟨k', hk', hr', hm'⟩ := HLS.out
                have HK := Lib.hid hk'
                have HR' := Lib.hid hr'
                have HM' := Lib.hid hm'
                clear hk' hr' hm'
                go_wp2
                go_roundg k'
                case measure => exact HK.out
                case rel => exact ⟨_, p1 + 15, l1 + dl, c1 + dc, HG4.out, HC4.out, by have := HDP.out; simp at hd15; omega, hlb, hcb, HR'.out, HM'.out⟩
      case rest =>
        obtain ⟨xs2, p2, l2, c2, hg5, hc5, hp2, hl2, hc2, hrw5⟩ := hcut
        clear HRW HG2 HC2
        have HTK : Hid (codeOf (l.take (j + 1)) = codeOf (l.take j) ++ (Ins.mk op arg lin col).bytes) := by unfold Hid; rw [HXT.out, codeOf_append]; simp [codeOf]
        have hpcb : pc + (Ins.mk op arg lin col).bytes.length ≤ 100000 := by
          have h1 := codeOf_take_le l (j + 1)
          rw [HTK.out] at h1
          have h2 := HM.out
          have h3 := hpc.out
          simp at h1; omega
        have hcl : (codeOf (l.take j)).length ≤ 99999 := by
          have h3 := hpc.out
          have h4 : 1 ≤ (Ins.mk op arg lin col).bytes.length := by simp [Ins.bytes]
          omega
        have HPB := Lib.hid hpcb
        have HRN : Hid (∀ q, q = (Ins.mk op arg lin col).bytes.length → xs2 ++ rowsOf (l.drop (j + 1)) (pc + q) p2 l2 c2 = rowsOf l 0 0 ln c) := fun q hq => by rw [hq, hrw5.out]; exact HRWD.out
        obtain ⟨a6, c6, hv6⟩ := hg5.out.code.form
        rw [← hpc.out] at hv6
        subst hv6
        obtain ⟨i0', i1', i2', i3'⟩ := blk4 hc5.out
        have hz5 : B ≤ wc.heap.size := Nat.le_trans hBw hg5.out.below.size
        clear hpcb
        by_cases h43 : op < 43
        · have hd1 : decide (43 ≤ op) = false := by simp; omega
          have hd2 : decide ((43 : Int) ≤ (op : Int)) = false := by simp; omega
          have HT : Hid ((Ins.mk op arg lin col).bytes = [op]) := by unfold Hid Ins.bytes Ins.tail; rw [if_neg (by simp only; omega), if_neg (by simp only; omega)]
          clear h43
          go_wp2_with (at_builtin; refine wpList_append_one rfl (.tmp 126) (.tmp 129) 27 rfl _ B 5 i0 _ 1 Try.underlying27 hi5 hz0 hz1 hz2 rfl _ (codeOf (l.take j)).length _ hg5.out.code rfl (.int .u8 (op : Int)) rfl rfl rfl (by unfold maxLen; omega) (by omega) hz5 ?_; intro v2 w2 hown2 hb2 hg2; obtain ⟨hg6, hc6⟩ := hg5.out.code1 hc5.out hown2 hb2 hg2; rw [← HT.out, ← HTK.out] at hg6; have HG6 := Lib.hid hg6; obtain ⟨i0'', i1'', i2'', i3''⟩ := blk4 hc6; clear hg6 hc6 hown2 hb2 hg2)
          go_roundg (n - (j + 1))
          case measure => have := HJ.out; omega
          case rel => exact ⟨j + 1, pc + 1, p2, l2, c2, xs2, by go_num, by have := HJ.out; omega, by go_num, by unfold Hid; rw [HTK.out, HT.out, hpc.out]; simp, by omega, by have := HPB.out; rw [HT.out] at this; simpa using this, HG6.out, HRN.out 1 (by rw [HT.out]; rfl), hl2, hc2⟩
        · have hd1 : decide (43 ≤ op) = true := by simp; omega
          have hd2 : decide ((43 : Int) ≤ (op : Int)) = true := by simp; omega
          obtain ⟨mm, hmm⟩ : ∃ mm, mm = (if op = 44 ∨ op = 45 then 4 else 0) := ⟨_, rfl⟩
          have hmm4 : mm ≤ 4 := by rw [hmm]; split <;> omega
          have HT : Hid ((Ins.mk op arg lin col).bytes = op :: padded arg mm) := by
            unfold Hid Ins.bytes Ins.tail
            rw [hmm]
            by_cases h : op = 44 ∨ op = 45
            · rw [if_pos h, if_pos h]
            · rw [if_neg h, if_neg h, if_pos (by simp only; omega)]
          have HADD : Hid (∀ (v : Value) (w2 : World), NB B w2 v (codeOf (l.take j) ++ [op]) → B ≤ w2.heap.size → Calls Try.prog 45 #[v, .int .u32 (arg : Int), .int .i64 (mm : Int)] w2
              fun e w' => ∃ v', e = .returned v' ∧ NB B w' v' (codeOf (l.take (j + 1))) ∧ Below B w2 w' ∧ KeepsT 5 w2 w') := fun v w2 h1 h2 => by
            rw [HTK.out, HT.out]
            have h3 := add_u32 B v (codeOf (l.take j) ++ [op]) arg mm w2 harg hmm4 (by simp; omega) h1 h2
            simpa using h3
          have HML : Hid ((codeOf (l.take (j + 1))).length = pc + (Ins.mk op arg lin col).bytes.length) := by unfold Hid; rw [HTK.out, hpc.out]; simp
          obtain ⟨pn, hpn⟩ : ∃ pn, pn = (codeOf (l.take (j + 1))).length := ⟨_, rfl⟩
          have hpn1 : pn ≤ 100000 := by rw [hpn, HML.out]; exact HPB.out
          have hpn2 : p2 ≤ pn := by rw [hpn, HML.out]; omega
          have HPN := Lib.hid hpn
          clear h43 hpn
          have hcase : (op = 44 ∧ mm = 4) ∨ (op = 45 ∧ mm = 4) ∨ (¬ op = 44 ∧ ¬ op = 45 ∧ mm = 0) := by
            rw [hmm]
            by_cases h1 : op = 44
            · exact .inl ⟨h1, by rw [if_pos (.inl h1)]⟩
            · by_cases h2 : op = 45
              · exact .inr (.inl ⟨h2, by rw [if_pos (.inr h2)]⟩)
              · exact .inr (.inr ⟨h1, h2, by rw [if_neg (by omega)]⟩)
          clear hmm hmm4
          rcases hcase with ⟨h1, h2⟩ | ⟨h1, h2⟩ | ⟨h1, h2, h3⟩
          · have he1 : ((op : Int) == 44) = true := by rw [beq_iff_eq]; omega
            clear h1
            subst h2
            go_wp2_with (at_builtin; refine wpList_append_one rfl (.tmp 126) (.tmp 129) 27 rfl _ B 5 i0 _ 1 Try.underlying27 hi5 hz0 hz1 hz2 rfl _ (codeOf (l.take j)).length _ hg5.out.code rfl (.int .u8 (op : Int)) rfl rfl rfl (by unfold maxLen; omega) (by omega) hz5 ?_; intro v2 w2 hown2 hb2 hg2; obtain ⟨hg6, hc6⟩ := hg5.out.code1 hc5.out hown2 hb2 hg2; have HG6 := Lib.hid hg6; have hz6 : B ≤ w2.heap.size := Nat.le_trans hBw hg6.below.size; obtain ⟨i0'', i1'', i2'', i3''⟩ := blk4 hc6; clear hg6 hc6 hown2 hb2 hg2 i0' i1' i2' i3')
            refine (HADD.out _ _ HG6.out.code hz6).mono ?_
            rintro e w4 ⟨v4, rfl, hnb, hb4, hk4⟩
            have HG7 := Lib.hid (HG6.out.code2 hnb hb4 hk4)
            obtain ⟨a4, c4, hv4⟩ := hnb.form
            rw [← HPN.out] at hv4
            subst hv4
            clear hnb hb4 hk4 i0'' i1'' i2'' i3''
            go_wp2
            go_roundg (n - (j + 1))
            case measure => have := HJ.out; omega
            case rel => exact ⟨j + 1, pn, p2, l2, c2, xs2, by go_num, by have := HJ.out; omega, rfl, HPN.out, hpn2, hpn1, HG7.out, by have h := HRN.out _ rfl; rw [← HML.out, ← HPN.out] at h; exact h, hl2, hc2⟩
          · have he1 : ((op : Int) == 44) = false := by rw [beq_eq_false_iff_ne]; omega
            have he2 : ((op : Int) == 45) = true := by rw [beq_iff_eq]; omega
            clear h1
            subst h2
            go_wp2_with (at_builtin; refine wpList_append_one rfl (.tmp 126) (.tmp 129) 27 rfl _ B 5 i0 _ 1 Try.underlying27 hi5 hz0 hz1 hz2 rfl _ (codeOf (l.take j)).length _ hg5.out.code rfl (.int .u8 (op : Int)) rfl rfl rfl (by unfold maxLen; omega) (by omega) hz5 ?_; intro v2 w2 hown2 hb2 hg2; obtain ⟨hg6, hc6⟩ := hg5.out.code1 hc5.out hown2 hb2 hg2; have HG6 := Lib.hid hg6; have hz6 : B ≤ w2.heap.size := Nat.le_trans hBw hg6.below.size; obtain ⟨i0'', i1'', i2'', i3''⟩ := blk4 hc6; clear hg6 hc6 hown2 hb2 hg2 i0' i1' i2' i3')
            refine (HADD.out _ _ HG6.out.code hz6).mono ?_
            rintro e w4 ⟨v4, rfl, hnb, hb4, hk4⟩
            have HG7 := Lib.hid (HG6.out.code2 hnb hb4 hk4)
            obtain ⟨a4, c4, hv4⟩ := hnb.form
            rw [← HPN.out] at hv4
            subst hv4
            clear hnb hb4 hk4 i0'' i1'' i2'' i3''
            go_wp2
            go_roundg (n - (j + 1))
            case measure => have := HJ.out; omega
            case rel => exact ⟨j + 1, pn, p2, l2, c2, xs2, by go_num, by have := HJ.out; omega, rfl, HPN.out, hpn2, hpn1, HG7.out, by have h := HRN.out _ rfl; rw [← HML.out, ← HPN.out] at h; exact h, hl2, hc2⟩
          · have he1 : ((op : Int) == 44) = false := by rw [beq_eq_false_iff_ne]; omega
            have he2 : ((op : Int) == 45) = false := by rw [beq_eq_false_iff_ne]; omega
            clear h1 h2
            subst h3
            go_wp2_with (at_builtin; refine wpList_append_one rfl (.tmp 126) (.tmp 129) 27 rfl _ B 5 i0 _ 1 Try.underlying27 hi5 hz0 hz1 hz2 rfl _ (codeOf (l.take j)).length _ hg5.out.code rfl (.int .u8 (op : Int)) rfl rfl rfl (by unfold maxLen; omega) (by omega) hz5 ?_; intro v2 w2 hown2 hb2 hg2; obtain ⟨hg6, hc6⟩ := hg5.out.code1 hc5.out hown2 hb2 hg2; have HG6 := Lib.hid hg6; have hz6 : B ≤ w2.heap.size := Nat.le_trans hBw hg6.below.size; obtain ⟨i0'', i1'', i2'', i3''⟩ := blk4 hc6; clear hg6 hc6 hown2 hb2 hg2 i0' i1' i2' i3')
            refine (HADD.out _ _ HG6.out.code hz6).mono ?_
            rintro e w4 ⟨v4, rfl, hnb, hb4, hk4⟩
            have HG7 := Lib.hid (HG6.out.code2 hnb hb4 hk4)
            obtain ⟨a4, c4, hv4⟩ := hnb.form
            rw [← HPN.out] at hv4
            subst hv4
            clear hnb hb4 hk4 i0'' i1'' i2'' i3''
            go_wp2
            go_roundg (n - (j + 1))
            case measure => have := HJ.out; omega
            case rel => exact ⟨j + 1, pn, p2, l2, c2, xs2, by go_num, by have := HJ.out; omega, rfl, HPN.out, hpn2, hpn1, HG7.out, by have h := HRN.out _ rfl; rw [← HML.out, ← HPN.out] at h; exact h, hl2, hc2⟩
    · have hjn' : j = n := by have := HJ.out; omega
      subst hjn'
      obtain ⟨a6, c6, hv6⟩ := hgs.out.code.form
      have hlm : (codeOf (l.take j)).length = m := by rw [HN.out, List.take_length]; exact HM.out.symm
      rw [hlm] at hv6
      subst hv6
      obtain ⟨a7, c7, hv7⟩ := hgs.out.tab.form
      subst hv7
      have HRF : Hid (xs = rowsOf l 0 0 ln c) := by
        have h1 := hrow.out
        rw [HN.out, List.drop_length] at h1
        unfold Hid
        simpa [rowsOf] using h1
      have kB := HB0.out.below hgs.out.below (by rw [HBD.out]; exact HB0.out.lt)
      have kF := HF0.out.below hgs.out.below (by rw [HBD.out]; exact HF0.out.lt)
      have kG := HG0.out.below hgs.out.below (by rw [HBD.out]; exact HG0.out.lt)
      have b1 := kB.cell 1
      have f0 := kF.cell 0
      have g6 := kG.cell 6
      have g7 := kG.cell 7
      have z6 := kG.frozen 6
      have z7 := kG.frozen 7
      simp only [funCells, List.getElem?_toArray, List.getElem?_cons_zero, List.getElem?_cons_succ] at b1 f0 g6 g7
      have hGF : G ≠ F := by
        intro e
        subst e
        have h1 := kF
        have h2 := kG
        unfold Blk at h1 h2
        rw [h1] at h2
        injection h2 with h3
        injection h3 with _ h4
        exact absurd h4 (by decide)
      have HKG := Lib.hid kG
      clear kB kF kG hj hlm
      go_wp2_with fail
      go_quiet (fail)
      go_wp2_with fail
      rw [rounds_succ]
      go_wp2_with fail
      go_end0
      exact gen_end hBw HBD.out hgs.out HKG.out HRF.out (by rw [HN.out, List.take_length]) _
end Go.Proofs.Ytkddmiamdpbgiaa
