/- The door to generate and to the places: what it tells of instructions. -/
import Derived.Test.YtkddmiamdpbgiaaZz
import Derived.Test.YtkddmiamdpbgiaaBytes
namespace Go.Proofs.Ytkddmiamdpbgiaa
open Go.RowKit
theorem deltas_len2 : ∀ f dp dl dc, (deltas f dp dl dc).length ≤ dp + dl.natAbs + dc.natAbs + 1 := by
  intro f
  induction f with
  | zero => intro dp dl dc; simp [deltas]
  | succ f ih =>
    intro dp dl dc
    by_cases h : dp ≤ 15 ∧ clipped dl (-16) 15 = dl ∧ clipped dc (-32) 31 = dc
    · unfold deltas; rw [if_pos h]; simp
    · obtain ⟨k', hk, h1, h2⟩ := delta_more (k := dp + dl.natAbs + dc.natAbs + 1) (by omega) h
      unfold deltas
      rw [if_neg h, List.length_cons]
      have := ih (dp - min dp 15) (dl - clipped dl (-16) 15) (dc - clipped dc (-32) 31)
      omega
theorem rows_bound : ∀ (l : List Ins) (pc p : Nat) (ln c : Int), p ≤ pc → pc + (codeOf l).length ≤ 2000 → (0 ≤ ln ∧ ln ≤ 70000) → (0 ≤ c ∧ c ≤ 70000) → (∀ x ∈ l, (0 ≤ x.line ∧ x.line ≤ 70000) ∧ (0 ≤ x.col ∧ x.col ≤ 70000)) →
    (rowsOf l pc p ln c).length ≤ 142001 * l.length := by
  intro l
  induction l with
  | nil => intros; simp [rowsOf]
  | cons x xs ih =>
    intro pc p ln c hp hpc hl hc hall
    have hx := hall x (by simp)
    have hxs : ∀ y ∈ xs, (0 ≤ y.line ∧ y.line ≤ 70000) ∧ (0 ≤ y.col ∧ y.col ≤ 70000) := fun y hy => hall y (by simp [hy])
    have hcl : (codeOf (x :: xs)).length = x.bytes.length + (codeOf xs).length := by simp [codeOf]
    rw [hcl] at hpc
    unfold rowsOf
    split
    · have := ih (pc + x.bytes.length) p ln c (by omega) (by omega) hl hc hxs
      simp; omega
    · have h1 := ih (pc + x.bytes.length) pc x.line x.col (by omega) (by omega) hx.1 hx.2 hxs
      have h2 := deltas_len2 1000000 (pc - p) (x.line - ln) (x.col - c)
      rw [List.length_append, List.length_cons]; omega
theorem dRow_lt (dp : Nat) (dl dc : Int) (m : Nat) (hp : dp ≤ 15) (hm : m ≤ 1) : dRow dp dl dc m < 65536 := by unfold dRow; omega
theorem deltas_lt : ∀ f dp dl dc, ∀ x ∈ deltas f dp dl dc, x < 65536 := by
  intro f
  induction f with
  | zero => intro dp dl dc x hx; simp [deltas] at hx
  | succ f ih =>
    intro dp dl dc x hx
    unfold deltas at hx
    split at hx
    · next h => simp at hx; subst hx; exact dRow_lt _ _ _ _ h.1 (by omega)
    · rcases List.mem_cons.1 hx with rfl | hx
      · exact dRow_lt _ _ _ _ (by omega) (by omega)
      · exact ih _ _ _ _ hx
theorem rows_lt : ∀ (l : List Ins) (pc p : Nat) (ln c : Int), ∀ x ∈ rowsOf l pc p ln c, x < 65536 := by
  intro l
  induction l with
  | nil => intro _ _ _ _ x hx; simp [rowsOf] at hx
  | cons y xs ih =>
    intro pc p ln c x hx
    unfold rowsOf at hx
    split at hx
    · exact ih _ _ _ _ x hx
    · rcases List.mem_append.1 hx with hx | hx
      · exact deltas_lt _ _ _ _ x hx
      · exact ih _ _ _ _ x hx
theorem bytes_pos (x : Ins) : 1 ≤ x.bytes.length := by simp [Ins.bytes]
theorem places_ge : ∀ (l : List Ins) (pc : Nat), ∀ x ∈ placesOf l pc, pc ≤ x.1 := by
  intro l
  induction l with
  | nil => intro pc x hx; simp [placesOf] at hx
  | cons y xs ih =>
    intro pc x hx
    have := bytes_pos y
    unfold placesOf at hx
    split at hx
    · have := ih _ x hx; omega
    · rcases List.mem_cons.1 hx with rfl | hx
      · exact Nat.le_refl _
      · have := ih _ x hx; omega
theorem places_pairwise : ∀ (l : List Ins) (pc : Nat), (placesOf l pc).Pairwise (fun a b => a.1 < b.1) := by
  intro l
  induction l with
  | nil => intro pc; simp [placesOf]
  | cons y xs ih =>
    intro pc
    unfold placesOf
    split
    · exact ih _
    · refine List.pairwise_cons.2 ⟨fun b hb => ?_, ih _⟩
      have := places_ge xs _ b hb
      have := bytes_pos y
      simp only; omega
theorem places_sorted (l : List Ins) (pc : Nat) : Sorted (placesOf l pc) := fun i j hi hj h => List.pairwise_iff_getElem.1 (places_pairwise l pc) i j hi hj h
theorem NB.cell_at {B : Nat} {w : World} {v : Value} {l : List Nat} (h : NB B w v l) {g : Nat} (hg : v.ownBlock = some g) (j : Nat) (hj : j < l.length) : w.cell? ((⟨g, 0, none⟩ : Addr).add j) = some (.int .u8 ((l[j]'hj : Nat) : Int)) :=
  h.cells hg j _ (by simp [nbs, hj])
theorem nb_bsl {B : Nat} {w : World} {v : Value} {l : List Nat} (h : NB B w v l) (hl : ∀ x ∈ l, x < 256) : BSl w v l := by
  rcases h.2 with ⟨rfl, h0⟩ | ⟨g, cap, cur, rfl, hb, hh, h1, h2, _⟩
  · have : l = [] := List.eq_nil_of_length_eq_zero h0
    subst this
    exact ⟨none, 0, rfl, Nat.le_refl _, by simp, by simp, fun _ => ⟨rfl, rfl⟩, by simp⟩
  · refine ⟨_, cap, rfl, h1, h2, hl, by simp, fun p hp j hj => ?_⟩
    obtain rfl := Option.some.inj hp
    exact NB.cell_at h (by simp [Value.ownBlock]) j hj
theorem wpList_append_row_at {P : Program} {ops : Array Oper} {rest : List Oper} {o : Oper} {a : Act} {Q : Exit → Act → World → Prop} {W : World} (hgd : o.guard = none) (s x : Operand) (t : TypeId)
    (ho : o.op = .call { callee := .builtin .append, args := #[s, x], argTypes := #[t, t] })
    (w : World) (N : Nat) (hN : w.heap.size = N) (base : Nat) (e : TypeId) (i : TypeInfo) (z : Value) (bytes size : Nat) (ht : P.underlying t = some (.slice e)) (hi : P.info? e = some i) (hz : i.zero = some z)
    (hsize : i.size = size) (hby : i.bytes = bytes) (hzs : z.cells.size = size) (hs0 : 0 < size)
    (v : Value) (n : Nat) (xs : List Value) (hown : w.ownsRow base e size v n xs) (hs : a.eval s = v) (us : List Value) (hus : us.length = size) (hone : ∀ u ∈ us, u.oneCell' = true)
    (hx : a.eval x = .slice (some ⟨N, 0, none⟩) 1 1) (hW : W = w.alloc (.cells us.toArray e))
    (h63 : n + 1 ≤ maxLen) (hbytes : (n + 1) * bytes ≤ 140737488355328) (hbase : base ≤ N)
    (h : ∀ v' w', w'.ownsRow base e size v' (n + 1) (xs ++ us) → Below base w w' → w.grownBy w' v.ownBlock → wpList P ops Q rest (a.put o.dst v') w') : wpList P ops Q (o :: rest) a W := by
  subst hN
  exact wpList_append_row hgd s x t ho w base e i z bytes size ht hi hz hsize hby hzs hs0 v n xs hown hs us hus hone hx hW h63 hbytes hbase h
/-- The slice of instructions that is handed in. -/
def SrcAt (w : World) (a : Option Addr) (l : List Ins) : Prop := l = [] ∨ ∃ I, a = some ⟨I, 0, none⟩ ∧ I < w.heap.size ∧ ∀ j (h : j < l.length), w.cell? ⟨I, j * 4, none⟩ = some (.int .i64 ((l[j]'h).op : Int)) ∧ w.cell? ⟨I, j * 4 + 1, none⟩ = some (.int .u32 ((l[j]'h).arg : Int)) ∧ w.cell? ⟨I, j * 4 + 2, none⟩ = some (.int .i32 (l[j]'h).line) ∧ w.cell? ⟨I, j * 4 + 3, none⟩ = some (.int .i32 (l[j]'h).col)
theorem make_pos (a : Option Addr) (ln c : Int) (w : World) : Calls Try.prog 25 #[.pointer a, .int .i32 ln, .int .i32 c] w fun e w' => e = .returned (.agg #[.pointer a, .int .i32 ln, .int .i32 c]) ∧ Below w.heap.size w w' := by
  go_enter Try.func25, Try.ntmps25
  go_wp2
  exact bodyPost_ret (v := .agg #[.pointer a, .int .i32 ln, .int .i32 c]) (by simp [results, Try.results25, go_sem]) rfl ⟨rfl, (Below.refl _ _).alloc (Nat.le_refl _) _⟩
theorem Try.infoZz : (Try.prog.info? 66).map (fun i => (i.zero, i.size, i.bytes)) = some (some (.agg #[.int .u8 0, .int .u32 0, .int .i32 0, .int .i32 0]), 4, 16) := by kernel_rfl
theorem Try.infoTwo : (Try.prog.info? 48).map (fun i => (i.zero, i.size, i.bytes)) = some (some (.agg #[.int .i32 0, .int .i32 0]), 2, 8) := by kernel_rfl
def flat2 (l : List (Int × Int)) : List Value := (l.map fun x => [Value.int .i32 x.1, .int .i32 x.2]).flatten
theorem flat2_more (l : List (Int × Int)) (a b : Int) : flat2 (l ++ [(a, b)]) = flat2 l ++ [Value.int .i32 a, .int .i32 b] := by simp [flat2]
theorem FnState.cell6 {w : World} {G : Nat} {fa : Option Addr} {ln c : Int} {v6 v7 : Value} {rows : List Nat} (h : FnState w G fa ln c v6 v7 rows) : w.cell? ⟨G, 6, none⟩ = some v6 := by
  rcases h with h | ⟨R, h⟩
  · have := h.cell 6; simpa [funCells] using this
  · have := h.1.cell 6; simpa [funCells] using this
theorem FnState.blk {w : World} {G : Nat} {fa : Option Addr} {ln c : Int} {v6 v7 : Value} {rows : List Nat} (h : FnState w G fa ln c v6 v7 rows) : ∃ cs, Blk w G 90 cs := by
  rcases h with h | ⟨R, h⟩
  · exact ⟨_, h⟩
  · exact ⟨_, h.1⟩
theorem DoneAt.keeps {w w' : World} {t : TypeId} {G R : Nat} {fa : Option Addr} {ln c : Int} {v6 v7 : Value} {rows : List Nat} (h : DoneAt w G R fa ln c v6 v7 rows) (k : KeepsT t w w') (h1 : 90 ≠ t) (h2 : 116 ≠ t) : DoneAt w' G R fa ln c v6 v7 rows := by
  obtain ⟨a, ⟨cur, b, b2⟩, d⟩ := h
  exact ⟨k.blk a h1, ⟨cur, k.blk b h2, b2⟩, d⟩
theorem keeps_of_grown2 {w w' : World} {t : TypeId} {B size n : Nat} {v : Value} {xs : List Value} (h : w.ownsRow B t size v n xs) (hg : w.grownBy w' v.ownBlock) : KeepsT t w w' := KeepsT.of_grown h hg
theorem keeps_of_ob {w w' : World} {B : Nat} {v : Value} {l : List Nat} (h : OB w B v l) (hg : w.grownBy w' v.ownBlock) : KeepsT 5 w w' := KeepsT.of_grown h.1 hg
theorem vints_lt (x : Nat) : ∀ y ∈ vints x, y < 256 := by
  induction x using Nat.strongRecOn with
  | _ x ih =>
    intro y hy
    by_cases h : x < 128
    · rw [vints_small h] at hy; simp at hy; omega
    · rw [vints_big (by omega)] at hy
      rcases List.mem_cons.1 hy with rfl | hy
      · omega
      · exact ih (x / 128) (by omega) y hy
theorem codeOf_lt (l : List Ins) (h : ∀ x ∈ l, x.op < 256 ∧ True) : ∀ y ∈ codeOf l, y < 256 := by
  intro y hy
  unfold codeOf at hy
  rw [List.mem_flatten] at hy
  obtain ⟨b, hb, hyb⟩ := hy
  rw [List.mem_map] at hb
  obtain ⟨x, hx, rfl⟩ := hb
  have hop := (h x hx).1
  have hpad : ∀ (a m : Nat), ∀ y ∈ padded a m, y < 256 := fun a m y hy => by
    unfold padded at hy
    rcases List.mem_append.1 hy with hy | hy
    · exact vints_lt a y hy
    · have := List.eq_of_mem_replicate hy; omega
  unfold Ins.bytes Ins.tail at hyb
  rcases List.mem_cons.1 hyb with rfl | hyb
  · exact hop
  · split at hyb
    · exact hpad _ _ y hyb
    · split at hyb
      · exact hpad _ _ y hyb
      · simp at hyb
/-- What the door answers. -/
def PlacedPost (ln c : Int) (l : List Ins) (w : World) (e : Ending) (w' : World) : Prop :=
  ∃ vc vp pls, e = .returned (.tuple #[vc, vp, .bool true]) ∧ OB w' w.heap.size vc (codeOf l) ∧ w'.ownsRow w.heap.size 48 2 vp (codeOf l).length (flat2 pls) ∧ pls.length = (codeOf l).length ∧
    (∀ k (hk : k < pls.length) q (hq : q < (placesOf l 0).length), IsLast (placesOf l 0) k q → ((placesOf l 0)[q]'hq).2 = pls[k]'hk) ∧ Below w.heap.size w w'
set_option maxRecDepth 100000 in
set_option maxHeartbeats 4000000 in
theorem placed_any (ln c : Int) (ia : Option Addr) (n cap : Nat) (l : List Ins) (w : World) (hi : SrcAt w ia l) (hn : n = l.length) (hlen : (codeOf l).length ≤ 2000) (hl2 : l.length ≤ 200) (hln : 0 ≤ ln ∧ ln ≤ 70000) (hc : 0 ≤ c ∧ c ≤ 70000)
    (hall : ∀ x ∈ l, x.op ≤ 67 ∧ x.arg < 268435456 ∧ (0 ≤ x.line ∧ x.line ≤ 70000) ∧ (0 ≤ x.col ∧ x.col ≤ 70000)) :
    Calls Try.prog 12 #[.int .i32 ln, .int .i32 c, .slice ia n cap] w (PlacedPost ln c l w) := by
  obtain ⟨i0, hi0, hz0, hz1, hz2⟩ := info_parts Try.infoZz
  obtain ⟨i1, hi1, hy0, hy1, hy2⟩ := info_parts Try.infoTwo
  have hn200 : n ≤ 200 := by omega
  have HI := Lib.hid hi
  have HN := Lib.hid hn
  have HL := Lib.hid hlen
  have HALL := Lib.hid hall
  have HLN := Lib.hid hln
  have HC := Lib.hid hc
  clear hi hn hlen hall hl2 hln hc
  go_enter Try.func12, Try.ntmps12
  go_wp2_with fail
  go_loopg [6, 7, 8, 9, 19] n (fun k r6 r7 r8 vi jv wr => ∃ j : Nat, jv = .int .i64 (j : Int) ∧ r6 = .slice none 0 0 ∧ r7 = .slice none 0 0 ∧ r8 = .bool false ∧ k + j = n ∧ Hid (wr.ownsRow w.heap.size 66 4 vi (l.take j).length (flat4 (l.take j))) ∧ Hid (Below w.heap.size w wr))
  case atStart => exact ⟨0, rfl, rfl, rfl, rfl, by omega, World.ownsRow_nil _ _ _ _, Below.refl _ _⟩
  case round =>
    obtain ⟨j, rfl, rfl, rfl, rfl, hk, hrow, hbw⟩ := hrel
    have HK := Lib.hid hk
    clear hk
    by_cases hjn : j < n
    · have hjl : j < l.length := by rw [← HN.out]; exact hjn
      have hd : decide ((j : Int) < (n : Int)) = true := by simp; omega
      rcases HI.out with he | ⟨I, rfl, hI, hcs⟩
      · exfalso; rw [he] at hjl; simp at hjl
      obtain ⟨x, hx⟩ : ∃ x, x = l[j]'hjl := ⟨_, rfl⟩
      have hcj := hcs j hjl
      have hxb := HALL.out (l[j]'hjl) (List.getElem_mem hjl)
      rw [← hx] at hcj hxb
      have HXT := Lib.hid (show l.take (j + 1) = l.take j ++ [x] by rw [hx]; exact List.take_succ_eq_append_getElem hjl)
      obtain ⟨op, arg, lin, col⟩ := x
      obtain ⟨c0, c1, c2, c3⟩ := hcj
      obtain ⟨hop, harg, hlin, hcol⟩ := hxb
      have q0 := (hbw.out.cell (p := ⟨I, j * 4, none⟩) hI).trans c0
      have q1 := (hbw.out.cell (p := ⟨I, j * 4 + 1, none⟩) hI).trans c1
      have q2 := (hbw.out.cell (p := ⟨I, j * 4 + 2, none⟩) hI).trans c2
      have q3 := (hbw.out.cell (p := ⟨I, j * 4 + 3, none⟩) hI).trans c3
      simp only at q0 q1 q2 q3 hop harg hlin hcol
      have hw1 : (op : Int) % 256 = (op : Int) := by omega
      have hw2 : IntKind.u8.wrap (op : Int) = (op : Int) := by simp [IntKind.wrap, IntKind.bits, IntKind.signed]; omega
      have hd1 : decide ((op : Int) < 0) = false := by simp
      have hd2 : decide ((67 : Int) < (op : Int)) = false := by simp; omega
      have hd3 : decide (67 < op) = false := by simp; omega
      have hd4 : decide ((268435456 : Int) ≤ (arg : Int)) = false := by simp; omega
      have hd5 : decide (268435456 ≤ arg) = false := by simp; omega
      have hsz := hbw.out.size
      have hjl1 : (l.take j).length = j := by simp; omega
      have HMX : Hid ((l.take j).length + 1 ≤ maxLen ∧ ((l.take j).length + 1) * 16 ≤ 140737488355328) := by unfold Hid; rw [hjl1]; exact ⟨by unfold maxLen; omega, by omega⟩
      have HROW2 := Lib.hid (hrow.out.alloc (.cells #[.int .i64 (op : Int), .int .u32 (arg : Int), .int .i32 lin, .int .i32 col] 39))
      have hcase : op = 44 ∨ op = 45 ∨ (¬ op = 44 ∧ ¬ op = 45) := by omega
      clear hx c0 c1 c2 c3 hcs hop hjl1
      rcases hcase with h1 | h1 | ⟨h1, h2⟩
      · have he1 : ((op : Int) == 44) = true := by rw [beq_iff_eq]; omega
        clear h1
        go_wp2_with (at_builtin; refine wpList_append_row_at rfl (.tmp 47) (.tmp 56) 63 rfl (wr.alloc (.cells #[.int .i64 (op : Int), .int .u32 (arg : Int), .int .i32 lin, .int .i32 col] 39)) (wr.heap.size + 1) (by simp) w.heap.size 66 i0 _ 16 4 Try.underlying63 hi0 hz0 hz1 hz2 rfl (by decide) _ (l.take j).length (flat4 (l.take j)) HROW2.out rfl (Ins.mk op arg lin col).cells rfl (ins_one _) rfl rfl HMX.out.1 HMX.out.2 (by omega) ?_; intro v2 w2 hown2 hb2 hg2)
        have HO2 : Hid (w2.ownsRow w.heap.size 66 4 v2 (l.take (j + 1)).length (flat4 (l.take (j + 1)))) := by unfold Hid; rw [HXT.out, flat4_more]; simpa using hown2
        have HB2 := Lib.hid ((hbw.out.alloc hsz (.cells #[.int .i64 (op : Int), .int .u32 (arg : Int), .int .i32 lin, .int .i32 col] 39)).trans hb2)
        clear hown2 hb2 hg2
        go_wp2
        go_roundg (n - (j + 1))
        case measure => have := HK.out; omega
        case rel => exact ⟨j + 1, by go_num, rfl, rfl, rfl, by have := HK.out; omega, HO2.out, HB2.out⟩
      · have he1 : ((op : Int) == 44) = false := by rw [beq_eq_false_iff_ne]; omega
        have he2 : ((op : Int) == 45) = true := by rw [beq_iff_eq]; omega
        clear h1
        go_wp2_with (at_builtin; refine wpList_append_row_at rfl (.tmp 47) (.tmp 56) 63 rfl (wr.alloc (.cells #[.int .i64 (op : Int), .int .u32 (arg : Int), .int .i32 lin, .int .i32 col] 39)) (wr.heap.size + 1) (by simp) w.heap.size 66 i0 _ 16 4 Try.underlying63 hi0 hz0 hz1 hz2 rfl (by decide) _ (l.take j).length (flat4 (l.take j)) HROW2.out rfl (Ins.mk op arg lin col).cells rfl (ins_one _) rfl rfl HMX.out.1 HMX.out.2 (by omega) ?_; intro v2 w2 hown2 hb2 hg2)
        have HO2 : Hid (w2.ownsRow w.heap.size 66 4 v2 (l.take (j + 1)).length (flat4 (l.take (j + 1)))) := by unfold Hid; rw [HXT.out, flat4_more]; simpa using hown2
        have HB2 := Lib.hid ((hbw.out.alloc hsz (.cells #[.int .i64 (op : Int), .int .u32 (arg : Int), .int .i32 lin, .int .i32 col] 39)).trans hb2)
        clear hown2 hb2 hg2
        go_wp2
        go_roundg (n - (j + 1))
        case measure => have := HK.out; omega
        case rel => exact ⟨j + 1, by go_num, rfl, rfl, rfl, by have := HK.out; omega, HO2.out, HB2.out⟩
      · have he1 : ((op : Int) == 44) = false := by rw [beq_eq_false_iff_ne]; omega
        have he2 : ((op : Int) == 45) = false := by rw [beq_eq_false_iff_ne]; omega
        clear h1 h2
        go_wp2_with (at_builtin; refine wpList_append_row_at rfl (.tmp 47) (.tmp 56) 63 rfl (wr.alloc (.cells #[.int .i64 (op : Int), .int .u32 (arg : Int), .int .i32 lin, .int .i32 col] 39)) (wr.heap.size + 1) (by simp) w.heap.size 66 i0 _ 16 4 Try.underlying63 hi0 hz0 hz1 hz2 rfl (by decide) _ (l.take j).length (flat4 (l.take j)) HROW2.out rfl (Ins.mk op arg lin col).cells rfl (ins_one _) rfl rfl HMX.out.1 HMX.out.2 (by omega) ?_; intro v2 w2 hown2 hb2 hg2)
        have HO2 : Hid (w2.ownsRow w.heap.size 66 4 v2 (l.take (j + 1)).length (flat4 (l.take (j + 1)))) := by unfold Hid; rw [HXT.out, flat4_more]; simpa using hown2
        have HB2 := Lib.hid ((hbw.out.alloc hsz (.cells #[.int .i64 (op : Int), .int .u32 (arg : Int), .int .i32 lin, .int .i32 col] 39)).trans hb2)
        clear hown2 hb2 hg2
        go_wp2
        go_roundg (n - (j + 1))
        case measure => have := HK.out; omega
        case rel => exact ⟨j + 1, by go_num, rfl, rfl, rfl, by have := HK.out; omega, HO2.out, HB2.out⟩
    · obtain rfl : j = n := by have := HK.out; omega
      have hrow' := hrow.out
      have hlt : l.take j = l := by rw [HN.out]; exact List.take_length
      rw [hlt] at hrow'
      obtain ⟨ai, ci, hvi, hia⟩ := insAt_of_row hrow' rfl
      rw [← HN.out] at hvi
      subst hvi
      have HBW := Lib.hid hbw.out
      have hsz := hbw.out.size
      have HIA : Hid (∀ W, Below wr.heap.size wr W → InsAt W ai l) := fun W h => hia.below h
      clear hrow' hlt hrow hia
      go_wp2_with fail
      refine (make_pos _ _ _ _).mono ?_
      rintro e w2 ⟨rfl, hb2⟩
      have HB2 := Lib.hid (((Below.refl _ wr).alloc (Nat.le_refl _) (.cells #[.string ⟨#[]⟩] 9)).trans (hb2.mono (by simp)))
      have hsz2 := HB2.out.size
      clear hb2
      go_wp2_with fail
      refine (zz_any (some ⟨wr.heap.size, 0, none⟩) ln c ai j ci l _ (HIA.out _ HB2.out) HN.out (by have := HL.out; omega) (by have := HLN.out; omega) (by have := HC.out; omega) (fun x hx => by have := HALL.out x hx; exact ⟨by omega, this.2.1, by omega, by omega⟩)).mono ?_
      rintro e w3 ⟨G, v6, v7, rfl, hGe, hfs, h6, h7, hb3⟩
      obtain ⟨a6, c6, hv6⟩ := h6.form
      obtain ⟨m, hm⟩ : ∃ m, m = (codeOf l).length := ⟨_, rfl⟩
      rw [← hm] at hv6
      subst hv6
      have g6 := hfs.cell6
      have hGl := hfs.lt
      have hm2 : m ≤ 2000 := by rw [hm]; exact HL.out
      obtain ⟨rows, hrows⟩ : ∃ rows, rows = rowsOf l 0 0 ln c := ⟨_, rfl⟩
      rw [← hrows] at hfs h7
      have HM := Lib.hid hm
      have HPL : Hid (undelta rows 0 ln c = placesOf l 0) := by
        unfold Hid
        rw [hrows]
        exact undelta_rows l 0 0 ln c (Nat.le_refl _) (by have := HL.out; omega) (by have := HLN.out; have := HC.out; omega) (fun x hx => by have := HALL.out x hx; omega)
      have hrl : rows.length ≤ 50000000 := by
        rw [hrows]
        have := rows_bound l 0 0 ln c (Nat.le_refl _) (by have := HL.out; omega) HLN.out HC.out (fun x hx => (HALL.out x hx).2.2)
        have := HN.out
        omega
      have HRX : Hid (∀ x ∈ rows, x < 65536) := by rw [hrows]; exact rows_lt l 0 0 ln c
      have HFS := Lib.hid hfs
      have H6 := Lib.hid (own_base h6 (by omega : wr.heap.size ≤ w2.heap.size))
      have H7 := Lib.hid (own_base h7 (by omega : w.heap.size ≤ w2.heap.size))
      have HB3 : Hid (Below w.heap.size w w3) := HBW.out.trans ((HB2.out.trans (hb3.mono hsz2)).mono hsz)
      have hGw : w.heap.size ≤ G := by omega
      clear hm hrows hfs h6 h7 hb3 hGe
      go_wp2_with fail
      clear g6
      obtain ⟨fa, hfa⟩ : ∃ fa : Option Addr, fa = some ⟨wr.heap.size, 0, none⟩ := ⟨_, rfl⟩
      rw [← hfa] at HFS
      clear hfa
      go_loopg [7, 15, 16, 69] m (fun k vp iv pv jv w4 => ∃ (i : Nat) (pls : List (Int × Int)), jv = .int .i64 (i : Int) ∧ k + i = m ∧ pls.length = i ∧ Hid (w4.ownsRow w.heap.size 48 2 vp pls.length (flat2 pls)) ∧ Hid (FnState w4 G fa ln c (.slice a6 m c6) v7 rows) ∧ Hid (NB wr.heap.size w4 (.slice a6 m c6) (codeOf l)) ∧ Hid (NH w.heap.size w4 v7 rows) ∧ Hid (Below w.heap.size w w4) ∧
        Hid (∀ k (hk : k < pls.length) q (hq : q < (placesOf l 0).length), IsLast (placesOf l 0) k q → ((placesOf l 0)[q]'hq).2 = pls[k]'hk))
      case atStart => exact ⟨0, [], rfl, by omega, rfl, World.ownsRow_nil _ _ _ _, HFS.out, H6.out, H7.out, HB3.out, fun k hk => by simp at hk⟩
      case round =>
        obtain ⟨i, pls, rfl, hk, hpl, hrow, hfs, h6, h7, hbw4, hpr⟩ := hrel
        have HK2 := Lib.hid hk
        have HPLN := Lib.hid hpl
        clear hk hpl
        by_cases him : i < m
        · have hd : decide ((i : Int) < (m : Int)) = true := by simp; omega
          have hwi : IntKind.u32.wrap (i : Int) = (i : Int) := by simp [IntKind.wrap, IntKind.bits, IntKind.signed]; omega
          have HPOS := Lib.hid (fun W (e : W = wr) => position_any w.heap.size G fa ln c (.slice a6 m c6) v7 rows i wr hfs.out h7.out hrl HRX.out (by have := HLN.out; omega) (by have := HC.out; omega) (by rw [HPL.out]; exact places_sorted l 0))
          go_wp2_with fail
          refine (HPOS.out _ rfl).mono ?_
          rintro e w5 ⟨line, col, rfl, hlc, ⟨R, hD⟩, hO⟩
          obtain ⟨cs, hcs⟩ := hfs.out.blk
          have hne2 := own_ne_blk hrow.out hcs (by decide)
          have hne6 := own_ne_blk h6.out hcs (by decide)
          have hne7 := own_ne_blk h7.out hcs (by decide)
          have HR5 := Lib.hid ((own_only hrow.out hO hne2).alloc (.cells #[.pointer fa, .int .i32 line, .int .i32 col] 71))
          have H65 := Lib.hid ((own_only h6.out hO hne6).alloc (.cells #[.pointer fa, .int .i32 line, .int .i32 col] 71))
          have H75 := Lib.hid ((own_only h7.out hO hne7).alloc (.cells #[.pointer fa, .int .i32 line, .int .i32 col] 71))
          have HD5 := Lib.hid (hD.below ((Below.refl _ w5).alloc (Nat.le_refl _) (.cells #[.pointer fa, .int .i32 line, .int .i32 col] 71)))
          have hb5 : Below w.heap.size w w5 := hbw4.out.trans (hO.to_below hbw4.out.size (fun k _ e => by omega))
          have hsz5 := hb5.size
          have HB5 := Lib.hid (hb5.alloc hsz5 (.cells #[.pointer fa, .int .i32 line, .int .i32 col] 71))
          have HLC := Lib.hid hlc
          have HMX : Hid (pls.length + 1 ≤ maxLen ∧ (pls.length + 1) * 8 ≤ 140737488355328) := by unfold Hid; rw [HPLN.out]; exact ⟨by unfold maxLen; omega, by omega⟩
          clear hlc hD hO hcs hne2 hne6 hne7 hb5 hwi
          go_wp2_with (at_builtin; refine wpList_append_row_at rfl (.tmp 76) (.tmp 82) 42 rfl (w5.alloc (.cells #[.pointer fa, .int .i32 line, .int .i32 col] 71)) (w5.heap.size + 1) (by simp) w.heap.size 48 i1 _ 8 2 Try.underlying42 hi1 hy0 hy1 hy2 rfl (by decide) _ pls.length (flat2 pls) HR5.out rfl [.int .i32 line, .int .i32 col] rfl (by simp [Value.oneCell']) rfl rfl HMX.out.1 HMX.out.2 (by omega) ?_; intro v6' w6 hown6 hb6 hg6)
          have hk6 := keeps_of_grown2 HR5.out hg6
          have HD6 := Lib.hid (HD5.out.keeps hk6 (by decide) (by decide))
          have H66 := Lib.hid (hk6.own H65.out (by decide))
          have H76 := Lib.hid (hk6.own H75.out (by decide))
          have HB6 := Lib.hid (HB5.out.trans hb6)
          have HR6 : Hid (w6.ownsRow w.heap.size 48 2 v6' (pls ++ [(line, col)]).length (flat2 (pls ++ [(line, col)]))) := by unfold Hid; rw [flat2_more]; simpa using hown6
          clear hk6 hown6 hb6 hg6
          go_wp2
          go_roundg (m - (i + 1))
          case measure => have := HK2.out; omega
          case rel => exact ⟨i + 1, pls ++ [(line, col)], by go_num, by have := HK2.out; omega, by have := HPLN.out; simp; omega, HR6.out, .inr ⟨R, HD6.out⟩, H66.out, H76.out, HB6.out, by
            unfold Hid
            intro k hk q hq hl
            rw [List.getElem_append]
            split
            · next h => exact hpr.out k h q hq hl
            · next h =>
              have hki : k = i := by have := HPLN.out; simp at hk; omega
              subst hki
              have h9 := HLC.out
              simp only [HPL.out] at h9
              rw [h9 q hq hl]
              simp⟩
        · obtain rfl : i = m := by have := HK2.out; omega
          have g6 := hfs.out.cell6
          have hGl6 := hfs.out.lt
          have hb256 : ∀ x ∈ codeOf l, x < 256 := codeOf_lt l (fun x hx => ⟨by have := HALL.out x hx; omega, trivial⟩)
          have HBS := Lib.hid ((nb_bsl h6.out hb256).old ((Below.refl _ wr).alloc (Nat.le_refl _) (.cells #[] 5)))
          have hsz4 := hbw4.out.size
          have HCL : Hid ((codeOf l).length ≤ 2000) := HL
          have HOB := Lib.hid (ob_new wr w.heap.size hsz4)
          go_wp2_with (at_builtin; refine wpList_app_bsl rfl (.tmp 85) (.tmp 89) rfl w.heap.size rfl rfl HOB.out HBS.out (by have := HCL.out; simp; omega) (by simp; omega) ?_; intro v9 w9 hob9 hb9 hg9)
          have HOB9 := Lib.hid hob9
          have hkt := keeps_of_ob HOB.out hg9
          have HR9 := Lib.hid (hkt.own (hrow.out.alloc (.cells #[] 5)) (by decide))
          have HB9 := Lib.hid ((hbw4.out.alloc hsz4 (.cells #[] 5)).trans hb9)
          clear hob9 hb9 hg9 hkt
          go_wp2
          go_ret3
          refine ⟨v9, _, pls, rfl, by simpa using HOB9.out, ?_, by rw [HPLN.out]; exact HM.out, fun k hk q hq hl => hpr.out k hk q hq hl, HB9.out⟩
          have h1 := HR9.out
          rw [HPLN.out, HM.out] at h1
          exact h1
end Go.Proofs.Ytkddmiamdpbgiaa
