/- Texts as values of the language: a row of them out of a row of texts, and back. -/
import Derived.Test.YteibkaonofkcbaaGreatDoorTxts
import Derived.Deep.LoopGhost
namespace Go.Proofs.YteibkaonofkcbaaGreatDoor
open Go.RowKit
def txV (t : ByteArray) : Value := .iface 60 (.string t)
def RowV (w : World) (B : Nat) (v : Value) (ts : List ByteArray) : Prop := w.ownsRow B 49 1 v ts.length (ts.map txV)
theorem RowV.below {w w' : World} {B : Nat} {v : Value} {ts : List ByteArray} (h : RowV w B v ts) (hb : Below w.heap.size w w') : RowV w' B v ts := own_below h hb
theorem RowV.nil (w : World) (B : Nat) : RowV w B (.slice none 0 0) [] := World.ownsRow_nil _ _ _ _
theorem RowV.form {w : World} {B : Nat} {v : Value} {ts : List ByteArray} (h : RowV w B v ts) : ∃ a c, v = .slice a ts.length c := by
  rcases h.2 with ⟨rfl, h0⟩ | ⟨g, cap, cur, rfl, _⟩
  · exact ⟨none, 0, by rw [h0]⟩
  · exact ⟨_, _, rfl⟩
/-- A slice that reads as these texts. -/
def TxtAt (w : World) (a : Option Addr) (ts : List ByteArray) : Prop := ∀ (j : Nat) x, ts[j]? = some x → ∃ g, a = some ⟨g, 0, none⟩ ∧ w.cell? ⟨g, j, none⟩ = some (.string x)
theorem TxtAt.below {w w' : World} {a : Option Addr} {ts : List ByteArray} (h : TxtAt w a ts) (hb : Below w.heap.size w w') : TxtAt w' a ts := fun j x hx => by
  obtain ⟨g, h1, h2⟩ := h j x hx
  exact ⟨g, h1, (hb.cell (p := ⟨g, j, none⟩) (World.block_lt_of_cell? w _ h2)).trans h2⟩
theorem RowT.at {w : World} {B : Nat} {a : Option Addr} {n c : Nat} {ts : List ByteArray} (h : RowT w B (.slice a n c) ts) : TxtAt w a ts := fun j x hx => by
  have hj : j < ts.length := (List.getElem?_eq_some_iff.1 hx).1
  rcases h.2 with ⟨_, h0⟩ | ⟨g, cap, cur, hv, _⟩
  · omega
  · injection hv with h1
    have := (show w.ownsRow B 9 1 _ ts.length (ts.map strV) from h).cells (g := g) (by rw [h1]; rfl) j (strV x) (by rw [List.getElem?_map, hx]; rfl)
    rw [Addr.add_lit] at this
    exact ⟨g, h1, by simpa [strV] using this⟩
def ValAtT (w : World) (a : Option Addr) (ts : List ByteArray) : Prop := ∀ (j : Nat) x, ts[j]? = some x → ∃ g, a = some ⟨g, 0, none⟩ ∧ w.cell? ⟨g, j, none⟩ = some (txV x)
theorem ValAtT.below {w w' : World} {a : Option Addr} {ts : List ByteArray} (h : ValAtT w a ts) (hb : Below w.heap.size w w') : ValAtT w' a ts := fun j x hx => by
  obtain ⟨g, h1, h2⟩ := h j x hx
  exact ⟨g, h1, (hb.cell (p := ⟨g, j, none⟩) (World.block_lt_of_cell? w _ h2)).trans h2⟩
theorem RowV.at {w : World} {B : Nat} {a : Option Addr} {n c : Nat} {ts : List ByteArray} (h : RowV w B (.slice a n c) ts) : ValAtT w a ts := fun j x hx => by
  have hj : j < ts.length := (List.getElem?_eq_some_iff.1 hx).1
  rcases h.2 with ⟨_, h0⟩ | ⟨g, cap, cur, hv, _⟩
  · omega
  · injection hv with h1
    have := (show w.ownsRow B 49 1 _ ts.length (ts.map txV) from h).cells (g := g) (by rw [h1]; rfl) j (txV x) (by rw [List.getElem?_map, hx]; rfl)
    rw [Addr.add_lit] at this
    exact ⟨g, h1, by simpa using this⟩
theorem Tryz.infoTV : ∃ i, Tryz.prog.info? 49 = some i ∧ i.zero = some .nilIface ∧ i.size = 1 ∧ i.bytes = 16 := by
  have h : (Tryz.prog.info? 49).map (fun i => (i.zero, i.size, i.bytes)) = some (some .nilIface, 1, 16) := by kernel_rfl
  obtain ⟨i, h1, h2⟩ := Option.map_eq_some_iff.1 h
  injection h2 with h2 h3
  injection h3 with h3 h4
  exact ⟨i, h1, h2, h3, h4⟩
set_option maxHeartbeats 1000000 in
theorem wpList_append_tv {ops : Array Oper} {rest : List Oper} {o : Oper} {a : Act} {Q : Exit → Act → World → Prop} {W : World} (hgd : o.guard = none) (s x : Operand)
    (ho : o.op = .call { callee := .builtin .append, args := #[s, x], argTypes := #[41, 41] })
    (w : World) (B : Nat) (v : Value) (ts : List ByteArray) (hr : RowV w B v ts) (hs : a.eval s = v) (y : ByteArray)
    (hx : a.eval x = .slice (some ⟨w.heap.size, 0, none⟩) 1 1) (hW : W = w.alloc (.cells #[.iface 60 (.string y)] 49)) (hlen : ts.length ≤ 10000) (hB : B ≤ w.heap.size)
    (h : ∀ v' w', RowV w' B v' (ts ++ [y]) → Below B w w' → wpList Tryz.prog ops Q rest (a.put o.dst v') w') : wpList Tryz.prog ops Q (o :: rest) a W := by
  subst hW
  obtain ⟨i0, hi0, hz0, hz1, hz2⟩ := Tryz.infoTV
  have hk : Blk (w.alloc (.cells #[.iface 60 (.string y)] 49)) w.heap.size 49 #[.iface 60 (.string y)] := Blk.new _ _ _
  have hrow0 : (w.alloc (.cells #[.iface 60 (.string y)] 49)).ownsRow B 49 1 v ts.length (ts.map txV) := (show w.ownsRow B 49 1 v ts.length (ts.map txV) from hr).alloc _
  refine wpList_append_own _ hgd s x _ ho B 49 i0 _ 1 16 Tryz.underlying41 hi0 hz0 hz1 hz2 rfl (by decide) _ ts.length _ hs hrow0 ⟨w.heap.size, 0, none⟩ 1 1 [.iface 60 (.string y)] hx (by simp) ?_ ?_ (by unfold maxLen; omega) (by omega) (by simp; omega) ?_
  · intro j u hj
    rw [Addr.add_lit, Nat.zero_add, hk.cell j, ← Array.getElem?_toList]
    exact hj
  · intro u hu
    simp at hu
    subst hu; rfl
  · intro v' w' hown' hg _
    refine h v' w' ?_ (((Below.refl B w).alloc hB _).grown hg (by simp; omega) fun k hk => (hrow0.lt k hk).1)
    unfold RowV
    rw [List.length_append, List.map_append]
    exact hown'
def TextsPost (ts : List ByteArray) (w : World) (e : Ending) (w' : World) : Prop := ∃ v, e = .returned v ∧ RowV w' w.heap.size v ts ∧ Below w.heap.size w w'
set_option maxRecDepth 20000 in
set_option maxHeartbeats 4000000 in
theorem texts_any (a : Option Addr) (n c : Nat) (ts : List ByteArray) (w : World) (h : TxtAt w a ts) (hn : ts.length = n) (hl : n ≤ 2000) :
    Calls Tryz.prog 12 #[.slice a n c] w (TextsPost ts w) := by
  have H := Lib.hid h
  have HN := Lib.hid hn
  clear h hn
  go_enter Tryz.func12, Tryz.ntmps12
  go_wp2_with fail
  go_loopg [2, 4, 7] n (fun k ov _ iv wr => ∃ i : Nat, iv = .int .i64 (i : Int) ∧ k + i = n ∧ Hid (RowV wr w.heap.size ov (ts.take i)) ∧ Hid (Below w.heap.size w wr))
  case atStart => exact ⟨0, rfl, rfl, RowV.nil _ _, Below.refl _ _⟩
  case round =>
    obtain ⟨i, rfl, hk, hrow, hbel⟩ := hrel
    by_cases hin : i < n
    · have hd : decide ((i : Int) < (n : Int)) = true := by simp; omega
      have hit : i < ts.length := by rw [HN.out]; exact hin
      obtain ⟨g, rfl, hc⟩ := H.out.below hbel.out i (ts[i]'hit) (List.getElem?_eq_getElem hit)
      obtain ⟨t, ht⟩ : ∃ t, t = ts[i]'hit := ⟨_, rfl⟩
      rw [← ht] at hc
      have HT : Hid (ts.take (i + 1) = ts.take i ++ [t]) := by
        unfold Hid
        rw [List.take_succ_eq_append_getElem hit, ht]
      have hi0 : (0 : Int) ≤ (i : Int) := by omega
      have hii : (i : Int) < (n : Int) := by omega
      have hts : (ts.take i).length ≤ 10000 := by rw [List.length_take]; omega
      clear ht
      go_wp2_with (at_builtin; refine wpList_append_tv rfl (.tmp 11) (.tmp 14) rfl _ w.heap.size _ (ts.take i) hrow.out rfl t rfl rfl hts hbel.out.size ?_; intro v6 w6 hr6 hb6; have HB6 := Lib.hid (hbel.out.trans hb6); rw [← HT.out] at hr6; have HR6 := Lib.hid hr6; clear hr6 hb6)
      go_roundg (n - (i + 1))
      case measure => omega
      case rel => exact ⟨i + 1, by go_num, by omega, HR6, HB6⟩
    · obtain rfl : i = n := by omega
      have hd : decide ((i : Int) < (i : Int)) = false := by simp
      go_wp2
      go_ret
      have hr := hrow.out
      rw [← HN.out, List.take_length] at hr
      exact ⟨_, rfl, hr, hbel.out⟩
end Go.Proofs.YteibkaonofkcbaaGreatDoor
