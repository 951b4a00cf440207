/- A place asked of a value: the package's AsInt over a variable of the kind int. -/
import Derived.Test.YtmpfffcdpecadaaGreatTv
import Derived.Test.YtmpfffcdpecadaaGreatIter
import Derived.Test.YtmpfffcdpecadaaGreatStarI64
namespace Go.Proofs.YtmpfffcdpecadaaGreat
open Go.RowKit
attribute [local go_sem ↓] Go.wp_at_zero Go.wp_at_succ
/-- The place that a value is, if it is one. -/
def idxX : Sx → Option Int
  | .int neg l => if -9223372036854775808 ≤ intOf2 neg l ∧ intOf2 neg l ≤ 9223372036854775807 then some (intOf2 neg l) else none
  | _ => none
theorem idxX_int (neg : Bool) (l : List Nat) : idxX (.int neg l) = if -9223372036854775808 ≤ intOf2 neg l ∧ intOf2 neg l ≤ 9223372036854775807 then some (intOf2 neg l) else none := rfl
theorem idx_some {neg : Bool} {l : List Nat} {k : Int} (h : idxX (.int neg l) = some k) : intOf2 neg l = k ∧ Fits64 k := by
  rw [idxX_int] at h
  by_cases h1 : -9223372036854775808 ≤ intOf2 neg l ∧ intOf2 neg l ≤ 9223372036854775807
  · rw [if_pos h1] at h
    injection h with h
    subst h
    exact ⟨rfl, h1⟩
  · rw [if_neg h1] at h; simp at h
theorem idx_none {neg : Bool} {l : List Nat} (h : idxX (.int neg l) = none) : ¬ Fits64 (intOf2 neg l) := by
  rw [idxX_int] at h
  by_cases h1 : -9223372036854775808 ≤ intOf2 neg l ∧ intOf2 neg l ≤ 9223372036854775807
  · rw [if_pos h1] at h; simp at h
  · exact h1
theorem idx_int {s : Sx} {k : Int} (h : idxX s = some k) : ∃ neg l, s = .int neg l := by
  cases s with
  | int neg l => exact ⟨_, _, rfl⟩
  | _ => simp [idxX] at h
/-- An error: not nil. -/
def ErrX (v : Value) : Prop := ∃ b, v = .iface 183 (.pointer (some ⟨b, 0, none⟩))
theorem err_new (t : ByteArray) (w : World) :
    Calls Tryz.prog 74 #[.string t] w fun e w' => ∃ v, e = .returned v ∧ ErrX v ∧ Below w.heap.size w w' := by
  have HB := Lib.hid ((Below.refl w.heap.size w).alloc (Nat.le_refl _) (.cells #[.string t] 185))
  go_enter Tryz.func74, Tryz.ntmps74
  go_wp2
  go_ret
  exact ⟨_, rfl, ⟨_, rfl⟩, HB.out⟩
@[go_sem] theorem Tryz.isIntX (v : Value) (w : World) : (Instr.typeAssert (.iface 96 v) 49 96 true).run Tryz.prog w = .ok (.tuple #[v, .bool true]) w := by kernel_rfl
@[go_sem] theorem Tryz.noIntX0 (v : Value) (w : World) : (Instr.typeAssert (.iface 91 v) 49 96 true).run Tryz.prog w = .ok (.tuple #[.agg #[.int .i64 0, .pointer none], .bool false]) w := by kernel_rfl
@[go_sem] theorem Tryz.noIntX1 (v : Value) (w : World) : (Instr.typeAssert (.iface 85 v) 49 96 true).run Tryz.prog w = .ok (.tuple #[.agg #[.int .i64 0, .pointer none], .bool false]) w := by kernel_rfl
@[go_sem] theorem Tryz.noIntX2 (v : Value) (w : World) : (Instr.typeAssert (.iface 98 v) 49 96 true).run Tryz.prog w = .ok (.tuple #[.agg #[.int .i64 0, .pointer none], .bool false]) w := by kernel_rfl
@[go_sem] theorem Tryz.noIntX3 (v : Value) (w : World) : (Instr.typeAssert (.iface 100 v) 49 96 true).run Tryz.prog w = .ok (.tuple #[.agg #[.int .i64 0, .pointer none], .bool false]) w := by kernel_rfl
@[go_sem] theorem Tryz.noIntX4 (v : Value) (w : World) : (Instr.typeAssert (.iface 101 v) 49 96 true).run Tryz.prog w = .ok (.tuple #[.agg #[.int .i64 0, .pointer none], .bool false]) w := by kernel_rfl
@[go_sem] theorem Tryz.toK0 (v : Value) (w : World) : (Instr.typeAssert (.iface 111 v) 20 162 true).run Tryz.prog w = .ok (.tuple #[.pointer none, .bool false]) w := by kernel_rfl
@[go_sem] theorem Tryz.toK1 (v : Value) (w : World) : (Instr.typeAssert (.iface 111 v) 20 163 true).run Tryz.prog w = .ok (.tuple #[.pointer none, .bool false]) w := by kernel_rfl
@[go_sem] theorem Tryz.toK2 (v : Value) (w : World) : (Instr.typeAssert (.iface 111 v) 20 164 true).run Tryz.prog w = .ok (.tuple #[.pointer none, .bool false]) w := by kernel_rfl
@[go_sem] theorem Tryz.toK3 (v : Value) (w : World) : (Instr.typeAssert (.iface 111 v) 20 165 true).run Tryz.prog w = .ok (.tuple #[.pointer none, .bool false]) w := by kernel_rfl
@[go_sem] theorem Tryz.toK4 (v : Value) (w : World) : (Instr.typeAssert (.iface 111 v) 20 166 true).run Tryz.prog w = .ok (.tuple #[.pointer none, .bool false]) w := by kernel_rfl
@[go_sem] theorem Tryz.toK5 (v : Value) (w : World) : (Instr.typeAssert (.iface 111 v) 20 167 true).run Tryz.prog w = .ok (.tuple #[.pointer none, .bool false]) w := by kernel_rfl
@[go_sem] theorem Tryz.toK6 (v : Value) (w : World) : (Instr.typeAssert (.iface 111 v) 20 168 true).run Tryz.prog w = .ok (.tuple #[.pointer none, .bool false]) w := by kernel_rfl
@[go_sem] theorem Tryz.toK7 (v : Value) (w : World) : (Instr.typeAssert (.iface 111 v) 20 169 true).run Tryz.prog w = .ok (.tuple #[.pointer none, .bool false]) w := by kernel_rfl
@[go_sem] theorem Tryz.toK8 (v : Value) (w : World) : (Instr.typeAssert (.iface 111 v) 20 170 true).run Tryz.prog w = .ok (.tuple #[.pointer none, .bool false]) w := by kernel_rfl
@[go_sem] theorem Tryz.toK9 (v : Value) (w : World) : (Instr.typeAssert (.iface 111 v) 20 171 true).run Tryz.prog w = .ok (.tuple #[.pointer none, .bool false]) w := by kernel_rfl
@[go_sem] theorem Tryz.toK10 (v : Value) (w : World) : (Instr.typeAssert (.iface 111 v) 20 158 true).run Tryz.prog w = .ok (.tuple #[.pointer none, .bool false]) w := by kernel_rfl
@[go_sem] theorem Tryz.toK11 (v : Value) (w : World) : (Instr.typeAssert (.iface 111 v) 20 161 true).run Tryz.prog w = .ok (.tuple #[.pointer none, .bool false]) w := by kernel_rfl
@[go_sem] theorem Tryz.toKk (v : Value) (w : World) : (Instr.typeAssert (.iface 111 v) 20 111 true).run Tryz.prog w = .ok (.tuple #[v, .bool true]) w := by kernel_rfl
@[go_sem] theorem Tryz.toKv (v : Value) (w : World) : (Instr.typeAssert (.iface 111 v) 20 112 true).run Tryz.prog w = .ok (.tuple #[.pointer none, .bool false]) w := by kernel_rfl
@[go_sem] theorem Tryz.toVv (v : Value) (w : World) : (Instr.typeAssert (.iface 112 v) 20 112 true).run Tryz.prog w = .ok (.tuple #[v, .bool true]) w := by kernel_rfl
theorem one_put {w : World} {g : Nat} {t : TypeId} {a : Value} (h : Blk w g t #[a]) (u : Value) : Blk (w.setCell ⟨g, 0, none⟩ u) g t #[u] := by
  have := h.put 0 u
  simpa using this
def AsBNo (w : World) (e : Ending) (w' : World) : Prop := ∃ v, e = .returned v ∧ ErrX v ∧ Below w.heap.size w w'
set_option maxRecDepth 100000 in
set_option maxHeartbeats 4000000 in
theorem as_idx_no (u : Value) (s : Sx) (g : Nat) (w : World) (hu : TVal w u s) (hn : idxX s = none) :
    Calls Tryz.prog 89 #[u, .iface 111 (.pointer (some ⟨g, 0, none⟩))] w (AsBNo w) := by
  cases s with
  | none =>
    obtain rfl := hu
    clear hn
    have HB := Lib.hid ((Below.refl w.heap.size w).alloc (Nat.le_refl _) (.cells #[.int .i64 0, .pointer none] 96))
    go_enter Tryz.func89, Tryz.ntmps89
    go_wp2_with fail
    refine (err_new _ _).mono ?_
    rintro e w1 ⟨v, rfl, he, hb⟩
    have HBF := Lib.hid (HB.out.trans (hb.mono HB.out.size))
    have HE := Lib.hid he
    clear hb he
    go_wp2
    go_ret
    exact ⟨_, rfl, HE.out, HBF.out⟩
  | bool b =>
    obtain rfl := hu
    clear hn
    have HB := Lib.hid ((Below.refl w.heap.size w).alloc (Nat.le_refl _) (.cells #[.int .i64 0, .pointer none] 96))
    go_enter Tryz.func89, Tryz.ntmps89
    go_wp2_with fail
    refine (err_new _ _).mono ?_
    rintro e w1 ⟨v, rfl, he, hb⟩
    have HBF := Lib.hid (HB.out.trans (hb.mono HB.out.size))
    have HE := Lib.hid he
    clear hb he
    go_wp2
    go_ret
    exact ⟨_, rfl, HE.out, HBF.out⟩
  | float f =>
    obtain rfl := hu
    clear hn
    have HB := Lib.hid ((Below.refl w.heap.size w).alloc (Nat.le_refl _) (.cells #[.int .i64 0, .pointer none] 96))
    go_enter Tryz.func89, Tryz.ntmps89
    go_wp2_with fail
    refine (err_new _ _).mono ?_
    rintro e w1 ⟨v, rfl, he, hb⟩
    have HBF := Lib.hid (HB.out.trans (hb.mono HB.out.size))
    have HE := Lib.hid he
    clear hb he
    go_wp2
    go_ret
    exact ⟨_, rfl, HE.out, HBF.out⟩
  | str t =>
    obtain rfl := hu
    clear hn
    have HB := Lib.hid ((Below.refl w.heap.size w).alloc (Nat.le_refl _) (.cells #[.int .i64 0, .pointer none] 96))
    go_enter Tryz.func89, Tryz.ntmps89
    go_wp2_with fail
    refine (err_new _ _).mono ?_
    rintro e w1 ⟨v, rfl, he, hb⟩
    have HBF := Lib.hid (HB.out.trans (hb.mono HB.out.size))
    have HE := Lib.hid he
    clear hb he
    go_wp2
    go_ret
    exact ⟨_, rfl, HE.out, HBF.out⟩
  | byt t =>
    obtain rfl := hu
    clear hn
    have HB := Lib.hid ((Below.refl w.heap.size w).alloc (Nat.le_refl _) (.cells #[.int .i64 0, .pointer none] 96))
    go_enter Tryz.func89, Tryz.ntmps89
    go_wp2_with fail
    refine (err_new _ _).mono ?_
    rintro e w1 ⟨v, rfl, he, hb⟩
    have HBF := Lib.hid (HB.out.trans (hb.mono HB.out.size))
    have HE := Lib.hid he
    clear hb he
    go_wp2
    go_ret
    exact ⟨_, rfl, HE.out, HBF.out⟩
  | int neg l =>
    obtain ⟨v, rfl, hv⟩ := hu
    have HR := Lib.hid (idx_none hn)
    obtain ⟨kk, p, hvs⟩ : ∃ k p, v = .agg #[.int .i64 k, .pointer p] := by
      rcases hv with ⟨_, rfl⟩ | ⟨_, b, ng, ws, rfl, _⟩ <;> exact ⟨_, _, rfl⟩
    have HB := Lib.hid ((Below.refl w.heap.size w).alloc (Nat.le_refl _) (.cells #[.int .i64 kk, .pointer p] 96))
    have HU := Lib.hid (star_int64 0 v _ _ (hv.below HB.out))
    rw [hvs] at HU
    subst hvs
    clear hv hn
    go_enter Tryz.func89, Tryz.ntmps89
    go_wp2_with fail
    refine HU.out.mono ?_
    rintro e w1 ⟨hub, hb1⟩
    have HB1 := Lib.hid (HB.out.trans (hb1.mono HB.out.size))
    clear hb1
    rcases hub with ⟨h1, _⟩ | ⟨_, rfl⟩
    · exact absurd h1 HR.out
    · go_wp2_with fail
      refine (err_new _ _).mono ?_
      rintro e w2 ⟨v, rfl, he, hb⟩
      have HBF := Lib.hid (HB1.out.trans (hb.mono HB1.out.size))
      have HE := Lib.hid he
      clear hb he
      go_wp2
      go_ret
      exact ⟨_, rfl, HE.out, HBF.out⟩
def AsIYes (g : Nat) (k : Int) (w : World) (e : Ending) (w' : World) : Prop := e = .returned .nilIface ∧ Blk w' g 3 #[.int .i64 k] ∧ Only (· = g) w w'
set_option maxRecDepth 100000 in
set_option maxHeartbeats 4000000 in
theorem as_idx_yes (u old : Value) (s : Sx) (k : Int) (g : Nat) (w : World) (hu : TVal w u s) (hn : idxX s = some k) (hg : Blk w g 3 #[old]) :
    Calls Tryz.prog 89 #[u, .iface 111 (.pointer (some ⟨g, 0, none⟩))] w (AsIYes g k w) := by
  obtain ⟨neg, l, rfl⟩ := idx_int hn
  obtain ⟨v, rfl, hv⟩ := hu
  obtain ⟨hr, hf⟩ := idx_some hn
  obtain ⟨kk, p, hvs⟩ : ∃ k p, v = .agg #[.int .i64 k, .pointer p] := by
    rcases hv with ⟨_, rfl⟩ | ⟨_, b, ng, ws, rfl, _⟩ <;> exact ⟨_, _, rfl⟩
  have HB := Lib.hid ((Below.refl w.heap.size w).alloc (Nat.le_refl _) (.cells #[.int .i64 kk, .pointer p] 96))
  have HU := Lib.hid (star_int64 0 v _ _ (hv.below HB.out))
  rw [hvs] at HU
  subst hvs
  rw [hr] at HU
  have HG := Lib.hid hg
  have HF := Lib.hid hf
  clear hv hn hr hg hf
  go_enter Tryz.func89, Tryz.ntmps89
  go_wp2_with fail
  refine HU.out.mono ?_
  rintro e w1 ⟨hub, hb1⟩
  have HB1 := Lib.hid (HB.out.trans (hb1.mono HB.out.size))
  clear hb1
  rcases hub with ⟨_, rfl⟩ | ⟨h1, _⟩
  · have HG1 := Lib.hid (HG.out.below HB1.out HG.out.lt)
    obtain ⟨a0, a1⟩ := blk_one HG1.out
    have HO1 := Lib.hid (Only.of_below (S := (· = g)) HB1.out)
    go_wp2
    go_ret
    exact ⟨rfl, one_put HG1.out _, HO1.out.setCell (p := ⟨g, 0, none⟩) (.inl (rfl : g = g)) _⟩
  · exact absurd HF.out h1
set_option maxRecDepth 100000 in
set_option maxHeartbeats 4000000 in
theorem unp_idx_no (u : Value) (s : Sx) (g : Nat) (w : World) (hu : TVal w u s) (hn : idxX s = none) :
    Calls Tryz.prog 73 #[u, .iface 111 (.pointer (some ⟨g, 0, none⟩))] w (AsBNo w) := by
  have H := Lib.hid (as_idx_no u s g w hu hn)
  obtain ⟨tu, zu, rfl⟩ := hu.iface
  clear hu hn
  go_enter Tryz.func73, Tryz.ntmps73
  go_wp2_with fail
  refine H.out.mono ?_
  rintro e w1 ⟨v, rfl, ⟨eb, rfl⟩, hb⟩
  have HB := Lib.hid hb
  clear hb
  go_wp2
  go_ret
  exact ⟨_, rfl, ⟨_, rfl⟩, HB.out⟩
set_option maxRecDepth 100000 in
set_option maxHeartbeats 4000000 in
theorem unp_idx_yes (u old : Value) (s : Sx) (k : Int) (g : Nat) (w : World) (hu : TVal w u s) (hn : idxX s = some k) (hg : Blk w g 3 #[old]) :
    Calls Tryz.prog 73 #[u, .iface 111 (.pointer (some ⟨g, 0, none⟩))] w (AsIYes g k w) := by
  have H := Lib.hid (as_idx_yes u old s k g w hu hn hg)
  obtain ⟨tu, zu, rfl⟩ := hu.iface
  clear hu hn hg
  go_enter Tryz.func73, Tryz.ntmps73
  go_wp2_with fail
  refine H.out.mono ?_
  rintro e w1 ⟨rfl, hk, ho⟩
  have HK := Lib.hid hk
  have HO := Lib.hid ho
  clear hk ho
  go_wp2
  go_ret
  exact ⟨rfl, HK.out, HO.out⟩
def UnVPost (g : Nat) (u : Value) (w : World) (e : Ending) (w' : World) : Prop := e = .returned .nilIface ∧ Blk w' g 49 #[u] ∧ Only (· = g) w w'
set_option maxRecDepth 100000 in
theorem unp_val (u old : Value) (g : Nat) (w : World) (hu : ∃ t y, u = .iface t y) (hg : Blk w g 49 #[old]) :
    Calls Tryz.prog 73 #[u, .iface 112 (.pointer (some ⟨g, 0, none⟩))] w (UnVPost g u w) := by
  obtain ⟨tu, zu, rfl⟩ := hu
  have HK := Lib.hid (one_put hg (.iface tu zu))
  have HO := Lib.hid ((Only.refl (· = g) w).setCell (p := ⟨g, 0, none⟩) (.inl (rfl : g = g)) (.iface tu zu))
  obtain ⟨c0, f0⟩ := blk_one hg
  clear hg
  go_enter Tryz.func73, Tryz.ntmps73
  go_wp2
  go_ret
  exact ⟨rfl, HK.out, HO.out⟩
end Go.Proofs.YtmpfffcdpecadaaGreat
