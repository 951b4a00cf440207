/- A number from 0 to 255 asked of a value: the package's AsInt over a variable of that kind. -/
import Derived.Test.YtmpfffcdpecadaaGreatDoorTv
import Derived.Test.YtmpfffcdpecadaaGreatDoorIter
import Derived.Test.YtmpfffcdpecadaaGreatDoorIntU64
import Derived.IntWalk
namespace Go.Proofs.YtmpfffcdpecadaaGreatDoor
open Go.RowKit
attribute [local go_sem ↓] Go.wp_at_zero Go.wp_at_succ
/-- The byte that a value is, if it is one. -/
def byteX : Sx → Option UInt8
  | .int neg l => if 0 ≤ intOf2 neg l ∧ intOf2 neg l ≤ 255 then some (UInt8.ofNat (intOf2 neg l).toNat) else none
  | _ => none
def bX : List Sx → Option (List UInt8)
  | [] => some []
  | x :: r => match byteX x with
    | none => none
    | some c => (bX r).map (c :: ·)
theorem bX_all : ∀ {l : List Sx} {acc : List UInt8}, l.map byteX = acc.map some → bX l = some acc
  | [], [], _ => rfl
  | [], _ :: _, h => by simp at h
  | _ :: _, [], h => by simp at h
  | x :: r, c :: acc, h => by
    simp only [List.map_cons, List.cons.injEq] at h
    have ih := bX_all h.2
    unfold bX
    rw [h.1, ih]
    rfl
theorem bX_none : ∀ {l : List Sx} {x : Sx}, x ∈ l → byteX x = none → bX l = none
  | y :: r, x, hx, hn => by
    unfold bX
    rcases List.mem_cons.1 hx with rfl | hx
    · rw [hn]
    · rw [bX_none hx hn]
      cases byteX y <;> rfl
theorem byteX_int (neg : Bool) (l : List Nat) : byteX (.int neg l) = if 0 ≤ intOf2 neg l ∧ intOf2 neg l ≤ 255 then some (UInt8.ofNat (intOf2 neg l).toNat) else none := rfl
theorem byte_some {neg : Bool} {l : List Nat} {c : UInt8} (h : byteX (.int neg l) = some c) : intOf2 neg l = (c.toNat : Int) := by
  rw [byteX_int] at h
  by_cases h1 : 0 ≤ intOf2 neg l ∧ intOf2 neg l ≤ 255
  · rw [if_pos h1] at h
    injection h with h
    subst h
    simp
    omega
  · rw [if_neg h1] at h; simp at h
theorem byte_none {neg : Bool} {l : List Nat} (h : byteX (.int neg l) = none) : intOf2 neg l < 0 ∨ 255 < intOf2 neg l := by
  rw [byteX_int] at h
  by_cases h1 : 0 ≤ intOf2 neg l ∧ intOf2 neg l ≤ 255
  · rw [if_pos h1] at h; simp at h
  · omega
theorem byte_int {s : Sx} {c : UInt8} (h : byteX s = some c) : ∃ neg l, s = .int neg l := by
  cases s with
  | int neg l => exact ⟨_, _, rfl⟩
  | _ => simp [byteX] at h
/-- An error: not nil. -/
def ErrX (v : Value) : Prop := ∃ b, v = .iface 108 (.pointer (some ⟨b, 0, none⟩))
theorem err_new (t : ByteArray) (w : World) :
    Calls Tryz.prog 30 #[.string t] w fun e w' => ∃ v, e = .returned v ∧ ErrX v ∧ Below w.heap.size w w' := by
  have HB := Lib.hid ((Below.refl w.heap.size w).alloc (Nat.le_refl _) (.cells #[.string t] 110))
  go_enter Tryz.func30, Tryz.ntmps30
  go_wp2
  go_ret
  exact ⟨_, rfl, ⟨_, rfl⟩, HB.out⟩
@[go_sem] theorem Tryz.isIntX (v : Value) (w : World) : (Instr.typeAssert (.iface 103 v) 41 103 true).run Tryz.prog w = .ok (.tuple #[v, .bool true]) w := by kernel_rfl
@[go_sem] theorem Tryz.noIntX0 (v : Value) (w : World) : (Instr.typeAssert (.iface 97 v) 41 103 true).run Tryz.prog w = .ok (.tuple #[.agg #[.int .i64 0, .pointer none], .bool false]) w := by kernel_rfl
@[go_sem] theorem Tryz.noIntX1 (v : Value) (w : World) : (Instr.typeAssert (.iface 98 v) 41 103 true).run Tryz.prog w = .ok (.tuple #[.agg #[.int .i64 0, .pointer none], .bool false]) w := by kernel_rfl
@[go_sem] theorem Tryz.noIntX2 (v : Value) (w : World) : (Instr.typeAssert (.iface 106 v) 41 103 true).run Tryz.prog w = .ok (.tuple #[.agg #[.int .i64 0, .pointer none], .bool false]) w := by kernel_rfl
@[go_sem] theorem Tryz.noIntX3 (v : Value) (w : World) : (Instr.typeAssert (.iface 77 v) 41 103 true).run Tryz.prog w = .ok (.tuple #[.agg #[.int .i64 0, .pointer none], .bool false]) w := by kernel_rfl
@[go_sem] theorem Tryz.noIntX4 (v : Value) (w : World) : (Instr.typeAssert (.iface 46 v) 41 103 true).run Tryz.prog w = .ok (.tuple #[.agg #[.int .i64 0, .pointer none], .bool false]) w := by kernel_rfl
@[go_sem] theorem Tryz.toB0 (v : Value) (w : World) : (Instr.typeAssert (.iface 92 v) 20 124 true).run Tryz.prog w = .ok (.tuple #[.pointer none, .bool false]) w := by kernel_rfl
@[go_sem] theorem Tryz.toB1 (v : Value) (w : World) : (Instr.typeAssert (.iface 92 v) 20 119 true).run Tryz.prog w = .ok (.tuple #[.pointer none, .bool false]) w := by kernel_rfl
@[go_sem] theorem Tryz.toB2 (v : Value) (w : World) : (Instr.typeAssert (.iface 92 v) 20 120 true).run Tryz.prog w = .ok (.tuple #[.pointer none, .bool false]) w := by kernel_rfl
@[go_sem] theorem Tryz.toB3 (v : Value) (w : World) : (Instr.typeAssert (.iface 92 v) 20 122 true).run Tryz.prog w = .ok (.tuple #[.pointer none, .bool false]) w := by kernel_rfl
@[go_sem] theorem Tryz.toB4 (v : Value) (w : World) : (Instr.typeAssert (.iface 92 v) 20 125 true).run Tryz.prog w = .ok (.tuple #[.pointer none, .bool false]) w := by kernel_rfl
@[go_sem] theorem Tryz.toB5 (v : Value) (w : World) : (Instr.typeAssert (.iface 92 v) 20 128 true).run Tryz.prog w = .ok (.tuple #[.pointer none, .bool false]) w := by kernel_rfl
@[go_sem] theorem Tryz.toB6 (v : Value) (w : World) : (Instr.typeAssert (.iface 92 v) 20 121 true).run Tryz.prog w = .ok (.tuple #[.pointer none, .bool false]) w := by kernel_rfl
@[go_sem] theorem Tryz.toB7 (v : Value) (w : World) : (Instr.typeAssert (.iface 92 v) 20 123 true).run Tryz.prog w = .ok (.tuple #[.pointer none, .bool false]) w := by kernel_rfl
@[go_sem] theorem Tryz.toB8 (v : Value) (w : World) : (Instr.typeAssert (.iface 92 v) 20 129 true).run Tryz.prog w = .ok (.tuple #[.pointer none, .bool false]) w := by kernel_rfl
@[go_sem] theorem Tryz.toB9 (v : Value) (w : World) : (Instr.typeAssert (.iface 92 v) 20 130 true).run Tryz.prog w = .ok (.tuple #[.pointer none, .bool false]) w := by kernel_rfl
@[go_sem] theorem Tryz.toBb (v : Value) (w : World) : (Instr.typeAssert (.iface 92 v) 20 92 true).run Tryz.prog w = .ok (.tuple #[v, .bool true]) w := by kernel_rfl
def AsBNo (w : World) (e : Ending) (w' : World) : Prop := ∃ v, e = .returned v ∧ ErrX v ∧ Below w.heap.size w w'
set_option maxRecDepth 100000 in
set_option maxHeartbeats 4000000 in
theorem as_byte_no (u : Value) (s : Sx) (g : Nat) (w : World) (hu : TVal w u s) (hn : byteX s = none) :
    Calls Tryz.prog 34 #[u, .iface 92 (.pointer (some ⟨g, 0, none⟩))] w (AsBNo w) := by
  cases s with
  | none =>
    obtain rfl := hu
    clear hn
    have HB := Lib.hid ((Below.refl w.heap.size w).alloc (Nat.le_refl _) (.cells #[.int .i64 0, .pointer none] 103))
    go_enter Tryz.func34, Tryz.ntmps34
    go_wp2_with fail
    refine (err_new _ _).mono ?_
    rintro e w1 ⟨v, rfl, he, hb⟩
    have HBF := Lib.hid (HB.out.trans (hb.mono HB.out.size))
    have HE := Lib.hid he
    clear hb he
    go_wp2
    go_ret
    exact ⟨_, rfl, HE.out, HBF.out⟩
  | bool b =>
    obtain rfl := hu
    clear hn
    have HB := Lib.hid ((Below.refl w.heap.size w).alloc (Nat.le_refl _) (.cells #[.int .i64 0, .pointer none] 103))
    go_enter Tryz.func34, Tryz.ntmps34
    go_wp2_with fail
    refine (err_new _ _).mono ?_
    rintro e w1 ⟨v, rfl, he, hb⟩
    have HBF := Lib.hid (HB.out.trans (hb.mono HB.out.size))
    have HE := Lib.hid he
    clear hb he
    go_wp2
    go_ret
    exact ⟨_, rfl, HE.out, HBF.out⟩
  | float f =>
    obtain rfl := hu
    clear hn
    have HB := Lib.hid ((Below.refl w.heap.size w).alloc (Nat.le_refl _) (.cells #[.int .i64 0, .pointer none] 103))
    go_enter Tryz.func34, Tryz.ntmps34
    go_wp2_with fail
    refine (err_new _ _).mono ?_
    rintro e w1 ⟨v, rfl, he, hb⟩
    have HBF := Lib.hid (HB.out.trans (hb.mono HB.out.size))
    have HE := Lib.hid he
    clear hb he
    go_wp2
    go_ret
    exact ⟨_, rfl, HE.out, HBF.out⟩
  | str t =>
    obtain rfl := hu
    clear hn
    have HB := Lib.hid ((Below.refl w.heap.size w).alloc (Nat.le_refl _) (.cells #[.int .i64 0, .pointer none] 103))
    go_enter Tryz.func34, Tryz.ntmps34
    go_wp2_with fail
    refine (err_new _ _).mono ?_
    rintro e w1 ⟨v, rfl, he, hb⟩
    have HBF := Lib.hid (HB.out.trans (hb.mono HB.out.size))
    have HE := Lib.hid he
    clear hb he
    go_wp2
    go_ret
    exact ⟨_, rfl, HE.out, HBF.out⟩
  | byt t =>
    obtain rfl := hu
    clear hn
    have HB := Lib.hid ((Below.refl w.heap.size w).alloc (Nat.le_refl _) (.cells #[.int .i64 0, .pointer none] 103))
    go_enter Tryz.func34, Tryz.ntmps34
    go_wp2_with fail
    refine (err_new _ _).mono ?_
    rintro e w1 ⟨v, rfl, he, hb⟩
    have HBF := Lib.hid (HB.out.trans (hb.mono HB.out.size))
    have HE := Lib.hid he
    clear hb he
    go_wp2
    go_ret
    exact ⟨_, rfl, HE.out, HBF.out⟩
  | int neg l =>
    obtain ⟨v, rfl, hv⟩ := hu
    have hr := byte_none hn
    obtain ⟨kk, p, hvs⟩ : ∃ k p, v = .agg #[.int .i64 k, .pointer p] := by
      rcases hv with ⟨_, rfl⟩ | ⟨_, b, ng, ws, rfl, _⟩ <;> exact ⟨_, _, rfl⟩
    have HB := Lib.hid ((Below.refl w.heap.size w).alloc (Nat.le_refl _) (.cells #[.int .i64 kk, .pointer p] 103))
    have HU := Lib.hid (star_uint64 0 v _ _ (hv.below HB.out))
    rw [hvs] at HU
    subst hvs
    have HR := Lib.hid hr
    clear hv hn hr
    go_enter Tryz.func34, Tryz.ntmps34
    go_wp2_with fail
    refine HU.out.mono ?_
    rintro e w1 ⟨u, b, rfl, hub, hb1⟩
    have HB1 := Lib.hid (HB.out.trans (hb1.mono HB.out.size))
    clear hb1
    rcases hub with ⟨rfl, hu1, hu2⟩ | ⟨rfl, hu1⟩
    · have hge : 256 ≤ u := by have := HR.out; omega
      have d1 : decide (256 ≤ u) = true := by simpa using hge
      have d2 : decide ((256 : Int) ≤ (u : Int)) = true := by simp; omega
      have HU1 := Lib.hid hu1
      clear hu1
      go_wp2_with fail
      refine (err_new _ _).mono ?_
      rintro e w2 ⟨v, rfl, he, hb⟩
      have HBF := Lib.hid (HB1.out.trans (hb.mono HB1.out.size))
      have HE := Lib.hid he
      clear hb he
      go_wp2
      go_ret
      exact ⟨_, rfl, HE.out, HBF.out⟩
    · clear hu1
      go_wp2_with fail
      refine (err_new _ _).mono ?_
      rintro e w2 ⟨v, rfl, he, hb⟩
      have HBF := Lib.hid (HB1.out.trans (hb.mono HB1.out.size))
      have HE := Lib.hid he
      clear hb he
      go_wp2
      go_ret
      exact ⟨_, rfl, HE.out, HBF.out⟩
theorem one_put {w : World} {g : Nat} {t : TypeId} {a : Value} (h : Blk w g t #[a]) (u : Value) : Blk (w.setCell ⟨g, 0, none⟩ u) g t #[u] := by
  have := h.put 0 u
  simpa using this
def AsBYes (g : Nat) (c : UInt8) (w : World) (e : Ending) (w' : World) : Prop := e = .returned .nilIface ∧ Blk w' g 5 #[.int .u8 (c.toNat : Int)] ∧ Only (· = g) w w'
set_option maxRecDepth 100000 in
set_option maxHeartbeats 4000000 in
theorem as_byte_yes (u old : Value) (s : Sx) (c : UInt8) (g : Nat) (w : World) (hu : TVal w u s) (hn : byteX s = some c) (hg : Blk w g 5 #[old]) :
    Calls Tryz.prog 34 #[u, .iface 92 (.pointer (some ⟨g, 0, none⟩))] w (AsBYes g c w) := by
  obtain ⟨neg, l, rfl⟩ := byte_int hn
  obtain ⟨v, rfl, hv⟩ := hu
  have hr := byte_some hn
  have hc : c.toNat < 256 := c.toNat_lt
  obtain ⟨kk, p, hvs⟩ : ∃ k p, v = .agg #[.int .i64 k, .pointer p] := by
    rcases hv with ⟨_, rfl⟩ | ⟨_, b, ng, ws, rfl, _⟩ <;> exact ⟨_, _, rfl⟩
  have HB := Lib.hid ((Below.refl w.heap.size w).alloc (Nat.le_refl _) (.cells #[.int .i64 kk, .pointer p] 103))
  have HU := Lib.hid (star_uint64 0 v _ _ (hv.below HB.out))
  rw [hvs] at HU
  subst hvs
  rw [hr] at HU
  have HG := Lib.hid hg
  clear hv hn hr hg
  go_enter Tryz.func34, Tryz.ntmps34
  go_wp2_with fail
  refine HU.out.mono ?_
  rintro e w1 ⟨u, b, rfl, hub, hb1⟩
  have HB1 := Lib.hid (HB.out.trans (hb1.mono HB.out.size))
  clear hb1
  rcases hub with ⟨rfl, hu1, hu2⟩ | ⟨rfl, hu1⟩
  · obtain rfl : u = c.toNat := by omega
    have d1 : decide (256 ≤ c.toNat) = false := by simp; omega
    have HG1 := Lib.hid (HG.out.below HB1.out HG.out.lt)
    obtain ⟨a0, a1⟩ := blk_one HG1.out
    have HO1 := Lib.hid (Only.of_below (S := (· = g)) HB1.out)
    have hw8 : IntKind.u8.wrap (c.toNat : Int) = (c.toNat : Int) := IntWalk.u8_in _ (by omega)
    clear hu1
    go_wp2
    go_ret
    exact ⟨rfl, one_put HG1.out _, HO1.out.setCell (p := ⟨g, 0, none⟩) (.inl (rfl : g = g)) _⟩
  · exfalso
    unfold W64 at hu1
    omega
end Go.Proofs.YtmpfffcdpecadaaGreatDoor
