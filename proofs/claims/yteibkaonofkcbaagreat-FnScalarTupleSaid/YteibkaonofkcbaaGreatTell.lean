/- A value of the package told as one of the thin package; a list's elements told. -/
import Derived.Test.YteibkaonofkcbaaGreatTupJoinL
import Derived.Test.YteibkaonofkcbaaGreatScalarsX
import Derived.Test.YteibkaonofkcbaaGreatTupJoinK
import Derived.Deep.LoopGhost
set_option linter.unusedSimpArgs false
set_option linter.unusedVariables false
namespace Go.Proofs.YteibkaonofkcbaaGreat
open Go.RowKit
attribute [local go_sem ↓] Go.wp_at_zero Go.wp_at_succ
/-- An integer's bytes are those of the number, without leading zeros. -/
def NormX : Sx → Prop
  | .int neg l => l.head? ≠ some 0 ∧ (neg = true → l ≠ []) ∧ ∀ x ∈ l, x < 256
  | _ => True
/-- A value of the thin package that reads so. -/
def RVal (w : World) (v : Value) : Sx → Prop
  | .none => v = pv 0 false none 0 0 0 ⟨#[]⟩ none 0 0
  | .bool b => v = pv 1 false none 0 0 (if b then 1 else 0) ⟨#[]⟩ none 0 0
  | .int neg l => ∃ g o c, v = pv 2 neg (some ⟨g, o, none⟩) l.length c 0 ⟨#[]⟩ none 0 0 ∧ BSl w (.slice (some ⟨g, o, none⟩) l.length c) l ∧ ∃ cs, Blk w g 5 cs
  | .float f => v = pv 3 false none 0 0 (f : Int) ⟨#[]⟩ none 0 0
  | .str t => v = pv 4 false none 0 0 0 t none 0 0
  | .byt t => v = pv 5 false none 0 0 0 t none 0 0
theorem XVal.norm {w : World} {B : Nat} {v : Value} {s : Sx} (h : XVal w B v s) : NormX s := by
  cases s with
  | int neg l => obtain ⟨⟨vs, _, ho, h1, h2⟩, _⟩ := h; exact ⟨h1, h2, ho.2.2⟩
  | _ => trivial
theorem XVal.read {w : World} {B : Nat} {v : Value} {s : Sx} (h : XVal w B v s) : RVal w v s := by
  cases s with
  | int neg l =>
    obtain ⟨⟨vs, hv, ho, _, _⟩, _⟩ := h
    obtain ⟨g, c, hvs, _⟩ := ho.form
    refine ⟨g, 0, c, by rw [hv, hvs]; rfl, by rw [← hvs]; exact ho.bsl, ?_⟩
    exact Blk.of_own (g := g) (n := 0) (c := 0) ho.1 (by rw [hvs]; rfl)
  | none => exact h
  | bool b => exact h
  | float f => exact h
  | str t => exact h.1
  | byt t => exact h.1
theorem RVal.form {w : World} {v : Value} {s : Sx} (h : RVal w v s) : ∃ neg a n c b tx, v = pv (kx s) neg a n c b tx none 0 0 := by
  cases s with
  | int neg l => obtain ⟨g, o, c, hv, _⟩ := h; exact ⟨neg, _, _, _, _, _, hv⟩
  | none => exact ⟨_, _, _, _, _, _, h⟩
  | bool b => exact ⟨_, _, _, _, _, _, h⟩
  | float f => exact ⟨_, _, _, _, _, _, h⟩
  | str t => exact ⟨_, _, _, _, _, _, h⟩
  | byt t => exact ⟨_, _, _, _, _, _, h⟩
theorem RVal.apart {S : Nat → Prop} {w w' : World} {v : Value} {s : Sx} (h : RVal w v s) (hs : ∀ g, S g → g < w.heap.size → ∃ t cs, Blk w g t cs ∧ 5 ≠ t) (k : Only S w w') : RVal w' v s := by
  cases s with
  | int neg l =>
    obtain ⟨g, o, c, hv, hb, cs, hk⟩ := h
    have hn : ¬ S g := fun e => by
      obtain ⟨t, cs', hg, hne⟩ := hs g e hk.lt
      have := hk.symm.trans hg
      injection this with h
      injection h with _ h
      exact hne h
    refine ⟨g, o, c, hv, ?_, cs, hk.only k hn⟩
    obtain ⟨a', c', hv', h1, h2, h3, h4, h5⟩ := hb
    refine ⟨a', c', hv', h1, h2, h3, h4, fun p hp j hj => ?_⟩
    have hc := h5 p hp j hj
    injection hv' with e1
    rw [← hc]
    refine World.cell?_of_block (k.block _ (World.block_lt_of_cell? w _ hc) ?_)
    rw [block_add]
    rw [hp] at e1
    injection e1 with e1
    rw [← e1]
    exact hn
  | _ => exact h
theorem RVal.below {w w' : World} {v : Value} {s : Sx} (h : RVal w v s) (hb : Below w.heap.size w w') : RVal w' v s :=
  h.apart (S := fun _ => False) (fun g h => h.elim) (Only.of_below hb)
theorem RVal.grown {w w' : World} {B' size m : Nat} {e : TypeId} {v r : Value} {xs : List Value} {s : Sx} (h : RVal w v s) (ho : w.ownsRow B' e size r m xs) (he : 5 ≠ e) (hg : w.grownBy w' r.ownBlock) : RVal w' v s := by
  cases hr : r.ownBlock with
  | none =>
    rw [hr] at hg
    exact h.below ((Below.refl w.heap.size w).grown hg (Nat.le_refl _) (by simp))
  | some g =>
    rw [hr] at hg
    obtain ⟨cs, hb⟩ := Blk.of_own (g := g) (n := 0) (c := 0) ho hr
    exact h.apart (S := (· = g)) (fun q e _ => ⟨_, _, by subst e; exact hb, he⟩) ((Only.refl (· = g) w).grown hg (fun k hk => by injection hk with hk; exact .inl hk.symm))
theorem RVal.six {w : World} {v : Value} {s : Sx} (h : RVal w v s) : (c6 v).length = 6 := by
  obtain ⟨_, _, _, _, _, _, rfl⟩ := h.form
  rfl
/-- Values in a row of their own. -/
def RowR (w : World) (B : Nat) (v : Value) (ps : List (Value × Sx)) : Prop :=
  w.ownsRow B 33 6 v ps.length (ps.flatMap fun p => c6 p.1) ∧ ∀ p ∈ ps, RVal w p.1 p.2
theorem RowX.read {w : World} {B : Nat} {v : Value} {ps : List (Value × Sx)} (h : RowX w B v ps) : RowR w B v ps := ⟨h.1, fun p hp => (h.2 p hp).read⟩
theorem RowR.below {w w' : World} {B : Nat} {v : Value} {ps : List (Value × Sx)} (h : RowR w B v ps) (hb : Below w.heap.size w w') : RowR w' B v ps :=
  ⟨own_below h.1 hb, fun p hp => (h.2 p hp).below hb⟩
theorem RowR.form {w : World} {B : Nat} {v : Value} {ps : List (Value × Sx)} (h : RowR w B v ps) : ∃ a c, v = .slice a ps.length c := by
  rcases h.1.2 with ⟨rfl, h0⟩ | ⟨g, cap, cur, rfl, _⟩
  · exact ⟨none, 0, by rw [h0]⟩
  · exact ⟨_, _, rfl⟩
theorem own_base {w : World} {base C : Nat} {e : TypeId} {size : Nat} {v : Value} {n : Nat} {xs : List Value} (h : w.ownsRow base e size v n xs) (hC : C ≤ base) : w.ownsRow C e size v n xs := by
  refine ⟨h.1, ?_⟩
  rcases h.2 with h0 | ⟨g, cap, cur, hv, hb, hr⟩
  · exact .inl h0
  · exact .inr ⟨g, cap, cur, hv, Nat.le_trans hC hb, hr⟩
set_option maxHeartbeats 1000000 in
theorem wpList_append_r {ops : Array Oper} {rest : List Oper} {o : Oper} {a : Act} {Q : Exit → Act → World → Prop} {W : World} (hgd : o.guard = none) (s x : Operand)
    (ho : o.op = .call { callee := .builtin .append, args := #[s, x], argTypes := #[22, 22] })
    (w : World) (B : Nat) (v : Value) (ps : List (Value × Sx)) (hr : RowR w B v ps) (hs : a.eval s = v) (y : Value) (z : Sx) (cs : Array Value) (hy : RVal w y z) (he : y = .agg cs)
    (hx : a.eval x = .slice (some ⟨w.heap.size, 0, none⟩) 1 1) (hW : W = w.alloc (.cells cs 33)) (hlen : ps.length ≤ 1000) (hB : B ≤ w.heap.size)
    (h : ∀ v' w', RowR w' B v' (ps ++ [(y, z)]) → Below B w w' → wpList Tryz.prog ops Q rest (a.put o.dst v') w') : wpList Tryz.prog ops Q (o :: rest) a W := by
  subst hW
  obtain ⟨i0, hi0, hz0, hz1, hz2⟩ := info_parts Tryz.infoVal
  have hba : Below w.heap.size w (w.alloc (.cells cs 33)) := (Below.refl w.heap.size w).alloc (Nat.le_refl _) _
  have hk : Blk (w.alloc (.cells cs 33)) w.heap.size 33 cs := Blk.new _ _ _
  have hc6 : c6 y = cs.toList := by rw [he]; rfl
  have h6 : (c6 y).length = 6 := hy.six
  refine wpList_append_own _ hgd s x _ ho B 33 i0 _ 6 88 Tryz.underlying22 hi0 hz0 hz1 hz2 rfl (by decide) _ ps.length _ hs (hr.1.alloc _) ⟨w.heap.size, 0, none⟩ 1 1 (c6 y) hx (by rw [h6]) ?_ ?_ (by unfold maxLen; omega) (by omega) (by simp; omega) ?_
  · intro j u hj
    rw [Addr.add_lit, Nat.zero_add, hk.cell j, ← Array.getElem?_toList, ← hc6]
    exact hj
  · obtain ⟨neg, aa, n, c, b, tx, rfl⟩ := hy.form
    intro u hu
    simp [c6, pv] at hu
    rcases hu with rfl | rfl | rfl | rfl | rfl | rfl <;> rfl
  · intro v' w' hown' hg _
    have hrow0 := hr.1.alloc (.cells cs 33)
    refine h v' w' ⟨?_, fun q hq => ?_⟩ (((Below.refl B w).alloc hB _).grown hg (by simp; omega) fun k hk => (hrow0.lt k hk).1)
    · rw [List.length_append, List.flatMap_append]
      simpa using hown'
    · have hq2 : RVal w q.1 q.2 := by
        rcases List.mem_append.1 hq with hq | hq
        · exact hr.2 q hq
        · simp at hq; subst hq; exact hy
      exact (hq2.below hba).grown hrow0 (by decide) hg
@[go_sem] theorem Tryz.toBits (f : Nat) (w : World) : (callFunc 74 #[.float .f64 f]).run Tryz.prog w = .ok (.value (.int .u64 (f : Int))) w := by
  rw [run_callFunc_extern (e := Extern.MathFloatBits.float64bits) Tryz.func74 (by kernel_rfl) (by kernel_rfl) (by kernel_rfl) (by kernel_rfl)]; rfl
theorem bits_of (n : Nat) (w : World) : Calls Tryz.prog 63 #[.float .f64 n] w fun e w' => e = .returned (.int .u64 (n : Int)) ∧ w = w' := by
  go_enter Tryz.func63, Tryz.ntmps63
  go_wp2
  go_ret
  exact ⟨rfl, rfl⟩
@[go_sem] theorem Tryz.tl00 (v : Value) (w : World) : (Instr.typeAssert (.iface 110 v) 87 110 true).run Tryz.prog w = .ok (.tuple #[v, .bool true]) w := by kernel_rfl
@[go_sem] theorem Tryz.tl10 (v : Value) (w : World) : (Instr.typeAssert (.iface 97 v) 87 110 true).run Tryz.prog w = .ok (.tuple #[.int .u8 0, .bool false]) w := by kernel_rfl
@[go_sem] theorem Tryz.tl11 (v : Value) (w : World) : (Instr.typeAssert (.iface 97 v) 87 97 true).run Tryz.prog w = .ok (.tuple #[v, .bool true]) w := by kernel_rfl
@[go_sem] theorem Tryz.tl20 (v : Value) (w : World) : (Instr.typeAssert (.iface 115 v) 87 110 true).run Tryz.prog w = .ok (.tuple #[.int .u8 0, .bool false]) w := by kernel_rfl
@[go_sem] theorem Tryz.tl21 (v : Value) (w : World) : (Instr.typeAssert (.iface 115 v) 87 97 true).run Tryz.prog w = .ok (.tuple #[.bool false, .bool false]) w := by kernel_rfl
@[go_sem] theorem Tryz.tl22 (v : Value) (w : World) : (Instr.typeAssert (.iface 115 v) 87 115 true).run Tryz.prog w = .ok (.tuple #[v, .bool true]) w := by kernel_rfl
@[go_sem] theorem Tryz.tl30 (v : Value) (w : World) : (Instr.typeAssert (.iface 117 v) 87 110 true).run Tryz.prog w = .ok (.tuple #[.int .u8 0, .bool false]) w := by kernel_rfl
@[go_sem] theorem Tryz.tl31 (v : Value) (w : World) : (Instr.typeAssert (.iface 117 v) 87 97 true).run Tryz.prog w = .ok (.tuple #[.bool false, .bool false]) w := by kernel_rfl
@[go_sem] theorem Tryz.tl32 (v : Value) (w : World) : (Instr.typeAssert (.iface 117 v) 87 115 true).run Tryz.prog w = .ok (.tuple #[.agg #[.int .i64 0, .pointer none], .bool false]) w := by kernel_rfl
@[go_sem] theorem Tryz.tl33 (v : Value) (w : World) : (Instr.typeAssert (.iface 117 v) 87 117 true).run Tryz.prog w = .ok (.tuple #[v, .bool true]) w := by kernel_rfl
@[go_sem] theorem Tryz.tl40 (v : Value) (w : World) : (Instr.typeAssert (.iface 119 v) 87 110 true).run Tryz.prog w = .ok (.tuple #[.int .u8 0, .bool false]) w := by kernel_rfl
@[go_sem] theorem Tryz.tl41 (v : Value) (w : World) : (Instr.typeAssert (.iface 119 v) 87 97 true).run Tryz.prog w = .ok (.tuple #[.bool false, .bool false]) w := by kernel_rfl
@[go_sem] theorem Tryz.tl42 (v : Value) (w : World) : (Instr.typeAssert (.iface 119 v) 87 115 true).run Tryz.prog w = .ok (.tuple #[.agg #[.int .i64 0, .pointer none], .bool false]) w := by kernel_rfl
@[go_sem] theorem Tryz.tl43 (v : Value) (w : World) : (Instr.typeAssert (.iface 119 v) 87 117 true).run Tryz.prog w = .ok (.tuple #[.float .f64 0, .bool false]) w := by kernel_rfl
@[go_sem] theorem Tryz.tl44 (v : Value) (w : World) : (Instr.typeAssert (.iface 119 v) 87 119 true).run Tryz.prog w = .ok (.tuple #[v, .bool true]) w := by kernel_rfl
@[go_sem] theorem Tryz.tl50 (v : Value) (w : World) : (Instr.typeAssert (.iface 120 v) 87 110 true).run Tryz.prog w = .ok (.tuple #[.int .u8 0, .bool false]) w := by kernel_rfl
@[go_sem] theorem Tryz.tl51 (v : Value) (w : World) : (Instr.typeAssert (.iface 120 v) 87 97 true).run Tryz.prog w = .ok (.tuple #[.bool false, .bool false]) w := by kernel_rfl
@[go_sem] theorem Tryz.tl52 (v : Value) (w : World) : (Instr.typeAssert (.iface 120 v) 87 115 true).run Tryz.prog w = .ok (.tuple #[.agg #[.int .i64 0, .pointer none], .bool false]) w := by kernel_rfl
@[go_sem] theorem Tryz.tl53 (v : Value) (w : World) : (Instr.typeAssert (.iface 120 v) 87 117 true).run Tryz.prog w = .ok (.tuple #[.float .f64 0, .bool false]) w := by kernel_rfl
@[go_sem] theorem Tryz.tl54 (v : Value) (w : World) : (Instr.typeAssert (.iface 120 v) 87 119 true).run Tryz.prog w = .ok (.tuple #[.string ⟨#[]⟩, .bool false]) w := by kernel_rfl
@[go_sem] theorem Tryz.tl55 (v : Value) (w : World) : (Instr.typeAssert (.iface 120 v) 87 120 true).run Tryz.prog w = .ok (.tuple #[v, .bool true]) w := by kernel_rfl
def TellPost (s : Sx) (w : World) (e : Ending) (w' : World) : Prop := ∃ v, e = .returned v ∧ RVal w' v s ∧ Below w.heap.size w w'
theorem num_unique {n1 n2 : Bool} {l1 l2 : List Nat} (h1 : l1.head? ≠ some 0) (h2 : l2.head? ≠ some 0) (k1 : n1 = true → l1 ≠ []) (k2 : n2 = true → l2 ≠ []) (b1 : ∀ x ∈ l1, x < 256) (b2 : ∀ x ∈ l2, x < 256) (h : intOf2 n1 l1 = intOf2 n2 l2) : n1 = n2 ∧ l1 = l2 := by
  have z1 := natOf_eq_zero h1
  have z2 := natOf_eq_zero h2
  have hn : natOf l1 = natOf l2 ∧ n1 = n2 := by
    unfold intOf2 at h
    cases n1 <;> cases n2
    · simp at h; exact ⟨by omega, rfl⟩
    · have := mt z2.1 (k2 rfl); simp at h; omega
    · have := mt z1.1 (k1 rfl); simp at h; omega
    · simp at h; exact ⟨by omega, rfl⟩
  exact ⟨hn.2, natOf_unique b1 b2 h1 h2 hn.1⟩
set_option maxRecDepth 100000 in
set_option maxHeartbeats 4000000 in
theorem tell_scalar (u : Value) (s : Sx) (w : World) (hu : TVal w u s) (hn : NormX s) :
    Calls Tryz.prog 44 #[u] w (TellPost s w) := by
  have HB0 := Lib.hid ((Below.refl w.heap.size w).alloc (Nat.le_refl _) (.cells #[.int .i64 0, .bool false, .slice none 0 0, .int .u64 0, .string ⟨#[]⟩, .slice none 0 0] 33))
  have HK0 := Lib.hid (Blk.new w 33 #[.int .i64 0, .bool false, .slice none 0 0, .int .u64 0, .string ⟨#[]⟩, .slice none 0 0])
  cases s with
  | none =>
    obtain rfl := hu
    clear hn
    go_enter Tryz.func44, Tryz.ntmps44
    go_wp2
    refine bodyPost_ret (v := pv 0 false none 0 0 0 ⟨#[]⟩ none 0 0) (by simp [results, Tryz.results44, go_sem, pv]) rfl ⟨_, rfl, rfl, ?_⟩
    exact (Below.refl w.heap.size w).alloc (Nat.le_refl _) _
  | bool b =>
    obtain rfl := hu
    clear hn
    cases b with
    | true =>
      go_enter Tryz.func44, Tryz.ntmps44
      go_wp2
      refine bodyPost_ret (v := pv 1 false none 0 0 1 ⟨#[]⟩ none 0 0) (by simp [results, Tryz.results44, go_sem, pv]) rfl ⟨_, rfl, rfl, ?_⟩
      exact (Below.refl w.heap.size w).alloc (Nat.le_refl _) _
    | false =>
      go_enter Tryz.func44, Tryz.ntmps44
      go_wp2
      refine bodyPost_ret (v := pv 1 false none 0 0 0 ⟨#[]⟩ none 0 0) (by simp [results, Tryz.results44, go_sem, pv]) rfl ⟨_, rfl, rfl, ?_⟩
      exact (Below.refl w.heap.size w).alloc (Nat.le_refl _) _
  | float f =>
    obtain rfl := hu
    clear hn
    go_enter Tryz.func44, Tryz.ntmps44
    go_wp2_with fail
    refine (bits_of f _).mono ?_
    rintro e w1 ⟨rfl, rfl⟩
    go_wp2
    refine bodyPost_ret (v := pv 3 false none 0 0 (f : Int) ⟨#[]⟩ none 0 0) (by simp [results, Tryz.results44, go_sem, pv]) rfl ⟨_, rfl, rfl, ?_⟩
    exact (Below.refl w.heap.size w).alloc (Nat.le_refl _) _
  | str t =>
    obtain rfl := hu
    clear hn
    go_enter Tryz.func44, Tryz.ntmps44
    go_wp2
    refine bodyPost_ret (v := pv 4 false none 0 0 0 t none 0 0) (by simp [results, Tryz.results44, go_sem, pv]) rfl ⟨_, rfl, rfl, ?_⟩
    exact (Below.refl w.heap.size w).alloc (Nat.le_refl _) _
  | byt t =>
    obtain rfl := hu
    clear hn
    go_enter Tryz.func44, Tryz.ntmps44
    go_wp2
    refine bodyPost_ret (v := pv 5 false none 0 0 0 t none 0 0) (by simp [results, Tryz.results44, go_sem, pv]) rfl ⟨_, rfl, rfl, ?_⟩
    exact (Below.refl w.heap.size w).alloc (Nat.le_refl _) _
  | int neg l =>
    obtain ⟨v, rfl, hv⟩ := hu
    obtain ⟨n1, n2, n3⟩ := hn
    obtain ⟨kk, p, hvs⟩ : ∃ k p, v = .agg #[.int .i64 k, .pointer p] := by
      rcases hv with ⟨_, rfl⟩ | ⟨_, b, ng, ws, rfl, _⟩ <;> exact ⟨_, _, rfl⟩
    subst hvs
    have HB1 := Lib.hid (HB0.out.alloc (by simp) (.cells #[.int .i64 kk, .pointer p] 115))
    have HV := Lib.hid (hv.below HB1.out)
    have HNV := Lib.hid (impl_number 0 kk p _ _ HV.out)
    have HNN := Lib.hid (And.intro n1 (And.intro n2 n3))
    clear hv n1 n2 n3
    go_enter Tryz.func44, Tryz.ntmps44
    go_wp2_with fail
    refine HNV.out.mono ?_
    rintro e w1 ⟨v1, ng, l1, rfl, ⟨g, o, c, rfl, hbs, ⟨hg, cs, hcs⟩, hh, hne⟩, hval, hb⟩
    obtain ⟨rfl, rfl⟩ : ng = neg ∧ l1 = l := num_unique hh HNN.out.1 hne HNN.out.2.1 (by obtain ⟨_, _, _, _, _, h3, _⟩ := hbs; exact h3) HNN.out.2.2 hval
    obtain ⟨q, hq⟩ : ∃ q, q = l1.length := ⟨_, rfl⟩
    rw [← hq] at hbs ⊢
    have HQ := Lib.hid hq
    have HBS := Lib.hid hbs
    have HCS := Lib.hid hcs
    have HB2 := Lib.hid (HB1.out.trans (hb.mono HB1.out.size))
    have hgw : w.heap.size + 2 ≤ g := by simpa using hg
    have hk1 := ((HK0.out.alloc (.cells #[.int .i64 kk, .pointer p] 115)).below hb (by simp; omega))
    obtain ⟨e0, e1, e2, e3, e4, e5, f0, f1, f2, f3, f4, f5⟩ := blk6 hk1
    clear hbs hcs hb hh hne hval hg hk1 hq
    go_wp2
    have hO := six_set w1 w.heap.size (.int .i64 2) (.bool ng) (.slice (some ⟨g, o, none⟩) q c) (.int .u64 0) (.string ⟨#[]⟩) (.slice none 0 0)
    refine bodyPost_ret (v := pv 2 ng (some ⟨g, o, none⟩) q c 0 ⟨#[]⟩ none 0 0) (by simp [results, Tryz.results44, go_sem, pv, e0, e1, e2, e3, e4, e5]) rfl ⟨_, rfl, ⟨g, o, c, by rw [HQ.out], ?_, _, HCS.out.only hO (by omega)⟩, ?_⟩
    · have h := bsl_only HBS.out hO (fun p e => by injection e with e; subst e; show g ≠ _; omega)
      rw [HQ.out] at h ⊢
      exact h
    · exact HB2.out.trans (hO.to_below (by have := HB2.out.size; omega) (fun k _ e => by omega))
end Go.Proofs.YteibkaonofkcbaaGreat
