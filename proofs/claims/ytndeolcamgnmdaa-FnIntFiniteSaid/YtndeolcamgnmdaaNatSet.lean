/- A copy of words; a copy of an integer; the language's integers. -/
import Derived.Test.YtndeolcamgnmdaaBitLenW
import Derived.Laws.CopyOwn
import Derived.LaidEqlPtr
namespace Go.Proofs.Ytndeolcamgnmdaa
open Go.RowKit
theorem wcells_one (l : List Nat) : ∀ u ∈ wcells l, u.oneCell' = true := by
  intro u hu
  simp only [wcells, List.mem_map] at hu
  obtain ⟨x, _, rfl⟩ := hu
  rfl
theorem wpList_copy_words {w : World} {ops : Array Oper} {rest : List Oper} {o : Oper} {a : Act} {Q : Exit → Act → World → Prop} (hgd : o.guard = none) (d s : Operand)
    (ho : o.op = .call { callee := .builtin .copy, args := #[d, s], argTypes := #[72, 72] }) (B C : Nat) (zv xv : Value) (zs ws : List Nat) (hd : a.eval d = zv) (hs : a.eval s = xv)
    (hz : OW w B zv zs) (hx : OW w C xv ws) (hlen : zs.length = ws.length)
    (h : ∀ w', OW w' B zv ws → Below B w w' → wpList Try.prog ops Q rest (a.put o.dst (goInt ws.length)) w') : wpList Try.prog ops Q (o :: rest) a w := by
  have hsz : (Try.prog.info? 106).map (·.size) = some 1 := by kernel_rfl
  by_cases h0 : ws.length = 0
  · obtain rfl : ws = [] := List.eq_nil_of_length_eq_zero h0
    obtain rfl : zs = [] := List.eq_nil_of_length_eq_zero hlen
    obtain ⟨za, zc, rfl⟩ := hz.shape
    obtain ⟨xa, xc, rfl⟩ := hx.shape
    exact wpList_copy_nothing hgd d s 72 72 ho 106 Try.underlying72 hsz za xa _ _ _ _ hd hs rfl (h w hz (Below.refl _ _))
  · rcases hz.1.2 with ⟨_, hn⟩ | ⟨gz, cz, cur, rfl, hb, hh, hc1, hc2, hcs, htk⟩
    · omega
    rcases hx.form with ⟨_, hn⟩ | ⟨gx, cx, rfl, _, _, _, _⟩
    · subst hn; simp at h0
    refine wpList_copy_own hgd d s 72 72 ho 106 Try.underlying72 hsz gz 0 zs.length cz ⟨gx, 0, none⟩ ws.length cx hd hs cur 106 hh (wcells ws) (by rw [wcells_len, hlen]; exact (Nat.min_self _).symm) (fun j v hj => hx.1.cells (g := gx) rfl j v hj) (by rw [wcells_len]; omega) (wcells_one ws) ?_
    rw [wcells_len]
    refine h _ ⟨⟨by simp, .inr ⟨gz, cz, _, by rw [hlen], hb, setRow_heap w gz _ _ 106 _ hh, by omega, hc2, ?_, ?_⟩⟩, hx.2⟩ (below_setRow (Below.refl _ _) hb _)
    · simp
      try omega
    · simp
      try (rw [List.take_append_of_le_length (by simp)]; exact List.take_of_length_le (by simp))
def NatSetPost (ws : List Nat) (w : World) (e : Ending) (w' : World) : Prop := ∃ v, e = .returned v ∧ OW w' w.heap.size v ws ∧ Below w.heap.size w w'
set_option maxRecDepth 20000 in
set_option maxHeartbeats 1000000 in
theorem nat_set (B : Nat) (v : Value) (ws : List Nat) (w : World) (how : OW w B v ws) (hlen : ws.length ≤ 1000) :
    Calls Try.prog 64 #[.slice none 0 0, v] w (NatSetPost ws w) := by
  obtain ⟨a, c, rfl⟩ := how.shape
  obtain ⟨n, hn⟩ : ∃ n, n = ws.length := ⟨_, rfl⟩
  rw [← hn] at how ⊢
  have HOW := Lib.hid how
  have HN := Lib.hid hn
  have hn1 : n ≤ 1000 := by omega
  clear how hn hlen
  go_enter Try.func64, Try.ntmps64
  go_wp2_with fail
  refine (nat_make n (by omega) _).mono ?_
  rintro e w1 ⟨⟨v1, rfl, how1⟩, hb1⟩
  obtain ⟨za, zc, hv⟩ := how1.shape
  rw [List.length_replicate] at hv
  subst hv
  have H1 := Lib.hid how1
  have HB1 := Lib.hid hb1
  have HOW1 := Lib.hid (HOW.out.below hb1)
  clear how1 hb1
  go_wp2_with (refine wpList_copy_words (o := ⟨some 11, _, _, _, _, _⟩) rfl (.tmp 9) (.tmp 10) rfl w.heap.size B _ _ (List.replicate n 0) ws rfl rfl H1.out HOW1.out (by rw [List.length_replicate]; exact HN.out) ?_; intro w2 h2 hb2)
  have H2 := Lib.hid h2
  have HB2 := Lib.hid (HB1.out.trans hb2)
  clear h2 hb2
  go_wp2
  go_ret
  exact ⟨_, rfl, H2.out, HB2.out⟩
end Go.Proofs.Ytndeolcamgnmdaa
